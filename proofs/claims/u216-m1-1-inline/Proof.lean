import JvmDerived
import JvmDerived.Pilot.@@N@@Statement
import JvmDerived.Pilot.@@N@@Code
set_option linter.unusedVariables false
set_option linter.unusedSimpArgs false
namespace Jvm.Pilot.@@N@@
namespace Own
open Jvm Jvm.ClassFile Sem Op Lib Jvm.Free Jvm.Stand Jvm.LawKit Jvm.RoadKit Bundle
/-- from the state s the invocation comes to its end, and K holds there -/
def Goes (tb : Tables) (e : Env) (below : List Frame) (K : State → Outcome → Prop) (s : State) : Prop := ∃ s₂ o, Steps tb e below s s₂ ∧ s₂.status = .running ∧ Ended s₂ below o ∧ K s₂ o
theorem Goes.go {tb : Tables} {e : Env} {below : List Frame} {K : State → Outcome → Prop} {s s' : State} (st : ∀ t, Steps tb e below s' t → Steps tb e below s t) (h : Goes tb e below K s') : Goes tb e below K s := by
  obtain ⟨s₂, o, h1, h2⟩ := h
  exact ⟨s₂, o, st _ h1, h2⟩
theorem Goes.tr {tb : Tables} {e : Env} {below : List Frame} {K : State → Outcome → Prop} {s s' : State} (st : Steps tb e below s s') (h : Goes tb e below K s') : Goes tb e below K s := Goes.go (fun _ k => st.trans k) h
/-- where the walk stands, with all that the laws ask beside it -/
def Wk (Z : State) (own : String) (bytes : ByteArray) (h : Heap) (p : Program) (l : Launch) (e : Env) (R : Room) (s : State) (m : MethodId) (args : Array Value) (below : List Frame) (meth : Method) (c : Code) (T : State) (locs : List Loc) (cells slots : Nat) : Prop :=
  Stand p l e R s m args below meth c T locs cells slots ∧ p.tables.exec = Jvm.exec ∧ c.code = bytes ∧ Z.Warmed39 s.vm ∧ s.vm.findClass own = some m.cls ∧ T.heap = h
section Steps
variable {Z : State} {own : String} {bytes : ByteArray} {h : Heap} {p : Program} {l : Launch} {e : Env} {R : Room} {s : State} {m : MethodId} {args : Array Value} {below : List Frame} {meth : Method} {c : Code} {T : State} {locs : List Loc} {cells slots : Nat}
  {K : State → Outcome → Prop} {a0 : Array Value} {pc q : Nat} {Ls : Array Slot} {st : List Value}
theorem iconst {i : Int} {v : Int32} (P : Wk Z own bytes h p l e R s m args below meth c T locs cells slots) (hd : decode bytes pc = .ok (.iconst i, 1)) (hv : Int32.ofInt i = v) (hq : pc + 1 = q) (k : Goes p.tables e below K (T.setTop (mkF m q Ls (.int v :: st)))) : Goes p.tables e below K (T.setTop (mkF m pc Ls (st))) := by
  subst hq
  exact Goes.go (fun _ r => XS.iconst P.1.here P.2.1 rfl (hb P.2.2.1 hd) (hv ▸ r)) k
theorem bipush {i : Int} {v : Int32} (P : Wk Z own bytes h p l e R s m args below meth c T locs cells slots) (hd : decode bytes pc = .ok (.bipush i, 2)) (hv : (Int8.ofInt i).toInt32 = v) (hq : pc + 2 = q) (k : Goes p.tables e below K (T.setTop (mkF m q Ls (.int v :: st)))) : Goes p.tables e below K (T.setTop (mkF m pc Ls (st))) := by
  subst hq
  exact Goes.go (fun _ r => XS.bipush P.1.here P.2.1 rfl (hb P.2.2.1 hd) (hv ▸ r)) k
theorem sipush {i : Int} {v : Int32} (P : Wk Z own bytes h p l e R s m args below meth c T locs cells slots) (hd : decode bytes pc = .ok (.sipush i, 3)) (hv : (Int16.ofInt i).toInt32 = v) (hq : pc + 3 = q) (k : Goes p.tables e below K (T.setTop (mkF m q Ls (.int v :: st)))) : Goes p.tables e below K (T.setTop (mkF m pc Ls (st))) := by
  subst hq
  exact Goes.go (fun _ r => XS.sipush P.1.here P.2.1 rfl (hb P.2.2.1 hd) (hv ▸ r)) k
theorem aconst  (P : Wk Z own bytes h p l e R s m args below meth c T locs cells slots) (hd : decode bytes pc = .ok (.aconst_null, 1))  (hq : pc + 1 = q) (k : Goes p.tables e below K (T.setTop (mkF m q Ls (.null :: st)))) : Goes p.tables e below K (T.setTop (mkF m pc Ls (st))) := by
  subst hq
  exact Goes.go (fun _ r => XS.aconstNull P.1.here P.2.1 rfl (hb P.2.2.1 hd) r) k
theorem iload {k : Nat} {v : Int32} (P : Wk Z own bytes h p l e R s m args below meth c T locs cells slots) (hd : decode bytes pc = .ok (.iload k, 2)) (hl : Ls[k]? = some (.val (.int v))) (hq : pc + 2 = q) (k : Goes p.tables e below K (T.setTop (mkF m q Ls (.int v :: st)))) : Goes p.tables e below K (T.setTop (mkF m pc Ls (st))) := by
  subst hq
  exact Goes.go (fun _ r => XS.iload P.1.here P.2.1 rfl (hb P.2.2.1 hd) hl r) k
theorem iloadN {k : _} {v : Int32} (P : Wk Z own bytes h p l e R s m args below meth c T locs cells slots) (hd : decode bytes pc = .ok (.iload_n k, 1)) (hl : Ls[k.val]? = some (.val (.int v))) (hq : pc + 1 = q) (k : Goes p.tables e below K (T.setTop (mkF m q Ls (.int v :: st)))) : Goes p.tables e below K (T.setTop (mkF m pc Ls (st))) := by
  subst hq
  exact Goes.go (fun _ r => XS.iloadN P.1.here P.2.1 rfl (hb P.2.2.1 hd) hl r) k
theorem aload {k : Nat} {v : Value} (P : Wk Z own bytes h p l e R s m args below meth c T locs cells slots) (hd : decode bytes pc = .ok (.aload k, 2)) (hl : Ls[k]? = some (.val v)) (hv : v.isRef = true) (hq : pc + 2 = q) (k : Goes p.tables e below K (T.setTop (mkF m q Ls (v :: st)))) : Goes p.tables e below K (T.setTop (mkF m pc Ls (st))) := by
  subst hq
  exact Goes.go (fun _ r => XS.aload P.1.here P.2.1 rfl (hb P.2.2.1 hd) hl hv r) k
theorem aloadN {k : _} {v : Value} (P : Wk Z own bytes h p l e R s m args below meth c T locs cells slots) (hd : decode bytes pc = .ok (.aload_n k, 1)) (hl : Ls[k.val]? = some (.val v)) (hv : v.isRef = true) (hq : pc + 1 = q) (k : Goes p.tables e below K (T.setTop (mkF m q Ls (v :: st)))) : Goes p.tables e below K (T.setTop (mkF m pc Ls (st))) := by
  subst hq
  exact Goes.go (fun _ r => XS.aloadN P.1.here P.2.1 rfl (hb P.2.2.1 hd) hl hv r) k
theorem lload {k : Nat} {v : Int64} (P : Wk Z own bytes h p l e R s m args below meth c T locs cells slots) (hd : decode bytes pc = .ok (.lload k, 2)) (hl : Ls[k]? = some (.val (.long v))) (hq : pc + 2 = q) (k : Goes p.tables e below K (T.setTop (mkF m q Ls (.long v :: st)))) : Goes p.tables e below K (T.setTop (mkF m pc Ls (st))) := by
  subst hq
  exact Goes.go (fun _ r => XT.lload P.1.here P.2.1 rfl (hb P.2.2.1 hd) hl r) k
theorem lloadN {k : _} {v : Int64} (P : Wk Z own bytes h p l e R s m args below meth c T locs cells slots) (hd : decode bytes pc = .ok (.lload_n k, 1)) (hl : Ls[k.val]? = some (.val (.long v))) (hq : pc + 1 = q) (k : Goes p.tables e below K (T.setTop (mkF m q Ls (.long v :: st)))) : Goes p.tables e below K (T.setTop (mkF m pc Ls (st))) := by
  subst hq
  exact Goes.go (fun _ r => XT.lloadN P.1.here P.2.1 rfl (hb P.2.2.1 hd) hl r) k
theorem istore {k : Nat} {x : Int32} {L2 : Array Slot} (P : Wk Z own bytes h p l e R s m args below meth c T locs cells slots) (hd : decode bytes pc = .ok (.istore k, 2)) (hl : storeLocals Ls k (.int x) = some L2) (hq : pc + 2 = q) (k : Goes p.tables e below K (T.setTop (mkF m q L2 (st)))) : Goes p.tables e below K (T.setTop (mkF m pc Ls (.int x :: st))) := by
  subst hq
  exact Goes.go (fun _ r => XS.istore P.1.here P.2.1 rfl (hb P.2.2.1 hd) rfl hl r) k
theorem istoreN {k : _} {x : Int32} {L2 : Array Slot} (P : Wk Z own bytes h p l e R s m args below meth c T locs cells slots) (hd : decode bytes pc = .ok (.istore_n k, 1)) (hl : storeLocals Ls k.val (.int x) = some L2) (hq : pc + 1 = q) (k : Goes p.tables e below K (T.setTop (mkF m q L2 (st)))) : Goes p.tables e below K (T.setTop (mkF m pc Ls (.int x :: st))) := by
  subst hq
  exact Goes.go (fun _ r => XS.istoreN P.1.here P.2.1 rfl (hb P.2.2.1 hd) rfl hl r) k
theorem astore {k : Nat} {x : Value} {L2 : Array Slot} (P : Wk Z own bytes h p l e R s m args below meth c T locs cells slots) (hd : decode bytes pc = .ok (.astore k, 2)) (hv : x.isRef = true) (hl : storeLocals Ls k x = some L2) (hq : pc + 2 = q) (k : Goes p.tables e below K (T.setTop (mkF m q L2 (st)))) : Goes p.tables e below K (T.setTop (mkF m pc Ls (x :: st))) := by
  subst hq
  exact Goes.go (fun _ r => XS.astore P.1.here P.2.1 rfl (hb P.2.2.1 hd) rfl hv hl r) k
theorem astoreN {k : _} {x : Value} {L2 : Array Slot} (P : Wk Z own bytes h p l e R s m args below meth c T locs cells slots) (hd : decode bytes pc = .ok (.astore_n k, 1)) (hv : x.isRef = true) (hl : storeLocals Ls k.val x = some L2) (hq : pc + 1 = q) (k : Goes p.tables e below K (T.setTop (mkF m q L2 (st)))) : Goes p.tables e below K (T.setTop (mkF m pc Ls (x :: st))) := by
  subst hq
  exact Goes.go (fun _ r => XS.astoreN P.1.here P.2.1 rfl (hb P.2.2.1 hd) rfl hv hl r) k
theorem iinc {k : Nat} {i : Int} {x v : Int32} {L2 : Array Slot} (P : Wk Z own bytes h p l e R s m args below meth c T locs cells slots) (hd : decode bytes pc = .ok (.iinc k i, 3)) (hl : Ls[k]? = some (.val (.int x))) (hv : Int32.ofInt i = v) (hs : storeLocals Ls k (.int (x + v)) = some L2) (hq : pc + 3 = q) (k : Goes p.tables e below K (T.setTop (mkF m q L2 (st)))) : Goes p.tables e below K (T.setTop (mkF m pc Ls (st))) := by
  subst hq
  exact Goes.go (fun _ r => XS.iinc P.1.here P.2.1 rfl (hb P.2.2.1 hd) hl (hv ▸ hs) r) k
theorem dup {x : Value} (P : Wk Z own bytes h p l e R s m args below meth c T locs cells slots) (hd : decode bytes pc = .ok (.dup, 1)) (hc : x.category = 1) (hq : pc + 1 = q) (k : Goes p.tables e below K (T.setTop (mkF m q Ls (x :: x :: st)))) : Goes p.tables e below K (T.setTop (mkF m pc Ls (x :: st))) := by
  subst hq
  exact Goes.go (fun _ r => XS.dup P.1.here P.2.1 rfl (hb P.2.2.1 hd) rfl hc r) k
theorem pop {x : Value} (P : Wk Z own bytes h p l e R s m args below meth c T locs cells slots) (hd : decode bytes pc = .ok (.pop, 1)) (hc : x.category = 1) (hq : pc + 1 = q) (k : Goes p.tables e below K (T.setTop (mkF m q Ls (st)))) : Goes p.tables e below K (T.setTop (mkF m pc Ls (x :: st))) := by
  subst hq
  exact Goes.go (fun _ r => XT.pop P.1.here P.2.1 rfl (hb P.2.2.1 hd) rfl hc r) k
theorem iadd {x y : Int32} (P : Wk Z own bytes h p l e R s m args below meth c T locs cells slots) (hd : decode bytes pc = .ok (.iadd, 1))  (hq : pc + 1 = q) (k : Goes p.tables e below K (T.setTop (mkF m q Ls (.int (x + y) :: st)))) : Goes p.tables e below K (T.setTop (mkF m pc Ls (.int y :: .int x :: st))) := by
  subst hq
  exact Goes.go (fun _ r => XS.iadd P.1.here P.2.1 rfl (hb P.2.2.1 hd) rfl r) k
theorem isub {x y : Int32} (P : Wk Z own bytes h p l e R s m args below meth c T locs cells slots) (hd : decode bytes pc = .ok (.isub, 1))  (hq : pc + 1 = q) (k : Goes p.tables e below K (T.setTop (mkF m q Ls (.int (x - y) :: st)))) : Goes p.tables e below K (T.setTop (mkF m pc Ls (.int y :: .int x :: st))) := by
  subst hq
  exact Goes.go (fun _ r => XS.isub P.1.here P.2.1 rfl (hb P.2.2.1 hd) rfl r) k
theorem iand {x y : Int32} (P : Wk Z own bytes h p l e R s m args below meth c T locs cells slots) (hd : decode bytes pc = .ok (.iand, 1))  (hq : pc + 1 = q) (k : Goes p.tables e below K (T.setTop (mkF m q Ls (.int (x &&& y) :: st)))) : Goes p.tables e below K (T.setTop (mkF m pc Ls (.int y :: .int x :: st))) := by
  subst hq
  exact Goes.go (fun _ r => XS.iand P.1.here P.2.1 rfl (hb P.2.2.1 hd) rfl r) k
theorem imul {x y : Int32} (P : Wk Z own bytes h p l e R s m args below meth c T locs cells slots) (hd : decode bytes pc = .ok (.imul, 1))  (hq : pc + 1 = q) (k : Goes p.tables e below K (T.setTop (mkF m q Ls (.int (x * y) :: st)))) : Goes p.tables e below K (T.setTop (mkF m pc Ls (.int y :: .int x :: st))) := by
  subst hq
  exact Goes.go (fun _ r => XS.imul P.1.here P.2.1 rfl (hb P.2.2.1 hd) rfl r) k
theorem ixor {x y : Int32} (P : Wk Z own bytes h p l e R s m args below meth c T locs cells slots) (hd : decode bytes pc = .ok (.ixor, 1))  (hq : pc + 1 = q) (k : Goes p.tables e below K (T.setTop (mkF m q Ls (.int (x ^^^ y) :: st)))) : Goes p.tables e below K (T.setTop (mkF m pc Ls (.int y :: .int x :: st))) := by
  subst hq
  exact Goes.go (fun _ r => XT.ixor P.1.here P.2.1 rfl (hb P.2.2.1 hd) rfl r) k
theorem ior {x y : Int32} (P : Wk Z own bytes h p l e R s m args below meth c T locs cells slots) (hd : decode bytes pc = .ok (.ior, 1))  (hq : pc + 1 = q) (k : Goes p.tables e below K (T.setTop (mkF m q Ls (.int (x ||| y) :: st)))) : Goes p.tables e below K (T.setTop (mkF m pc Ls (.int y :: .int x :: st))) := by
  subst hq
  exact Goes.go (fun _ r => XT.ior P.1.here P.2.1 rfl (hb P.2.2.1 hd) rfl r) k
theorem ishl {x y : Int32} (P : Wk Z own bytes h p l e R s m args below meth c T locs cells slots) (hd : decode bytes pc = .ok (.ishl, 1))  (hq : pc + 1 = q) (k : Goes p.tables e below K (T.setTop (mkF m q Ls (.int (x <<< (y &&& 31)) :: st)))) : Goes p.tables e below K (T.setTop (mkF m pc Ls (.int y :: .int x :: st))) := by
  subst hq
  exact Goes.go (fun _ r => XT.ishl P.1.here P.2.1 rfl (hb P.2.2.1 hd) rfl r) k
theorem ishr {x y : Int32} (P : Wk Z own bytes h p l e R s m args below meth c T locs cells slots) (hd : decode bytes pc = .ok (.ishr, 1))  (hq : pc + 1 = q) (k : Goes p.tables e below K (T.setTop (mkF m q Ls (.int (x >>> (y &&& 31)) :: st)))) : Goes p.tables e below K (T.setTop (mkF m pc Ls (.int y :: .int x :: st))) := by
  subst hq
  exact Goes.go (fun _ r => XT.ishr P.1.here P.2.1 rfl (hb P.2.2.1 hd) rfl r) k
theorem iushr {x y : Int32} (P : Wk Z own bytes h p l e R s m args below meth c T locs cells slots) (hd : decode bytes pc = .ok (.iushr, 1))  (hq : pc + 1 = q) (k : Goes p.tables e below K (T.setTop (mkF m q Ls (.int (XT.ushr x y) :: st)))) : Goes p.tables e below K (T.setTop (mkF m pc Ls (.int y :: .int x :: st))) := by
  subst hq
  exact Goes.go (fun _ r => XT.iushr P.1.here P.2.1 rfl (hb P.2.2.1 hd) rfl r) k
theorem irem {x y : Int32} (P : Wk Z own bytes h p l e R s m args below meth c T locs cells slots) (hd : decode bytes pc = .ok (.irem, 1)) (hy : y ≠ 0) (hq : pc + 1 = q) (k : Goes p.tables e below K (T.setTop (mkF m q Ls (.int (x % y) :: st)))) : Goes p.tables e below K (T.setTop (mkF m pc Ls (.int y :: .int x :: st))) := by
  subst hq
  exact Goes.go (fun _ r => iremM P.1 P.2.1 rfl (hb P.2.2.1 hd) rfl hy r) k
theorem idiv {x y : Int32} (P : Wk Z own bytes h p l e R s m args below meth c T locs cells slots) (hd : decode bytes pc = .ok (.idiv, 1)) (hy : y ≠ 0) (hq : pc + 1 = q) (k : Goes p.tables e below K (T.setTop (mkF m q Ls (.int (x / y) :: st)))) : Goes p.tables e below K (T.setTop (mkF m pc Ls (.int y :: .int x :: st))) := by
  subst hq
  exact Goes.go (fun _ r => XS.idiv P.1.here P.2.1 rfl (hb P.2.2.1 hd) rfl hy r) k
theorem i2c {x : Int32} (P : Wk Z own bytes h p l e R s m args below meth c T locs cells slots) (hd : decode bytes pc = .ok (.i2c, 1))  (hq : pc + 1 = q) (k : Goes p.tables e below K (T.setTop (mkF m q Ls (.int x.toUInt32.toUInt16.toUInt32.toInt32 :: st)))) : Goes p.tables e below K (T.setTop (mkF m pc Ls (.int x :: st))) := by
  subst hq
  exact Goes.go (fun _ r => XT.i2c P.1.here P.2.1 rfl (hb P.2.2.1 hd) rfl r) k
theorem i2cV {x v : Int32} (P : Wk Z own bytes h p l e R s m args below meth c T locs cells slots) (hd : decode bytes pc = .ok (.i2c, 1)) (hv : x.toUInt32.toUInt16.toUInt32.toInt32 = v) (hq : pc + 1 = q) (k : Goes p.tables e below K (T.setTop (mkF m q Ls (.int v :: st)))) : Goes p.tables e below K (T.setTop (mkF m pc Ls (.int x :: st))) := by
  subst hq
  exact Goes.go (fun _ r => XT.i2c P.1.here P.2.1 rfl (hb P.2.2.1 hd) rfl (hv ▸ r)) k
theorem i2b {x : Int32} (P : Wk Z own bytes h p l e R s m args below meth c T locs cells slots) (hd : decode bytes pc = .ok (.i2b, 1))  (hq : pc + 1 = q) (k : Goes p.tables e below K (T.setTop (mkF m q Ls (.int x.toInt8.toInt32 :: st)))) : Goes p.tables e below K (T.setTop (mkF m pc Ls (.int x :: st))) := by
  subst hq
  exact Goes.go (fun _ r => XT.i2b P.1.here P.2.1 rfl (hb P.2.2.1 hd) rfl r) k
theorem i2l {x : Int32} (P : Wk Z own bytes h p l e R s m args below meth c T locs cells slots) (hd : decode bytes pc = .ok (.i2l, 1))  (hq : pc + 1 = q) (k : Goes p.tables e below K (T.setTop (mkF m q Ls (.long x.toInt64 :: st)))) : Goes p.tables e below K (T.setTop (mkF m pc Ls (.int x :: st))) := by
  subst hq
  exact Goes.go (fun _ r => XT.i2l P.1.here P.2.1 rfl (hb P.2.2.1 hd) rfl r) k
theorem l2i {x : Int64} (P : Wk Z own bytes h p l e R s m args below meth c T locs cells slots) (hd : decode bytes pc = .ok (.l2i, 1))  (hq : pc + 1 = q) (k : Goes p.tables e below K (T.setTop (mkF m q Ls (.int x.toInt32 :: st)))) : Goes p.tables e below K (T.setTop (mkF m pc Ls (.long x :: st))) := by
  subst hq
  exact Goes.go (fun _ r => XT.l2i P.1.here P.2.1 rfl (hb P.2.2.1 hd) rfl r) k
theorem lushr {x : Int64} {y : Int32} (P : Wk Z own bytes h p l e R s m args below meth c T locs cells slots) (hd : decode bytes pc = .ok (.lushr, 1))  (hq : pc + 1 = q) (k : Goes p.tables e below K (T.setTop (mkF m q Ls (.long (XT.ushrL x y) :: st)))) : Goes p.tables e below K (T.setTop (mkF m pc Ls (.int y :: .long x :: st))) := by
  subst hq
  exact Goes.go (fun _ r => XT.lushr P.1.here P.2.1 rfl (hb P.2.2.1 hd) rfl r) k
theorem land {x y : Int64} (P : Wk Z own bytes h p l e R s m args below meth c T locs cells slots) (hd : decode bytes pc = .ok (.land, 1))  (hq : pc + 1 = q) (k : Goes p.tables e below K (T.setTop (mkF m q Ls (.long (x &&& y) :: st)))) : Goes p.tables e below K (T.setTop (mkF m pc Ls (.long y :: .long x :: st))) := by
  subst hq
  exact Goes.go (fun _ r => XT.land P.1.here P.2.1 rfl (hb P.2.2.1 hd) rfl r) k
theorem lsub {x y : Int64} (P : Wk Z own bytes h p l e R s m args below meth c T locs cells slots) (hd : decode bytes pc = .ok (.lsub, 1))  (hq : pc + 1 = q) (k : Goes p.tables e below K (T.setTop (mkF m q Ls (.long (x - y) :: st)))) : Goes p.tables e below K (T.setTop (mkF m pc Ls (.long y :: .long x :: st))) := by
  subst hq
  exact Goes.go (fun _ r => XT.lsub P.1.here P.2.1 rfl (hb P.2.2.1 hd) rfl r) k
theorem lcmp {x y : Int64} (P : Wk Z own bytes h p l e R s m args below meth c T locs cells slots) (hd : decode bytes pc = .ok (.lcmp, 1))  (hq : pc + 1 = q) (k : Goes p.tables e below K (T.setTop (mkF m q Ls (.int (XT.cmpL x y) :: st)))) : Goes p.tables e below K (T.setTop (mkF m pc Ls (.long y :: .long x :: st))) := by
  subst hq
  exact Goes.go (fun _ r => XT.lcmp P.1.here P.2.1 rfl (hb P.2.2.1 hd) rfl r) k
theorem ldcI {i : Nat} {v : Int32} (P : Wk Z own bytes h p l e R s m args below meth c T locs cells slots) (hd : decode bytes pc = .ok (.ldc i, 2)) (w : (Cond.constant own i v).before a0 Z = true) (hq : pc + 2 = q) (k : Goes p.tables e below K (T.setTop (mkF m q Ls (.int v :: st)))) : Goes p.tables e below K (T.setTop (mkF m pc Ls (st))) := by
  subst hq
  exact Goes.go (fun _ r => Jvm.Stand.ldcI P.1 P.2.1 P.2.2.2.2.1 (mvT P.2.2.2.1 w) rfl (hb P.2.2.1 hd) r) k
theorem ldcJ {i : Nat} {v : Int64} (P : Wk Z own bytes h p l e R s m args below meth c T locs cells slots) (hd : decode bytes pc = .ok (.ldc2_w i, 3)) (w : (Cond.constantLong own i v).before a0 Z = true) (hq : pc + 3 = q) (k : Goes p.tables e below K (T.setTop (mkF m q Ls (.long v :: st)))) : Goes p.tables e below K (T.setTop (mkF m pc Ls (st))) := by
  subst hq
  exact Goes.go (fun _ r => Jvm.Stand.ldc2J P.1 P.2.1 P.2.2.2.2.1 (mvT P.2.2.2.1 w) rfl (hb P.2.2.1 hd) r) k
theorem jmp {o : Int} {n : Nat} (h : (n : Int) + o = (q : Int)) : 0 ≤ (n : Int) + o ∧ ((n : Int) + o).toNat = q := by omega
theorem goto {o : Int} (P : Wk Z own bytes h p l e R s m args below meth c T locs cells slots) (hd : decode bytes pc = .ok (.goto o, 3)) (hq : (pc : Int) + o = (q : Int)) (k : Goes p.tables e below K (T.setTop (mkF m q Ls (st)))) : Goes p.tables e below K (T.setTop (mkF m pc Ls (st))) :=
  Goes.go (fun _ r => XS.goto P.1.here P.2.1 rfl (pc0 := pc) rfl (hb P.2.2.1 hd) (jmp hq).1 (jmp hq).2 r) k
theorem icmp_eq {x y : Int32} {o : Int} {qy : Nat} (P : Wk Z own bytes h p l e R s m args below meth c T locs cells slots) (hd : decode bytes pc = .ok (.if_icmp .eq o, 3)) (hy : (pc : Int) + o = (qy : Int)) (hq : pc + 3 = q) (ky : x = y → Goes p.tables e below K (T.setTop (mkF m qy Ls (st)))) (kn : ¬ x = y → Goes p.tables e below K (T.setTop (mkF m q Ls (st)))) : Goes p.tables e below K (T.setTop (mkF m pc Ls (.int y :: .int x :: st))) := by
  subst hq
  by_cases c0 : x = y
  · exact Goes.go (fun _ r => XS.icmpYes P.1.here P.2.1 rfl (pc0 := pc) rfl (hb P.2.2.1 hd) rfl (XT.ii_eq_t c0) (jmp hy).1 (jmp hy).2 r) (ky c0)
  · exact Goes.go (fun _ r => XS.icmpNo P.1.here P.2.1 rfl (hb P.2.2.1 hd) rfl (XT.ii_eq_f c0) r) (kn c0)
theorem if_eq {x : Int32} {o : Int} {qy : Nat} (P : Wk Z own bytes h p l e R s m args below meth c T locs cells slots) (hd : decode bytes pc = .ok (.ifCond .eq o, 3)) (hy : (pc : Int) + o = (qy : Int)) (hq : pc + 3 = q) (ky : x = 0 → Goes p.tables e below K (T.setTop (mkF m qy Ls (st)))) (kn : ¬ x = 0 → Goes p.tables e below K (T.setTop (mkF m q Ls (st)))) : Goes p.tables e below K (T.setTop (mkF m pc Ls (.int x :: st))) := by
  subst hq
  by_cases c0 : x = 0
  · exact Goes.go (fun _ r => XS.ifYes P.1.here P.2.1 rfl (pc0 := pc) rfl (hb P.2.2.1 hd) rfl (XT.i0_eq_t c0) (jmp hy).1 (jmp hy).2 r) (ky c0)
  · exact Goes.go (fun _ r => XS.ifNo P.1.here P.2.1 rfl (hb P.2.2.1 hd) rfl (XT.i0_eq_f c0) r) (kn c0)
theorem icmp_ne {x y : Int32} {o : Int} {qy : Nat} (P : Wk Z own bytes h p l e R s m args below meth c T locs cells slots) (hd : decode bytes pc = .ok (.if_icmp .ne o, 3)) (hy : (pc : Int) + o = (qy : Int)) (hq : pc + 3 = q) (ky : ¬ x = y → Goes p.tables e below K (T.setTop (mkF m qy Ls (st)))) (kn : x = y → Goes p.tables e below K (T.setTop (mkF m q Ls (st)))) : Goes p.tables e below K (T.setTop (mkF m pc Ls (.int y :: .int x :: st))) := by
  subst hq
  by_cases c0 : x = y
  · exact Goes.go (fun _ r => XS.icmpNo P.1.here P.2.1 rfl (hb P.2.2.1 hd) rfl (XT.ii_ne_f c0) r) (kn c0)
  · exact Goes.go (fun _ r => XS.icmpYes P.1.here P.2.1 rfl (pc0 := pc) rfl (hb P.2.2.1 hd) rfl (XT.ii_ne_t c0) (jmp hy).1 (jmp hy).2 r) (ky c0)
theorem if_ne {x : Int32} {o : Int} {qy : Nat} (P : Wk Z own bytes h p l e R s m args below meth c T locs cells slots) (hd : decode bytes pc = .ok (.ifCond .ne o, 3)) (hy : (pc : Int) + o = (qy : Int)) (hq : pc + 3 = q) (ky : ¬ x = 0 → Goes p.tables e below K (T.setTop (mkF m qy Ls (st)))) (kn : x = 0 → Goes p.tables e below K (T.setTop (mkF m q Ls (st)))) : Goes p.tables e below K (T.setTop (mkF m pc Ls (.int x :: st))) := by
  subst hq
  by_cases c0 : x = 0
  · exact Goes.go (fun _ r => XS.ifNo P.1.here P.2.1 rfl (hb P.2.2.1 hd) rfl (XT.i0_ne_f c0) r) (kn c0)
  · exact Goes.go (fun _ r => XS.ifYes P.1.here P.2.1 rfl (pc0 := pc) rfl (hb P.2.2.1 hd) rfl (XT.i0_ne_t c0) (jmp hy).1 (jmp hy).2 r) (ky c0)
theorem icmp_lt {x y : Int32} {o : Int} {qy : Nat} (P : Wk Z own bytes h p l e R s m args below meth c T locs cells slots) (hd : decode bytes pc = .ok (.if_icmp .lt o, 3)) (hy : (pc : Int) + o = (qy : Int)) (hq : pc + 3 = q) (ky : x < y → Goes p.tables e below K (T.setTop (mkF m qy Ls (st)))) (kn : ¬ x < y → Goes p.tables e below K (T.setTop (mkF m q Ls (st)))) : Goes p.tables e below K (T.setTop (mkF m pc Ls (.int y :: .int x :: st))) := by
  subst hq
  by_cases c0 : x < y
  · exact Goes.go (fun _ r => XS.icmpYes P.1.here P.2.1 rfl (pc0 := pc) rfl (hb P.2.2.1 hd) rfl (XT.ii_lt_t c0) (jmp hy).1 (jmp hy).2 r) (ky c0)
  · exact Goes.go (fun _ r => XS.icmpNo P.1.here P.2.1 rfl (hb P.2.2.1 hd) rfl (XT.ii_lt_f c0) r) (kn c0)
theorem if_lt {x : Int32} {o : Int} {qy : Nat} (P : Wk Z own bytes h p l e R s m args below meth c T locs cells slots) (hd : decode bytes pc = .ok (.ifCond .lt o, 3)) (hy : (pc : Int) + o = (qy : Int)) (hq : pc + 3 = q) (ky : x < 0 → Goes p.tables e below K (T.setTop (mkF m qy Ls (st)))) (kn : ¬ x < 0 → Goes p.tables e below K (T.setTop (mkF m q Ls (st)))) : Goes p.tables e below K (T.setTop (mkF m pc Ls (.int x :: st))) := by
  subst hq
  by_cases c0 : x < 0
  · exact Goes.go (fun _ r => XS.ifYes P.1.here P.2.1 rfl (pc0 := pc) rfl (hb P.2.2.1 hd) rfl (XT.i0_lt_t c0) (jmp hy).1 (jmp hy).2 r) (ky c0)
  · exact Goes.go (fun _ r => XS.ifNo P.1.here P.2.1 rfl (hb P.2.2.1 hd) rfl (XT.i0_lt_f c0) r) (kn c0)
theorem icmp_ge {x y : Int32} {o : Int} {qy : Nat} (P : Wk Z own bytes h p l e R s m args below meth c T locs cells slots) (hd : decode bytes pc = .ok (.if_icmp .ge o, 3)) (hy : (pc : Int) + o = (qy : Int)) (hq : pc + 3 = q) (ky : ¬ x < y → Goes p.tables e below K (T.setTop (mkF m qy Ls (st)))) (kn : x < y → Goes p.tables e below K (T.setTop (mkF m q Ls (st)))) : Goes p.tables e below K (T.setTop (mkF m pc Ls (.int y :: .int x :: st))) := by
  subst hq
  by_cases c0 : x < y
  · exact Goes.go (fun _ r => XS.icmpNo P.1.here P.2.1 rfl (hb P.2.2.1 hd) rfl (XT.ii_ge_f c0) r) (kn c0)
  · exact Goes.go (fun _ r => XS.icmpYes P.1.here P.2.1 rfl (pc0 := pc) rfl (hb P.2.2.1 hd) rfl (XT.ii_ge_t c0) (jmp hy).1 (jmp hy).2 r) (ky c0)
theorem if_ge {x : Int32} {o : Int} {qy : Nat} (P : Wk Z own bytes h p l e R s m args below meth c T locs cells slots) (hd : decode bytes pc = .ok (.ifCond .ge o, 3)) (hy : (pc : Int) + o = (qy : Int)) (hq : pc + 3 = q) (ky : ¬ x < 0 → Goes p.tables e below K (T.setTop (mkF m qy Ls (st)))) (kn : x < 0 → Goes p.tables e below K (T.setTop (mkF m q Ls (st)))) : Goes p.tables e below K (T.setTop (mkF m pc Ls (.int x :: st))) := by
  subst hq
  by_cases c0 : x < 0
  · exact Goes.go (fun _ r => XS.ifNo P.1.here P.2.1 rfl (hb P.2.2.1 hd) rfl (XT.i0_ge_f c0) r) (kn c0)
  · exact Goes.go (fun _ r => XS.ifYes P.1.here P.2.1 rfl (pc0 := pc) rfl (hb P.2.2.1 hd) rfl (XT.i0_ge_t c0) (jmp hy).1 (jmp hy).2 r) (ky c0)
theorem icmp_gt {x y : Int32} {o : Int} {qy : Nat} (P : Wk Z own bytes h p l e R s m args below meth c T locs cells slots) (hd : decode bytes pc = .ok (.if_icmp .gt o, 3)) (hy : (pc : Int) + o = (qy : Int)) (hq : pc + 3 = q) (ky : y < x → Goes p.tables e below K (T.setTop (mkF m qy Ls (st)))) (kn : ¬ y < x → Goes p.tables e below K (T.setTop (mkF m q Ls (st)))) : Goes p.tables e below K (T.setTop (mkF m pc Ls (.int y :: .int x :: st))) := by
  subst hq
  by_cases c0 : y < x
  · exact Goes.go (fun _ r => XS.icmpYes P.1.here P.2.1 rfl (pc0 := pc) rfl (hb P.2.2.1 hd) rfl (XT.ii_gt_t c0) (jmp hy).1 (jmp hy).2 r) (ky c0)
  · exact Goes.go (fun _ r => XS.icmpNo P.1.here P.2.1 rfl (hb P.2.2.1 hd) rfl (XT.ii_gt_f c0) r) (kn c0)
theorem if_gt {x : Int32} {o : Int} {qy : Nat} (P : Wk Z own bytes h p l e R s m args below meth c T locs cells slots) (hd : decode bytes pc = .ok (.ifCond .gt o, 3)) (hy : (pc : Int) + o = (qy : Int)) (hq : pc + 3 = q) (ky : 0 < x → Goes p.tables e below K (T.setTop (mkF m qy Ls (st)))) (kn : ¬ 0 < x → Goes p.tables e below K (T.setTop (mkF m q Ls (st)))) : Goes p.tables e below K (T.setTop (mkF m pc Ls (.int x :: st))) := by
  subst hq
  by_cases c0 : 0 < x
  · exact Goes.go (fun _ r => XS.ifYes P.1.here P.2.1 rfl (pc0 := pc) rfl (hb P.2.2.1 hd) rfl (XT.i0_gt_t c0) (jmp hy).1 (jmp hy).2 r) (ky c0)
  · exact Goes.go (fun _ r => XS.ifNo P.1.here P.2.1 rfl (hb P.2.2.1 hd) rfl (XT.i0_gt_f c0) r) (kn c0)
theorem icmp_le {x y : Int32} {o : Int} {qy : Nat} (P : Wk Z own bytes h p l e R s m args below meth c T locs cells slots) (hd : decode bytes pc = .ok (.if_icmp .le o, 3)) (hy : (pc : Int) + o = (qy : Int)) (hq : pc + 3 = q) (ky : ¬ y < x → Goes p.tables e below K (T.setTop (mkF m qy Ls (st)))) (kn : y < x → Goes p.tables e below K (T.setTop (mkF m q Ls (st)))) : Goes p.tables e below K (T.setTop (mkF m pc Ls (.int y :: .int x :: st))) := by
  subst hq
  by_cases c0 : y < x
  · exact Goes.go (fun _ r => XS.icmpNo P.1.here P.2.1 rfl (hb P.2.2.1 hd) rfl (XT.ii_le_f c0) r) (kn c0)
  · exact Goes.go (fun _ r => XS.icmpYes P.1.here P.2.1 rfl (pc0 := pc) rfl (hb P.2.2.1 hd) rfl (XT.ii_le_t c0) (jmp hy).1 (jmp hy).2 r) (ky c0)
theorem if_le {x : Int32} {o : Int} {qy : Nat} (P : Wk Z own bytes h p l e R s m args below meth c T locs cells slots) (hd : decode bytes pc = .ok (.ifCond .le o, 3)) (hy : (pc : Int) + o = (qy : Int)) (hq : pc + 3 = q) (ky : ¬ 0 < x → Goes p.tables e below K (T.setTop (mkF m qy Ls (st)))) (kn : 0 < x → Goes p.tables e below K (T.setTop (mkF m q Ls (st)))) : Goes p.tables e below K (T.setTop (mkF m pc Ls (.int x :: st))) := by
  subst hq
  by_cases c0 : 0 < x
  · exact Goes.go (fun _ r => XS.ifNo P.1.here P.2.1 rfl (hb P.2.2.1 hd) rfl (XT.i0_le_f c0) r) (kn c0)
  · exact Goes.go (fun _ r => XS.ifYes P.1.here P.2.1 rfl (pc0 := pc) rfl (hb P.2.2.1 hd) rfl (XT.i0_le_t c0) (jmp hy).1 (jmp hy).2 r) (ky c0)
theorem acmp_eq {x y : Value} {o : Int} {qy : Nat} (P : Wk Z own bytes h p l e R s m args below meth c T locs cells slots) (hd : decode bytes pc = .ok (.if_acmp .eq o, 3)) (h1 : x.isRef = true) (h2 : y.isRef = true) (hy : (pc : Int) + o = (qy : Int)) (hq : pc + 3 = q) (ky : x = y → Goes p.tables e below K (T.setTop (mkF m qy Ls (st)))) (kn : ¬ x = y → Goes p.tables e below K (T.setTop (mkF m q Ls (st)))) : Goes p.tables e below K (T.setTop (mkF m pc Ls (y :: x :: st))) := by
  subst hq
  by_cases c0 : x = y
  · exact Goes.go (fun _ r => XT.acmpYes P.1.here P.2.1 rfl (pc0 := pc) rfl (hb P.2.2.1 hd) rfl h1 h2 (XT.aa_eq_t c0) (jmp hy).1 (jmp hy).2 r) (ky c0)
  · exact Goes.go (fun _ r => XT.acmpNo P.1.here P.2.1 rfl (hb P.2.2.1 hd) rfl h1 h2 (XT.aa_eq_f c0) r) (kn c0)
theorem acmp_ne {x y : Value} {o : Int} {qy : Nat} (P : Wk Z own bytes h p l e R s m args below meth c T locs cells slots) (hd : decode bytes pc = .ok (.if_acmp .ne o, 3)) (h1 : x.isRef = true) (h2 : y.isRef = true) (hy : (pc : Int) + o = (qy : Int)) (hq : pc + 3 = q) (ky : ¬ x = y → Goes p.tables e below K (T.setTop (mkF m qy Ls (st)))) (kn : x = y → Goes p.tables e below K (T.setTop (mkF m q Ls (st)))) : Goes p.tables e below K (T.setTop (mkF m pc Ls (y :: x :: st))) := by
  subst hq
  by_cases c0 : x = y
  · exact Goes.go (fun _ r => XT.acmpNo P.1.here P.2.1 rfl (hb P.2.2.1 hd) rfl h1 h2 (XT.aa_ne_f c0) r) (kn c0)
  · exact Goes.go (fun _ r => XT.acmpYes P.1.here P.2.1 rfl (pc0 := pc) rfl (hb P.2.2.1 hd) rfl h1 h2 (XT.aa_ne_t c0) (jmp hy).1 (jmp hy).2 r) (ky c0)
theorem nullY {o : Int} (P : Wk Z own bytes h p l e R s m args below meth c T locs cells slots) (hd : decode bytes pc = .ok (.ifnull o, 3)) (hy : (pc : Int) + o = (q : Int)) (k : Goes p.tables e below K (T.setTop (mkF m q Ls (st)))) : Goes p.tables e below K (T.setTop (mkF m pc Ls (.null :: st))) := Goes.go (fun _ r => XS.ifnullYes P.1.here P.2.1 rfl (pc0 := pc) rfl (hb P.2.2.1 hd) rfl (jmp hy).1 (jmp hy).2 r) k
theorem nullN {o : Int} {b : Addr} (P : Wk Z own bytes h p l e R s m args below meth c T locs cells slots) (hd : decode bytes pc = .ok (.ifnull o, 3)) (hq : pc + 3 = q) (k : Goes p.tables e below K (T.setTop (mkF m q Ls (st)))) : Goes p.tables e below K (T.setTop (mkF m pc Ls (.ref b :: st))) := by
  subst hq
  exact Goes.go (fun _ r => XS.ifnullNo P.1.here P.2.1 rfl (hb P.2.2.1 hd) rfl r) k
theorem nonnullY {o : Int} {b : Addr} (P : Wk Z own bytes h p l e R s m args below meth c T locs cells slots) (hd : decode bytes pc = .ok (.ifnonnull o, 3)) (hy : (pc : Int) + o = (q : Int)) (k : Goes p.tables e below K (T.setTop (mkF m q Ls (st)))) : Goes p.tables e below K (T.setTop (mkF m pc Ls (.ref b :: st))) := Goes.go (fun _ r => XT.ifnonnullYes P.1.here P.2.1 rfl (pc0 := pc) rfl (hb P.2.2.1 hd) rfl (jmp hy).1 (jmp hy).2 r) k
theorem nonnullN {o : Int} (P : Wk Z own bytes h p l e R s m args below meth c T locs cells slots) (hd : decode bytes pc = .ok (.ifnonnull o, 3)) (hq : pc + 3 = q) (k : Goes p.tables e below K (T.setTop (mkF m q Ls (st)))) : Goes p.tables e below K (T.setTop (mkF m pc Ls (.null :: st))) := by
  subst hq
  exact Goes.go (fun _ r => XT.ifnonnullNo P.1.here P.2.1 rfl (hb P.2.2.1 hd) rfl r) k
theorem getfield {O n d : String} {i : Nat} {a : Addr} {v : Value} (P : Wk Z own bytes h p l e R s m args below meth c T locs cells slots) (hd : decode bytes pc = .ok (.getfield i, 3)) (w : (Cond.fieldLink own i O n d).before a0 Z = true) (F : Fld Z h a O n d v) (hq : pc + 3 = q) (k : ∀ T₂, Wk Z own bytes h p l e R s m args below meth c T₂ locs cells slots → Goes p.tables e below K (T₂.setTop (mkF m q Ls (v :: st)))) : Goes p.tables e below K (T.setTop (mkF m pc Ls (.ref a :: st))) := by
  subst hq
  obtain ⟨T₂, X2, e2, st2⟩ := getF P.1 P.2.1 P.2.2.2.1 P.2.2.2.2.1 (host := "") (Or.inl w) Via.refl P.2.2.2.2.2 F (g := mkF m pc Ls (.ref a :: st)) rfl rfl (hb P.2.2.1 hd)
  exact Goes.go st2 (k T₂ ⟨X2, P.2.1, P.2.2.1, P.2.2.2.1, P.2.2.2.2.1, e2⟩)
theorem getstatic {O n d : String} {i : Nat} {v : Value} (P : Wk Z own bytes h p l e R s m args below meth c T locs cells slots) (hd : decode bytes pc = .ok (.getstatic i, 3)) (w : (Cond.fieldLink own i O n d).before a0 Z = true) (F : Sta Z h O n d v) (hq : pc + 3 = q) (k : ∀ T₂, Wk Z own bytes h p l e R s m args below meth c T₂ locs cells slots → Goes p.tables e below K (T₂.setTop (mkF m q Ls (v :: st)))) : Goes p.tables e below K (T.setTop (mkF m pc Ls (st))) := by
  subst hq
  obtain ⟨T₂, X2, e2, st2⟩ := getS P.1 P.2.1 P.2.2.2.1 (host := "") P.2.2.2.2.1 w Via.refl P.2.2.2.2.2 F (g := mkF m pc Ls st) rfl (hb P.2.2.1 hd)
  exact Goes.go st2 (k T₂ ⟨X2, P.2.1, P.2.2.1, P.2.2.2.1, P.2.2.2.2.1, e2⟩)
theorem castTo {C : String} {i : Nat} {a : Addr} (P : Wk Z own bytes h p l e R s m args below meth c T locs cells slots) (hd : decode bytes pc = .ok (.checkcast i, 3)) (w : (Cond.classLink own i C).before a0 Z = true) (F : Ins Z h a C true) (hq : pc + 3 = q) (k : ∀ T₂, Wk Z own bytes h p l e R s m args below meth c T₂ locs cells slots → Goes p.tables e below K (T₂.setTop (mkF m q Ls (.ref a :: st)))) : Goes p.tables e below K (T.setTop (mkF m pc Ls (.ref a :: st))) := by
  subst hq
  obtain ⟨T₂, X2, e2, st2⟩ := castY P.1 P.2.1 P.2.2.2.1 P.2.2.2.2.1 w P.2.2.2.2.2 F (g := mkF m pc Ls (.ref a :: st)) rfl rfl (hb P.2.2.1 hd)
  exact Goes.go st2 (k T₂ ⟨X2, P.2.1, P.2.2.1, P.2.2.2.1, P.2.2.2.2.1, e2⟩)
theorem instOf {C : String} {i : Nat} {a : Addr} (P : Wk Z own bytes h p l e R s m args below meth c T locs cells slots) (hd : decode bytes pc = .ok (.instanceof i, 3)) (w : (Cond.classLink own i C).before a0 Z = true) (F : Ins Z h a C true) (hq : pc + 3 = q) (k : ∀ T₂, Wk Z own bytes h p l e R s m args below meth c T₂ locs cells slots → Goes p.tables e below K (T₂.setTop (mkF m q Ls (.int 1 :: st)))) : Goes p.tables e below K (T.setTop (mkF m pc Ls (.ref a :: st))) := by
  subst hq
  obtain ⟨T₂, X2, e2, st2⟩ := instY P.1 P.2.1 P.2.2.2.1 P.2.2.2.2.1 w P.2.2.2.2.2 F (g := mkF m pc Ls (.ref a :: st)) rfl rfl (hb P.2.2.1 hd)
  exact Goes.go st2 (k T₂ ⟨X2, P.2.1, P.2.2.1, P.2.2.2.1, P.2.2.2.2.1, e2⟩)
theorem caload {a : Addr} {kc : ClassId} {n j : Int32} {vs : List Value} {d v : Value} (P : Wk Z own bytes h p l e R s m args below meth c T locs cells slots) (hd : decode bytes pc = .ok (.caload, 1)) (A : Arv Z h a kc .char n vs d) (h0 : ¬ j < 0) (h1 : j < n) (hv : vs.getD j.toNatClampNeg d = v) (hq : pc + 1 = q) (k : Goes p.tables e below K (T.setTop (mkF m q Ls (v :: st)))) : Goes p.tables e below K (T.setTop (mkF m pc Ls (.int j :: .ref a :: st))) := by
  subst hq
  obtain ⟨cl, Ar, -, S, -, H, -⟩ := A
  have hin := inb_of S ⟨h0, h1⟩
  exact Goes.go (P.1.caload P.2.1 (by rw [P.2.2.2.2.2]; exact Ar.1) (State.isArrayOf_alike P.2.2.2.1.alike Ar.2.1) Ar.2.2 hin (H.at hin hv) (g := mkF m pc Ls (.int j :: .ref a :: st)) rfl rfl (hb P.2.2.1 hd)) k
theorem baload {a : Addr} {kc : ClassId} {n j : Int32} {vs : List Value} {d v : Value} (P : Wk Z own bytes h p l e R s m args below meth c T locs cells slots) (hd : decode bytes pc = .ok (.baload, 1)) (A : Arv Z h a kc .byte n vs d) (h0 : ¬ j < 0) (h1 : j < n) (hv : vs.getD j.toNatClampNeg d = v) (hq : pc + 1 = q) (k : Goes p.tables e below K (T.setTop (mkF m q Ls (v :: st)))) : Goes p.tables e below K (T.setTop (mkF m pc Ls (.int j :: .ref a :: st))) := by
  subst hq
  obtain ⟨cl, Ar, -, S, -, H, -⟩ := A
  have hin := inb_of S ⟨h0, h1⟩
  exact Goes.go (P.1.baloadBytes P.2.1 (by rw [P.2.2.2.2.2]; exact Ar.1) (State.isArrayOf_alike P.2.2.2.1.alike Ar.2.1) Ar.2.2 hin (H.at hin hv) (g := mkF m pc Ls (.int j :: .ref a :: st)) rfl rfl (hb P.2.2.1 hd)) k
theorem aaload {a : Addr} {kc : ClassId} {C : String} {n j : Int32} {vs : List Value} {d v : Value} (P : Wk Z own bytes h p l e R s m args below meth c T locs cells slots) (hd : decode bytes pc = .ok (.aaload, 1)) (A : Arv Z h a kc (.object C) n vs d) (h0 : ¬ j < 0) (h1 : j < n) (hv : vs.getD j.toNatClampNeg d = v) (hq : pc + 1 = q) (k : Goes p.tables e below K (T.setTop (mkF m q Ls (v :: st)))) : Goes p.tables e below K (T.setTop (mkF m pc Ls (.int j :: .ref a :: st))) := by
  subst hq
  obtain ⟨cl, Ar, -, S, -, H, -⟩ := A
  have hin := inb_of S ⟨h0, h1⟩
  exact Goes.go (P.1.aaload P.2.1 (by rw [P.2.2.2.2.2]; exact Ar.1) (State.isArrayOf_alike P.2.2.2.1.alike Ar.2.1) rfl Ar.2.2 hin (H.at hin hv) (g := mkF m pc Ls (.int j :: .ref a :: st)) rfl rfl (hb P.2.2.1 hd)) k
theorem arraylength {a : Addr} {kc : ClassId} {ty : FieldType} {n : Int32} {vs : List Value} {d : Value} (P : Wk Z own bytes h p l e R s m args below meth c T locs cells slots) (hd : decode bytes pc = .ok (.arraylength, 1)) (A : Arv Z h a kc ty n vs d) (hq : pc + 1 = q) (k : Goes p.tables e below K (T.setTop (mkF m q Ls (.int n :: st)))) : Goes p.tables e below K (T.setTop (mkF m pc Ls (.ref a :: st))) := by
  subst hq
  obtain ⟨cl, Ar, -, S, N, H, -⟩ := A
  refine Goes.go (P.1.arraylength P.2.1 (by rw [P.2.2.2.2.2]; exact Ar.1) (State.isArrayOf_alike P.2.2.2.1.alike Ar.2.1) (g := mkF m pc Ls (.ref a :: st)) rfl rfl (hb P.2.2.1 hd)) ?_
  rw [len_of S N]
  exact k
theorem instNull {i : Nat} (P : Wk Z own bytes h p l e R s m args below meth c T locs cells slots) (hd : decode bytes pc = .ok (.instanceof i, 3)) (hq : pc + 3 = q) (k : Goes p.tables e below K (T.setTop (mkF m q Ls (.int 0 :: st)))) : Goes p.tables e below K (T.setTop (mkF m pc Ls (.null :: st))) := by
  subst hq
  exact Goes.go (fun t r => P.1.instanceofNull P.2.1 (g := mkF m pc Ls (.null :: st)) rfl (rest := st) rfl (hb P.2.2.1 hd) t r) k
theorem instNope {C C2 : String} {i : Nat} {a : Addr} (P : Wk Z own bytes h p l e R s m args below meth c T locs cells slots) (hd : decode bytes pc = .ok (.instanceof i, 3)) (w : (Cond.classLink own i C).before a0 Z = true) (E : Exa Z h a C2) (F : ∃ c t, Z.vm.findClass C2 = some c ∧ Z.vm.findClass C = some t ∧ Z.vm.assignable c t = false) (hq : pc + 3 = q) (k : ∀ T₂, Wk Z own bytes h p l e R s m args below meth c T₂ locs cells slots → Goes p.tables e below K (T₂.setTop (mkF m q Ls (.int 0 :: st)))) : Goes p.tables e below K (T.setTop (mkF m pc Ls (.ref a :: st))) := by
  subst hq
  obtain ⟨T₂, X2, e2, st2⟩ := instNo P.1 P.2.1 P.2.2.2.1 P.2.2.2.2.1 w P.2.2.2.2.2 E F (g := mkF m pc Ls (.ref a :: st)) rfl rfl (hb P.2.2.1 hd)
  exact Goes.go st2 (k T₂ ⟨X2, P.2.1, P.2.2.1, P.2.2.2.1, P.2.2.2.2.1, e2⟩)
theorem newobj {C : String} {i n : Nat} (P : Wk Z own bytes h p l e R s m args below meth c T locs cells slots) (hd : decode bytes pc = .ok (.new i, 3)) (w : (Cond.classLink own i C).before a0 Z = true) (wi : (Cond.instantiable C n).before a0 Z = true) (wz : (Cond.initialized C).before a0 Z = true) (hc : cells + 1 ≤ R.cells) (hl : slots + n ≤ R.slots) (hq : pc + 3 = q)
    (k : ∀ T₂ h₂ a, a = h.size → Wk Z own bytes h₂ p l e R s m args below meth c T₂ locs (cells + 1) (slots + n) → Ext h h₂ → Exa Z h₂ a C → (∀ {O nm d : String} {ty : FieldType}, Laid Z a0 C O nm d → parseFieldDescriptor d = some ty → Fld Z h₂ a O nm d (defaultValue ty)) → Goes p.tables e below K (T₂.setTop (mkF m q Ls (.ref a :: st)))) : Goes p.tables e below K (T.setTop (mkF m pc Ls (st))) := by
  subst hq
  obtain ⟨T₂, h₂, X2, e2, E2, A2, D2, -, st2⟩ := newO P.1 P.2.1 P.2.2.2.1 P.2.2.2.2.1 w wi wz P.2.2.2.2.2 (g := mkF m pc Ls st) rfl (hb P.2.2.1 hd) hc hl
  exact Goes.go st2 (k T₂ h₂ h.size rfl ⟨X2, P.2.1, P.2.2.1, P.2.2.2.1, P.2.2.2.2.1, e2⟩ E2 A2 D2)
theorem newarr {aty : ArrayType} {n : Int32} {cap : Nat} (P : Wk Z own bytes h p l e R s m args below meth c T locs cells slots) (hd : decode bytes pc = .ok (.newarray aty, 2)) (w : (Cond.arrayClass (newarray.typeOf aty)).before a0 Z = true) (hn : ¬ n < 0) (hcap : n.toNatClampNeg ≤ cap) (hcb : cap * 8 ≤ 536870912) (hc : cells + 1 ≤ R.cells) (hl : slots + cap ≤ R.slots) (hq : pc + 2 = q)
    (k : ∀ T₂ h₂ a kc, a = h.size → Wk Z own bytes h₂ p l e R s m args below meth c T₂ locs (cells + 1) (slots + cap) → Ext h h₂ → Arv Z h₂ a kc (newarray.typeOf aty) n [] (defaultValue (newarray.typeOf aty)) → Goes p.tables e below K (T₂.setTop (mkF m q Ls (.ref a :: st)))) : Goes p.tables e below K (T.setTop (mkF m pc Ls (.int n :: st))) := by
  subst hq
  obtain ⟨T₂, h₂, kc, X2, e2, E2, A2, st2⟩ := newP P.1 P.2.1 P.2.2.2.1 w P.2.2.2.2.2 (g := mkF m pc Ls (.int n :: st)) rfl (hb P.2.2.1 hd) rfl hn hcap hcb hc hl
  exact Goes.go st2 (k T₂ h₂ h.size kc rfl ⟨X2, P.2.1, P.2.2.1, P.2.2.2.1, P.2.2.2.2.1, e2⟩ E2 (Arv.new A2 hn))
theorem castore {a : Addr} {kc : ClassId} {n j x x2 : Int32} {i : Nat} {vs : List Value} {d : Value} (P : Wk Z own bytes h p l e R s m args below meth c T locs cells slots) (hd : decode bytes pc = .ok (.castore, 1)) (A : Arv Z h a kc .char n vs d) (h0 : ¬ j < 0) (h1 : j < n) (hx2 : nar .char x = x2) (hf : fits .char (.int x2) = true) (hi : j.toNatClampNeg = i) (hi2 : i < vs.length) (hq : pc + 1 = q)
    (k : ∀ T₂ h₂ lc, lc.base = a → Wk Z own bytes h₂ p l e R s m args below meth c T₂ (locs ++ [lc]) cells slots → Wr h h₂ a i (.int x2) → Arv Z h₂ a kc .char n (vs.set i (.int x2)) d → Goes p.tables e below K (T₂.setTop (mkF m q Ls (st)))) : Goes p.tables e below K (T.setTop (mkF m pc Ls (.int x :: .int j :: .ref a :: st))) := by
  subst hq hx2 hi
  obtain ⟨cl, Ar, q1, S, q3, H, G⟩ := A
  have hin := inb_of S ⟨h0, h1⟩
  obtain ⟨T₂, h₂, X2, e2, W2, st2⟩ := stC P.1 P.2.1 P.2.2.2.1 P.2.2.2.2.2 Ar hin (g := mkF m pc Ls (.int x :: .int j :: .ref a :: st)) rfl rfl (hb P.2.2.1 hd)
  exact Goes.go st2 (k T₂ h₂ ⟨a, j.toNatClampNeg⟩ rfl ⟨X2, P.2.1, P.2.2.1, P.2.2.2.1, P.2.2.2.2.1, e2⟩ W2 (Arv.set Ar q1 S q3 H G hf W2 _ rfl hi2))
theorem bastore {a : Addr} {kc : ClassId} {n j x x2 : Int32} {i : Nat} {vs : List Value} {d : Value} (P : Wk Z own bytes h p l e R s m args below meth c T locs cells slots) (hd : decode bytes pc = .ok (.bastore, 1)) (A : Arv Z h a kc .byte n vs d) (h0 : ¬ j < 0) (h1 : j < n) (hx2 : nar .byte x = x2) (hf : fits .byte (.int x2) = true) (hi : j.toNatClampNeg = i) (hi2 : i < vs.length) (hq : pc + 1 = q)
    (k : ∀ T₂ h₂ lc, lc.base = a → Wk Z own bytes h₂ p l e R s m args below meth c T₂ (locs ++ [lc]) cells slots → Wr h h₂ a i (.int x2) → Arv Z h₂ a kc .byte n (vs.set i (.int x2)) d → Goes p.tables e below K (T₂.setTop (mkF m q Ls (st)))) : Goes p.tables e below K (T.setTop (mkF m pc Ls (.int x :: .int j :: .ref a :: st))) := by
  subst hq hx2 hi
  obtain ⟨cl, Ar, q1, S, q3, H, G⟩ := A
  have hin := inb_of S ⟨h0, h1⟩
  obtain ⟨T₂, h₂, X2, e2, W2, st2⟩ := stB P.1 P.2.1 P.2.2.2.1 P.2.2.2.2.2 Ar hin (g := mkF m pc Ls (.int x :: .int j :: .ref a :: st)) rfl rfl (hb P.2.2.1 hd)
  exact Goes.go st2 (k T₂ h₂ ⟨a, j.toNatClampNeg⟩ rfl ⟨X2, P.2.1, P.2.2.1, P.2.2.2.1, P.2.2.2.2.1, e2⟩ W2 (Arv.set Ar q1 S q3 H G hf W2 _ rfl hi2))
theorem putfield {O n d C : String} {i kk : Nat} {ty : FieldType} {a : Addr} {v old : Value} (P : Wk Z own bytes h p l e R s m args below meth c T locs cells slots) (hd : decode bytes pc = .ok (.putfield i, 3)) (w : (Cond.fieldLink own i O n d).before a0 Z = true) (F : Fld Z h a O n d old) (E : Exa Z h a C) (L : (Cond.lays C O n d).before a0 Z = true ∨ ((Cond.laysFinal C O n d).before a0 Z = true ∧ own = O ∧ meth.name = "<init>")) (wi : (Cond.instantiable C kk).before a0 Z = true) (hty : parseFieldDescriptor d = some ty) (hn : narrow ty v = v) (hf : fits ty v = true) (hq : pc + 3 = q)
    (k : ∀ T₂ h₂ lc, lc.base = a → Wk Z own bytes h₂ p l e R s m args below meth c T₂ (locs ++ [lc]) cells slots → Wr h h₂ a (Jvm.RoadKit.slotOf Z O n d) v → Goes p.tables e below K (T₂.setTop (mkF m q Ls (st)))) : Goes p.tables e below K (T.setTop (mkF m pc Ls (v :: .ref a :: st))) := by
  subst hq
  obtain ⟨T₂, h₂, X2, e2, W2, st2⟩ := putF P.1 P.2.1 P.2.2.2.1 P.2.2.2.2.1 (host := "") (Or.inl w) Via.refl P.2.2.2.2.2 F E L wi hty hn hf (g := mkF m pc Ls (v :: .ref a :: st)) rfl rfl (hb P.2.2.1 hd)
  exact Goes.go st2 (k T₂ h₂ ⟨a, Jvm.RoadKit.slotOf Z O n d⟩ rfl ⟨X2, P.2.1, P.2.2.1, P.2.2.2.1, P.2.2.2.2.1, e2⟩ W2)
theorem objinit {i W : Nat} {a : Addr} (P : Wk Z own bytes h p l e R s m args below meth c T locs cells slots) (hd : decode bytes pc = .ok (.invokespecial i, 3)) (w1 : (Cond.methodLink own i Lib.objectInit).before a0 Z = true) (w2 : (Cond.instanceMethod Lib.objectInit).before a0 Z = true) (w3 : (Cond.code Lib.objectInit ⟨#[0xb1]⟩ 1 none).before a0 Z = true) (hz : Ls.size = c.maxLocals) (hf : 1 ≤ R.frames) (hW : 2 * (mkF m pc Ls (.ref a :: st)).monitorRoom + (st.map fun v => v.category).sum ≤ W) (hl : W + 12 ≤ R.locals) (hq : pc + 3 = q) (k : ∀ T₂, Wk Z own bytes h p l e R s m args below meth c T₂ locs cells slots → Goes p.tables e below K (T₂.setTop (mkF m q Ls (st)))) : Goes p.tables e below K (T.setTop (mkF m pc Ls (.ref a :: st))) := by
  subst hq
  obtain ⟨T₂, X2, e2, st2⟩ := initO P.1 P.2.1 P.2.2.2.1 P.2.2.2.2.1 w1 w2 w3 P.2.2.2.2.2 (g := mkF m pc Ls (.ref a :: st)) rfl hz rfl (hb P.2.2.1 hd) hf hW hl
  exact Goes.go st2 (k T₂ ⟨X2, P.2.1, P.2.2.1, P.2.2.2.1, P.2.2.2.2.1, e2⟩)
theorem cloneArr {ad : String} {ty : FieldType} {i W cap : Nat} {a : Addr} {kc : ClassId} {z : Int32} {vs : List Value} {d : Value} (P : Wk Z own bytes h p l e R s m args below meth c T locs cells slots) (hd : decode bytes pc = .ok (.invokevirtual i, 3)) (w1 : (Cond.methodLink own i ⟨ad, "clone", "()Ljava/lang/Object;"⟩).before a0 Z = true) (w2 : (Cond.sameMethod ad "java/lang/Object" "clone" "()Ljava/lang/Object;").before a0 Z = true) (w3 : (Cond.native ⟨"java/lang/Object", "clone", "()Ljava/lang/Object;"⟩).before a0 Z = true) (w4 : (Cond.instanceMethod ⟨"java/lang/Object", "clone", "()Ljava/lang/Object;"⟩).before a0 Z = true) (w5 : (Cond.selects ad ⟨ad, "clone", "()Ljava/lang/Object;"⟩ ⟨"java/lang/Object", "clone", "()Ljava/lang/Object;"⟩).before a0 Z = true) (w6 : (Cond.castable ad "java/lang/Cloneable").before a0 Z = true) (A : Arv Z h a kc ty z vs d) (E : Exa Z h a ad) (hz : Ls.size = c.maxLocals) (hf : 1 ≤ R.frames) (hW : 2 * (mkF m pc Ls (.ref a :: st)).monitorRoom + (st.map fun v => v.category).sum ≤ W) (hl : W + 14 ≤ R.locals) (hcap : z.toNatClampNeg ≤ cap) (hc : cells + 1 ≤ R.cells) (hs : slots + cap ≤ R.slots) (hq : pc + 3 = q)
    (k : ∀ T₂ h₂ r, r = h.size → Wk Z own bytes h₂ p l e R s m args below meth c T₂ locs (cells + 1) (slots + cap) → Ext h h₂ → Arv Z h₂ r kc ty z vs d → Exa Z h₂ r ad → Goes p.tables e below K (T₂.setTop (mkF m q Ls (.ref r :: st)))) : Goes p.tables e below K (T.setTop (mkF m pc Ls (.ref a :: st))) := by
  subst hq
  obtain ⟨T₂, h₂, X2, e2, E2, A2, B2, st2⟩ := cloneH P.1 P.2.1 P.2.2.2.1 P.2.2.2.2.1 w1 w2 w3 w4 w5 w6 P.2.2.2.2.2 (hs := []) A E (g := mkF m pc Ls (.ref a :: st)) rfl hz rfl (hb P.2.2.1 hd) hf hW hl hcap hc hs
  exact Goes.go st2 (k T₂ h₂ h.size rfl ⟨X2, P.2.1, P.2.2.1, P.2.2.2.1, P.2.2.2.2.1, e2⟩ E2 A2 B2)
theorem invStatic {y : MethodName} {cb : ByteArray} {mL : Nat} {ret : Option FieldType} {i W kc ks : Nat} {as' : Array Value} {Q : Option Value → Heap → List Loc → Prop} {argsL rest : List Value} (P : Wk Z own bytes h p l e R s m args below meth c T locs cells slots) (hd : decode bytes pc = .ok (.invokestatic i, 3)) (w1 : (Cond.methodLink own i y).before a0 Z = true) (w2 : (Cond.static y).before a0 Z = true) (w3 : (Cond.initialized y.cls).before a0 Z = true) (w4 : (Cond.code y cb mL ret).before a0 Z = true) (hy : y.cls ≠ "java/lang/invoke/MethodHandle" ∧ y.cls ≠ "java/lang/invoke/VarHandle") (B : Back l R p e below s args y 3 W (fun A a => a = as' ∧ A.U.heap = h ∧ A.cells + kc ≤ R.cells ∧ A.slots + ks ≤ R.slots) (fun A _ v B => ∃ L, Q v B.U.heap L ∧ B.locs = A.locs ++ L ∧ B.cells = A.cells + kc ∧ B.slots = A.slots + ks)) (ha : argsL.toArray = as') (hst : st = argsL.reverse ++ rest) (hz : Ls.size = c.maxLocals) (hlen : ∀ sig, parseMethodDescriptor y.desc = some sig → argsL.length = sig.parameters.length) (hW : 2 * (mkF m pc Ls st).monitorRoom + (rest.map fun v => v.category).sum ≤ W) (hcc : cells + kc ≤ R.cells) (hss : slots + ks ≤ R.slots) (hq : pc + 3 = q) (k : ∀ v T₂ h₂ L, Q v h₂ L → Wk Z own bytes h₂ p l e R s m args below meth c T₂ (locs ++ L) (cells + kc) (slots + ks) → Goes p.tables e below K (T₂.setTop (mkF m q Ls (v.toList ++ rest)))) : Goes p.tables e below K (T.setTop (mkF m pc Ls (st))) := by
  subst hq
  obtain ⟨v, _, ⟨T₂, L₂, c₂, n₂⟩, -, X2, ⟨L, hQ, hl, hc2, hs2⟩, st2⟩ := Jvm.LawKit.callS P.1 P.2.1 (y := y) P.2.2.2.2.1 (mvT P.2.2.2.1 w1) (mvT P.2.2.2.1 w2) (mvT P.2.2.2.1 w3) (mvT P.2.2.2.1 w4) hy B (g := mkF m pc Ls st) rfl hz (argsL := argsL) (rest := rest) hlen hst hW (hb P.2.2.1 hd) (fun _ _ => ⟨ha, P.2.2.2.2.2, hcc, hss⟩)
  dsimp only [Pt.U, Pt.locs, Pt.cells, Pt.slots] at X2 hl hc2 hs2 st2 hQ
  subst hl hc2 hs2
  exact Goes.go st2 (k v T₂ _ L hQ ⟨X2, P.2.1, P.2.2.1, P.2.2.2.1, P.2.2.2.2.1, rfl⟩)
theorem invSpecial {y : MethodName} {cb : ByteArray} {mL : Nat} {i W kc ks : Nat} {as' : Array Value} {Q : Option Value → Heap → List Loc → Prop} {a : Addr} {argsL rest : List Value} (P : Wk Z own bytes h p l e R s m args below meth c T locs cells slots) (hd : decode bytes pc = .ok (.invokespecial i, 3)) (hin : y.name = "<init>") (w1 : (Cond.methodLink own i y).before a0 Z = true) (w2 : (Cond.instanceMethod y).before a0 Z = true) (w4 : (Cond.code y cb mL none).before a0 Z = true) (hy : y.cls ≠ "java/lang/invoke/MethodHandle" ∧ y.cls ≠ "java/lang/invoke/VarHandle") (B : Back l R p e below s args y 3 W (fun A a => a = as' ∧ A.U.heap = h ∧ A.cells + kc ≤ R.cells ∧ A.slots + ks ≤ R.slots) (fun A _ v B => ∃ L, Q v B.U.heap L ∧ B.locs = A.locs ++ L ∧ B.cells = A.cells + kc ∧ B.slots = A.slots + ks)) (ha : (.ref a :: argsL).toArray = as') (hst : st = argsL.reverse ++ .ref a :: rest) (hz : Ls.size = c.maxLocals) (hlen : ∀ sig, parseMethodDescriptor y.desc = some sig → argsL.length = sig.parameters.length) (hW : 2 * (mkF m pc Ls st).monitorRoom + (rest.map fun v => v.category).sum ≤ W) (hcc : cells + kc ≤ R.cells) (hss : slots + ks ≤ R.slots) (hq : pc + 3 = q) (k : ∀ v T₂ h₂ L, Q v h₂ L → Wk Z own bytes h₂ p l e R s m args below meth c T₂ (locs ++ L) (cells + kc) (slots + ks) → Goes p.tables e below K (T₂.setTop (mkF m q Ls (v.toList ++ rest)))) : Goes p.tables e below K (T.setTop (mkF m pc Ls (st))) := by
  subst hq
  obtain ⟨v, _, ⟨T₂, L₂, c₂, n₂⟩, -, X2, ⟨L, hQ, hl, hc2, hs2⟩, st2⟩ := P.1.specialBack P.2.1 (y := y) hin P.2.2.2.2.1 (mvT P.2.2.2.1 w1) (mvT P.2.2.2.1 w2) (mvT P.2.2.2.1 w4) hy B (g := mkF m pc Ls st) rfl hz (Steps.refl _) (a := a) (argsL := argsL) (rest := rest) hlen hst hW (hb P.2.2.1 hd) (fun _ _ => ⟨ha, P.2.2.2.2.2, hcc, hss⟩)
  dsimp only [Pt.U, Pt.locs, Pt.cells, Pt.slots] at X2 hl hc2 hs2 st2 hQ
  subst hl hc2 hs2
  exact Goes.tr st2 (k v T₂ _ L hQ ⟨X2, P.2.1, P.2.2.1, P.2.2.2.1, P.2.2.2.2.1, rfl⟩)
theorem invVirtual {y z : MethodName} {C : String} {i W kc ks : Nat} {as' : Array Value} {Q : Option Value → Heap → List Loc → Prop} {a : Addr} {argsL rest : List Value} (P : Wk Z own bytes h p l e R s m args below meth c T locs cells slots) (hd : decode bytes pc = .ok (.invokevirtual i, 3)) (w1 : (Cond.methodLink own i y).before a0 Z = true) (w2 : (Cond.declares y).before a0 Z = true) (w3 : (Cond.selects C y z).before a0 Z = true) (w4 : (Cond.instanceMethod z).before a0 Z = true) (nf : NotFace s y) (hy : y.cls ≠ "java/lang/invoke/MethodHandle" ∧ y.cls ≠ "java/lang/invoke/VarHandle") (B : Back l R p e below s args z 3 W (fun A a => a = as' ∧ A.U.heap = h ∧ A.cells + kc ≤ R.cells ∧ A.slots + ks ≤ R.slots) (fun A _ v B => ∃ L, Q v B.U.heap L ∧ B.locs = A.locs ++ L ∧ B.cells = A.cells + kc ∧ B.slots = A.slots + ks)) (E : Exa Z h a C) (ha : (.ref a :: argsL).toArray = as') (hst : st = argsL.reverse ++ .ref a :: rest) (hz : Ls.size = c.maxLocals) (hlen : ∀ sig, parseMethodDescriptor y.desc = some sig → argsL.length = sig.parameters.length) (hW : 2 * (mkF m pc Ls st).monitorRoom + (rest.map fun v => v.category).sum ≤ W) (hcc : cells + kc ≤ R.cells) (hss : slots + ks ≤ R.slots) (hq : pc + 3 = q) (k : ∀ v T₂ h₂ L, Q v h₂ L → Wk Z own bytes h₂ p l e R s m args below meth c T₂ (locs ++ L) (cells + kc) (slots + ks) → Goes p.tables e below K (T₂.setTop (mkF m q Ls (v.toList ++ rest)))) : Goes p.tables e below K (T.setTop (mkF m pc Ls (st))) := by
  subst hq
  obtain ⟨cB, kB, r1, -, r3⟩ := isOf P.2.2.2.1 P.2.2.2.2.2 E
  obtain ⟨v, _, ⟨T₂, L₂, c₂, n₂⟩, -, X2, ⟨L, hQ, hl, hc2, hs2⟩, st2⟩ := P.1.virtualBack P.2.1 (y := y) (z := z) P.2.2.2.2.1 (mvT P.2.2.2.1 w1) (mvT P.2.2.2.1 w2) nf (mvT P.2.2.2.1 w3) (mvT P.2.2.2.1 w4) hy B r1 r3 (g := mkF m pc Ls st) rfl hz (Steps.refl _) (argsL := argsL) (rest := rest) hlen hst hW (hb P.2.2.1 hd) (fun _ _ => ⟨ha, P.2.2.2.2.2, hcc, hss⟩)
  dsimp only [Pt.U, Pt.locs, Pt.cells, Pt.slots] at X2 hl hc2 hs2 st2 hQ
  subst hl hc2 hs2
  exact Goes.tr st2 (k v T₂ _ L hQ ⟨X2, P.2.1, P.2.2.1, P.2.2.2.1, P.2.2.2.2.1, rfl⟩)
theorem retV {kc ks : Nat} {Q : Option Value → Heap → List Loc → Prop}  (P : Wk Z own bytes h p l e R s m args below meth c T locs cells slots) (hd : decode bytes pc = .ok (.return_, 1)) (hret : meth.sig.returnType = none) (hlk : meth.locks = false) (hc : cells ≤ kc) (hs : slots ≤ ks) (hQ : Q none h locs) : Goes p.tables e below (fun s₂ o => ∃ v L, o = .returned v ∧ Q v s₂.heap L ∧ FrameEnd s o s₂ L kc ks) (T.setTop (mkF m pc Ls ([]))) := by
  obtain ⟨fs, hr, hrun, hended, hW, hsame⟩ := P.1.leave (v := none) (fun h => by first | rfl | (rw [hret] at h; cases h)) hlk
  exact ⟨_, _, P.1.returnOut P.2.1 hret (hb P.2.2.1 hd) hr, hrun, hended, _, _, rfl, by show Q _ T.heap _; rw [P.2.2.2.2.2]; exact hQ, ⟨_, rfl⟩, hW, hsame.mono hc hs⟩
theorem retZ {kc ks : Nat} {Q : Option Value → Heap → List Loc → Prop} {t : FieldType} {z : Int32} (P : Wk Z own bytes h p l e R s m args below meth c T locs cells slots) (hd : decode bytes pc = .ok (.ireturn, 1)) (hret : meth.sig.returnType = some t) (ht : t = .boolean ∨ t = .byte ∨ t = .char ∨ t = .short) (hlk : meth.locks = false) (hc : cells ≤ kc) (hs : slots ≤ ks) (hQ : Q (some (.int (nar t z))) h locs) : Goes p.tables e below (fun s₂ o => ∃ v L, o = .returned v ∧ Q v s₂.heap L ∧ FrameEnd s o s₂ L kc ks) (T.setTop (mkF m pc Ls (.int z :: st))) := by
  obtain ⟨fs, hr, hrun, hended, hW, hsame⟩ := P.1.leave (v := (some (.int (nar t z)))) (fun h => by first | rfl | (rw [hret] at h; cases h)) hlk
  exact ⟨_, _, retN P.1 P.2.1 hret ht (hb P.2.2.1 hd) hr, hrun, hended, _, _, rfl, by show Q _ T.heap _; rw [P.2.2.2.2.2]; exact hQ, ⟨_, rfl⟩, hW, hsame.mono hc hs⟩
theorem retI {kc ks : Nat} {Q : Option Value → Heap → List Loc → Prop} {z : Int32} (P : Wk Z own bytes h p l e R s m args below meth c T locs cells slots) (hd : decode bytes pc = .ok (.ireturn, 1)) (hret : meth.sig.returnType = some .int) (hlk : meth.locks = false) (hc : cells ≤ kc) (hs : slots ≤ ks) (hQ : Q (some (.int z)) h locs) : Goes p.tables e below (fun s₂ o => ∃ v L, o = .returned v ∧ Q v s₂.heap L ∧ FrameEnd s o s₂ L kc ks) (T.setTop (mkF m pc Ls (.int z :: st))) := by
  obtain ⟨fs, hr, hrun, hended, hW, hsame⟩ := P.1.leave (v := (some (.int z))) (fun h => by first | rfl | (rw [hret] at h; cases h)) hlk
  exact ⟨_, _, retOut P.1 P.2.1 hret rfl (Or.inl ⟨rfl, Or.inl rfl, _, rfl⟩) (hb P.2.2.1 hd) hr, hrun, hended, _, _, rfl, by show Q _ T.heap _; rw [P.2.2.2.2.2]; exact hQ, ⟨_, rfl⟩, hW, hsame.mono hc hs⟩
theorem retA {kc ks : Nat} {Q : Option Value → Heap → List Loc → Prop} {t : FieldType} {v : Value} (P : Wk Z own bytes h p l e R s m args below meth c T locs cells slots) (hd : decode bytes pc = .ok (.areturn, 1)) (hret : meth.sig.returnType = some t) (ht : t.isReference = true) (hv : v.isRef = true) (hn : narrow t v = v) (hlk : meth.locks = false) (hc : cells ≤ kc) (hs : slots ≤ ks) (hQ : Q (some v) h locs) : Goes p.tables e below (fun s₂ o => ∃ v L, o = .returned v ∧ Q v s₂.heap L ∧ FrameEnd s o s₂ L kc ks) (T.setTop (mkF m pc Ls (v :: st))) := by
  obtain ⟨fs, hr, hrun, hended, hW, hsame⟩ := P.1.leave (v := (some v)) (fun h => by first | rfl | (rw [hret] at h; cases h)) hlk
  exact ⟨_, _, retOut P.1 P.2.1 hret hn (Or.inr (Or.inr (Or.inr (Or.inr ⟨rfl, ht, hv⟩)))) (hb P.2.2.1 hd) hr, hrun, hended, _, _, rfl, by show Q _ T.heap _; rw [P.2.2.2.2.2]; exact hQ, ⟨_, rfl⟩, hW, hsame.mono hc hs⟩
theorem Wk.up {c2 s2 : Nat} (P : Wk Z own bytes h p l e R s m args below meth c T locs cells slots) (hc : cells ≤ c2) (hs : slots ≤ s2) : Wk Z own bytes h p l e R s m args below meth c T locs c2 s2 := ⟨P.1.mono hc hs, P.2⟩
end Steps
theorem refc {v : Value} (h : v.isRef = true) : v = .null ∨ ∃ a, v = .ref a := by
  cases v <;> first | exact Or.inl rfl | exact Or.inr ⟨_, rfl⟩ | cases h
theorem ltb {i n : Nat} (h : Nat.ble (i + 1) n = true) : i < n := Nat.le_of_ble_eq_true h
theorem leb {i n : Nat} (h : Nat.ble i n = true) : i ≤ n := Nat.le_of_ble_eq_true h
theorem Ext.rf (h : Heap) : Ext h h := ⟨Nat.le_refl _, fun _ _ q => q⟩
theorem Ext.tr {h h' h2 : Heap} (A : Ext h h') (B : Ext h' h2) : Ext h h2 := ⟨Nat.le_trans A.1 B.1, fun a c q => B.2 a c (A.2 a c q)⟩
theorem Ext.wr {h h' h2 : Heap} {a : Addr} {sl : Nat} {v : Value} (A : Ext h h') (W : Wr h' h2 a sl v) (q : h.size ≤ a) : Ext h h2 := ⟨by rw [W.size]; exact A.1, fun b c hb => by
  have hb2 := A.2 b c hb
  obtain ⟨c2, g1, -, -, -, g5, -⟩ := wr_at W hb2
  have hne : b ≠ a := fun e => by subst e; exact absurd (Array.getElem?_eq_some_iff.mp hb).1 (Nat.not_lt.mpr q)
  rw [g1, g5 hne]⟩
theorem Ext.kp {h h' h2 : Heap} {ws : List Addr} (A : Ext h h') (K : Keep h' h2 ws) (q : ∀ x ∈ ws, h.size ≤ x) : Ext h h2 := ⟨Nat.le_trans A.1 K.1, fun b c hb => K.2.1 b c (A.2 b c hb) fun hm => absurd (Array.getElem?_eq_some_iff.mp hb).1 (Nat.not_lt.mpr (q b hm))⟩
theorem Fr.one {k : Nat} {L : List Loc} {lc : Loc} {a : Addr} (N : Fr k L) (e : lc.base = a) (q : k ≤ a) : Fr k (L ++ [lc]) := N.app fun y hy => by cases List.mem_singleton.mp hy; rw [e]; exact q
end Own
end Jvm.Pilot.@@N@@
namespace Jvm.Pilot.@@N@@
namespace Own
open Jvm Jvm.ClassFile Sem Op Lib Jvm.Free Jvm.Stand Jvm.LawKit Jvm.RoadKit Bundle
theorem lo_rng (x : Int32) : ¬ (x &&& 255) < 0 ∧ ¬ (255 : Int32) < (x &&& 255) := by
  have h := c_mask x 255 8 (by decide) (by decide)
  have h0 : (0 : Int32).toInt = 0 := rfl
  have h5 : (255 : Int32).toInt = 255 := rfl
  constructor
  · rw [Int32.lt_iff_toInt_lt, h0, h]; omega
  · rw [Int32.lt_iff_toInt_lt, h5, h]; omega
theorem i2c_id16 {x : Int32} (h : ¬ x < 0 ∧ ¬ (65535 : Int32) < x) : x.toUInt32.toUInt16.toUInt32.toInt32 = x := by
  obtain ⟨g1, g2, g3⟩ := c_i2c x
  have h0 : (0 : Int32).toInt = 0 := rfl
  have h5 : (65535 : Int32).toInt = 65535 := rfl
  obtain ⟨a, b⟩ := h
  rw [Int32.lt_iff_toInt_lt, h0] at a
  rw [Int32.lt_iff_toInt_lt, h5] at b
  exact Int32.toInt_inj.mp (by omega)
theorem up16 {x : Int32} (h : ¬ x < 0 ∧ ¬ (255 : Int32) < x) : ¬ x < 0 ∧ ¬ (65535 : Int32) < x := by
  refine ⟨h.1, fun q => h.2 ?_⟩
  have h5 : (65535 : Int32).toInt = 65535 := rfl
  have h2 : (255 : Int32).toInt = 255 := rfl
  rw [Int32.lt_iff_toInt_lt] at q ⊢
  omega
theorem i2c_id {x : Int32} (h : ¬ x < 0 ∧ ¬ (255 : Int32) < x) : x.toUInt32.toUInt16.toUInt32.toInt32 = x := i2c_id16 (up16 h)
theorem nar_id {x : Int32} (h : ¬ x < 0 ∧ ¬ (255 : Int32) < x) : nar .char x = x := i2c_id h
theorem nar_id16 {x : Int32} (h : ¬ x < 0 ∧ ¬ (65535 : Int32) < x) : nar .char x = x := i2c_id16 h
theorem fits_ch {x : Int32} (h : ¬ x < 0 ∧ ¬ (255 : Int32) < x) : fits .char (.int x) = true := by
  have q := fits_nar_char x
  rwa [nar_id h] at q
theorem nar_b (x : Int32) : nar .byte x.toInt8.toInt32 = x.toInt8.toInt32 := by simp [nar]
theorem fits_b (x : Int32) : fits .byte (.int x.toInt8.toInt32) = true := fits_nar_byte x
theorem ch0 {P : Int32 → Prop} : ∀ c ∈ ([] : List Int32), P c := fun _ q => nomatch q
theorem chS {P : Int32 → Prop} {a : Int32} {cs : List Int32} (h : P a) (r : ∀ c ∈ cs, P c) : ∀ c ∈ a :: cs, P c := fun c q => (List.mem_cons.mp q).elim (fun u => u ▸ h) (r c)
/-- the object at a is a compact String of the chars cs, each 0 to 255 -/
def Str (Z : State) (h : Heap) (a : Addr) (cs : List Int32) : Prop :=
  (∃ t kb, Exa Z h a "java/lang/String" ∧ Fld Z h a "java/lang/String" "value" "[B" (.ref t) ∧ Fld Z h a "java/lang/String" "coder" "B" (.int 0) ∧ Arv Z h t kb .byte (Int32.ofNat cs.length) ((cs.map fun c => c.toInt8.toInt32).map Value.int) (.int 0)) ∧ (∀ c ∈ cs, ¬ c < 0 ∧ ¬ (255 : Int32) < c) ∧ cs.length ≤ 4000
theorem Str.ext {Z : State} {h h' : Heap} {a : Addr} {cs : List Int32} (S : Str Z h a cs) (E : Ext h h') : Str Z h' a cs := by
  obtain ⟨⟨t, kb, s1, s2, s3, s4⟩, r⟩ := S
  exact ⟨⟨t, kb, s1.ext E, s2.ext E, s3.ext E, s4.ext E⟩, r⟩
theorem Str.exa {Z : State} {h : Heap} {a : Addr} {cs : List Int32} (S : Str Z h a cs) : Exa Z h a "java/lang/String" := by obtain ⟨⟨t, kb, s1, -⟩, -⟩ := S; exact s1
theorem Str.kp1 {Z : State} {h h' : Heap} {a x : Addr} {cs : List Int32} {C : String} {a0 : Array Value} {n : Nat} (S : Str Z h a cs) (K : Keep h h' [x]) (E : Exa Z h x C) (hC : C ≠ "java/lang/String") (wi : (Jvm.Cond.instantiable C n).before a0 Z = true) : Str Z h' a cs := by
  obtain ⟨⟨t, kb, s1, s2, s3, s4⟩, r⟩ := S
  have n1 : a ≠ x := fun e => Exa.ne E s1 hC e.symm
  have n2 : t ≠ x := fun e => Exa.neArv E s4 wi e.symm
  exact ⟨⟨t, kb, s1.keep K, s2.keep K (ninS n1 nin0), s3.keep K (ninS n1 nin0), s4.keep K (ninS n2 nin0)⟩, r⟩
theorem Sta_kp1 {Z : State} {h h' : Heap} {x : Addr} {C D n d : String} {v : Value} (S : Sta Z h D n d v) (K : Keep h h' [x]) (E : Exa Z h x C) : Sta Z h' D n d v := by
  obtain ⟨cf, i, k, f, st, cell, t1, t2, t3, t4, t5, t6, t7⟩ := S
  obtain ⟨cx, kx, e1, -, -, e4, -⟩ := E
  have ne : st ≠ x := fun q => by
    subst q
    cases t5.symm.trans e1
    rw [e4] at t6
    cases t6
  exact ⟨cf, i, k, f, st, cell, t1, t2, t3, t4, K.2.1 _ _ t5 (ninS ne nin0), t6, t7⟩
theorem byte_inj {x y : Int32} (hx : ¬ x < 0 ∧ ¬ (255 : Int32) < x) (hy : ¬ y < 0 ∧ ¬ (255 : Int32) < y) (h : x.toInt8.toInt32 = y.toInt8.toInt32) : x = y := by
  obtain ⟨a1, -, -⟩ := c_i2b x
  obtain ⟨b1, -, -⟩ := c_i2b y
  have h0 : (0 : Int32).toInt = 0 := rfl
  have h5 : (255 : Int32).toInt = 255 := rfl
  have e : x.toInt8.toInt32.toInt = y.toInt8.toInt32.toInt := by rw [h]
  obtain ⟨u1, u2⟩ := hx
  obtain ⟨v1, v2⟩ := hy
  rw [Int32.lt_iff_toInt_lt] at u1 u2 v1 v2
  exact Int32.toInt_inj.mp (by omega)
theorem bytes_inj : ∀ {cs ds : List Int32}, (∀ c ∈ cs, ¬ c < 0 ∧ ¬ (255 : Int32) < c) → (∀ c ∈ ds, ¬ c < 0 ∧ ¬ (255 : Int32) < c) → (cs.map fun c => c.toInt8.toInt32) = (ds.map fun c => c.toInt8.toInt32) → cs = ds
  | [], [], _, _, _ => rfl
  | [], _ :: _, _, _, h => by simp at h
  | _ :: _, [], _, _, h => by simp at h
  | c :: cs, d :: ds, hc, hd, h => by
    simp only [List.map_cons, List.cons.injEq] at h
    rw [byte_inj (hc c (by simp)) (hd d (by simp)) h.1, bytes_inj (fun x hx => hc x (by simp [hx])) (fun x hx => hd x (by simp [hx])) h.2]
theorem ofNat_inj {n k : Nat} (hn : n ≤ 4000) (hk : k ≤ 4000) (h : Int32.ofNat n = Int32.ofNat k) : n = k := by
  have a : (Int32.ofNat n).toInt = n := Int32.toInt_ofNat_of_lt (by omega)
  have b : (Int32.ofNat k).toInt = k := Int32.toInt_ofNat_of_lt (by omega)
  rw [h, b] at a
  omega
theorem Str.inj {Z : State} {h : Heap} {a : Addr} {cs ds : List Int32} (S : Str Z h a cs) (T : Str Z h a ds) : cs = ds := by
  obtain ⟨⟨t, kb, -, s2, -, c1, A1, -, z1, -, H1, -⟩, p1, l1⟩ := S
  obtain ⟨⟨u, ku, -, t2, -, c2, A2, -, z2, -, H2, -⟩, p2, l2⟩ := T
  have e : (Value.ref t) = .ref u := Classical.byContradiction fun q => Fld.ne s2 t2 q rfl
  cases e
  cases A1.1.symm.trans A2.1
  have m1 : (Int32.ofNat cs.length).toNatClampNeg = cs.length := by simp only [Int32.toNatClampNeg, Int32.toInt_ofNat_of_lt (show cs.length < 2 ^ 31 by omega)]; rfl
  have m2 : (Int32.ofNat ds.length).toNatClampNeg = ds.length := by simp only [Int32.toNatClampNeg, Int32.toInt_ofNat_of_lt (show ds.length < 2 ^ 31 by omega)]; rfl
  have n1 : cs.length = ds.length := by omega
  refine bytes_inj p1 p2 (List.ext_getElem (by simp [n1]) fun i g1 g2 => ?_)
  have q1 := H1 i (by simp at g1; omega)
  have q2 := H2 i (by simp at g1; omega)
  rw [q1] at q2
  have q3 := Option.some.inj q2
  simp only [List.getD_eq_getElem?_getD] at q3
  simp at g1
  simp [g1, n1 ▸ g1] at q3
  simpa using q3
theorem Str.up {Z : State} {h : Heap} {a : Addr} {cs : List Int32} (S : Str Z h a cs) : ∀ c ∈ cs, ¬ c < 0 ∧ ¬ (65535 : Int32) < c := fun c hc => up16 (S.2.1 c hc)
end Own
end Jvm.Pilot.@@N@@
/- laws to paste: Road.backV, Road.lenW, Road.eqW (cut by pick.py; bodies as the Statement names them) -/
namespace Jvm.Pilot.@@N@@
namespace StrChars
open Jvm Sem ClassFile Op Lib Jvm.Stand Jvm.Free.XT Jvm.Free.ALB Jvm.Free.JM Jvm.Free
open Jvm.Lib.Cold (StaticIs)
/-- a char array whose places are chars -/
def Ch (a : Addr) (A : Cell) (U : State) : Prop := Arr .char a A U ∧ Typed .char A
theorem Ch.mv {a : Addr} {A : Cell} {U U' : State} (h : Ch a A U) (hal : U.vm.Alike U'.vm) (hh : U'.heap = U.heap) : Ch a A U' := ⟨h.1.mv hal hh, h.2⟩
theorem Ch.keep {a : Addr} {A : Cell} {U U' : State} (h : Ch a A U) (hal : U.vm.Alike U'.vm) (hk : U'.heap[a]? = some A) : Ch a A U' := ⟨h.1.keep hal hk, h.2⟩
/-- what place i of a char[]'s cell holds -/
def cv (A : Cell) (i : Nat) : Int32 := match A.slots[i]? with | some (.int x) => x | _ => 0
theorem Ch.get {a : Addr} {A : Cell} {U : State} (h : Ch a A U) {i : Nat} (hi : i < A.slots.size) : A.slots[i]? = some (.int (cv A i)) := by
  have e := Array.getElem?_eq_getElem hi
  have f := h.2 i _ e
  unfold cv; rw [e]
  generalize A.slots[i] = v at f
  cases v <;> simp [fits] at f ⊢
/-- the byte that i2b leaves of a char -/
def lo8 (x : Int32) : Int32 := x.toInt8.toInt32
theorem fits_lo8 (y : Int32) : fits .byte (.int (lo8 y)) = true := by
  have h1 := y.toInt8.le_toInt
  have h2 := y.toInt8.toInt_lt
  simp only [lo8, fits, Bool.and_eq_true, decide_eq_true_eq, Int32.le_iff_toInt_le, Int8.toInt_toInt32, show (-128 : Int32).toInt = -128 from by decide, show (127 : Int32).toInt = 127 from by decide]
  omega
/-- A' is A but that each place j of lo .. hi - 1 holds f j -/
def Laid (A A' : Cell) (lo hi : Nat) (f : Nat → Value) : Prop := A'.cls = A.cls ∧ A'.vm = A.vm ∧ A'.slots.size = A.slots.size ∧ ∀ i, A'.slots[i]? = if lo ≤ i ∧ i < hi then some (f i) else A.slots[i]?
theorem Laid.zero (A : Cell) (lo : Nat) (f : Nat → Value) : Laid A A lo (lo + 0) f := ⟨rfl, rfl, rfl, fun i => by rw [if_neg (by omega)]⟩
theorem Laid.step {A Ak : Cell} {lo k : Nat} {f : Nat → Value} {v : Value} (h : Laid A Ak lo k f) (hlo : lo ≤ k) (hk : k < Ak.slots.size) (hv : v = f k) : Laid A (Ak.setSlot k v) lo (k + 1) f := by
  refine ⟨h.1, h.2.1, by simpa [Cell.setSlot] using h.2.2.1, fun i => ?_⟩
  by_cases e : k = i
  · subst e; rw [Cell.slots_setSlot_self v hk, if_pos (by omega), hv]
  · rw [Cell.slots_setSlot_ne v e, h.2.2.2 i]
    by_cases q : lo ≤ i ∧ i < k
    · rw [if_pos q, if_pos (by omega)]
    · rw [if_neg q, if_neg (by omega)]
def U16 : String := "java/lang/StringUTF16"
namespace Cmp5
def yN : MethodName := ⟨"java/lang/StringUTF16", "compress", "([CI[BII)I"⟩
abbrev yB : ByteArray := jdk_52_method_21_code
theorem d0 : decode yB 0 = .ok (.iconst 0, 1) := by decide +kernel
theorem d1 : decode yB 1 = .ok (.istore 5, 2) := by decide +kernel
theorem d3 : decode yB 3 = .ok (.iload 5, 2) := by decide +kernel
theorem d5 : decode yB 5 = .ok (.iload 4, 2) := by decide +kernel
theorem d7 : decode yB 7 = .ok (.if_icmp (.ge) 37, 3) := by decide +kernel
theorem d10 : decode yB 10 = .ok (.aload_n 0, 1) := by decide +kernel
theorem d11 : decode yB 11 = .ok (.iload_n 1, 1) := by decide +kernel
theorem d12 : decode yB 12 = .ok (.caload, 1) := by decide +kernel
theorem d13 : decode yB 13 = .ok (.istore 6, 2) := by decide +kernel
theorem d15 : decode yB 15 = .ok (.iload 6, 2) := by decide +kernel
theorem d17 : decode yB 17 = .ok (.sipush 255, 3) := by decide +kernel
theorem d20 : decode yB 20 = .ok (.if_icmp (.le) 6, 3) := by decide +kernel
theorem d26 : decode yB 26 = .ok (.aload_n 2, 1) := by decide +kernel
theorem d27 : decode yB 27 = .ok (.iload_n 3, 1) := by decide +kernel
theorem d28 : decode yB 28 = .ok (.iload 6, 2) := by decide +kernel
theorem d30 : decode yB 30 = .ok (.i2b, 1) := by decide +kernel
theorem d31 : decode yB 31 = .ok (.bastore, 1) := by decide +kernel
theorem d32 : decode yB 32 = .ok (.iinc 1 1, 3) := by decide +kernel
theorem d35 : decode yB 35 = .ok (.iinc 3 1, 3) := by decide +kernel
theorem d38 : decode yB 38 = .ok (.iinc 5 1, 3) := by decide +kernel
theorem d41 : decode yB 41 = .ok (.goto (-38), 3) := by decide +kernel
theorem d44 : decode yB 44 = .ok (.iload 4, 2) := by decide +kernel
theorem d46 : decode yB 46 = .ok (.ireturn, 1) := by decide +kernel
def site : List Cond := []
def tab : Cond := tabOf yN yB 7 (some .int) site
def P (b : Addr) (A : Cell) (d : Addr) (B : Cell) (o q len : Nat) (args : Array Value) (s : State) : Prop := args = #[.ref b, .int (Int32.ofNat o), .ref d, .int (Int32.ofNat q), .int (Int32.ofNat len)] ∧ Ch b A s ∧ Arr .byte d B s ∧ b ≠ d ∧ o + len ≤ A.slots.size ∧ q + len ≤ B.slots.size ∧ ∀ i, i < len → ¬ 255 < cv A (o + i)
def E (b : Addr) (A : Cell) (d : Addr) (B : Cell) (o q len : Nat) (r : Option Value) (s u : State) : Prop := r = some (.int (Int32.ofNat len)) ∧ ∃ B', Put d B' s u ∧ Laid B B' q (q + len) (fun j => Value.int (lo8 (cv A (o + (j - q)))))
/-- no char of the range above 255: len; the places written hold each char's low byte -/
theorem law (l : Launch) (b : Addr) (A : Cell) (d : Addr) (B : Cell) (o q len : Nat) : Law l yN 5 5 0 0 yB 7 (some .int) site (P b A d B o q len) (E b A d B o q len) (copyLocs d q len) 0 0 := by
  refine Law.of_walk (plainFor_of_name (by decide +kernel)) (by decide +kernel) (by decide +kernel) (by decide) (fun _ _ h => by rw [h.1]; rfl) (fun _ U U' hal hh h => ⟨h.1, h.2.1.mv hal hh, h.2.2.1.mv hal hh, h.2.2.2⟩) (fun r U U' V V' h1 hal h2 h => ⟨h.1, h.2.elim fun B' q => ⟨B', q.1.mv h1 h2, q.2⟩⟩) ?_
  intro p e s m args below meth c s₁ X0 hexec hbytes hml hret hlk hnm hown hh0 W hP
  obtain ⟨rfl, hA, hB, hne, l1, l2, hp⟩ := hP
  have c1 : Steps p.tables e below (s₁.setTop (entryFrame m #[.ref b, .int (Int32.ofNat o), .ref d, .int (Int32.ofNat q), .int (Int32.ofNat len)] 7)) (s₁.setTop (mkF m 0 #[.val (.ref b), .val (.int (Int32.ofNat o)), .val (.ref d), .val (.int (Int32.ofNat q)), .val (.int (Int32.ofNat len)), .unset, .unset] [])) := entry rfl
  have hA0 := hA.1.mv X0.warmed.alike hh0
  have hB0 := hB.mv X0.warmed.alike hh0
  have a31 := hA.1.2.2.2
  have c2 : Steps p.tables e below (s₁.setTop (entryFrame m #[.ref b, .int (Int32.ofNat o), .ref d, .int (Int32.ofNat q), .int (Int32.ofNat len)] 7)) (s₁.setTop (mkF m 3 #[.val (.ref b), .val (.int (Int32.ofNat o)), .val (.ref d), .val (.int (Int32.ofNat q)), .val (.int (Int32.ofNat len)), .val (.int 0), .unset] [])) := c1.trans (by
    refine iconstV X0.here hexec rfl 0 (hb hbytes d0) (by decide) ?_
    refine XS.istore X0.here hexec rfl (hb hbytes d1) rfl rfl ?_
    exact Steps.refl _)
  have loop : ∀ (r i : Nat), i + r = len → ∀ (z : Slot), (z = .unset ∨ ∃ w, z = .val w ∧ w.category = 1) → ∀ (Tl : State) (Bk : Cell), Stand p l e { frames := 0, locals := 0, cells := 0, slots := 0 } s m #[.ref b, .int (Int32.ofNat o), .ref d, .int (Int32.ofNat q), .int (Int32.ofNat len)] below meth c Tl ([] ++ copyLocs d q i) 0 0 → Put d Bk s₁ Tl → Laid B Bk q (q + i) (fun j => Value.int (lo8 (cv A (o + (j - q))))) →
      Steps p.tables e below (s₁.setTop (entryFrame m #[.ref b, .int (Int32.ofNat o), .ref d, .int (Int32.ofNat q), .int (Int32.ofNat len)] 7)) (Tl.setTop (mkF m 3 #[.val (.ref b), .val (.int (Int32.ofNat (o + i))), .val (.ref d), .val (.int (Int32.ofNat (q + i))), .val (.int (Int32.ofNat len)), .val (.int (Int32.ofNat i)), z] [])) → ∃ (T' : State) (B' : Cell) (z' : Slot), Stand p l e { frames := 0, locals := 0, cells := 0, slots := 0 } s m #[.ref b, .int (Int32.ofNat o), .ref d, .int (Int32.ofNat q), .int (Int32.ofNat len)] below meth c T' ([] ++ copyLocs d q len) 0 0 ∧ Put d B' s₁ T' ∧ Laid B B' q (q + len) (fun j => Value.int (lo8 (cv A (o + (j - q))))) ∧
      Steps p.tables e below (s₁.setTop (entryFrame m #[.ref b, .int (Int32.ofNat o), .ref d, .int (Int32.ofNat q), .int (Int32.ofNat len)] 7)) (T'.setTop (mkF m 3 #[.val (.ref b), .val (.int (Int32.ofNat (o + len))), .val (.ref d), .val (.int (Int32.ofNat (q + len))), .val (.int (Int32.ofNat len)), .val (.int (Int32.ofNat len)), z'] [])) := by
    intro r
    induction r with
    | zero =>
      intro i hi z hz Tl Bk Xl pl fl cl
      have hil : i = len := by omega
      rw [hil] at Xl fl cl
      exact ⟨Tl, Bk, z, Xl, pl, fl, cl⟩
    | succ r ih =>
      intro i hi z hz Tl Bk Xl pl fl cl
      have all := X0.warmed.alike.symm.trans Xl.warmed.alike
      have hAl := hA0.keep all (pl.other hne hA0.1)
      have hBk := hB0.like all pl.1 fl.1 fl.2.1 fl.2.2.1
      have hlt : q + i < Bk.slots.size := by rw [fl.2.2.1]; omega
      have c3 : Steps p.tables e below (s₁.setTop (entryFrame m #[.ref b, .int (Int32.ofNat o), .ref d, .int (Int32.ofNat q), .int (Int32.ofNat len)] 7)) (Tl.setTop (mkF m 12 #[.val (.ref b), .val (.int (Int32.ofNat (o + i))), .val (.ref d), .val (.int (Int32.ofNat (q + i))), .val (.int (Int32.ofNat len)), .val (.int (Int32.ofNat i)), z] [.int (Int32.ofNat (o + i)), .ref b])) := cl.trans (by
        refine XS.iload Xl.here hexec rfl (hb hbytes d3) rfl ?_
        refine XS.iload Xl.here hexec rfl (hb hbytes d5) rfl ?_
        refine XS.icmpNo Xl.here hexec rfl (hb hbytes d7) rfl (ii_ge_f (lt32 (by omega) (by omega))) ?_
        refine XS.aloadN Xl.here hexec rfl (hb hbytes d10) rfl rfl ?_
        refine XS.iloadN Xl.here hexec rfl (hb hbytes d11) rfl ?_
        exact Steps.refl _)
      have c4 : Steps p.tables e below (s₁.setTop (entryFrame m #[.ref b, .int (Int32.ofNat o), .ref d, .int (Int32.ofNat q), .int (Int32.ofNat len)] 7)) (Tl.setTop (mkF m 13 #[.val (.ref b), .val (.int (Int32.ofNat (o + i))), .val (.ref d), .val (.int (Int32.ofNat (q + i))), .val (.int (Int32.ofNat len)), .val (.int (Int32.ofNat i)), z] [.int (cv A (o + i))])) := c3.trans (by
        refine Xl.aget hexec hAl rfl (hA.get (i := o + i) (by omega)) rfl rfl (hb hbytes d12) ?_
        exact Steps.refl _)
      have c5 : Steps p.tables e below (s₁.setTop (entryFrame m #[.ref b, .int (Int32.ofNat o), .ref d, .int (Int32.ofNat q), .int (Int32.ofNat len)] 7)) (Tl.setTop (mkF m 15 #[.val (.ref b), .val (.int (Int32.ofNat (o + i))), .val (.ref d), .val (.int (Int32.ofNat (q + i))), .val (.int (Int32.ofNat len)), .val (.int (Int32.ofNat i)), .val (.int (cv A (o + i)))] [])) := c4.trans (by
        refine XS.istoreS Xl.here hexec rfl (hb hbytes d13) rfl rfl hz ?_
        exact Steps.refl _)
      have c6 : Steps p.tables e below (s₁.setTop (entryFrame m #[.ref b, .int (Int32.ofNat o), .ref d, .int (Int32.ofNat q), .int (Int32.ofNat len)] 7)) (Tl.setTop (mkF m 31 #[.val (.ref b), .val (.int (Int32.ofNat (o + i))), .val (.ref d), .val (.int (Int32.ofNat (q + i))), .val (.int (Int32.ofNat len)), .val (.int (Int32.ofNat i)), .val (.int (cv A (o + i)))] [.int (lo8 (cv A (o + i))), .int (Int32.ofNat (q + i)), .ref d])) := c5.trans (by
        refine XS.iload Xl.here hexec rfl (hb hbytes d15) rfl ?_
        refine sipushV Xl.here hexec rfl 255 (hb hbytes d17) (by decide) ?_
        refine XS.icmpYes Xl.here hexec rfl (pc0 := 20) rfl (hb hbytes d20) rfl (ii_le_t (hp i (by omega))) (by decide) rfl ?_
        refine XS.aloadN Xl.here hexec rfl (hb hbytes d26) rfl rfl ?_
        refine XS.iloadN Xl.here hexec rfl (hb hbytes d27) rfl ?_
        refine XS.iload Xl.here hexec rfl (hb hbytes d28) rfl ?_
        refine i2b Xl.here hexec rfl (hb hbytes d30) rfl ?_
        exact Steps.refl _)
      obtain ⟨T7, X7, p7, st7⟩ := Xl.aput hexec hBk rfl hlt rfl (fits_lo8 (cv A (o + i))) (g := (mkF m 31 #[.val (.ref b), .val (.int (Int32.ofNat (o + i))), .val (.ref d), .val (.int (Int32.ofNat (q + i))), .val (.int (Int32.ofNat len)), .val (.int (Int32.ofNat i)), .val (.int (cv A (o + i)))] [.int (lo8 (cv A (o + i))), .int (Int32.ofNat (q + i)), .ref d])) rfl (rest := []) rfl (hb hbytes d31)
      have c8 : Steps p.tables e below (s₁.setTop (entryFrame m #[.ref b, .int (Int32.ofNat o), .ref d, .int (Int32.ofNat q), .int (Int32.ofNat len)] 7)) (T7.setTop (mkF m 32 #[.val (.ref b), .val (.int (Int32.ofNat (o + i))), .val (.ref d), .val (.int (Int32.ofNat (q + i))), .val (.int (Int32.ofNat len)), .val (.int (Int32.ofNat i)), .val (.int (cv A (o + i)))] [])) := c6.trans (st7 _ (Steps.refl _))
      have c9 : Steps p.tables e below (s₁.setTop (entryFrame m #[.ref b, .int (Int32.ofNat o), .ref d, .int (Int32.ofNat q), .int (Int32.ofNat len)] 7)) (T7.setTop (mkF m 3 #[.val (.ref b), .val (.int (Int32.ofNat (o + i) + 1)), .val (.ref d), .val (.int (Int32.ofNat (q + i) + 1)), .val (.int (Int32.ofNat len)), .val (.int (Int32.ofNat i + 1)), .val (.int (cv A (o + i)))] [])) := c8.trans (by
        refine iincV X7.here hexec rfl 1 (hb hbytes d32) (by decide) rfl rfl ?_
        refine iincV X7.here hexec rfl 1 (hb hbytes d35) (by decide) rfl rfl ?_
        refine iincV X7.here hexec rfl 1 (hb hbytes d38) (by decide) rfl rfl ?_
        refine XS.goto X7.here hexec rfl (pc0 := 41) rfl (hb hbytes d41) (by decide) rfl ?_
        exact Steps.refl _)
      have c10 : Steps p.tables e below (s₁.setTop (entryFrame m #[.ref b, .int (Int32.ofNat o), .ref d, .int (Int32.ofNat q), .int (Int32.ofNat len)] 7)) (T7.setTop (mkF m 3 #[.val (.ref b), .val (.int (Int32.ofNat (o + (i + 1)))), .val (.ref d), .val (.int (Int32.ofNat (q + (i + 1)))), .val (.int (Int32.ofNat len)), .val (.int (Int32.ofNat (i + 1))), .val (.int (cv A (o + i)))] [])) := by
        have := c9
        rw [succ32, succ32, succ32] at this
        exact this
      exact ih (i + 1) (by omega) _ (Or.inr ⟨_, rfl, rfl⟩) T7 _ (by rw [copyLocs_step, ← List.append_assoc]; exact X7) (pl.trans p7) (fl.step (by omega) hlt (by simp)) c10
  obtain ⟨T9, B9, z9, X9, p9, f9, g9⟩ := loop len 0 (by omega) .unset (Or.inl rfl) s₁ B (by simpa [copyLocs] using X0) ⟨hB0.1, fun _ _ => rfl, rfl⟩ (Laid.zero _ _ _) c2
  have c11 : Steps p.tables e below (s₁.setTop (entryFrame m #[.ref b, .int (Int32.ofNat o), .ref d, .int (Int32.ofNat q), .int (Int32.ofNat len)] 7)) (T9.setTop (mkF m 46 #[.val (.ref b), .val (.int (Int32.ofNat (o + len))), .val (.ref d), .val (.int (Int32.ofNat (q + len))), .val (.int (Int32.ofNat len)), .val (.int (Int32.ofNat len)), z9] [.int (Int32.ofNat len)])) := g9.trans (by
    refine XS.iload X9.here hexec rfl (hb hbytes d3) rfl ?_
    refine XS.iload X9.here hexec rfl (hb hbytes d5) rfl ?_
    refine XS.icmpYes X9.here hexec rfl (pc0 := 7) rfl (hb hbytes d7) rfl (ii_ge_t (nlt32 (by omega) (Nat.le_refl _))) (by decide) rfl ?_
    refine XS.iload X9.here hexec rfl (hb hbytes d44) rfl ?_
    exact Steps.refl _)
  exact ⟨T9, some (.int (Int32.ofNat len)), _, _, _, X9, by simp, rfl, rfl, (fun h => by cases h), ⟨rfl, B9, p9.from hh0, f9⟩, fun fs hl => c11.trans (X9.ireturnOut hexec hret rfl (Or.inl rfl) (hb hbytes d46) hl)⟩
end Cmp5
namespace Cmp3
def yN : MethodName := ⟨"java/lang/StringUTF16", "compress", "([CII)[B"⟩
abbrev yB : ByteArray := jdk_52_method_16_code
theorem d0 : decode yB 0 = .ok (.iload_n 2, 1) := by decide +kernel
theorem d1 : decode yB 1 = .ok (.newarray .byte, 2) := by decide +kernel
theorem d3 : decode yB 3 = .ok (.astore_n 3, 1) := by decide +kernel
theorem d4 : decode yB 4 = .ok (.aload_n 0, 1) := by decide +kernel
theorem d5 : decode yB 5 = .ok (.iload_n 1, 1) := by decide +kernel
theorem d6 : decode yB 6 = .ok (.aload_n 3, 1) := by decide +kernel
theorem d7 : decode yB 7 = .ok (.iconst 0, 1) := by decide +kernel
theorem d8 : decode yB 8 = .ok (.iload_n 2, 1) := by decide +kernel
theorem d9 : decode yB 9 = .ok (.invokestatic 115, 3) := by decide +kernel
theorem d12 : decode yB 12 = .ok (.istore 4, 2) := by decide +kernel
theorem d14 : decode yB 14 = .ok (.iload 4, 2) := by decide +kernel
theorem d16 : decode yB 16 = .ok (.iload_n 2, 1) := by decide +kernel
theorem d17 : decode yB 17 = .ok (.if_icmp (.eq) 40, 3) := by decide +kernel
theorem d57 : decode yB 57 = .ok (.aload_n 3, 1) := by decide +kernel
theorem d58 : decode yB 58 = .ok (.areturn, 1) := by decide +kernel
def site : List Cond := [.arrayClass .byte, Cmp5.tab] ++ staticW U16 115 Cmp5.yN
def tab : Cond := tabOf yN yB 6 (some (.array .byte)) site
def P (b : Addr) (A : Cell) (o len : Nat) (args : Array Value) (s : State) : Prop := args = #[.ref b, .int (Int32.ofNat o), .int (Int32.ofNat len)] ∧ Ch b A s ∧ o + len ≤ A.slots.size ∧ len ≤ 536870912 ∧ ∀ i, i < len → ¬ 255 < cv A (o + i)
def E (b : Addr) (A : Cell) (o len : Nat) (r : Option Value) (s u : State) : Prop := NewArr .byte "[B" len (fun j => .int (lo8 (cv A (o + j)))) r s u ∧ u.heap.size = s.heap.size + 1
/-- no char of the range above 255: a new byte[] of their low bytes -/
theorem law (l : Launch) (b : Addr) (A : Cell) (o len : Nat) : Law l yN 3 3 1 18 yB 6 (some (.array .byte)) site (P b A o len) (E b A o len) [] 1 len := by
  refine Law.of_walk (plainFor_of_name (by decide +kernel)) (by decide +kernel) (by decide +kernel) (by decide) (fun _ _ h => by rw [h.1]; rfl) (fun _ U U' hal hh h => ⟨h.1, h.2.1.mv hal hh, h.2.2⟩) (fun r U U' V V' h1 hal h2 h => ⟨NewArr.mv r U U' V V' h1 hal h2 h.1, by rw [h1, h2]; exact h.2⟩) ?_
  intro p e s m args below meth c s₁ X0 hexec hbytes hml hret hlk hnm hown hh0 W hP
  obtain ⟨rfl, hA, l1, l2, hp⟩ := hP
  have a31 := hA.1.2.2.2
  have c1 : Steps p.tables e below (s₁.setTop (entryFrame m #[.ref b, .int (Int32.ofNat o), .int (Int32.ofNat len)] 6)) (s₁.setTop (mkF m 0 #[.val (.ref b), .val (.int (Int32.ofNat o)), .val (.int (Int32.ofNat len)), .unset, .unset, .unset] [])) := entry rfl
  have c2 : Steps p.tables e below (s₁.setTop (entryFrame m #[.ref b, .int (Int32.ofNat o), .int (Int32.ofNat len)] 6)) (s₁.setTop (mkF m 1 #[.val (.ref b), .val (.int (Int32.ofNat o)), .val (.int (Int32.ofNat len)), .unset, .unset, .unset] [.int (Int32.ofNat len)])) := c1.trans (by
    refine XS.iloadN X0.here hexec rfl (hb hbytes d0) rfl ?_
    exact Steps.refl _)
  obtain ⟨T3, B3, X3, ba3, bs3, bv3, bh3, bf3, st3⟩ := X0.anew hexec (atype := .byte) (wk W (.arrayClass .byte)) rfl (by show len * 1 ≤ _; omega) (by omega) (g := (mkF m 1 #[.val (.ref b), .val (.int (Int32.ofNat o)), .val (.int (Int32.ofNat len)), .unset, .unset, .unset] [.int (Int32.ofNat len)])) rfl (hb hbytes d1) (rest := []) rfl (Nat.le_refl _) (by show 0 + len ≤ len; omega)
  rw [hh0] at ba3 st3
  have kp3 : XT.Kept s T3 := (XT.Kept.of_eq hh0).push bh3
  have hA3 := hA.keep X3.warmed.alike (kp3 _ _ hA.1.1)
  have hne : b ≠ s.heap.size := hA.1.ne
  have c4 : Steps p.tables e below (s₁.setTop (entryFrame m #[.ref b, .int (Int32.ofNat o), .int (Int32.ofNat len)] 6)) (T3.setTop (mkF m 3 #[.val (.ref b), .val (.int (Int32.ofNat o)), .val (.int (Int32.ofNat len)), .unset, .unset, .unset] [.ref s.heap.size])) := c2.trans (st3 _ (Steps.refl _))
  have c5 : Steps p.tables e below (s₁.setTop (entryFrame m #[.ref b, .int (Int32.ofNat o), .int (Int32.ofNat len)] 6)) (T3.setTop (mkF m 9 #[.val (.ref b), .val (.int (Int32.ofNat o)), .val (.int (Int32.ofNat len)), .val (.ref s.heap.size), .unset, .unset] [.int (Int32.ofNat len), .int 0, .ref s.heap.size, .int (Int32.ofNat o), .ref b])) := c4.trans (by
    refine XS.astoreN X3.here hexec rfl (hb hbytes d3) rfl rfl rfl ?_
    refine XS.aloadN X3.here hexec rfl (hb hbytes d4) rfl rfl ?_
    refine XS.iloadN X3.here hexec rfl (hb hbytes d5) rfl ?_
    refine XS.aloadN X3.here hexec rfl (hb hbytes d6) rfl rfl ?_
    refine iconstV X3.here hexec rfl 0 (hb hbytes d7) (by decide) ?_
    refine XS.iloadN X3.here hexec rfl (hb hbytes d8) rfl ?_
    exact Steps.refl _)
  obtain ⟨v6, T6, X6, E6, g6⟩ := X3.callS hexec (Cmp5.law l b A s.heap.size B3 o 0 len) hown (wks W (staticW U16 115 Cmp5.yN)) (wk W Cmp5.tab) (W := 0) (Nat.le_of_ble_eq_true rfl) (Nat.le_of_ble_eq_true rfl) (Nat.le_refl _) (by show 0 + len + 0 ≤ len; omega) (g := (mkF m 9 #[.val (.ref b), .val (.int (Int32.ofNat o)), .val (.int (Int32.ofNat len)), .val (.ref s.heap.size), .unset, .unset] [.int (Int32.ofNat len), .int (Int32.ofNat 0), .ref s.heap.size, .int (Int32.ofNat o), .ref b])) rfl (by rw [hml]; rfl) c5 (argsL := [.ref b, .int (Int32.ofNat o), .ref s.heap.size, .int (Int32.ofNat 0), .int (Int32.ofNat len)]) (rest := []) rfl rfl (by show 2 * 0 + 0 ≤ _; decide) (hb hbytes d9) (⟨rfl, hA3, ba3, hne, l1, by rw [bs3]; simp, hp⟩)
  obtain ⟨rfl, B6, p6, f6⟩ := E6
  have c7 : Steps p.tables e below (s₁.setTop (entryFrame m #[.ref b, .int (Int32.ofNat o), .int (Int32.ofNat len)] 6)) (T6.setTop (mkF m 12 #[.val (.ref b), .val (.int (Int32.ofNat o)), .val (.int (Int32.ofNat len)), .val (.ref s.heap.size), .unset, .unset] [.int (Int32.ofNat len)])) := g6
  have c8 : Steps p.tables e below (s₁.setTop (entryFrame m #[.ref b, .int (Int32.ofNat o), .int (Int32.ofNat len)] 6)) (T6.setTop (mkF m 58 #[.val (.ref b), .val (.int (Int32.ofNat o)), .val (.int (Int32.ofNat len)), .val (.ref s.heap.size), .val (.int (Int32.ofNat len)), .unset] [.ref s.heap.size])) := c7.trans (by
    refine XS.istore X6.here hexec rfl (hb hbytes d12) rfl rfl ?_
    refine XS.iload X6.here hexec rfl (hb hbytes d14) rfl ?_
    refine XS.iloadN X6.here hexec rfl (hb hbytes d16) rfl ?_
    refine XS.icmpYes X6.here hexec rfl (pc0 := 17) rfl (hb hbytes d17) rfl (ii_eq_t rfl) (by decide) rfl ?_
    refine XS.aloadN X6.here hexec rfl (hb hbytes d57) rfl rfl ?_
    exact Steps.refl _)
  have X8 := X6.wide (L' := []) (cells' := 1) (slots' := len) (fun x hx hlt => by
    simp only [List.nil_append, copyLocs, List.mem_map, List.mem_range] at hx
    obtain ⟨i, -, rfl⟩ := hx
    exact absurd hlt (Nat.lt_irrefl _)) (Nat.le_refl _) (by omega)
  exact ⟨T6, some (.ref s.heap.size), _, _, _, X8, rfl, rfl, rfl, (fun h => by cases h), ⟨⟨rfl, B6, ba3.like (X3.warmed.alike.symm.trans X6.warmed.alike) p6.1 f6.1 f6.2.1 f6.2.2.1, f6.2.1.trans bv3, by rw [X6.warmed.alike.findClass, f6.1]; exact bf3, by rw [f6.2.2.1, bs3]; simp, fun j hj => by rw [f6.2.2.2 j, if_pos (by omega)]; rfl, kp3.put p6 (Nat.le_refl _)⟩, by rw [p6.2.2, bh3, hh0]; simp⟩, fun fs hl => c8.trans (X8.areturnOut hexec rfl hret rfl (hb hbytes d58) hl)⟩
end Cmp3
namespace CodL
def yN : MethodName := ⟨"java/lang/StringUTF16", "coderFromArrayLen", "([BI)B"⟩
abbrev yB : ByteArray := jdk_52_method_15_code
theorem d0 : decode yB 0 = .ok (.iload_n 1, 1) := by decide +kernel
theorem d1 : decode yB 1 = .ok (.aload_n 0, 1) := by decide +kernel
theorem d2 : decode yB 2 = .ok (.arraylength, 1) := by decide +kernel
theorem d3 : decode yB 3 = .ok (.isub, 1) := by decide +kernel
theorem d4 : decode yB 4 = .ok (.bipush 31, 2) := by decide +kernel
theorem d6 : decode yB 6 = .ok (.iushr, 1) := by decide +kernel
theorem d7 : decode yB 7 = .ok (.i2b, 1) := by decide +kernel
theorem d8 : decode yB 8 = .ok (.ireturn, 1) := by decide +kernel
def site : List Cond := []
def tab : Cond := tabOf yN yB 2 (some .byte) site
def P (d : Addr) (B : Cell) (args : Array Value) (s : State) : Prop := args = #[.ref d, .int (Int32.ofNat B.slots.size)] ∧ Arr .byte d B s
def E (r : Option Value) (s u : State) : Prop := XT.PureE (some (.int 0)) r s u
/-- an array as long as the number of chars: LATIN1 -/
theorem law (l : Launch) (d : Addr) (B : Cell) : Law l yN 2 2 0 0 yB 2 (some .byte) site (P d B) E [] 0 0 := by
  refine Law.of_walk (plainFor_of_name (by decide +kernel)) (by decide +kernel) (by decide +kernel) (by decide) (fun _ _ h => by rw [h.1]; rfl) (fun _ U U' hal hh h => ⟨h.1, h.2.mv hal hh⟩) (fun r U U' V V' h1 hal h2 h => XT.PureE.mv r U U' V V' h1 hal h2 h) ?_
  intro p e s m args below meth c s₁ X0 hexec hbytes hml hret hlk hnm hown hh0 W hP
  obtain ⟨rfl, hB⟩ := hP
  have hB0 := hB.mv X0.warmed.alike hh0
  have c1 : Steps p.tables e below (s₁.setTop (entryFrame m #[.ref d, .int (Int32.ofNat B.slots.size)] 2)) (s₁.setTop (mkF m 0 #[.val (.ref d), .val (.int (Int32.ofNat B.slots.size))] [])) := entry rfl
  have c2 : Steps p.tables e below (s₁.setTop (entryFrame m #[.ref d, .int (Int32.ofNat B.slots.size)] 2)) (s₁.setTop (mkF m 2 #[.val (.ref d), .val (.int (Int32.ofNat B.slots.size))] [.ref d, .int (Int32.ofNat B.slots.size)])) := c1.trans (by
    refine XS.iloadN X0.here hexec rfl (hb hbytes d0) rfl ?_
    refine XS.aloadN X0.here hexec rfl (hb hbytes d1) rfl rfl ?_
    exact Steps.refl _)
  have c3 : Steps p.tables e below (s₁.setTop (entryFrame m #[.ref d, .int (Int32.ofNat B.slots.size)] 2)) (s₁.setTop (mkF m 8 #[.val (.ref d), .val (.int (Int32.ofNat B.slots.size))] [.int (lo8 (ushr (Int32.ofNat B.slots.size - Int32.ofNat B.slots.size) 31))])) := c2.trans (by
    refine X0.alen hexec hB0 rfl rfl (hb hbytes d2) ?_
    refine XS.isub X0.here hexec rfl (hb hbytes d3) rfl ?_
    refine bipushV X0.here hexec rfl 31 (hb hbytes d4) (by decide) ?_
    refine iushr X0.here hexec rfl (hb hbytes d6) rfl ?_
    refine i2b X0.here hexec rfl (hb hbytes d7) rfl ?_
    exact Steps.refl _)
  have e0 : lo8 (ushr (Int32.ofNat B.slots.size - Int32.ofNat B.slots.size) 31) = 0 := by rw [Int32.sub_self]; decide
  rw [e0] at c3
  exact ⟨s₁, some (.int 0), _, _, _, X0, rfl, rfl, rfl, (fun h => by cases h), ⟨rfl, hh0⟩, fun fs hl => c3.trans (X0.ireturnOut hexec hret rfl (Or.inr (Or.inr (Or.inl rfl))) (hb hbytes d8) hl)⟩
end CodL
/-- the String at a is Latin-1 over a new byte[] (the heap's one new cell): the low bytes of the len chars of A from o on; every cell but a is kept -/
def Got (a : Addr) (D : Cell) (fV fC : Field) (A : Cell) (o len : Nat) (r : Option Value) (s u : State) : Prop := r = none ∧ ∃ D' V : Cell, Blank "java/lang/String" a D' u ∧ Same D D' [fV.slot, fC.slot] ∧ D'.slots[fV.slot]? = some (.ref s.heap.size) ∧ D'.slots[fC.slot]? = some (.int 0) ∧ Arr .byte s.heap.size V u ∧ V.vm = .none ∧ u.vm.findClass "[B" = some V.cls ∧ V.slots.size = len ∧ (∀ j, j < len → V.slots[j]? = some (.int (lo8 (cv A (o + j))))) ∧ (∀ (y : Addr) (c : Cell), y ≠ a → s.heap[y]? = some c → u.heap[y]? = some c) ∧ u.heap.size = s.heap.size + 1
theorem Got.mv {a : Addr} {D A : Cell} {fV fC : Field} {o len : Nat} : ∀ r (U U' V V' : State), U'.heap = U.heap → V.vm.Alike V'.vm → V'.heap = V.heap → Got a D fV fC A o len r U V → Got a D fV fC A o len r U' V' :=
  fun r U U' V V' h1 hal h2 ⟨e0, D', X, a1, a2, a3, a4, a5, a6, a7, a8, a9, a10, a11⟩ => ⟨e0, D', X, a1.mv hal h2, a2, by rw [h1]; exact a3, a4, by rw [h1]; exact a5.mv hal h2, a6, by rw [hal.findClass]; exact a7, a8, a9, by rw [h1, h2]; exact a10, by rw [h1, h2]; exact a11⟩
namespace New4
def yN : MethodName := ⟨"java/lang/String", "<init>", "([CIILjava/lang/Void;)V"⟩
abbrev yB : ByteArray := jdk_42_method_149_code
theorem d0 : decode yB 0 = .ok (.aload_n 0, 1) := by decide +kernel
theorem d1 : decode yB 1 = .ok (.invokespecial 1, 3) := by decide +kernel
theorem d4 : decode yB 4 = .ok (.iload_n 3, 1) := by decide +kernel
theorem d5 : decode yB 5 = .ok (.ifCond (.ne) 22, 3) := by decide +kernel
theorem d27 : decode yB 27 = .ok (.getstatic 38, 3) := by decide +kernel
theorem d30 : decode yB 30 = .ok (.ifCond (.eq) 28, 3) := by decide +kernel
theorem d33 : decode yB 33 = .ok (.aload_n 1, 1) := by decide +kernel
theorem d34 : decode yB 34 = .ok (.iload_n 2, 1) := by decide +kernel
theorem d35 : decode yB 35 = .ok (.iload_n 3, 1) := by decide +kernel
theorem d36 : decode yB 36 = .ok (.invokestatic 177, 3) := by decide +kernel
theorem d39 : decode yB 39 = .ok (.astore 5, 2) := by decide +kernel
theorem d41 : decode yB 41 = .ok (.aload_n 0, 1) := by decide +kernel
theorem d42 : decode yB 42 = .ok (.aload 5, 2) := by decide +kernel
theorem d44 : decode yB 44 = .ok (.iload_n 3, 1) := by decide +kernel
theorem d45 : decode yB 45 = .ok (.invokestatic 47, 3) := by decide +kernel
theorem d48 : decode yB 48 = .ok (.putfield 15, 3) := by decide +kernel
theorem d51 : decode yB 51 = .ok (.aload_n 0, 1) := by decide +kernel
theorem d52 : decode yB 52 = .ok (.aload 5, 2) := by decide +kernel
theorem d54 : decode yB 54 = .ok (.putfield 9, 3) := by decide +kernel
theorem d57 : decode yB 57 = .ok (.return_, 1) := by decide +kernel
def site : List Cond := [.fieldLink "java/lang/String" 38 "java/lang/String" "COMPACT_STRINGS" "Z", Cmp3.tab, CodL.tab, .laysFinal "java/lang/String" "java/lang/String" "value" "[B", .fieldLink "java/lang/String" 9 "java/lang/String" "value" "[B", .laysFinal "java/lang/String" "java/lang/String" "coder" "B", .fieldLink "java/lang/String" 15 "java/lang/String" "coder" "B"] ++ objW "java/lang/String" 1 ++ staticW "java/lang/String" 177 Cmp3.yN ++ staticW "java/lang/String" 47 CodL.yN
def tab : Cond := tabOf yN yB 6 none site
def P (a : Addr) (D : Cell) (fV fC : Field) (b : Addr) (A : Cell) (z : Int32) (o len : Nat) (args : Array Value) (s : State) : Prop := args = #[.ref a, .ref b, .int (Int32.ofNat o), .int (Int32.ofNat len), .null] ∧ Blank "java/lang/String" a D s ∧ Found "java/lang/String" "value" "[B" fV s ∧ Found "java/lang/String" "coder" "B" fC s ∧ Ch b A s ∧ StaticIs s "java/lang/String" "COMPACT_STRINGS" "Z" (.int z) ∧ ¬ z = 0 ∧ 0 < len ∧ o + len ≤ A.slots.size ∧ len ≤ 536870912 ∧ ∀ i, i < len → ¬ 255 < cv A (o + i)
def E (a : Addr) (D : Cell) (fV fC : Field) (A : Cell) (o len : Nat) (r : Option Value) (s u : State) : Prop := Got a D fV fC A o len r s u
/-- len > 0, no char of the range above 255: a Latin-1 String of their low bytes -/
theorem law (l : Launch) (a : Addr) (D : Cell) (fV fC : Field) (b : Addr) (A : Cell) (z : Int32) (o len : Nat) : Law l yN 5 4 2 35 yB 6 none site (P a D fV fC b A z o len) (E a D fV fC A o len) [⟨a, fC.slot⟩, ⟨a, fV.slot⟩] 1 len := by
  refine Law.of_walk (plainFor_of_name (by decide +kernel)) (by decide +kernel) (by decide +kernel) (by decide) (fun _ _ h => by rw [h.1]; rfl) (fun _ U U' hal hh h => ⟨h.1, h.2.1.mv hal hh, h.2.2.1.al hal, h.2.2.2.1.al hal, h.2.2.2.2.1.mv hal hh, h.2.2.2.2.2.1.there hal hh, h.2.2.2.2.2.2⟩) (fun r U U' V V' h1 hal h2 h => Got.mv r U U' V V' h1 hal h2 h) ?_
  intro p e s m args below meth c s₁ X0 hexec hbytes hml hret hlk hnm hown hh0 W hP
  obtain ⟨rfl, hB, f1, f2, hA, s1, hz, l0, l1, l2, hp⟩ := hP
  have a31 := hA.1.2.2.2
  have c1 : Steps p.tables e below (s₁.setTop (entryFrame m #[.ref a, .ref b, .int (Int32.ofNat o), .int (Int32.ofNat len), .null] 6)) (s₁.setTop (mkF m 0 #[.val (.ref a), .val (.ref b), .val (.int (Int32.ofNat o)), .val (.int (Int32.ofNat len)), .val .null, .unset] [])) := entry rfl
  have c2 : Steps p.tables e below (s₁.setTop (entryFrame m #[.ref a, .ref b, .int (Int32.ofNat o), .int (Int32.ofNat len), .null] 6)) (s₁.setTop (mkF m 1 #[.val (.ref a), .val (.ref b), .val (.int (Int32.ofNat o)), .val (.int (Int32.ofNat len)), .val .null, .unset] [.ref a])) := c1.trans (by
    refine XS.aloadN X0.here hexec rfl (hb hbytes d0) rfl rfl ?_
    exact Steps.refl _)
  obtain ⟨T3, X3, q3, st3⟩ := X0.oinit hexec hown (wks W (objW "java/lang/String" 1)) (g := (mkF m 1 #[.val (.ref a), .val (.ref b), .val (.int (Int32.ofNat o)), .val (.int (Int32.ofNat len)), .val .null, .unset] [.ref a])) rfl (by rw [hml]; rfl) (rest := []) rfl (hb hbytes d1) (W := 0) (by show 2 * 0 + 0 ≤ _; decide) (Nat.le_of_ble_eq_true rfl) (Nat.le_of_ble_eq_true rfl)
  have hh3 := q3.trans hh0
  have c4 : Steps p.tables e below (s₁.setTop (entryFrame m #[.ref a, .ref b, .int (Int32.ofNat o), .int (Int32.ofNat len), .null] 6)) (T3.setTop (mkF m 27 #[.val (.ref a), .val (.ref b), .val (.int (Int32.ofNat o)), .val (.int (Int32.ofNat len)), .val .null, .unset] [])) := (c2.trans (st3 _ (Steps.refl _))).trans (by
    refine XS.iloadN X3.here hexec rfl (hb hbytes d4) rfl ?_
    refine XS.ifYes X3.here hexec rfl (pc0 := 5) rfl (hb hbytes d5) rfl (i0_ne_t (nz32 (by omega) l0)) (by decide) rfl ?_
    exact Steps.refl _)
  obtain ⟨T5, X5, q5, st5⟩ := X3.sget hexec hown (wk W (.fieldLink "java/lang/String" 38 "java/lang/String" "COMPACT_STRINGS" "Z")) s1 (fun _ _ h => by rw [hh3]; exact h) (g := (mkF m 27 #[.val (.ref a), .val (.ref b), .val (.int (Int32.ofNat o)), .val (.int (Int32.ofNat len)), .val .null, .unset] [])) rfl (hb hbytes d27)
  have hh5 := q5.trans hh3
  have c6 : Steps p.tables e below (s₁.setTop (entryFrame m #[.ref a, .ref b, .int (Int32.ofNat o), .int (Int32.ofNat len), .null] 6)) (T5.setTop (mkF m 30 #[.val (.ref a), .val (.ref b), .val (.int (Int32.ofNat o)), .val (.int (Int32.ofNat len)), .val .null, .unset] [.int z])) := c4.trans (st5 _ (Steps.refl _))
  have c7 : Steps p.tables e below (s₁.setTop (entryFrame m #[.ref a, .ref b, .int (Int32.ofNat o), .int (Int32.ofNat len), .null] 6)) (T5.setTop (mkF m 36 #[.val (.ref a), .val (.ref b), .val (.int (Int32.ofNat o)), .val (.int (Int32.ofNat len)), .val .null, .unset] [.int (Int32.ofNat len), .int (Int32.ofNat o), .ref b])) := c6.trans (by
    refine XS.ifNo X5.here hexec rfl (hb hbytes d30) rfl (i0_eq_f hz) ?_
    refine XS.aloadN X5.here hexec rfl (hb hbytes d33) rfl rfl ?_
    refine XS.iloadN X5.here hexec rfl (hb hbytes d34) rfl ?_
    refine XS.iloadN X5.here hexec rfl (hb hbytes d35) rfl ?_
    exact Steps.refl _)
  obtain ⟨v8, T8, X8, E8, g8⟩ := X5.callS hexec (Cmp3.law l b A o len) hown (wks W (staticW "java/lang/String" 177 Cmp3.yN)) (wk W Cmp3.tab) (W := 0) (Nat.le_of_ble_eq_true rfl) (Nat.le_of_ble_eq_true rfl) (Nat.le_refl _) (by show 0 + len ≤ len; omega) (g := (mkF m 36 #[.val (.ref a), .val (.ref b), .val (.int (Int32.ofNat o)), .val (.int (Int32.ofNat len)), .val .null, .unset] [.int (Int32.ofNat len), .int (Int32.ofNat o), .ref b])) rfl (by rw [hml]; rfl) c7 (argsL := [.ref b, .int (Int32.ofNat o), .int (Int32.ofNat len)]) (rest := []) rfl rfl (by show 2 * 0 + 0 ≤ _; decide) (hb hbytes d36) (⟨rfl, hA.mv X5.warmed.alike hh5, l1, l2, hp⟩)
  obtain ⟨e8, z8⟩ := E8
  obtain ⟨rfl, N, n1, n2, n3, n4, n5, n6⟩ := NewArr.mv _ T5 s _ _ hh5.symm (Vm.Alike.refl _) rfl e8
  rw [hh5] at z8
  have hB1 := hB.keep X8.warmed.alike (n6 _ _ hB.1)
  have hne : s.heap.size ≠ a := (Nat.ne_of_lt (Array.getElem?_eq_some_iff.mp hB.1).1).symm
  have c9 : Steps p.tables e below (s₁.setTop (entryFrame m #[.ref a, .ref b, .int (Int32.ofNat o), .int (Int32.ofNat len), .null] 6)) (T8.setTop (mkF m 39 #[.val (.ref a), .val (.ref b), .val (.int (Int32.ofNat o)), .val (.int (Int32.ofNat len)), .val .null, .unset] [.ref s.heap.size])) := g8
  have c10 : Steps p.tables e below (s₁.setTop (entryFrame m #[.ref a, .ref b, .int (Int32.ofNat o), .int (Int32.ofNat len), .null] 6)) (T8.setTop (mkF m 45 #[.val (.ref a), .val (.ref b), .val (.int (Int32.ofNat o)), .val (.int (Int32.ofNat len)), .val .null, .val (.ref s.heap.size)] [.int (Int32.ofNat N.slots.size), .ref s.heap.size, .ref a])) := by
    have hc : Steps p.tables e below (s₁.setTop (entryFrame m #[.ref a, .ref b, .int (Int32.ofNat o), .int (Int32.ofNat len), .null] 6)) (T8.setTop (mkF m 45 #[.val (.ref a), .val (.ref b), .val (.int (Int32.ofNat o)), .val (.int (Int32.ofNat len)), .val .null, .val (.ref s.heap.size)] [.int (Int32.ofNat len), .ref s.heap.size, .ref a])) := c9.trans (by
      refine XS.astore X8.here hexec rfl (hb hbytes d39) rfl rfl rfl ?_
      refine XS.aloadN X8.here hexec rfl (hb hbytes d41) rfl rfl ?_
      refine XS.aload X8.here hexec rfl (hb hbytes d42) rfl rfl ?_
      refine XS.iloadN X8.here hexec rfl (hb hbytes d44) rfl ?_
      exact Steps.refl _)
    rw [n4]; exact hc
  obtain ⟨v11, T11, X11, E11, g11⟩ := X8.callS hexec (CodL.law l s.heap.size N) hown (wks W (staticW "java/lang/String" 47 CodL.yN)) (wk W CodL.tab) (W := 1) (Nat.le_of_ble_eq_true rfl) (Nat.le_of_ble_eq_true rfl) (Nat.le_refl _) (by show 0 + len + 0 ≤ len; omega) (g := (mkF m 45 #[.val (.ref a), .val (.ref b), .val (.int (Int32.ofNat o)), .val (.int (Int32.ofNat len)), .val .null, .val (.ref s.heap.size)] [.int (Int32.ofNat N.slots.size), .ref s.heap.size, .ref a])) rfl (by rw [hml]; rfl) c10 (argsL := [.ref s.heap.size, .int (Int32.ofNat N.slots.size)]) (rest := [.ref a]) rfl rfl (by show 2 * 0 + (1 + 0) ≤ _; decide) (hb hbytes d45) (⟨rfl, n1⟩)
  obtain ⟨rfl, q11⟩ := E11
  have hB11 := hB1.mv (X8.warmed.alike.symm.trans X11.warmed.alike) q11
  have c12 : Steps p.tables e below (s₁.setTop (entryFrame m #[.ref a, .ref b, .int (Int32.ofNat o), .int (Int32.ofNat len), .null] 6)) (T11.setTop (mkF m 48 #[.val (.ref a), .val (.ref b), .val (.int (Int32.ofNat o)), .val (.int (Int32.ofNat len)), .val .null, .val (.ref s.heap.size)] [.int 0, .ref a])) := g11
  obtain ⟨T13, X13, p13, bl13, sl13, st13⟩ := X11.finit hexec hown (wk W (.fieldLink "java/lang/String" 15 "java/lang/String" "coder" "B")) (Or.inr ⟨_, (wk W (.laysFinal "java/lang/String" "java/lang/String" "coder" "B"))⟩) (Or.inl ⟨rfl, hnm⟩) f2 (Or.inl rfl) hB11 (t := .byte) (by decide +kernel) rfl (g := (mkF m 48 #[.val (.ref a), .val (.ref b), .val (.int (Int32.ofNat o)), .val (.int (Int32.ofNat len)), .val .null, .val (.ref s.heap.size)] [.int 0, .ref a])) rfl (rest := []) rfl (hb hbytes d48)
  have c14 : Steps p.tables e below (s₁.setTop (entryFrame m #[.ref a, .ref b, .int (Int32.ofNat o), .int (Int32.ofNat len), .null] 6)) (T13.setTop (mkF m 54 #[.val (.ref a), .val (.ref b), .val (.int (Int32.ofNat o)), .val (.int (Int32.ofNat len)), .val .null, .val (.ref s.heap.size)] [.ref s.heap.size, .ref a])) := (c12.trans (st13 _ (Steps.refl _))).trans (by
    refine XS.aloadN X13.here hexec rfl (hb hbytes d51) rfl rfl ?_
    refine XS.aload X13.here hexec rfl (hb hbytes d52) rfl rfl ?_
    exact Steps.refl _)
  obtain ⟨T15, X15, p15, bl15, sl15, st15⟩ := X13.finit hexec hown (wk W (.fieldLink "java/lang/String" 9 "java/lang/String" "value" "[B")) (Or.inr ⟨_, (wk W (.laysFinal "java/lang/String" "java/lang/String" "value" "[B"))⟩) (Or.inl ⟨rfl, hnm⟩) f1 (Or.inl rfl) bl13 (t := (.array .byte)) (by decide +kernel) rfl (g := (mkF m 54 #[.val (.ref a), .val (.ref b), .val (.int (Int32.ofNat o)), .val (.int (Int32.ofNat len)), .val .null, .val (.ref s.heap.size)] [.ref s.heap.size, .ref a])) rfl (rest := []) rfl (hb hbytes d54)
  have c16 : Steps p.tables e below (s₁.setTop (entryFrame m #[.ref a, .ref b, .int (Int32.ofNat o), .int (Int32.ofNat len), .null] 6)) (T15.setTop (mkF m 57 #[.val (.ref a), .val (.ref b), .val (.int (Int32.ofNat o)), .val (.int (Int32.ofNat len)), .val .null, .val (.ref s.heap.size)] [])) := c14.trans (st15 _ (Steps.refl _))
  have ap := apart (Or.inr ⟨_, (wk W (.laysFinal "java/lang/String" "java/lang/String" "value" "[B"))⟩) (Or.inr ⟨_, (wk W (.laysFinal "java/lang/String" "java/lang/String" "coder" "B"))⟩) f1 f2 (t₁ := .array .byte) (t₂ := .byte) (by decide +kernel) (by decide +kernel) (by decide)
  have al := X8.warmed.alike.symm.trans X15.warmed.alike
  have n7 : T11.heap[s.heap.size]? = some N := by rw [q11]; exact n1.1
  exact ⟨T15, none, _, _, _, X15, by simp, rfl, by omega, (fun _ => rfl), ⟨rfl, _, N, bl15, ((Same.refl D _).set _ (by simp)).set _ (by simp), sl15, (Cell.slots_setSlot_ne _ ap).trans sl13, n1.keep al (p15.other hne (p13.other hne n7)), n2, by rw [al.findClass]; exact n3, n4, n5, fun y c h1 h2 => p15.other h1 (p13.other h1 (by rw [q11]; exact n6 y c h2)), by rw [p15.2.2, p13.2.2, q11]; exact z8⟩, fun fs hl => c16.trans (X15.returnOut hexec hret (hb hbytes d57) hl)⟩
end New4
namespace New1
def yN : MethodName := ⟨"java/lang/String", "<init>", "([C)V"⟩
abbrev yB : ByteArray := jdk_42_method_3_code
theorem d0 : decode yB 0 = .ok (.aload_n 0, 1) := by decide +kernel
theorem d1 : decode yB 1 = .ok (.aload_n 1, 1) := by decide +kernel
theorem d2 : decode yB 2 = .ok (.iconst 0, 1) := by decide +kernel
theorem d3 : decode yB 3 = .ok (.aload_n 1, 1) := by decide +kernel
theorem d4 : decode yB 4 = .ok (.arraylength, 1) := by decide +kernel
theorem d5 : decode yB 5 = .ok (.aconst_null, 1) := by decide +kernel
theorem d6 : decode yB 6 = .ok (.invokespecial 27, 3) := by decide +kernel
theorem d9 : decode yB 9 = .ok (.return_, 1) := by decide +kernel
def site : List Cond := [New4.tab] ++ initW "java/lang/String" 27 New4.yN
def tab : Cond := tabOf yN yB 2 none site
def P (a : Addr) (D : Cell) (fV fC : Field) (b : Addr) (A : Cell) (z : Int32) (args : Array Value) (s : State) : Prop := args = #[.ref a, .ref b] ∧ Blank "java/lang/String" a D s ∧ Found "java/lang/String" "value" "[B" fV s ∧ Found "java/lang/String" "coder" "B" fC s ∧ Ch b A s ∧ StaticIs s "java/lang/String" "COMPACT_STRINGS" "Z" (.int z) ∧ ¬ z = 0 ∧ 0 < A.slots.size ∧ A.slots.size ≤ 536870912 ∧ ∀ i, i < A.slots.size → ¬ 255 < cv A i
def E (a : Addr) (D : Cell) (fV fC : Field) (A : Cell) (r : Option Value) (s u : State) : Prop := Got a D fV fC A 0 A.slots.size r s u
/-- new String(chars), not empty, no char above 255: a Latin-1 String of their low bytes -/
theorem law (l : Launch) (a : Addr) (D : Cell) (fV fC : Field) (b : Addr) (A : Cell) (z : Int32) : Law l yN 2 1 3 52 yB 2 none site (P a D fV fC b A z) (E a D fV fC A) [⟨a, fC.slot⟩, ⟨a, fV.slot⟩] 1 A.slots.size := by
  refine Law.of_walk (plainFor_of_name (by decide +kernel)) (by decide +kernel) (by decide +kernel) (by decide) (fun _ _ h => by rw [h.1]; rfl) (fun _ U U' hal hh h => ⟨h.1, h.2.1.mv hal hh, h.2.2.1.al hal, h.2.2.2.1.al hal, h.2.2.2.2.1.mv hal hh, h.2.2.2.2.2.1.there hal hh, h.2.2.2.2.2.2⟩) (fun r U U' V V' h1 hal h2 h => Got.mv r U U' V V' h1 hal h2 h) ?_
  intro p e s m args below meth c s₁ X0 hexec hbytes hml hret hlk hnm hown hh0 W hP
  obtain ⟨rfl, hB, f1, f2, hA, s1, hz, l0, l2, hp⟩ := hP
  have c1 : Steps p.tables e below (s₁.setTop (entryFrame m #[.ref a, .ref b] 2)) (s₁.setTop (mkF m 0 #[.val (.ref a), .val (.ref b)] [])) := entry rfl
  have c2 : Steps p.tables e below (s₁.setTop (entryFrame m #[.ref a, .ref b] 2)) (s₁.setTop (mkF m 6 #[.val (.ref a), .val (.ref b)] [.null, .int (Int32.ofNat A.slots.size), .int 0, .ref b, .ref a])) := c1.trans (by
    refine XS.aloadN X0.here hexec rfl (hb hbytes d0) rfl rfl ?_
    refine XS.aloadN X0.here hexec rfl (hb hbytes d1) rfl rfl ?_
    refine iconstV X0.here hexec rfl 0 (hb hbytes d2) (by decide) ?_
    refine XS.aloadN X0.here hexec rfl (hb hbytes d3) rfl rfl ?_
    refine X0.alen hexec (hA.1.mv X0.warmed.alike hh0) rfl rfl (hb hbytes d4) ?_
    refine XS.aconstNull X0.here hexec rfl (hb hbytes d5) ?_
    exact Steps.refl _)
  obtain ⟨v3, T3, X3, E3, g3⟩ := X0.callN hexec (New4.law l a D fV fC b A z 0 A.slots.size) rfl hown (wks W (initW "java/lang/String" 27 New4.yN)) (W New4.tab (by simp only [site, List.mem_cons, List.mem_append, true_or, or_true])) (W := 0) (Nat.le_of_ble_eq_true rfl) (Nat.le_of_ble_eq_true rfl) (Nat.le_refl _) (by show 0 + A.slots.size ≤ A.slots.size; omega) (g := (mkF m 6 #[.val (.ref a), .val (.ref b)] [.null, .int (Int32.ofNat A.slots.size), .int (Int32.ofNat 0), .ref b, .ref a])) rfl (by rw [hml]; rfl) c2 (argsL := [.ref b, .int (Int32.ofNat 0), .int (Int32.ofNat A.slots.size), .null]) (rest := []) rfl rfl (by show 2 * 0 + 0 ≤ _; decide) (hb hbytes d6) (⟨rfl, hB.mv X0.warmed.alike hh0, f1.al X0.warmed.alike, f2.al X0.warmed.alike, hA.mv X0.warmed.alike hh0, s1.there X0.warmed.alike hh0, hz, l0, by omega, l2, fun i hi => by rw [Nat.zero_add]; exact hp i hi⟩)
  have e0 := Got.mv _ s₁ s _ _ hh0.symm (Vm.Alike.refl _) rfl E3
  obtain rfl := e0.1
  have c4 : Steps p.tables e below (s₁.setTop (entryFrame m #[.ref a, .ref b] 2)) (T3.setTop (mkF m 9 #[.val (.ref a), .val (.ref b)] [])) := g3
  exact ⟨T3, none, _, _, _, X3, by simp, rfl, by omega, (fun _ => rfl), e0, fun fs hl => c4.trans (X3.returnOut hexec hret (hb hbytes d9) hl)⟩
theorem pays {l : Launch} {R : Room} {p : Program} {e : Env} {below : List Frame} {s : State} {sargs : Array Value} {len W : Nat} (a : Addr) (D : Cell) (fV fC : Field) (b : Addr) (A : Cell) (z : Int32) (htab : tab.before sargs s = true) (hfr : 4 ≤ R.frames) (hlo : W + 65 ≤ R.locals) :
    Back l R p e below s sargs yN len W (fun A₁ a₁ => A₁.cells + 1 ≤ R.cells ∧ A₁.slots + A.slots.size ≤ R.slots ∧ P a D fV fC b A z a₁ A₁.U) (fun A₁ _ v₁ B₁ => E a D fV fC A v₁ A₁.U B₁.U ∧ B₁.locs = A₁.locs ++ [⟨a, fC.slot⟩, ⟨a, fV.slot⟩] ∧ B₁.cells = A₁.cells + 1 ∧ B₁.slots = A₁.slots + A.slots.size) :=
  (law l a D fV fC b A z).pays htab hfr (by omega)
end New1
/-- the byte, read back as charAt reads it, is the char -/
theorem lo8_mask {x : Int32} (h0 : ¬ x < 0) (h1 : ¬ 255 < x) : lo8 x &&& 255 = x := by
  have t : ∀ k : Fin 256, lo8 (Int32.ofNat k.val) &&& 255 = Int32.ofNat k.val := by decide +kernel
  rw [Int32.lt_iff_toInt_lt] at h0 h1
  have e0 : (0 : Int32).toInt = 0 := rfl
  have e1 : (255 : Int32).toInt = 255 := rfl
  obtain ⟨k, hk⟩ : ∃ k : Nat, x.toInt = k := ⟨x.toInt.toNat, by omega⟩
  have hx : x = Int32.ofNat k := Int32.toInt_inj.mp (by rw [hk, Int32.toInt_ofNat_small (by omega)])
  rw [hx]
  exact t ⟨k, by omega⟩
end StrChars
namespace StrChars.Road
open Jvm Sem ClassFile Op Lib Jvm.Stand Jvm.Free Jvm.Free.XT
open Jvm.Lib.Cold (StaticIs)
abbrev ST : String := "java/lang/String"
/-- every table word that New1's law asks, flat -/
abbrev words : List Jvm.Cond := [.code New1.yN New1.yB 2 none, .initialized ST, .methodLink ST 27 New4.yN, .instanceMethod New4.yN,
  .code New4.yN New4.yB 6 none, .fieldLink ST 38 ST "COMPACT_STRINGS" "Z", .laysFinal ST ST "value" "[B", .fieldLink ST 9 ST "value" "[B", .laysFinal ST ST "coder" "B", .fieldLink ST 15 ST "coder" "B",
  .methodLink ST 1 Lib.objectInit, .instanceMethod Lib.objectInit, .code Lib.objectInit ⟨#[0xb1]⟩ 1 none, .methodLink ST 177 Cmp3.yN, .static Cmp3.yN, .methodLink ST 47 CodL.yN, .static CodL.yN,
  .code Cmp3.yN Cmp3.yB 6 (some (.array .byte)), .initialized U16, .arrayClass .byte, .methodLink U16 115 Cmp5.yN, .static Cmp5.yN, .code Cmp5.yN Cmp5.yB 7 (some .int), .code CodL.yN CodL.yB 2 (some .byte)]
theorem tab_of {a : Array Value} {s : State} (h : ∀ w ∈ words, w.before a s = true) : New1.tab.before a s = true := by
  have h5 : Cmp5.tab.before a s = true := unparts (wk h (.code Cmp5.yN Cmp5.yB 7 (some .int))) (wks h (.initialized Cmp5.yN.cls :: Cmp5.site))
  have hc : CodL.tab.before a s = true := unparts (wk h (.code CodL.yN CodL.yB 2 (some .byte))) (wks h (.initialized CodL.yN.cls :: CodL.site))
  have q5 : ∀ w ∈ Cmp5.tab :: words, w.before a s = true := fun w hw => (List.mem_cons.mp hw).elim (fun e => e ▸ h5) (h w)
  have h3 : Cmp3.tab.before a s = true := unparts (wk q5 (.code Cmp3.yN Cmp3.yB 6 (some (.array .byte)))) (wks q5 (.initialized Cmp3.yN.cls :: Cmp3.site))
  have q3 : ∀ w ∈ Cmp3.tab :: CodL.tab :: words, w.before a s = true := fun w hw => (List.mem_cons.mp hw).elim (fun e => e ▸ h3) fun hw => (List.mem_cons.mp hw).elim (fun e => e ▸ hc) (h w)
  have h4 : New4.tab.before a s = true := unparts (wk q3 (.code New4.yN New4.yB 6 none)) (wks q3 (.initialized New4.yN.cls :: New4.site))
  have q4 : ∀ w ∈ New4.tab :: words, w.before a s = true := fun w hw => (List.mem_cons.mp hw).elim (fun e => e ▸ h4) (h w)
  exact unparts (wk q4 (.code New1.yN New1.yB 2 none)) (wks q4 (.initialized New1.yN.cls :: New1.site))
/-- the words ride from the start Z to the walk's own state -/
theorem moved {Z s : State} {a0 args : Array Value} (hZ : Z.Warmed39 s.vm) (hw : ∀ d ∈ words, d.before a0 Z = true) : ∀ d ∈ words, d.before args s = true := fun d hd => by
  have q := hw d hd
  have t : ∀ d ∈ words, d = .arrayClass .byte ∨ (d.onTables && d.keepsFace) = true := by decide +kernel
  rcases t d hd with rfl | t
  · exact RoadKit.mvA hZ q
  · exact RoadKit.mv hZ q t
/-- WHAT COMES BACK, over the tables of the start Z: h the heap at the call, h' behind it -/
def Q (Z : State) (x : Addr) (A : Cell) (h : Heap) (v : Option Value) (h' : Heap) (L : List Loc) : Prop := v = none ∧ (∀ y ∈ L, y.base = x) ∧ RoadKit.Keep h h' [x] ∧ h'.size = h.size + 1 ∧ RoadKit.Exa Z h' x ST ∧ RoadKit.Fld Z h' x ST "value" "[B" (.ref h.size) ∧ RoadKit.Fld Z h' x ST "coder" "B" (.int 0) ∧
  (∃ V : Cell, RoadKit.Arr Z h' h.size V .byte ∧ V.vm = .none ∧ Z.vm.findClass "[B" = some V.cls ∧ V.slots.size = A.slots.size ∧ ∀ j, j < A.slots.size → V.slots[j]? = some (.int (lo8 (cv A j)))) ∧
  ∀ (O n d : String) (w : Value), RoadKit.Fld Z h x O n d w → RoadKit.slotOf Z O n d ≠ RoadKit.slotOf Z ST "value" "[B" → RoadKit.slotOf Z O n d ≠ RoadKit.slotOf Z ST "coder" "B" → RoadKit.Fld Z h' x O n d w
/-- **new String(chars) AT A CALL, IN THE ROAD'S FORM**: for specialBack behind newO: x the fresh String, b the char[] with the cell A -/
theorem back {p : Program} {l : Launch} {e : Env} {R : Room} {s : State} {args : Array Value} {below : List Frame} {len W : Nat} {Z : State} {a0 : Array Value} {h : Heap} (hZ : Z.Warmed39 s.vm) (hw : ∀ d ∈ words, d.before a0 Z = true) {kI : Nat} (wi : (Jvm.Cond.instantiable ST kI).before a0 Z = true)
    {x b : Addr} {A : Cell} {z : Int32} {v0 c0 : Value} (E : RoadKit.Exa Z h x ST) (V : RoadKit.Fld Z h x ST "value" "[B" v0) (C : RoadKit.Fld Z h x ST "coder" "B" c0) (K : RoadKit.Arr Z h b A .char) (hty : Typed .char A) (S : RoadKit.Sta Z h ST "COMPACT_STRINGS" "Z" (.int z)) (hz : ¬ z = 0)
    (l0 : 0 < A.slots.size) (l2 : A.slots.size ≤ 536870912) (hp : ∀ i, i < A.slots.size → ¬ 255 < cv A i) (hfr : 4 ≤ R.frames) (hlo : W + 65 ≤ R.locals) :
    Back l R p e below s args New1.yN len W (fun P a => a = #[.ref x, .ref b] ∧ P.U.heap = h ∧ P.cells + 1 ≤ R.cells ∧ P.slots + A.slots.size ≤ R.slots)
      (fun P _ v B => ∃ L, Q Z x A h v B.U.heap L ∧ B.locs = P.locs ++ L ∧ B.cells = P.cells + 1 ∧ B.slots = P.slots + A.slots.size) := by
  intro m meth c P g ig mk a X hg hsize hdg hW hn hp'
  obtain ⟨rfl, rfl, r1, r2⟩ := hp'
  have al : Z.vm.Alike P.U.vm := hZ.alike.trans X.warmed.alike
  obtain ⟨D, cfV, kV, iV, fV, hD, gV, stV, knV, obV, asV, slV⟩ := id V
  obtain ⟨D', cfC, kC, iC, fC, hD', gC, stC, -, -, asC, slC⟩ := id C
  cases hD.symm.trans hD'
  obtain ⟨D2, kD, e1, e2, e3, e4, e5⟩ := id E
  cases hD.symm.trans e1
  obtain ⟨c2, k2, i1, i2, i3, -⟩ := Cond.instantiable_spec wi
  cases e2.symm.trans i1
  cases e3.symm.trans i2
  obtain ⟨kU, u1, u2⟩ := al.2.2 _ _ e3
  have hB : Blank ST x D P.U := ⟨hD, ⟨knV, fun q hq => by rw [hq] at obV; cases obV⟩, by rw [al.findClass]; exact e2, kU, u1, by rw [u2]; exact i3, by rw [u2]; exact e5 i3⟩
  have F1 : Found ST "value" "[B" fV P.U := ⟨SBG.found_only al ⟨cfV, kV, iV, gV⟩, stV⟩
  have F2 : Found ST "coder" "B" fC P.U := ⟨SBG.found_only al ⟨cfC, kC, iC, gC⟩, stC⟩
  have hA : Ch b A P.U := ⟨⟨K.1, State.isArrayOf_alike al K.2.1, K.2.2, by omega⟩, hty⟩
  have hS : StaticIs P.U ST "COMPACT_STRINGS" "Z" (.int z) := by
    obtain ⟨cfS, iS, kS, fS, st, cS, t1, t2, t3, t4, t5, t6, t7⟩ := S
    exact StaticIs.there (s := { Z with heap := P.U.heap }) ⟨cfS, iS, kS, fS, st, cS, t1, t2, t3, t4, t5, (fun q => by rw [q] at t6; cases t6), t7⟩ al rfl
  obtain ⟨v, B, X', ⟨⟨hv, E', V', q1, q2, q3, q4, q5, q6, q7, q8, q9, q10, q11⟩, hl, hc, hs⟩, st⟩ := New1.pays x D fV fC b A z (tab_of (moved hZ hw)) hfr hlo m meth c P g ig mk _ X hg hsize hdg hW hn ⟨r1, r2, rfl, hB, F1, F2, hA, hS, hz, l0, l2, hp⟩
  have al' : Z.vm.Alike B.U.vm := hZ.alike.trans X'.warmed.alike
  have hsz : E'.slots.size = D.slots.size := by
    obtain ⟨-, -, -, kB, w1, w2, w3⟩ := q1
    obtain ⟨kB', y1, y2⟩ := al'.2.2 _ _ e3
    rw [q2.2.1] at w1
    cases w1.symm.trans y1
    rw [w3, e5 i3, y2]
  refine ⟨v, B, X', ⟨_, ⟨hv, ?_, ⟨by omega, fun y cy hy hn' => q10 y cy (by simpa using hn') hy, fun y cy hy => ?_⟩, q11, ⟨E', _, q1.1, by rw [q2.2.1]; exact e2, by rw [q2.2.1]; exact e3, by rw [q2.1]; exact obV, fun _ => by rw [hsz]; exact e5 i3⟩,
    ⟨E', cfV, kV, iV, fV, q1.1, gV, stV, by rw [q2.1]; exact knV, by rw [q2.1]; exact obV, by rw [q2.2.1]; exact asV, q3⟩, ⟨E', cfC, kC, iC, fC, q1.1, gC, stC, by rw [q2.1]; exact knV, by rw [q2.1]; exact obV, by rw [q2.2.1]; exact asC, q4⟩,
    ⟨V', ⟨q5.1, State.isArrayOf_alike al'.symm q5.2.1, q5.2.2.1⟩, q6, by rw [← al'.findClass]; exact q7, q8, fun j hj => by have := q9 j hj; rwa [Nat.zero_add] at this⟩, fun O n d w F n1 n2 => ?_⟩, hl, hc, hs⟩, st⟩
  · intro y hy
    simp only [List.mem_cons, List.not_mem_nil, or_false] at hy
    rcases hy with rfl | rfl <;> rfl
  · by_cases q : y = x
    · subst q
      cases hD.symm.trans hy
      exact ⟨E', q1.1, q2.2.1, q2.1, hsz⟩
    · exact ⟨cy, q10 y cy q hy, rfl, rfl, rfl⟩
  · obtain ⟨D3, cf, k, i, f, g1, g2, g3, g4, g5, g6, g7⟩ := F
    cases hD.symm.trans g1
    simp only [RoadKit.slotOf, g2, gV, gC, Option.map_some, Option.getD_some] at n1 n2
    exact ⟨E', cf, k, i, f, q1.1, g2, g3, by rw [q2.1]; exact g4, by rw [q2.1]; exact g5, by rw [q2.2.1]; exact g6, by rw [q2.2.2 f.slot (by simp [n1, n2])]; exact g7⟩
end StrChars.Road
namespace StrChars.Road
open Jvm Sem ClassFile Op Lib Jvm.Stand Jvm.Free Jvm.Free.XT
/-- WHAT COMES BACK, the byte[] as a list of values -/
def QA (Z : State) (x : Addr) (zn : Int32) (cs : List Int32) (h : Heap) (v : Option Value) (h' : Heap) (L : List Loc) : Prop := v = none ∧ (∀ y ∈ L, y.base = x) ∧ RoadKit.Keep h h' [x] ∧ h'.size = h.size + 1 ∧ RoadKit.Exa Z h' x ST ∧ RoadKit.Fld Z h' x ST "value" "[B" (.ref h.size) ∧ RoadKit.Fld Z h' x ST "coder" "B" (.int 0) ∧
  (∃ kb, Z.vm.findClass "[B" = some kb ∧ RoadKit.Arv Z h' h.size kb .byte zn (cs.map fun c => .int (lo8 c)) (.int 0)) ∧
  ∀ (O n d : String) (w : Value), RoadKit.Fld Z h x O n d w → RoadKit.slotOf Z O n d ≠ RoadKit.slotOf Z ST "value" "[B" → RoadKit.slotOf Z O n d ≠ RoadKit.slotOf Z ST "coder" "B" → RoadKit.Fld Z h' x O n d w
/-- **new String(chars) AT A CALL, THE ARRAYS AS LISTS**: the char[] at b holds cs, not empty, no char above 255 -/
theorem backArv {p : Program} {l : Launch} {e : Env} {R : Room} {s : State} {args : Array Value} {below : List Frame} {len W : Nat} {Z : State} {a0 : Array Value} {h : Heap} (hZ : Z.Warmed39 s.vm) (hw : ∀ d ∈ words, d.before a0 Z = true) {kI : Nat} (wi : (Jvm.Cond.instantiable ST kI).before a0 Z = true)
    {x b : Addr} {k : ClassId} {zn z : Int32} {cs : List Int32} {dv v0 c0 : Value} (E : RoadKit.Exa Z h x ST) (V : RoadKit.Fld Z h x ST "value" "[B" v0) (C : RoadKit.Fld Z h x ST "coder" "B" c0) (K : RoadKit.Arv Z h b k .char zn (cs.map Value.int) dv) (S : RoadKit.Sta Z h ST "COMPACT_STRINGS" "Z" (.int z)) (hz : ¬ z = 0)
    (hlen : zn.toNatClampNeg = cs.length) (h0 : 0 < cs.length) (hbig : cs.length ≤ 536870912) (hall : ∀ c ∈ cs, ¬ 255 < c) (hfr : 4 ≤ R.frames) (hlo : W + 65 ≤ R.locals) :
    Back l R p e below s args New1.yN len W (fun P a => a = #[.ref x, .ref b] ∧ P.U.heap = h ∧ P.cells + 1 ≤ R.cells ∧ P.slots + cs.length ≤ R.slots)
      (fun P _ v B => ∃ L, QA Z x zn cs h v B.U.heap L ∧ B.locs = P.locs ++ L ∧ B.cells = P.cells + 1 ∧ B.slots = P.slots + cs.length) := by
  obtain ⟨A, K1, K2, K3, K4, K5, K6⟩ := K
  have e : A.slots.size = cs.length := K3.trans hlen
  have hat : ∀ (i : Nat) (hi : i < cs.length), A.slots[i]? = some (.int cs[i]) := fun i hi => by rw [K5 i (by omega)]; simp [List.getD_eq_getElem?_getD, hi]
  have hcv : ∀ (i : Nat) (hi : i < cs.length), cv A i = cs[i] := fun i hi => by unfold cv; rw [hat i hi]
  have hty : Typed .char A := fun i v hv => by
    have hi : i < A.slots.size := (Array.getElem?_eq_some_iff.mp hv).1
    have q := K5 i hi
    rw [hv] at q
    rw [Option.some.inj q]
    exact K6 i hi
  refine Back.mono (back hZ hw wi E V C K1 hty S hz (by omega) (by omega) (fun i hi => by rw [hcv i (by omega)]; exact hall _ (List.getElem_mem _)) hfr hlo) (fun P a hp => ⟨hp.1, hp.2.1, hp.2.2.1, by rw [e]; exact hp.2.2.2⟩) (fun P a v B hp hq => ?_)
  obtain ⟨L, ⟨q1, q2, q3, q4, q5, q6, q7, ⟨V', v1, v2, v3, v4, v5⟩, q9⟩, hl, hc, hs⟩ := hq
  refine ⟨L, ⟨q1, q2, q3, q4, q5, q6, q7, ⟨V'.cls, v3, V', v1, rfl, by rw [v4, e, hlen], K4, fun i hi => ?_, fun i hi => ?_⟩, q9⟩, hl, hc, by rw [hs, e]⟩
  · have hi' : i < cs.length := by omega
    rw [v5 i (by omega), hcv i hi']; simp [List.getD_eq_getElem?_getD, hi']
  · have hi' : i < cs.length := by omega
    simp only [List.getD_eq_getElem?_getD, List.getElem?_map, List.getElem?_eq_getElem hi', Option.map_some, Option.getD_some]
    exact fits_lo8 _
end StrChars.Road
namespace StrChars.Road
open Jvm Sem ClassFile Op Lib Jvm.Stand Jvm.Free Jvm.Free.XT
/-- WHAT COMES BACK, in the writer's own shape -/
def QV (Z : State) (x : Addr) (N : Int32) (bs : List Int32) (h : Heap) (n0 : Nat) (v : Option Value) (h' : Heap) (L : List Loc) : Prop := v = none ∧ RoadKit.Fr n0 L ∧ RoadKit.Keep h h' [x] ∧ RoadKit.Exa Z h' x ST ∧ RoadKit.Fld Z h' x ST "coder" "B" (.int 0) ∧
  ∃ (t : Addr) (kb : ClassId), n0 ≤ t ∧ h.size ≤ t ∧ ¬ t = x ∧ RoadKit.Fld Z h' x ST "value" "[B" (.ref t) ∧ RoadKit.Arv Z h' t kb .byte N (bs.map Value.int) (.int 0)
/-- **new String(chars) AT A CALL, FOR THE WRITER**: a char[] of n known ints, each 0 to 255 -/
theorem backV {p : Program} {l : Launch} {e : Env} {R : Room} {s : State} {args : Array Value} {below : List Frame} {len W : Nat} {Z : State} {a0 : Array Value} {h : Heap} (hZ : Z.Warmed39 s.vm) (hw : ∀ d ∈ words, d.before a0 Z = true) {kI : Nat} (wi : (Jvm.Cond.instantiable ST kI).before a0 Z = true)
    {x b : Addr} {kC : ClassId} {cs bs : List Int32} {d v0 c0 : Value} {z N : Int32} {n n0 : Nat} (hx0 : n0 ≤ x) (hh0 : n0 ≤ h.size) (E : RoadKit.Exa Z h x ST) (V : RoadKit.Fld Z h x ST "value" "[B" v0) (C : RoadKit.Fld Z h x ST "coder" "B" c0) (K : RoadKit.Arv Z h b kC .char N (cs.map Value.int) d) (S : RoadKit.Sta Z h ST "COMPACT_STRINGS" "Z" (.int z)) (hz : ¬ z = 0)
    (hn : cs.length = n) (hN : N = Int32.ofNat n) (l0 : 0 < n) (l2 : n ≤ 4000) (hp : ∀ c ∈ cs, ¬ c < 0 ∧ ¬ (255 : Int32) < c) (hb : bs = cs.map (fun c => c.toInt8.toInt32)) (hfr : 4 ≤ R.frames) (hlo : W + 65 ≤ R.locals) :
    Back l R p e below s args (⟨"java/lang/String", "<init>", "([C)V"⟩ : MethodName) len W (fun P a => a = #[.ref x, .ref b] ∧ P.U.heap = h ∧ P.cells + 1 ≤ R.cells ∧ P.slots + n ≤ R.slots)
      (fun P _ v B => ∃ L, QV Z x N bs h n0 v B.U.heap L ∧ B.locs = P.locs ++ L ∧ B.cells = P.cells + 1 ∧ B.slots = P.slots + n) := by
  subst hn hN hb
  refine Back.mono (backArv hZ hw wi E V C K S hz (n32 (by omega)) l0 (by omega) (fun c hc => (hp c hc).2) hfr hlo) (fun P a hp => hp) (fun P a v B hp hq => ?_)
  obtain ⟨L, ⟨q1, q2, q3, q4, q5, q6, q7, ⟨kb, v1, v2⟩, q9⟩, hl, hc, hs⟩ := hq
  exact ⟨L, ⟨q1, fun y hy => by rw [q2 y hy]; exact hx0, q3, q5, q7, h.size, kb, hh0, Nat.le_refl _, Nat.ne_of_gt E.lt, q6, by rw [List.map_map]; exact v2⟩, hl, hc, hs⟩
end StrChars.Road
namespace StrChars
open Jvm Sem ClassFile Op Lib Jvm.Stand Jvm.Free.XT Jvm.Free.ALB Jvm.Free.JM Jvm.Free
open Jvm.Lib.Cold (StaticIs)
def hi8 (x : Int32) : Int32 := lo8 (x >>> ((8 : Int32) &&& 31))
/-- what StringUTF16.getChar makes of two bytes -/
def pairCh (u v : Int32) : Int32 := (((u &&& 255) <<< ((0 : Int32) &&& 31)) ||| ((v &&& 255) <<< ((8 : Int32) &&& 31))).toUInt32.toUInt16.toUInt32.toInt32
theorem shr0 (c : Int32) : c >>> ((0 : Int32) &&& 31) = c := by
  have e : ((0 : Int32) &&& 31) = 0 := by decide
  rw [e]
  apply Int32.toBitVec_inj.mp
  rw [Int32.toBitVec_shiftRight]
  have e1 : ((0 : Int32).toBitVec.smod 32) = 0#32 := by decide
  rw [e1, BitVec.sshiftRight_eq']
  exact BitVec.sshiftRight_zero
theorem lo8_and (x : Int32) : (lo8 x &&& 255).toBitVec.toNat = x.toBitVec.toNat % 256 := by
  have h : (lo8 x).toBitVec = (x.toBitVec.signExtend 8).signExtend 32 := by rw [lo8, Int8.toBitVec_toInt32, Int32.toBitVec_toInt8]
  rw [Int32.toBitVec_and, BitVec.toNat_and, h]
  have e : ((x.toBitVec.signExtend 8).signExtend 32).toNat % 256 = x.toBitVec.toNat % 256 := by
    rw [BitVec.toNat_signExtend]
    have hlt := x.toBitVec.isLt
    simp only [BitVec.toNat_setWidth, BitVec.toNat_signExtend]
    split <;> split <;> omega
  rw [← e]
  exact Nat.and_two_pow_sub_one_eq_mod _ 8
theorem pair_says {c : Int32} (h0 : ¬ c < 0) (h1 : ¬ 65535 < c) : pairCh (lo8 c) (hi8 c) = c := by
  rw [Int32.lt_iff_toInt_lt] at h0 h1
  have e0 : (0 : Int32).toInt = 0 := rfl
  have e1 : (65535 : Int32).toInt = 65535 := rfl
  have hc : c.toInt = c.toBitVec.toNat := by
    have := c.toBitVec.isLt
    have e : c.toInt = c.toBitVec.toInt := rfl
    rw [e] at h0 h1
    rw [e]
    rw [BitVec.toInt_eq_toNat_cond] at h0 h1 ⊢
    split at h0 <;> split <;> omega
  have hn : c.toBitVec.toNat < 65536 := by omega
  have a1 := lo8_and c
  have a2 : (hi8 c &&& 255).toBitVec.toNat = c.toBitVec.toNat / 256 := by
    rw [hi8, lo8_and]
    have e : ((8 : Int32) &&& 31) = 8 := by decide
    rw [e, Int32.toBitVec_shiftRight]
    have e2 : ((8 : Int32).toBitVec.smod 32) = 8#32 := by decide
    rw [e2, BitVec.sshiftRight_eq', BitVec.toNat_sshiftRight_of_msb_false (by rw [BitVec.msb_eq_false_iff_two_mul_lt]; omega)]
    show c.toBitVec.toNat >>> 8 % 256 = _
    rw [Nat.shiftRight_eq_div_pow]
    omega
  unfold pairCh
  apply Int32.toBitVec_inj.mp
  apply BitVec.eq_of_toNat_eq
  have f0 : ((0 : Int32) &&& 31) = 0 := by decide
  have f8 : ((8 : Int32) &&& 31) = 8 := by decide
  rw [f0, f8]
  have g : (((lo8 c &&& 255) <<< (0 : Int32)) ||| ((hi8 c &&& 255) <<< (8 : Int32))).toBitVec.toNat = c.toBitVec.toNat := by
    rw [Int32.toBitVec_or, Int32.toBitVec_shiftLeft, Int32.toBitVec_shiftLeft]
    have s0 : ((0 : Int32).toBitVec.smod 32) = 0#32 := by decide
    have s8 : ((8 : Int32).toBitVec.smod 32) = 8#32 := by decide
    rw [s0, s8, BitVec.toNat_or]
    simp only [BitVec.shiftLeft_eq', BitVec.toNat_shiftLeft, a1, a2]
    show (c.toBitVec.toNat % 256) <<< 0 % 2 ^ 32 ||| (c.toBitVec.toNat / 256) <<< 8 % 2 ^ 32 = _
    rw [Nat.shiftLeft_zero, Nat.mod_eq_of_lt (show c.toBitVec.toNat % 256 < 2 ^ 32 by omega), Nat.mod_eq_of_lt (show (c.toBitVec.toNat / 256) <<< 8 < 2 ^ 32 by rw [Nat.shiftLeft_eq]; omega), Nat.or_comm, ← Nat.shiftLeft_add_eq_or_of_lt (by omega), Nat.shiftLeft_eq]
    omega
  show BitVec.toNat (((((lo8 c &&& 255) <<< (0 : Int32)) ||| ((hi8 c &&& 255) <<< (8 : Int32))).toBitVec.setWidth 16).setWidth 32) = _
  rw [BitVec.toNat_setWidth, BitVec.toNat_setWidth, g]
  omega
end StrChars
namespace StrChars
open Jvm Sem ClassFile Op Lib Jvm.Stand Jvm.Free.XT Jvm.Free.ALB Jvm.Free.JM Jvm.Free
open Jvm.Lib.Cold (StaticIs)
theorem shr1 {n : Nat} (h : 2 * n < 2 ^ 31) : Int32.ofNat (2 * n) >>> ((1 : Int32) &&& 31) = Int32.ofNat n := by
  have e : ((1 : Int32) &&& 31) = 1 := by decide
  rw [e]
  apply Int32.toBitVec_inj.mp
  rw [Int32.toBitVec_shiftRight]
  have e1 : ((1 : Int32).toBitVec.smod 32) = 1#32 := by decide
  have hm : (BitVec.ofNat 32 (2 * n)).toNat = 2 * n := by rw [BitVec.toNat_ofNat, Nat.mod_eq_of_lt (by omega)]
  rw [e1, BitVec.sshiftRight_eq']
  apply BitVec.eq_of_toNat_eq
  show ((BitVec.ofNat 32 (2 * n)).sshiftRight 1).toNat = (BitVec.ofNat 32 n).toNat
  rw [BitVec.toNat_sshiftRight_of_msb_false (by rw [BitVec.msb_eq_false_iff_two_mul_lt, hm]; omega), hm, BitVec.toNat_ofNat, Nat.shiftRight_eq_div_pow]
  omega
/-- the array's cell V codes the n chars f 0 .. f (n - 1) by the coder cd, as the JDK does: coder 1 just where some char is above 255 -/
def Cod (cd : Int32) (n : Nat) (f : Nat → Int32) (V : Cell) : Prop := (cd = 0 ∧ V.slots.size = n ∧ ∀ j, j < n → V.slots[j]? = some (.int (lo8 (f j))) ∧ ¬ 255 < f j) ∨ (cd = 1 ∧ V.slots.size = 2 * n ∧ (∀ j, j < n → V.slots[2 * j]? = some (.int (lo8 (f j))) ∧ V.slots[2 * j + 1]? = some (.int (hi8 (f j)))) ∧ ∃ j, j < n ∧ 255 < f j)
theorem Cod.cd {cd : Int32} {n : Nat} {f : Nat → Int32} {V : Cell} (h : Cod cd n f V) : cd = 0 ∨ cd = 1 := h.imp (fun q => q.1) fun q => q.1
theorem Cod.len {cd : Int32} {n : Nat} {f : Nat → Int32} {V : Cell} (h : Cod cd n f V) (hs : V.slots.size < 2 ^ 31) : Int32.ofNat V.slots.size >>> (cd &&& 31) = Int32.ofNat n := by
  rcases h with ⟨rfl, h, -⟩ | ⟨rfl, h, -⟩
  · rw [shr0, h]
  · rw [h, shr1 (by omega)]
/-- **x is a String of the n chars f 0 .. f (n - 1)**, Latin-1 or UTF-16; its array at t has the cell V -/
def Txt (x t : Addr) (V : Cell) (cd : Int32) (n : Nat) (f : Nat → Int32) (U : State) : Prop := Exact "java/lang/String" x U ∧ Has x "java/lang/String" "value" "[B" (.ref t) U ∧ Has x "java/lang/String" "coder" "B" (.int cd) U ∧ XT.Arr .byte t V U ∧ Cod cd n f V ∧ ∀ j, j < n → ¬ f j < 0 ∧ ¬ 65535 < f j
theorem Txt.mv {x t : Addr} {V : Cell} {cd : Int32} {n : Nat} {f : Nat → Int32} {U U' : State} (h : Txt x t V cd n f U) (hal : U.vm.Alike U'.vm) (hh : U'.heap = U.heap) : Txt x t V cd n f U' := ⟨h.1.mv hal hh, h.2.1.mv hal hh, h.2.2.1.mv hal hh, h.2.2.2.1.mv hal hh, h.2.2.2.2⟩
namespace Cdr
def yN : MethodName := ⟨"java/lang/String", "coder", "()B"⟩
abbrev yB : ByteArray := jdk_42_method_152_code
theorem d0 : decode yB 0 = .ok (.getstatic 38, 3) := by decide +kernel
theorem d3 : decode yB 3 = .ok (.ifCond (.eq) 10, 3) := by decide +kernel
theorem d6 : decode yB 6 = .ok (.aload_n 0, 1) := by decide +kernel
theorem d7 : decode yB 7 = .ok (.getfield 15, 3) := by decide +kernel
theorem d10 : decode yB 10 = .ok (.goto 4, 3) := by decide +kernel
theorem d14 : decode yB 14 = .ok (.ireturn, 1) := by decide +kernel
def site : List Cond := [.fieldLink "java/lang/String" 38 "java/lang/String" "COMPACT_STRINGS" "Z", .fieldLink "java/lang/String" 15 "java/lang/String" "coder" "B"]
def tab : Cond := tabOf yN yB 1 (some .byte) site
def P (x : Addr) (cd z : Int32) (args : Array Value) (s : State) : Prop := args = #[.ref x] ∧ Has x "java/lang/String" "coder" "B" (.int cd) s ∧ (cd = 0 ∨ cd = 1) ∧ StaticIs s "java/lang/String" "COMPACT_STRINGS" "Z" (.int z) ∧ ¬ z = 0
def E (cd : Int32) (r : Option Value) (s u : State) : Prop := XT.PureE (some (.int cd)) r s u
theorem law (l : Launch) (x : Addr) (cd z : Int32) : Law l yN 1 0 0 0 yB 1 (some .byte) site (P x cd z) (E cd) [] 0 0 := by
  refine Law.of_walk (plainFor_of_name (by decide +kernel)) (by decide +kernel) (by decide +kernel) (by decide) (fun _ _ h => by rw [h.1]; rfl) (fun _ U U' hal hh h => ⟨h.1, h.2.1.mv hal hh, h.2.2.1, h.2.2.2.1.there hal hh, h.2.2.2.2⟩) (fun r U U' V V' h1 hal h2 h => XT.PureE.mv r U U' V V' h1 hal h2 h) ?_
  intro p e s m args below meth c s₁ X0 hexec hbytes hml hret hlk hnm hown hh0 W hP
  obtain ⟨rfl, hx, hc, s1, hz⟩ := hP
  have c1 : Steps p.tables e below (s₁.setTop (entryFrame m #[.ref x] 1)) (s₁.setTop (mkF m 0 #[.val (.ref x)] [])) := entry rfl
  obtain ⟨T2, X2, q2, st2⟩ := X0.sget hexec hown (wk W (.fieldLink "java/lang/String" 38 "java/lang/String" "COMPACT_STRINGS" "Z")) s1 (fun _ _ h => by rw [hh0]; exact h) (g := (mkF m 0 #[.val (.ref x)] [])) rfl (hb hbytes d0)
  have hh2 := q2.trans hh0
  have c3 : Steps p.tables e below (s₁.setTop (entryFrame m #[.ref x] 1)) (T2.setTop (mkF m 7 #[.val (.ref x)] [.ref x])) := (c1.trans (st2 _ (Steps.refl _))).trans (by
    refine XS.ifNo X2.here hexec rfl (hb hbytes d3) rfl (i0_eq_f hz) ?_
    refine XS.aloadN X2.here hexec rfl (hb hbytes d6) rfl rfl ?_
    exact Steps.refl _)
  obtain ⟨T4, X4, q4, st4⟩ := X2.hget hexec hown (wk W (.fieldLink "java/lang/String" 15 "java/lang/String" "coder" "B")) (hx.mv X2.warmed.alike hh2) (g := (mkF m 7 #[.val (.ref x)] [.ref x])) rfl (rest := []) rfl (hb hbytes d7)
  have c5 : Steps p.tables e below (s₁.setTop (entryFrame m #[.ref x] 1)) (T4.setTop (mkF m 14 #[.val (.ref x)] [.int cd])) := (c3.trans (st4 _ (Steps.refl _))).trans (by
    refine XS.goto X4.here hexec rfl (pc0 := 10) rfl (hb hbytes d10) (by decide) rfl ?_
    exact Steps.refl _)
  exact ⟨T4, some (.int cd), _, _, _, X4, rfl, rfl, rfl, (fun h => by cases h), ⟨rfl, q4.trans hh2⟩, fun fs hl => c5.trans (X4.ireturnOut hexec hret (by rcases hc with rfl | rfl <;> rfl) (Or.inr (Or.inr (Or.inl rfl))) (hb hbytes d14) hl)⟩
end Cdr
namespace Len
def yN : MethodName := ⟨"java/lang/String", "length", "()I"⟩
abbrev yB : ByteArray := jdk_42_method_54_code
theorem d0 : decode yB 0 = .ok (.aload_n 0, 1) := by decide +kernel
theorem d1 : decode yB 1 = .ok (.getfield 9, 3) := by decide +kernel
theorem d4 : decode yB 4 = .ok (.arraylength, 1) := by decide +kernel
theorem d5 : decode yB 5 = .ok (.aload_n 0, 1) := by decide +kernel
theorem d6 : decode yB 6 = .ok (.invokevirtual 335, 3) := by decide +kernel
theorem d9 : decode yB 9 = .ok (.ishr, 1) := by decide +kernel
theorem d10 : decode yB 10 = .ok (.ireturn, 1) := by decide +kernel
def site : List Cond := [.fieldLink "java/lang/String" 9 "java/lang/String" "value" "[B", Cdr.tab] ++ virtW "java/lang/String" 335 "java/lang/String" Cdr.yN Cdr.yN
def tab : Cond := tabOf yN yB 1 (some .int) site
def P (x t : Addr) (V : Cell) (cd : Int32) (n : Nat) (f : Nat → Int32) (z : Int32) (args : Array Value) (s : State) : Prop := args = #[.ref x] ∧ Txt x t V cd n f s ∧ StaticIs s "java/lang/String" "COMPACT_STRINGS" "Z" (.int z) ∧ ¬ z = 0
def E (n : Nat) (r : Option Value) (s u : State) : Prop := XT.PureE (some (.int (Int32.ofNat n))) r s u
/-- length() of a String of n chars, in either coding -/
theorem law (l : Launch) (x t : Addr) (V : Cell) (cd : Int32) (n : Nat) (f : Nat → Int32) (z : Int32) : Law l yN 1 0 1 13 yB 1 (some .int) site (P x t V cd n f z) (E n) [] 0 0 := by
  refine Law.of_walk (plainFor_of_name (by decide +kernel)) (by decide +kernel) (by decide +kernel) (by decide) (fun _ _ h => by rw [h.1]; rfl) (fun _ U U' hal hh h => ⟨h.1, h.2.1.mv hal hh, h.2.2.1.there hal hh, h.2.2.2⟩) (fun r U U' V V' h1 hal h2 h => XT.PureE.mv r U U' V V' h1 hal h2 h) ?_
  intro p e s m args below meth c s₁ X0 hexec hbytes hml hret hlk hnm hown hh0 W hP
  obtain ⟨rfl, hx, s1, hz⟩ := hP
  have v31 := hx.2.2.2.1.2.2.2
  have c1 : Steps p.tables e below (s₁.setTop (entryFrame m #[.ref x] 1)) (s₁.setTop (mkF m 1 #[.val (.ref x)] [.ref x])) := Steps.trans (entry rfl) (by
    show Steps p.tables e below (s₁.setTop (mkF m 0 #[.val (.ref x)] [])) _
    refine XS.aloadN X0.here hexec rfl (hb hbytes d0) rfl rfl ?_
    exact Steps.refl _)
  obtain ⟨T2, X2, q2, st2⟩ := X0.hget hexec hown (wk W (.fieldLink "java/lang/String" 9 "java/lang/String" "value" "[B")) (hx.mv X0.warmed.alike hh0).2.1 (g := (mkF m 1 #[.val (.ref x)] [.ref x])) rfl (rest := []) rfl (hb hbytes d1)
  have hh2 := q2.trans hh0
  have hx2 := hx.mv X2.warmed.alike hh2
  have c3 : Steps p.tables e below (s₁.setTop (entryFrame m #[.ref x] 1)) (T2.setTop (mkF m 6 #[.val (.ref x)] [.ref x, .int (Int32.ofNat V.slots.size)])) := (c1.trans (st2 _ (Steps.refl _))).trans (by
    refine X2.alen hexec hx2.2.2.2.1 rfl rfl (hb hbytes d4) ?_
    refine XS.aloadN X2.here hexec rfl (hb hbytes d5) rfl rfl ?_
    exact Steps.refl _)
  obtain ⟨v4, T4, X4, E4, g4⟩ := X2.callV hexec (Cdr.law l x cd z) hown (wks W (virtW "java/lang/String" 335 "java/lang/String" Cdr.yN Cdr.yN)) rfl (by decide) (wk W Cdr.tab) (W := 1) (Nat.le_of_ble_eq_true rfl) (Nat.le_of_ble_eq_true rfl) (Nat.le_refl _) (Nat.le_refl _) (hx2.1.fc X2.warmed.alike) hx2.1.is (g := (mkF m 6 #[.val (.ref x)] [.ref x, .int (Int32.ofNat V.slots.size)])) rfl (by rw [hml]; rfl) c3 (argsL := []) (rest := [.int (Int32.ofNat V.slots.size)]) rfl rfl (by show 2 * 0 + (1 + 0) ≤ _; decide) (hb hbytes d6) (⟨rfl, hx2.2.2.1, hx.2.2.2.2.1.cd, s1.there X2.warmed.alike hh2, hz⟩)
  obtain ⟨rfl, q4⟩ := E4
  have c5 : Steps p.tables e below (s₁.setTop (entryFrame m #[.ref x] 1)) (T4.setTop (mkF m 10 #[.val (.ref x)] [.int (Int32.ofNat V.slots.size >>> (cd &&& 31))])) := Steps.trans g4 (by
    refine ishr X4.here hexec rfl (hb hbytes d9) rfl ?_
    exact Steps.refl _)
  rw [hx.2.2.2.2.1.len v31] at c5
  exact ⟨T4, some (.int (Int32.ofNat n)), _, _, _, X4, rfl, rfl, rfl, (fun h => by cases h), ⟨rfl, q4.trans hh2⟩, fun fs hl => c5.trans (X4.ireturnOut hexec hret rfl (Or.inl rfl) (hb hbytes d10) hl)⟩
theorem pays {l : Launch} {R : Room} {p : Program} {e : Env} {below : List Frame} {s : State} {sargs : Array Value} {len W : Nat} (x t : Addr) (V : Cell) (cd : Int32) (n : Nat) (f : Nat → Int32) (z : Int32) (htab : tab.before sargs s = true) (hfr : 2 ≤ R.frames) (hlo : W + 25 ≤ R.locals) :
    Back l R p e below s sargs yN len W (fun A₁ a₁ => A₁.cells + 0 ≤ R.cells ∧ A₁.slots + 0 ≤ R.slots ∧ P x t V cd n f z a₁ A₁.U) (fun A₁ _ v₁ B₁ => E n v₁ A₁.U B₁.U ∧ B₁.locs = A₁.locs ++ [] ∧ B₁.cells = A₁.cells + 0 ∧ B₁.slots = A₁.slots + 0) :=
  (law l x t V cd n f z).pays htab hfr (by omega)
end Len
end StrChars
namespace StrChars.Road
open Jvm Sem ClassFile Op Lib Jvm.Stand Jvm.Free Jvm.Free.XT
open Jvm.Lib.Cold (StaticIs)
theorem consq {a : Array Value} {s : State} {c : Jvm.Cond} {L : List Jvm.Cond} (h0 : c.before a s = true) (h : ∀ w ∈ L, w.before a s = true) : ∀ w ∈ c :: L, w.before a s = true := fun w hw => (List.mem_cons.mp hw).elim (fun e => e ▸ h0) (h w)
/-- the words of String.length(), either coding -/
abbrev wordsLen : List Jvm.Cond := [.code Len.yN Len.yB 1 (some .int), .initialized ST, .fieldLink ST 9 ST "value" "[B", .fieldLink ST 38 ST "COMPACT_STRINGS" "Z", .fieldLink ST 15 ST "coder" "B", .code Cdr.yN Cdr.yB 1 (some .byte), .methodLink ST 335 Cdr.yN, .declares Cdr.yN, .selects ST Cdr.yN Cdr.yN, .instanceMethod Cdr.yN]
theorem tabLen_of {a : Array Value} {s : State} (h : ∀ w ∈ wordsLen, w.before a s = true) : Len.tab.before a s = true := by
  have hc : Cdr.tab.before a s = true := unparts (wk h (.code Cdr.yN Cdr.yB 1 (some .byte))) (wks h (.initialized Cdr.yN.cls :: Cdr.site))
  have q := consq hc h
  exact unparts (wk q (.code Len.yN Len.yB 1 (some .int))) (wks q (.initialized Len.yN.cls :: Len.site))
theorem movedLen {Z s : State} {a0 args : Array Value} (hZ : Z.Warmed39 s.vm) (hw : ∀ d ∈ wordsLen, d.before a0 Z = true) : ∀ d ∈ wordsLen, d.before args s = true := fun d hd => by
  have q := hw d hd
  have t : ∀ d ∈ wordsLen, d = .arrayClass .byte ∨ (d.onTables && d.keepsFace) = true := by decide +kernel
  rcases t d hd with rfl | t
  · exact RoadKit.mvA hZ q
  · exact RoadKit.mv hZ q t
/-- the bytes of the chars cs, low before high -/
def wideBytes : List Int32 → List Value
  | [] => []
  | c :: cs => .int (lo8 c) :: .int (hi8 c) :: wideBytes cs
theorem wide_lo (d : Value) : ∀ (cs : List Int32) (j : Nat), j < cs.length → (wideBytes cs).getD (2 * j) d = .int (lo8 (cs.getD j 0))
  | [], j, h => absurd h (Nat.not_lt_zero j)
  | c :: cs, 0, _ => rfl
  | c :: cs, j + 1, h => by
    have q := wide_lo d cs j (by simpa using h)
    rw [show 2 * (j + 1) = 2 * j + 1 + 1 from by omega]
    simpa [wideBytes] using q
theorem wide_hi (d : Value) : ∀ (cs : List Int32) (j : Nat), j < cs.length → (wideBytes cs).getD (2 * j + 1) d = .int (hi8 (cs.getD j 0))
  | [], j, h => absurd h (Nat.not_lt_zero j)
  | c :: cs, 0, _ => rfl
  | c :: cs, j + 1, h => by
    have q := wide_hi d cs j (by simpa using h)
    rw [show 2 * (j + 1) + 1 = 2 * j + 1 + 1 + 1 from by omega]
    simpa [wideBytes] using q
theorem low_at (d : Value) (cs : List Int32) (j : Nat) (h : j < cs.length) : (cs.map fun c => Value.int (lo8 c)).getD j d = .int (lo8 (cs.getD j 0)) := by
  simp [List.getD_eq_getElem?_getD, h]
/-- an array of N2 bytes vs codes the chars cs by the coder cd -/
def CodA (cs : List Int32) (cd N2 : Int32) (vs : List Value) : Prop := (cd = 0 ∧ N2 = Int32.ofNat cs.length ∧ vs = (cs.map fun c => Value.int (lo8 c)) ∧ ∀ c ∈ cs, ¬ 255 < c) ∨ (cd = 1 ∧ N2 = Int32.ofNat (2 * cs.length) ∧ vs = wideBytes cs ∧ ∃ c ∈ cs, 255 < c)
theorem CodA.cod {cs : List Int32} {cd N2 : Int32} {vs : List Value} {V : Cell} (h : CodA cs cd N2 vs) (hn : 2 * cs.length < 2 ^ 31) (hs : V.slots.size = N2.toNatClampNeg) (hv : RoadKit.Has V vs (.int 0)) : Cod cd cs.length (fun j => cs.getD j 0) V := by
  rcases h with ⟨rfl, rfl, rfl, h⟩ | ⟨rfl, rfl, rfl, c, hc, hw⟩
  · rw [n32 (by omega)] at hs
    exact Or.inl ⟨rfl, hs, fun j hj => ⟨by rw [hv j (by omega), low_at _ _ _ hj], by
      have e : cs.getD j 0 = cs[j] := by simp [List.getD_eq_getElem?_getD, hj]
      show ¬ 255 < cs.getD j 0
      rw [e]; exact h _ (List.getElem_mem _)⟩⟩
  · rw [n32 (by omega)] at hs
    obtain ⟨j, hj, rfl⟩ := List.getElem_of_mem hc
    exact Or.inr ⟨rfl, hs, fun j hj => ⟨by rw [hv _ (by omega), wide_lo _ _ _ hj], by rw [hv _ (by omega), wide_hi _ _ _ hj]⟩, j, hj, by
      have e : cs.getD j 0 = cs[j] := by simp [List.getD_eq_getElem?_getD, hj]
      show 255 < cs.getD j 0
      rw [e]; exact hw⟩
/-- an object of exactly java/lang/String, its two fields found: as the laws ask it -/
theorem strObj {Z U : State} {a0 : Array Value} {kI : Nat} (wi : (Jvm.Cond.instantiable ST kI).before a0 Z = true) (al : Z.vm.Alike U.vm) {x : Addr} {v0 c0 : Value} (E : RoadKit.Exa Z U.heap x ST) (V : RoadKit.Fld Z U.heap x ST "value" "[B" v0) (C : RoadKit.Fld Z U.heap x ST "coder" "B" c0) :
    ∃ (D : Cell) (fV fC : Field), Blank ST x D U ∧ Found ST "value" "[B" fV U ∧ Found ST "coder" "B" fC U ∧ D.slots[fV.slot]? = some v0 ∧ D.slots[fC.slot]? = some c0 ∧ RoadKit.slotOf Z ST "value" "[B" = fV.slot ∧ RoadKit.slotOf Z ST "coder" "B" = fC.slot := by
  obtain ⟨D, cfV, kV, iV, fV, hD, gV, stV, knV, obV, asV, slV⟩ := V
  obtain ⟨D', cfC, kC, iC, fC, hD', gC, stC, -, -, asC, slC⟩ := C
  cases hD.symm.trans hD'
  obtain ⟨D2, kD, e1, e2, e3, e4, e5⟩ := E
  cases hD.symm.trans e1
  obtain ⟨c2, k2, i1, i2, i3, -⟩ := Cond.instantiable_spec wi
  cases e2.symm.trans i1
  cases e3.symm.trans i2
  obtain ⟨kU, u1, u2⟩ := al.2.2 _ _ e3
  exact ⟨D, fV, fC, ⟨hD, ⟨knV, fun q hq => by rw [hq] at obV; cases obV⟩, by rw [al.findClass]; exact e2, kU, u1, by rw [u2]; exact i3, by rw [u2]; exact e5 i3⟩, ⟨SBG.found_only al ⟨cfV, kV, iV, gV⟩, stV⟩, ⟨SBG.found_only al ⟨cfC, kC, iC, gC⟩, stC⟩, slV, slC, by simp [RoadKit.slotOf, gV], by simp [RoadKit.slotOf, gC]⟩
theorem sta_is {Z U : State} (al : Z.vm.Alike U.vm) {C n d : String} {v : Value} (S : RoadKit.Sta Z U.heap C n d v) : StaticIs U C n d v := by
  obtain ⟨cfS, iS, kS, fS, st, cS, t1, t2, t3, t4, t5, t6, t7⟩ := S
  exact StaticIs.there (s := { Z with heap := U.heap }) ⟨cfS, iS, kS, fS, st, cS, t1, t2, t3, t4, t5, (fun q => by rw [q] at t6; cases t6), t7⟩ al rfl
/-- **length() OF SUCH A STRING** -/
theorem lenW {p : Program} {l : Launch} {e : Env} {R : Room} {s : State} {args : Array Value} {below : List Frame} {len W : Nat} {Z : State} {a0 : Array Value} {h : Heap} (hZ : Z.Warmed39 s.vm) (hw : ∀ d ∈ wordsLen, d.before a0 Z = true) {kI : Nat} (wi : (Jvm.Cond.instantiable ST kI).before a0 Z = true)
    {x t : Addr} {kb : ClassId} {cs : List Int32} {cd N2 z : Int32} {vs : List Value} (E : RoadKit.Exa Z h x ST) (V : RoadKit.Fld Z h x ST "value" "[B" (.ref t)) (C : RoadKit.Fld Z h x ST "coder" "B" (.int cd)) (K : RoadKit.Arv Z h t kb .byte N2 vs (.int 0)) (hc : CodA cs cd N2 vs) (hb : ∀ c ∈ cs, ¬ c < 0 ∧ ¬ (65535 : Int32) < c)
    (S : RoadKit.Sta Z h ST "COMPACT_STRINGS" "Z" (.int z)) (hz : ¬ z = 0) (l2 : cs.length ≤ 4000) (hfr : 2 ≤ R.frames) (hlo : W + 25 ≤ R.locals) :
    Back l R p e below s args (⟨"java/lang/String", "length", "()I"⟩ : MethodName) len W (fun P a => a = #[.ref x] ∧ P.U.heap = h ∧ P.cells + 0 ≤ R.cells ∧ P.slots + 0 ≤ R.slots)
      (fun P _ v B => ∃ L, (v = some (.int (Int32.ofNat cs.length)) ∧ L = [] ∧ B.U.heap = h) ∧ B.locs = P.locs ++ L ∧ B.cells = P.cells + 0 ∧ B.slots = P.slots + 0) := by
  obtain ⟨A, K1, K2, K3, K4, K5, K6⟩ := K
  have hcod := hc.cod (by omega) K3 K5
  intro m meth c P g ig mk a X hg hsize hdg hW hn hp'
  obtain ⟨rfl, rfl, r1, r2⟩ := hp'
  have al : Z.vm.Alike P.U.vm := hZ.alike.trans X.warmed.alike
  obtain ⟨D, fV, fC, hB, F1, F2, g1, g2, -, -⟩ := strObj wi al E V C
  have hx : Txt x t A cd cs.length (fun j => cs.getD j 0) P.U := ⟨⟨_, hB.2.2.1, D, hB.1, rfl, by cases q : D.vm <;> first | rfl | exact absurd q (hB.2.1.2 _)⟩, Has.of hB F1 g1, Has.of hB F2 g2, ⟨K1.1, State.isArrayOf_alike al K1.2.1, K1.2.2, by rcases hcod with ⟨-, q, -⟩ | ⟨-, q, -⟩ <;> omega⟩, hcod, fun j hj => by
    have e : cs.getD j 0 = cs[j] := by simp [List.getD_eq_getElem?_getD, hj]
    show ¬ cs.getD j 0 < 0 ∧ ¬ 65535 < cs.getD j 0
    rw [e]; exact hb _ (List.getElem_mem _)⟩
  obtain ⟨v, B, X', ⟨⟨hv, hh⟩, hl, hk, hs⟩, st⟩ := Len.pays x t A cd cs.length (fun j => cs.getD j 0) z (tabLen_of (movedLen hZ hw)) hfr hlo m meth c P g ig mk _ X hg hsize hdg hW hn ⟨r1, r2, rfl, hx, sta_is al S, hz⟩
  exact ⟨v, B, X', ⟨[], ⟨hv, rfl, hh⟩, hl, hk, hs⟩, st⟩
end StrChars.Road
namespace StrChars
open Jvm Sem ClassFile Op Lib Jvm.Stand Jvm.Free.XT Jvm.Free.ALB Jvm.Free.JM Jvm.Free
open Jvm.Lib.Cold (StaticIs)
/-- what place i of a byte[]'s cell holds -/
def yv (A : Cell) (i : Nat) : Int32 := match A.slots[i]? with | some (.int x) => x | _ => 0
theorem yv_get {a : Addr} {A : Cell} {U : State} (h : XT.Arr .byte a A U) (ht : Typed .byte A) {i : Nat} (hi : i < A.slots.size) : A.slots[i]? = some (.int (yv A i)) := by
  have e := Array.getElem?_eq_getElem hi
  have f := ht i _ e
  unfold yv; rw [e]
  generalize A.slots[i] = v at f
  cases v <;> simp [fits] at f ⊢
/-- the two arrays are equal, place for place -/
def EqC (A B : Cell) : Prop := A.slots.size = B.slots.size ∧ ∀ i, i < A.slots.size → yv A i = yv B i
/-- a boolean that says whether p -/
def Says01 (q : Prop) (r : Option Value) (s u : State) : Prop := ∃ v : Int32, r = some (.int v) ∧ u.heap = s.heap ∧ ((v = 1 ∧ q) ∨ (v = 0 ∧ ¬ q))
theorem Says01.mv {q : Prop} : ∀ r (U U' V V' : State), U'.heap = U.heap → V.vm.Alike V'.vm → V'.heap = V.heap → Says01 q r U V → Says01 q r U' V' :=
  fun r U U' V V' h1 _ h2 ⟨v, a, b, c⟩ => ⟨v, a, by rw [h1, h2]; exact b, c⟩
namespace LEq
def yN : MethodName := ⟨"java/lang/StringLatin1", "equals", "([B[B)Z"⟩
abbrev yB : ByteArray := jdk_43_method_13_code
theorem d0 : decode yB 0 = .ok (.aload_n 0, 1) := by decide +kernel
theorem d1 : decode yB 1 = .ok (.arraylength, 1) := by decide +kernel
theorem d2 : decode yB 2 = .ok (.aload_n 1, 1) := by decide +kernel
theorem d3 : decode yB 3 = .ok (.arraylength, 1) := by decide +kernel
theorem d4 : decode yB 4 = .ok (.if_icmp (.ne) 30, 3) := by decide +kernel
theorem d7 : decode yB 7 = .ok (.iconst 0, 1) := by decide +kernel
theorem d8 : decode yB 8 = .ok (.istore_n 2, 1) := by decide +kernel
theorem d9 : decode yB 9 = .ok (.iload_n 2, 1) := by decide +kernel
theorem d10 : decode yB 10 = .ok (.aload_n 0, 1) := by decide +kernel
theorem d11 : decode yB 11 = .ok (.arraylength, 1) := by decide +kernel
theorem d12 : decode yB 12 = .ok (.if_icmp (.ge) 20, 3) := by decide +kernel
theorem d15 : decode yB 15 = .ok (.aload_n 0, 1) := by decide +kernel
theorem d16 : decode yB 16 = .ok (.iload_n 2, 1) := by decide +kernel
theorem d17 : decode yB 17 = .ok (.baload, 1) := by decide +kernel
theorem d18 : decode yB 18 = .ok (.aload_n 1, 1) := by decide +kernel
theorem d19 : decode yB 19 = .ok (.iload_n 2, 1) := by decide +kernel
theorem d20 : decode yB 20 = .ok (.baload, 1) := by decide +kernel
theorem d21 : decode yB 21 = .ok (.if_icmp (.eq) 5, 3) := by decide +kernel
theorem d24 : decode yB 24 = .ok (.iconst 0, 1) := by decide +kernel
theorem d25 : decode yB 25 = .ok (.ireturn, 1) := by decide +kernel
theorem d26 : decode yB 26 = .ok (.iinc 2 1, 3) := by decide +kernel
theorem d29 : decode yB 29 = .ok (.goto (-20), 3) := by decide +kernel
theorem d32 : decode yB 32 = .ok (.iconst 1, 1) := by decide +kernel
theorem d33 : decode yB 33 = .ok (.ireturn, 1) := by decide +kernel
theorem d34 : decode yB 34 = .ok (.iconst 0, 1) := by decide +kernel
theorem d35 : decode yB 35 = .ok (.ireturn, 1) := by decide +kernel
def site : List Cond := []
def tab : Cond := tabOf yN yB 3 (some .boolean) site
def P (a : Addr) (A : Cell) (b : Addr) (B : Cell) (args : Array Value) (s : State) : Prop := args = #[.ref a, .ref b] ∧ XT.Arr .byte a A s ∧ Typed .byte A ∧ XT.Arr .byte b B s ∧ Typed .byte B
/-- whether two byte[] are equal, place for place -/
theorem law (l : Launch) (a : Addr) (A : Cell) (b : Addr) (B : Cell) : Law l yN 2 2 0 0 yB 3 (some .boolean) site (P a A b B) (Says01 (EqC A B)) [] 0 0 := by
  refine Law.of_walk (plainFor_of_name (by decide +kernel)) (by decide +kernel) (by decide +kernel) (by decide) (fun _ _ h => by rw [h.1]; rfl) (fun _ U U' hal hh h => ⟨h.1, h.2.1.mv hal hh, h.2.2.1, h.2.2.2.1.mv hal hh, h.2.2.2.2⟩) (fun r U U' V V' h1 hal h2 h => Says01.mv r U U' V V' h1 hal h2 h) ?_
  intro p e s m args below meth c s₁ X0 hexec hbytes hml hret hlk hnm hown hh0 W hP
  obtain ⟨rfl, hA, tA, hB, tB⟩ := hP
  have a31 := hA.2.2.2
  have b31 := hB.2.2.2
  have hA0 := hA.mv X0.warmed.alike hh0
  have hB0 := hB.mv X0.warmed.alike hh0
  have c1 : Steps p.tables e below (s₁.setTop (entryFrame m #[.ref a, .ref b] 3)) (s₁.setTop (mkF m 0 #[.val (.ref a), .val (.ref b), .unset] [])) := entry rfl
  have c2 : Steps p.tables e below (s₁.setTop (entryFrame m #[.ref a, .ref b] 3)) (s₁.setTop (mkF m 4 #[.val (.ref a), .val (.ref b), .unset] [.int (Int32.ofNat B.slots.size), .int (Int32.ofNat A.slots.size)])) := c1.trans (by
    refine XS.aloadN X0.here hexec rfl (hb hbytes d0) rfl rfl ?_
    refine X0.alen hexec hA0 rfl rfl (hb hbytes d1) ?_
    refine XS.aloadN X0.here hexec rfl (hb hbytes d2) rfl rfl ?_
    refine X0.alen hexec hB0 rfl rfl (hb hbytes d3) ?_
    exact Steps.refl _)
  by_cases hs : A.slots.size = B.slots.size
  · have c3 : Steps p.tables e below (s₁.setTop (entryFrame m #[.ref a, .ref b] 3)) (s₁.setTop (mkF m 9 #[.val (.ref a), .val (.ref b), .val (.int 0)] [])) := c2.trans (by
      refine XS.icmpNo X0.here hexec rfl (hb hbytes d4) rfl (ii_ne_f (by rw [hs])) ?_
      refine iconstV X0.here hexec rfl 0 (hb hbytes d7) (by decide) ?_
      refine XS.istoreN X0.here hexec rfl (hb hbytes d8) rfl rfl ?_
      exact Steps.refl _)
    have loop : ∀ (r i : Nat), i + r = A.slots.size → (∀ j, j < i → yv A j = yv B j) → Steps p.tables e below (s₁.setTop (entryFrame m #[.ref a, .ref b] 3)) (s₁.setTop (mkF m 9 #[.val (.ref a), .val (.ref b), .val (.int (Int32.ofNat i))] [])) → ∃ (pc : Nat) (Ls : Array Slot) (v : Int32), (pc = 25 ∨ pc = 33) ∧ ((v = 1 ∧ EqC A B) ∨ (v = 0 ∧ ¬ EqC A B)) ∧ Steps p.tables e below (s₁.setTop (entryFrame m #[.ref a, .ref b] 3)) (s₁.setTop (mkF m pc Ls [.int v])) := by
      intro r
      induction r with
      | zero =>
        intro i hi he cl
        exact ⟨33, _, 1, Or.inr rfl, Or.inl ⟨rfl, hs, fun j hj => he j (by omega)⟩, cl.trans (by
          refine XS.iloadN X0.here hexec rfl (hb hbytes d9) rfl ?_
          refine XS.aloadN X0.here hexec rfl (hb hbytes d10) rfl rfl ?_
          refine X0.alen hexec hA0 rfl rfl (hb hbytes d11) ?_
          refine XS.icmpYes X0.here hexec rfl (pc0 := 12) rfl (hb hbytes d12) rfl (ii_ge_t (nlt32 (by omega) (by omega))) (by decide) rfl ?_
          refine iconstV X0.here hexec rfl 1 (hb hbytes d32) (by decide) ?_
          exact Steps.refl _)⟩
      | succ r ih =>
        intro i hi he cl
        have c4 : Steps p.tables e below (s₁.setTop (entryFrame m #[.ref a, .ref b] 3)) (s₁.setTop (mkF m 21 #[.val (.ref a), .val (.ref b), .val (.int (Int32.ofNat i))] [.int (yv B i), .int (yv A i)])) := cl.trans (by
          refine XS.iloadN X0.here hexec rfl (hb hbytes d9) rfl ?_
          refine XS.aloadN X0.here hexec rfl (hb hbytes d10) rfl rfl ?_
          refine X0.alen hexec hA0 rfl rfl (hb hbytes d11) ?_
          refine XS.icmpNo X0.here hexec rfl (hb hbytes d12) rfl (ii_ge_f (lt32 (by omega) (by omega))) ?_
          refine XS.aloadN X0.here hexec rfl (hb hbytes d15) rfl rfl ?_
          refine XS.iloadN X0.here hexec rfl (hb hbytes d16) rfl ?_
          refine X0.aget hexec hA0 rfl (yv_get hA tA (i := i) (by omega)) rfl rfl (hb hbytes d17) ?_
          refine XS.aloadN X0.here hexec rfl (hb hbytes d18) rfl rfl ?_
          refine XS.iloadN X0.here hexec rfl (hb hbytes d19) rfl ?_
          refine X0.aget hexec hB0 rfl (yv_get hB tB (i := i) (by omega)) rfl rfl (hb hbytes d20) ?_
          exact Steps.refl _)
        by_cases hv : yv A i = yv B i
        · have c5 : Steps p.tables e below (s₁.setTop (entryFrame m #[.ref a, .ref b] 3)) (s₁.setTop (mkF m 9 #[.val (.ref a), .val (.ref b), .val (.int (Int32.ofNat i + 1))] [])) := c4.trans (by
            refine XS.icmpYes X0.here hexec rfl (pc0 := 21) rfl (hb hbytes d21) rfl (ii_eq_t hv) (by decide) rfl ?_
            refine iincV X0.here hexec rfl 1 (hb hbytes d26) (by decide) rfl rfl ?_
            refine XS.goto X0.here hexec rfl (pc0 := 29) rfl (hb hbytes d29) (by decide) rfl ?_
            exact Steps.refl _)
          rw [succ32] at c5
          exact ih (i + 1) (by omega) (fun j hj => by
            by_cases e : j = i
            · rw [e]; exact hv
            · exact he j (by omega)) c5
        · exact ⟨25, _, 0, Or.inl rfl, Or.inr ⟨rfl, fun q => hv (q.2 i (by omega))⟩, c4.trans (by
            refine XS.icmpNo X0.here hexec rfl (hb hbytes d21) rfl (ii_eq_f hv) ?_
            refine iconstV X0.here hexec rfl 0 (hb hbytes d24) (by decide) ?_
            exact Steps.refl _)⟩
    obtain ⟨pc, Ls, v, hpc, hv, cz⟩ := loop A.slots.size 0 (by omega) (fun j hj => absurd hj (Nat.not_lt_zero j)) c3
    have nv : narrow .boolean (.int v) = .int v := by rcases hv with ⟨rfl, -⟩ | ⟨rfl, -⟩ <;> rfl
    rcases hpc with rfl | rfl
    · exact ⟨s₁, some (.int v), _, _, _, X0, rfl, rfl, rfl, (fun h => by cases h), ⟨v, rfl, hh0, hv⟩, fun fs hl => cz.trans (X0.ireturnOut hexec hret nv (Or.inr (Or.inl rfl)) (hb hbytes d25) hl)⟩
    · exact ⟨s₁, some (.int v), _, _, _, X0, rfl, rfl, rfl, (fun h => by cases h), ⟨v, rfl, hh0, hv⟩, fun fs hl => cz.trans (X0.ireturnOut hexec hret nv (Or.inr (Or.inl rfl)) (hb hbytes d33) hl)⟩
  · have c3 : Steps p.tables e below (s₁.setTop (entryFrame m #[.ref a, .ref b] 3)) (s₁.setTop (mkF m 35 #[.val (.ref a), .val (.ref b), .unset] [.int 0])) := c2.trans (by
      refine XS.icmpYes X0.here hexec rfl (pc0 := 4) rfl (hb hbytes d4) rfl (ii_ne_t (ne32 a31 b31 hs)) (by decide) rfl ?_
      refine iconstV X0.here hexec rfl 0 (hb hbytes d34) (by decide) ?_
      exact Steps.refl _)
    exact ⟨s₁, some (.int 0), _, _, _, X0, rfl, rfl, rfl, (fun h => by cases h), ⟨0, rfl, hh0, Or.inr ⟨rfl, fun q => hs q.1⟩⟩, fun fs hl => c3.trans (X0.ireturnOut hexec hret rfl (Or.inr (Or.inl rfl)) (hb hbytes d35) hl)⟩
end LEq
theorem Cod.ty {cd : Int32} {n : Nat} {f : Nat → Int32} {V : Cell} (h : Cod cd n f V) : Typed .byte V := fun i v hv => by
  have hi : i < V.slots.size := (Array.getElem?_eq_some_iff.mp hv).1
  rcases h with ⟨-, k1, k2⟩ | ⟨-, k1, k2, -⟩
  · rw [(k2 i (by omega)).1] at hv; cases hv; exact fits_lo8 _
  · rcases Nat.mod_two_eq_zero_or_one i with e | e
    · obtain ⟨j, rfl⟩ : ∃ j, i = 2 * j := ⟨i / 2, by omega⟩
      rw [(k2 j (by omega)).1] at hv; cases hv; exact fits_lo8 _
    · obtain ⟨j, rfl⟩ : ∃ j, i = 2 * j + 1 := ⟨i / 2, by omega⟩
      rw [(k2 j (by omega)).2] at hv; cases hv; exact fits_lo8 _
/-- the same text -/
def SameT (n : Nat) (f : Nat → Int32) (k : Nat) (g : Nat → Int32) : Prop := n = k ∧ ∀ j, j < n → f j = g j
theorem lo8_inj {x y : Int32} (h0 : ¬ x < 0) (h1 : ¬ 255 < x) (k0 : ¬ y < 0) (k1 : ¬ 255 < y) (h : lo8 x = lo8 y) : x = y := by
  rw [← lo8_mask h0 h1, ← lo8_mask k0 k1, h]
/-- arrays coded by one coder are equal just where the texts are -/
theorem Cod.eqv {cd : Int32} {n k : Nat} {f g : Nat → Int32} {V V' : Cell} (h : Cod cd n f V) (h' : Cod cd k g V') (hf : ∀ j, j < n → ¬ f j < 0 ∧ ¬ 65535 < f j) (hg : ∀ j, j < k → ¬ g j < 0 ∧ ¬ 65535 < g j) : EqC V V' ↔ SameT n f k g := by
  have yvv : ∀ {W : Cell} {i : Nat} {x : Int32}, W.slots[i]? = some (.int x) → yv W i = x := fun q => by unfold yv; rw [q]
  rcases h with ⟨rfl, k1, k2⟩ | ⟨rfl, k1, k2, -⟩
  · rcases h' with ⟨-, m1, m2⟩ | ⟨e, -⟩
    · constructor
      · rintro ⟨e1, e2⟩
        refine ⟨by omega, fun j hj => ?_⟩
        have q := e2 j (by omega)
        rw [yvv (k2 j hj).1, yvv (m2 j (by omega)).1] at q
        exact lo8_inj (hf j hj).1 (k2 j hj).2 (hg j (by omega)).1 (m2 j (by omega)).2 q
      · rintro ⟨rfl, e2⟩
        refine ⟨by omega, fun j hj => ?_⟩
        rw [yvv (k2 j (by omega)).1, yvv (m2 j (by omega)).1, e2 j (by omega)]
    · exact absurd e (by decide)
  · rcases h' with ⟨e, -⟩ | ⟨-, m1, m2, -⟩
    · exact absurd e (by decide)
    · constructor
      · rintro ⟨e1, e2⟩
        refine ⟨by omega, fun j hj => ?_⟩
        have q1 := e2 (2 * j) (by omega)
        have q2 := e2 (2 * j + 1) (by omega)
        rw [yvv (k2 j hj).1, yvv (m2 j (by omega)).1] at q1
        rw [yvv (k2 j hj).2, yvv (m2 j (by omega)).2] at q2
        rw [← pair_says (hf j hj).1 (hf j hj).2, ← pair_says (hg j (by omega)).1 (hg j (by omega)).2, q1, q2]
      · rintro ⟨rfl, e2⟩
        refine ⟨by omega, fun i hi => ?_⟩
        rcases Nat.mod_two_eq_zero_or_one i with e | e
        · obtain ⟨j, rfl⟩ : ∃ j, i = 2 * j := ⟨i / 2, by omega⟩
          rw [yvv (k2 j (by omega)).1, yvv (m2 j (by omega)).1, e2 j (by omega)]
        · obtain ⟨j, rfl⟩ : ∃ j, i = 2 * j + 1 := ⟨i / 2, by omega⟩
          rw [yvv (k2 j (by omega)).2, yvv (m2 j (by omega)).2, e2 j (by omega)]
/-- two codings differ: so do the texts -/
theorem Cod.dif {cd cd' : Int32} {n k : Nat} {f g : Nat → Int32} {V V' : Cell} (h : Cod cd n f V) (h' : Cod cd' k g V') (hne : ¬ cd = cd') : ¬ SameT n f k g := by
  rintro ⟨rfl, e⟩
  rcases h with ⟨rfl, -, k2⟩ | ⟨rfl, -, -, j, hj, hw⟩
  · rcases h' with ⟨rfl, -⟩ | ⟨-, -, -, j, hj, hw⟩
    · exact hne rfl
    · exact (k2 j hj).2 (by rw [e j hj]; exact hw)
  · rcases h' with ⟨-, -, m2⟩ | ⟨rfl, -⟩
    · exact (m2 j hj).2 (by rw [← e j hj]; exact hw)
    · exact hne rfl
/-- an object of exactly C is an instance of C -/
theorem cinst {p : Program} {l : Launch} {e : Env} {R : Room} {s : State} {m : MethodId} {args : Array Value} {below : List Frame} {meth : Method} {c : Code} {T : State} {locs : List Loc} {cells slots : Nat} (X : Stand p l e R s m args below meth c T locs cells slots) (hexec : p.tables.exec = Jvm.exec) {own C : String} {index : Nat} (hown : s.vm.findClass own = some m.cls) (hlink : (Cond.classLink own index C).before args s = true) {a : Addr} (hE : Exact C a T)
    {g : JFrame} (hg : g.method = m) {rest : List Value} (hstack : g.stack = .ref a :: rest) (hdg : decode c.code g.pc = .ok (.instanceof index, 3)) :
    ∃ T', Stand p l e R s m args below meth c T' locs cells slots ∧ T'.heap = T.heap ∧ ∀ target, Steps p.tables e below (T'.setTop { g with pc := g.pc + 3, stack := .int 1 :: rest }) target → Steps p.tables e below (T.setTop g) target := by
  obtain ⟨cB, h1, D, h2, h3, h4⟩ := hE
  have h1' : s.vm.findClass C = some cB := by rw [← X.warmed.alike.findClass]; exact h1
  obtain ⟨vm', X', st⟩ := X.instanceofYes hexec hown hlink h2 h4 h1' (by rw [h3]; exact Jvm.Free.SB.assignable_self _ _) hg hstack hdg
  exact ⟨_, X', rfl, st⟩
theorem cself {p : Program} {l : Launch} {e : Env} {R : Room} {s : State} {m : MethodId} {args : Array Value} {below : List Frame} {meth : Method} {c : Code} {T : State} {locs : List Loc} {cells slots : Nat} (X : Stand p l e R s m args below meth c T locs cells slots) (hexec : p.tables.exec = Jvm.exec) {own C : String} {index : Nat} (hown : s.vm.findClass own = some m.cls) (hlink : (Cond.classLink own index C).before args s = true) {a : Addr} (hE : Exact C a T)
    {g : JFrame} (hg : g.method = m) {rest : List Value} (hstack : g.stack = .ref a :: rest) (hdg : decode c.code g.pc = .ok (.checkcast index, 3)) :
    ∃ T', Stand p l e R s m args below meth c T' locs cells slots ∧ T'.heap = T.heap ∧ ∀ target, Steps p.tables e below (T'.setTop { g with pc := g.pc + 3, stack := .ref a :: rest }) target → Steps p.tables e below (T.setTop g) target := by
  obtain ⟨cB, h1, D, h2, h3, h4⟩ := hE
  have h1' : s.vm.findClass C = some cB := by rw [← X.warmed.alike.findClass]; exact h1
  obtain ⟨vm', X', st⟩ := X.checkcastYes hexec hown hlink h2 h4 h1' (by rw [h3]; exact Jvm.Free.SB.assignable_self _ _) hg hstack hdg
  exact ⟨_, X', rfl, fun t h => st t (by rw [← hstack] at h; exact h)⟩
namespace SEq
def yN : MethodName := ⟨"java/lang/String", "equals", "(Ljava/lang/Object;)Z"⟩
abbrev yB : ByteArray := jdk_42_method_66_code
theorem d0 : decode yB 0 = .ok (.aload_n 0, 1) := by decide +kernel
theorem d1 : decode yB 1 = .ok (.aload_n 1, 1) := by decide +kernel
theorem d2 : decode yB 2 = .ok (.if_acmp (.ne) 5, 3) := by decide +kernel
theorem d5 : decode yB 5 = .ok (.iconst 1, 1) := by decide +kernel
theorem d6 : decode yB 6 = .ok (.ireturn, 1) := by decide +kernel
theorem d7 : decode yB 7 = .ok (.aload_n 1, 1) := by decide +kernel
theorem d8 : decode yB 8 = .ok (.instanceof 10, 3) := by decide +kernel
theorem d11 : decode yB 11 = .ok (.ifCond (.eq) 43, 3) := by decide +kernel
theorem d14 : decode yB 14 = .ok (.aload_n 1, 1) := by decide +kernel
theorem d15 : decode yB 15 = .ok (.checkcast 10, 3) := by decide +kernel
theorem d18 : decode yB 18 = .ok (.astore_n 2, 1) := by decide +kernel
theorem d19 : decode yB 19 = .ok (.getstatic 38, 3) := by decide +kernel
theorem d22 : decode yB 22 = .ok (.ifCond (.eq) 14, 3) := by decide +kernel
theorem d25 : decode yB 25 = .ok (.aload_n 0, 1) := by decide +kernel
theorem d26 : decode yB 26 = .ok (.getfield 15, 3) := by decide +kernel
theorem d29 : decode yB 29 = .ok (.aload_n 2, 1) := by decide +kernel
theorem d30 : decode yB 30 = .ok (.getfield 15, 3) := by decide +kernel
theorem d33 : decode yB 33 = .ok (.if_icmp (.ne) 21, 3) := by decide +kernel
theorem d36 : decode yB 36 = .ok (.aload_n 0, 1) := by decide +kernel
theorem d37 : decode yB 37 = .ok (.getfield 9, 3) := by decide +kernel
theorem d40 : decode yB 40 = .ok (.aload_n 2, 1) := by decide +kernel
theorem d41 : decode yB 41 = .ok (.getfield 9, 3) := by decide +kernel
theorem d44 : decode yB 44 = .ok (.invokestatic 541, 3) := by decide +kernel
theorem d47 : decode yB 47 = .ok (.ifCond (.eq) 7, 3) := by decide +kernel
theorem d50 : decode yB 50 = .ok (.iconst 1, 1) := by decide +kernel
theorem d51 : decode yB 51 = .ok (.goto 4, 3) := by decide +kernel
theorem d54 : decode yB 54 = .ok (.iconst 0, 1) := by decide +kernel
theorem d55 : decode yB 55 = .ok (.ireturn, 1) := by decide +kernel
def site : List Cond := [.classLink "java/lang/String" 10 "java/lang/String", .fieldLink "java/lang/String" 38 "java/lang/String" "COMPACT_STRINGS" "Z", .fieldLink "java/lang/String" 15 "java/lang/String" "coder" "B", .fieldLink "java/lang/String" 9 "java/lang/String" "value" "[B", LEq.tab] ++ staticW "java/lang/String" 541 LEq.yN
def tab : Cond := tabOf yN yB 3 (some .boolean) site
def P (x t : Addr) (V : Cell) (cd : Int32) (n : Nat) (f : Nat → Int32) (y t' : Addr) (V' : Cell) (cd' : Int32) (k : Nat) (g : Nat → Int32) (z : Int32) (args : Array Value) (s : State) : Prop := args = #[.ref x, .ref y] ∧ Txt x t V cd n f s ∧ Txt y t' V' cd' k g s ∧ StaticIs s "java/lang/String" "COMPACT_STRINGS" "Z" (.int z) ∧ ¬ z = 0
/-- equals(Object) of two Strings: whether the texts are the same -/
theorem law (l : Launch) (x t : Addr) (V : Cell) (cd : Int32) (n : Nat) (f : Nat → Int32) (y t' : Addr) (V' : Cell) (cd' : Int32) (k : Nat) (g : Nat → Int32) (z : Int32) : Law l yN 2 1 1 14 yB 3 (some .boolean) site (P x t V cd n f y t' V' cd' k g z) (Says01 (SameT n f k g)) [] 0 0 := by
  refine Law.of_walk (plainFor_of_name (by decide +kernel)) (by decide +kernel) (by decide +kernel) (by decide) (fun _ _ h => by rw [h.1]; rfl) (fun _ U U' hal hh h => ⟨h.1, h.2.1.mv hal hh, h.2.2.1.mv hal hh, h.2.2.2.1.there hal hh, h.2.2.2.2⟩) (fun r U U' V V' h1 hal h2 h => Says01.mv r U U' V V' h1 hal h2 h) ?_
  intro p e s m args below meth c s₁ X0 hexec hbytes hml hret hlk hnm hown hh0 W hP
  obtain ⟨rfl, hx, hy, s1, hz⟩ := hP
  have c1 : Steps p.tables e below (s₁.setTop (entryFrame m #[.ref x, .ref y] 3)) (s₁.setTop (mkF m 2 #[.val (.ref x), .val (.ref y), .unset] [.ref y, .ref x])) := Steps.trans (entry rfl) (by
    show Steps p.tables e below (s₁.setTop (mkF m 0 #[.val (.ref x), .val (.ref y), .unset] [])) _
    refine XS.aloadN X0.here hexec rfl (hb hbytes d0) rfl rfl ?_
    refine XS.aloadN X0.here hexec rfl (hb hbytes d1) rfl rfl ?_
    exact Steps.refl _)
  by_cases hxy : x = y
  · have c2 : Steps p.tables e below (s₁.setTop (entryFrame m #[.ref x, .ref y] 3)) (s₁.setTop (mkF m 6 #[.val (.ref x), .val (.ref y), .unset] [.int 1])) := c1.trans (by
      refine acmpNo X0.here hexec rfl (hb hbytes d2) rfl rfl rfl (by simp [acmp, hxy]) ?_
      refine iconstV X0.here hexec rfl 1 (hb hbytes d5) (by decide) ?_
      exact Steps.refl _)
    subst hxy
    have ec : cd = cd' := by
      obtain ⟨D, fd, a1, a2, a3⟩ := hx.2.2.1
      obtain ⟨D', fd', b1, b2, b3⟩ := hy.2.2.1
      cases a1.symm.trans b1
      obtain ⟨q1, q2, q3, q4⟩ := a2.1
      obtain ⟨r1, r2, r3, r4⟩ := b2.1
      cases q4.symm.trans r4
      cases a3.symm.trans b3; rfl
    have et : t = t' := by
      obtain ⟨D, fd, a1, a2, a3⟩ := hx.2.1
      obtain ⟨D', fd', b1, b2, b3⟩ := hy.2.1
      cases a1.symm.trans b1
      obtain ⟨q1, q2, q3, q4⟩ := a2.1
      obtain ⟨r1, r2, r3, r4⟩ := b2.1
      cases q4.symm.trans r4
      cases a3.symm.trans b3; rfl
    subst ec et
    have ev : V = V' := by cases hx.2.2.2.1.1.symm.trans hy.2.2.2.1.1; rfl
    subst ev
    have hs : SameT n f k g := (Cod.eqv hx.2.2.2.2.1 hy.2.2.2.2.1 hx.2.2.2.2.2 hy.2.2.2.2.2).mp ⟨rfl, fun _ _ => rfl⟩
    exact ⟨s₁, some (.int 1), _, _, _, X0, rfl, rfl, rfl, (fun h => by cases h), ⟨1, rfl, hh0, Or.inl ⟨rfl, hs⟩⟩, fun fs hl => c2.trans (X0.ireturnOut hexec hret rfl (Or.inr (Or.inl rfl)) (hb hbytes d6) hl)⟩
  · have c2 : Steps p.tables e below (s₁.setTop (entryFrame m #[.ref x, .ref y] 3)) (s₁.setTop (mkF m 8 #[.val (.ref x), .val (.ref y), .unset] [.ref y])) := c1.trans (by
      refine acmpYes X0.here hexec rfl (pc0 := 2) rfl (hb hbytes d2) rfl rfl rfl (by simp [acmp, hxy]) (by decide) rfl ?_
      refine XS.aloadN X0.here hexec rfl (hb hbytes d7) rfl rfl ?_
      exact Steps.refl _)
    obtain ⟨T3, X3, q3, st3⟩ := cinst X0 hexec hown (wk W (.classLink "java/lang/String" 10 "java/lang/String")) (hy.mv X0.warmed.alike hh0).1 (g := (mkF m 8 #[.val (.ref x), .val (.ref y), .unset] [.ref y])) rfl (rest := []) rfl (hb hbytes d8)
    have hh3 := q3.trans hh0
    have c4 : Steps p.tables e below (s₁.setTop (entryFrame m #[.ref x, .ref y] 3)) (T3.setTop (mkF m 15 #[.val (.ref x), .val (.ref y), .unset] [.ref y])) := (c2.trans (st3 _ (Steps.refl _))).trans (by
      refine XS.ifNo X3.here hexec rfl (hb hbytes d11) rfl (i0_eq_f (by decide)) ?_
      refine XS.aloadN X3.here hexec rfl (hb hbytes d14) rfl rfl ?_
      exact Steps.refl _)
    obtain ⟨T5, X5, q5, st5⟩ := cself X3 hexec hown (wk W (.classLink "java/lang/String" 10 "java/lang/String")) (hy.mv X3.warmed.alike hh3).1 (g := (mkF m 15 #[.val (.ref x), .val (.ref y), .unset] [.ref y])) rfl (rest := []) rfl (hb hbytes d15)
    have hh5 := q5.trans hh3
    have c6 : Steps p.tables e below (s₁.setTop (entryFrame m #[.ref x, .ref y] 3)) (T5.setTop (mkF m 19 #[.val (.ref x), .val (.ref y), .val (.ref y)] [])) := (c4.trans (st5 _ (Steps.refl _))).trans (by
      refine XS.astoreN X5.here hexec rfl (hb hbytes d18) rfl rfl rfl ?_
      exact Steps.refl _)
    obtain ⟨T7, X7, q7, st7⟩ := X5.sget hexec hown (wk W (.fieldLink "java/lang/String" 38 "java/lang/String" "COMPACT_STRINGS" "Z")) s1 (fun _ _ h => by rw [hh5]; exact h) (g := (mkF m 19 #[.val (.ref x), .val (.ref y), .val (.ref y)] [])) rfl (hb hbytes d19)
    have hh7 := q7.trans hh5
    have c8 : Steps p.tables e below (s₁.setTop (entryFrame m #[.ref x, .ref y] 3)) (T7.setTop (mkF m 26 #[.val (.ref x), .val (.ref y), .val (.ref y)] [.ref x])) := (c6.trans (st7 _ (Steps.refl _))).trans (by
      refine XS.ifNo X7.here hexec rfl (hb hbytes d22) rfl (i0_eq_f hz) ?_
      refine XS.aloadN X7.here hexec rfl (hb hbytes d25) rfl rfl ?_
      exact Steps.refl _)
    obtain ⟨T9, X9, q9, st9⟩ := X7.hget hexec hown (wk W (.fieldLink "java/lang/String" 15 "java/lang/String" "coder" "B")) (hx.mv X7.warmed.alike hh7).2.2.1 (g := (mkF m 26 #[.val (.ref x), .val (.ref y), .val (.ref y)] [.ref x])) rfl (rest := []) rfl (hb hbytes d26)
    have hh9 := q9.trans hh7
    have c10 : Steps p.tables e below (s₁.setTop (entryFrame m #[.ref x, .ref y] 3)) (T9.setTop (mkF m 30 #[.val (.ref x), .val (.ref y), .val (.ref y)] [.ref y, .int cd])) := (c8.trans (st9 _ (Steps.refl _))).trans (by
      refine XS.aloadN X9.here hexec rfl (hb hbytes d29) rfl rfl ?_
      exact Steps.refl _)
    obtain ⟨T11, X11, q11, st11⟩ := X9.hget hexec hown (wk W (.fieldLink "java/lang/String" 15 "java/lang/String" "coder" "B")) (hy.mv X9.warmed.alike hh9).2.2.1 (g := (mkF m 30 #[.val (.ref x), .val (.ref y), .val (.ref y)] [.ref y, .int cd])) rfl (rest := [.int cd]) rfl (hb hbytes d30)
    have hh11 := q11.trans hh9
    have c12 : Steps p.tables e below (s₁.setTop (entryFrame m #[.ref x, .ref y] 3)) (T11.setTop (mkF m 33 #[.val (.ref x), .val (.ref y), .val (.ref y)] [.int cd', .int cd])) := c10.trans (st11 _ (Steps.refl _))
    by_cases hcd : cd = cd'
    · subst hcd
      have c13 : Steps p.tables e below (s₁.setTop (entryFrame m #[.ref x, .ref y] 3)) (T11.setTop (mkF m 37 #[.val (.ref x), .val (.ref y), .val (.ref y)] [.ref x])) := c12.trans (by
        refine XS.icmpNo X11.here hexec rfl (hb hbytes d33) rfl (ii_ne_f rfl) ?_
        refine XS.aloadN X11.here hexec rfl (hb hbytes d36) rfl rfl ?_
        exact Steps.refl _)
      obtain ⟨T14, X14, q14, st14⟩ := X11.hget hexec hown (wk W (.fieldLink "java/lang/String" 9 "java/lang/String" "value" "[B")) (hx.mv X11.warmed.alike hh11).2.1 (g := (mkF m 37 #[.val (.ref x), .val (.ref y), .val (.ref y)] [.ref x])) rfl (rest := []) rfl (hb hbytes d37)
      have hh14 := q14.trans hh11
      have c15 : Steps p.tables e below (s₁.setTop (entryFrame m #[.ref x, .ref y] 3)) (T14.setTop (mkF m 41 #[.val (.ref x), .val (.ref y), .val (.ref y)] [.ref y, .ref t])) := (c13.trans (st14 _ (Steps.refl _))).trans (by
        refine XS.aloadN X14.here hexec rfl (hb hbytes d40) rfl rfl ?_
        exact Steps.refl _)
      obtain ⟨T16, X16, q16, st16⟩ := X14.hget hexec hown (wk W (.fieldLink "java/lang/String" 9 "java/lang/String" "value" "[B")) (hy.mv X14.warmed.alike hh14).2.1 (g := (mkF m 41 #[.val (.ref x), .val (.ref y), .val (.ref y)] [.ref y, .ref t])) rfl (rest := [.ref t]) rfl (hb hbytes d41)
      have hh16 := q16.trans hh14
      have c17 : Steps p.tables e below (s₁.setTop (entryFrame m #[.ref x, .ref y] 3)) (T16.setTop (mkF m 44 #[.val (.ref x), .val (.ref y), .val (.ref y)] [.ref t', .ref t])) := c15.trans (st16 _ (Steps.refl _))
      obtain ⟨v18, T18, X18, E18, g18⟩ := X16.callS hexec (LEq.law l t V t' V') hown (wks W (staticW "java/lang/String" 541 LEq.yN)) (wk W LEq.tab) (W := 0) (Nat.le_of_ble_eq_true rfl) (Nat.le_of_ble_eq_true rfl) (Nat.le_refl _) (Nat.le_refl _) (g := (mkF m 44 #[.val (.ref x), .val (.ref y), .val (.ref y)] [.ref t', .ref t])) rfl (by rw [hml]; rfl) c17 (argsL := [.ref t, .ref t']) (rest := []) rfl rfl (by show 2 * 0 + 0 ≤ _; decide) (hb hbytes d44) (⟨rfl, hx.2.2.2.1.mv X16.warmed.alike hh16, hx.2.2.2.2.1.ty, hy.2.2.2.1.mv X16.warmed.alike hh16, hy.2.2.2.2.1.ty⟩)
      obtain ⟨v, rfl, q18, hv⟩ := E18
      have iff := Cod.eqv hx.2.2.2.2.1 hy.2.2.2.2.1 hx.2.2.2.2.2 hy.2.2.2.2.2
      rcases hv with ⟨rfl, he⟩ | ⟨rfl, he⟩
      · have c19 : Steps p.tables e below (s₁.setTop (entryFrame m #[.ref x, .ref y] 3)) (T18.setTop (mkF m 55 #[.val (.ref x), .val (.ref y), .val (.ref y)] [.int 1])) := Steps.trans g18 (by
          refine XS.ifNo X18.here hexec rfl (hb hbytes d47) rfl (i0_eq_f (by decide)) ?_
          refine iconstV X18.here hexec rfl 1 (hb hbytes d50) (by decide) ?_
          refine XS.goto X18.here hexec rfl (pc0 := 51) rfl (hb hbytes d51) (by decide) rfl ?_
          exact Steps.refl _)
        exact ⟨T18, some (.int 1), _, _, _, X18, rfl, rfl, rfl, (fun h => by cases h), ⟨1, rfl, q18.trans hh16, Or.inl ⟨rfl, iff.mp he⟩⟩, fun fs hl => c19.trans (X18.ireturnOut hexec hret rfl (Or.inr (Or.inl rfl)) (hb hbytes d55) hl)⟩
      · have c19 : Steps p.tables e below (s₁.setTop (entryFrame m #[.ref x, .ref y] 3)) (T18.setTop (mkF m 55 #[.val (.ref x), .val (.ref y), .val (.ref y)] [.int 0])) := Steps.trans g18 (by
          refine XS.ifYes X18.here hexec rfl (pc0 := 47) rfl (hb hbytes d47) rfl (i0_eq_t rfl) (by decide) rfl ?_
          refine iconstV X18.here hexec rfl 0 (hb hbytes d54) (by decide) ?_
          exact Steps.refl _)
        exact ⟨T18, some (.int 0), _, _, _, X18, rfl, rfl, rfl, (fun h => by cases h), ⟨0, rfl, q18.trans hh16, Or.inr ⟨rfl, fun q => he (iff.mpr q)⟩⟩, fun fs hl => c19.trans (X18.ireturnOut hexec hret rfl (Or.inr (Or.inl rfl)) (hb hbytes d55) hl)⟩
    · have c13 : Steps p.tables e below (s₁.setTop (entryFrame m #[.ref x, .ref y] 3)) (T11.setTop (mkF m 55 #[.val (.ref x), .val (.ref y), .val (.ref y)] [.int 0])) := c12.trans (by
        refine XS.icmpYes X11.here hexec rfl (pc0 := 33) rfl (hb hbytes d33) rfl (ii_ne_t hcd) (by decide) rfl ?_
        refine iconstV X11.here hexec rfl 0 (hb hbytes d54) (by decide) ?_
        exact Steps.refl _)
      exact ⟨T11, some (.int 0), _, _, _, X11, rfl, rfl, rfl, (fun h => by cases h), ⟨0, rfl, hh11, Or.inr ⟨rfl, Cod.dif hx.2.2.2.2.1 hy.2.2.2.2.1 hcd⟩⟩, fun fs hl => c13.trans (X11.ireturnOut hexec hret rfl (Or.inr (Or.inl rfl)) (hb hbytes d55) hl)⟩
theorem pays {l : Launch} {R : Room} {p : Program} {e : Env} {below : List Frame} {s : State} {sargs : Array Value} {len W : Nat} (x t : Addr) (V : Cell) (cd : Int32) (n : Nat) (f : Nat → Int32) (y t' : Addr) (V' : Cell) (cd' : Int32) (k : Nat) (g : Nat → Int32) (z : Int32) (htab : tab.before sargs s = true) (hfr : 2 ≤ R.frames) (hlo : W + 28 ≤ R.locals) :
    Back l R p e below s sargs yN len W (fun A₁ a₁ => A₁.cells + 0 ≤ R.cells ∧ A₁.slots + 0 ≤ R.slots ∧ P x t V cd n f y t' V' cd' k g z a₁ A₁.U) (fun A₁ _ v₁ B₁ => Says01 (SameT n f k g) v₁ A₁.U B₁.U ∧ B₁.locs = A₁.locs ++ [] ∧ B₁.cells = A₁.cells + 0 ∧ B₁.slots = A₁.slots + 0) :=
  (law l x t V cd n f y t' V' cd' k g z).pays htab hfr (by omega)
end SEq
end StrChars
namespace StrChars.Road
open Jvm Sem ClassFile Op Lib Jvm.Stand Jvm.Free Jvm.Free.XT
open Jvm.Lib.Cold (StaticIs)
/-- the words of String.equals(Object) -/
abbrev wordsEq : List Jvm.Cond := [.code SEq.yN SEq.yB 3 (some .boolean), .initialized ST, .classLink ST 10 ST, .fieldLink ST 38 ST "COMPACT_STRINGS" "Z", .fieldLink ST 15 ST "coder" "B", .fieldLink ST 9 ST "value" "[B", .methodLink ST 541 LEq.yN, .static LEq.yN, .code LEq.yN LEq.yB 3 (some .boolean), .initialized "java/lang/StringLatin1"]
theorem tabEq_of {a : Array Value} {s : State} (h : ∀ w ∈ wordsEq, w.before a s = true) : SEq.tab.before a s = true := by
  have hl : LEq.tab.before a s = true := unparts (wk h (.code LEq.yN LEq.yB 3 (some .boolean))) (wks h (.initialized LEq.yN.cls :: LEq.site))
  have q := consq hl h
  exact unparts (wk q (.code SEq.yN SEq.yB 3 (some .boolean))) (wks q (.initialized SEq.yN.cls :: SEq.site))
theorem movedEq {Z s : State} {a0 args : Array Value} (hZ : Z.Warmed39 s.vm) (hw : ∀ d ∈ wordsEq, d.before a0 Z = true) : ∀ d ∈ wordsEq, d.before args s = true := fun d hd => by
  have t : ∀ d ∈ wordsEq, (d.onTables && d.keepsFace) = true := by decide +kernel
  exact RoadKit.mv hZ (hw d hd) (t d hd)
/-- the road's facts of a String, as the laws ask it -/
theorem txt_of {Z U : State} {a0 : Array Value} {kI : Nat} (wi : (Jvm.Cond.instantiable ST kI).before a0 Z = true) (al : Z.vm.Alike U.vm) {x t : Addr} {kb : ClassId} {cs : List Int32} {cd N2 : Int32} {vs : List Value} (E : RoadKit.Exa Z U.heap x ST) (V : RoadKit.Fld Z U.heap x ST "value" "[B" (.ref t)) (C : RoadKit.Fld Z U.heap x ST "coder" "B" (.int cd)) (K : RoadKit.Arv Z U.heap t kb .byte N2 vs (.int 0)) (hc : CodA cs cd N2 vs) (hb : ∀ c ∈ cs, ¬ c < 0 ∧ ¬ (65535 : Int32) < c) (l2 : cs.length ≤ 4000) :
    ∃ A, Txt x t A cd cs.length (fun j => cs.getD j 0) U := by
  obtain ⟨A, K1, K2, K3, K4, K5, K6⟩ := K
  have hcod := hc.cod (by omega) K3 K5
  obtain ⟨D, fV, fC, hB, F1, F2, g1, g2, -, -⟩ := strObj wi al E V C
  exact ⟨A, ⟨_, hB.2.2.1, D, hB.1, rfl, by cases q : D.vm <;> first | rfl | exact absurd q (hB.2.1.2 _)⟩, Has.of hB F1 g1, Has.of hB F2 g2, ⟨K1.1, State.isArrayOf_alike al K1.2.1, K1.2.2, by rcases hcod with ⟨-, q, -⟩ | ⟨-, q, -⟩ <;> omega⟩, hcod, fun j hj => by
    have e : cs.getD j 0 = cs[j] := by simp [List.getD_eq_getElem?_getD, hj]
    show ¬ cs.getD j 0 < 0 ∧ ¬ 65535 < cs.getD j 0
    rw [e]; exact hb _ (List.getElem_mem _)⟩
theorem same_list (cs ds : List Int32) : SameT cs.length (fun j => cs.getD j 0) ds.length (fun j => ds.getD j 0) ↔ cs = ds := by
  constructor
  · rintro ⟨e, q⟩
    refine List.ext_getElem e fun j h1 h2 => ?_
    have := q j h1
    simpa [List.getD_eq_getElem?_getD, h1, h2] using this
  · rintro rfl
    exact ⟨rfl, fun _ _ => rfl⟩
/-- **equals(Object) OF TWO SUCH STRINGS**: 1 just where the chars are the same -/
theorem eqW {p : Program} {l : Launch} {e : Env} {R : Room} {s : State} {args : Array Value} {below : List Frame} {len W : Nat} {Z : State} {a0 : Array Value} {h : Heap} (hZ : Z.Warmed39 s.vm) (hw : ∀ d ∈ wordsEq, d.before a0 Z = true) {kI : Nat} (wi : (Jvm.Cond.instantiable ST kI).before a0 Z = true)
    {x t : Addr} {kb : ClassId} {cs : List Int32} {cd N2 : Int32} {vs : List Value} (E : RoadKit.Exa Z h x ST) (V : RoadKit.Fld Z h x ST "value" "[B" (.ref t)) (C : RoadKit.Fld Z h x ST "coder" "B" (.int cd)) (K : RoadKit.Arv Z h t kb .byte N2 vs (.int 0)) (hc : CodA cs cd N2 vs) (hb : ∀ c ∈ cs, ¬ c < 0 ∧ ¬ (65535 : Int32) < c) (l2 : cs.length ≤ 4000)
    {y t' : Addr} {kb' : ClassId} {ds : List Int32} {cd' N2' : Int32} {vs' : List Value} (E' : RoadKit.Exa Z h y ST) (V' : RoadKit.Fld Z h y ST "value" "[B" (.ref t')) (C' : RoadKit.Fld Z h y ST "coder" "B" (.int cd')) (K' : RoadKit.Arv Z h t' kb' .byte N2' vs' (.int 0)) (hc' : CodA ds cd' N2' vs') (hb' : ∀ c ∈ ds, ¬ c < 0 ∧ ¬ (65535 : Int32) < c) (l2' : ds.length ≤ 4000)
    {z : Int32} (S : RoadKit.Sta Z h ST "COMPACT_STRINGS" "Z" (.int z)) (hz : ¬ z = 0) (hfr : 2 ≤ R.frames) (hlo : W + 28 ≤ R.locals) :
    Back l R p e below s args (⟨"java/lang/String", "equals", "(Ljava/lang/Object;)Z"⟩ : MethodName) len W (fun P a => a = #[.ref x, .ref y] ∧ P.U.heap = h ∧ P.cells + 0 ≤ R.cells ∧ P.slots + 0 ≤ R.slots)
      (fun P _ v B => ∃ L, (((v = some (.int 1) ∧ cs = ds) ∨ (v = some (.int 0) ∧ ¬ cs = ds)) ∧ L = [] ∧ B.U.heap = h) ∧ B.locs = P.locs ++ L ∧ B.cells = P.cells + 0 ∧ B.slots = P.slots + 0) := by
  intro m meth c P g ig mk a X hg hsize hdg hW hn hp'
  obtain ⟨rfl, rfl, r1, r2⟩ := hp'
  have al : Z.vm.Alike P.U.vm := hZ.alike.trans X.warmed.alike
  obtain ⟨A, hx⟩ := txt_of wi al E V C K hc hb l2
  obtain ⟨A', hy⟩ := txt_of wi al E' V' C' K' hc' hb' l2'
  obtain ⟨v, B, X', ⟨⟨w, hv, hh, hq⟩, hl, hk, hs⟩, st⟩ := SEq.pays x t A cd cs.length (fun j => cs.getD j 0) y t' A' cd' ds.length (fun j => ds.getD j 0) z (tabEq_of (movedEq hZ hw)) hfr hlo m meth c P g ig mk _ X hg hsize hdg hW hn ⟨r1, r2, rfl, hx, hy, sta_is al S, hz⟩
  refine ⟨v, B, X', ⟨[], ⟨?_, rfl, hh⟩, hl, hk, hs⟩, st⟩
  rcases hq with ⟨rfl, q⟩ | ⟨rfl, q⟩
  · exact Or.inl ⟨hv, (same_list cs ds).mp q⟩
  · exact Or.inr ⟨hv, fun e => q ((same_list cs ds).mpr e)⟩
end StrChars.Road
end Jvm.Pilot.@@N@@

namespace Jvm.Pilot.@@N@@
namespace Own
open Jvm Jvm.ClassFile Sem Op Lib Jvm.Free Jvm.Stand Jvm.LawKit Jvm.RoadKit Bundle
section StrB
variable {p : Program} {l : Launch} {e : Env} {R : Room} {s : State} {args : Array Value} {below : List Frame} {W : Nat} {Z : State} {a0 : Array Value} {h : Heap} {z : Int32} {kI n0 : Nat}
def QPure (w : Value) (h : Heap) (n0 : Nat) (v : Option Value) (h' : Heap) (L : List Loc) : Prop := v = some w ∧ Fr n0 L ∧ h' = h
def QNew (Z : State) (x : Addr) (cs : List Int32) (h : Heap) (n0 : Nat) (v : Option Value) (h' : Heap) (L : List Loc) : Prop := v = none ∧ Fr n0 L ∧ Keep h h' [x] ∧ Str Z h' x cs
theorem newB (hZ : Z.Warmed39 s.vm) (hw : ∀ d ∈ StrChars.Road.words, d.before a0 Z = true) (wi : (Jvm.Cond.instantiable "java/lang/String" kI).before a0 Z = true) {x b : Addr} {kC : ClassId} {cs : List Int32} {d v0 c0 : Value} {N : Int32} {n : Nat} (hx0 : n0 ≤ x) (hh0 : n0 ≤ h.size) (E : Exa Z h x "java/lang/String") (V : Fld Z h x "java/lang/String" "value" "[B" v0) (C : Fld Z h x "java/lang/String" "coder" "B" c0) (K : Arv Z h b kC .char N (cs.map Value.int) d) (S : Sta Z h "java/lang/String" "COMPACT_STRINGS" "Z" (.int z)) (hz : ¬ z = 0)
    (hn : cs.length = n) (hN : N = Int32.ofNat n) (l0 : 0 < n) (l2 : n ≤ 4000) (hp : ∀ c ∈ cs, ¬ c < 0 ∧ ¬ (255 : Int32) < c) (hfr : 4 ≤ R.frames) (hlo : W + 65 ≤ R.locals) :
    Back l R p e below s args (⟨"java/lang/String", "<init>", "([C)V"⟩ : MethodName) 3 W (fun A a => a = #[.ref x, .ref b] ∧ A.U.heap = h ∧ A.cells + 1 ≤ R.cells ∧ A.slots + n ≤ R.slots)
      (fun A _ v B => ∃ L, QNew Z x cs h n0 v B.U.heap L ∧ B.locs = A.locs ++ L ∧ B.cells = A.cells + 1 ∧ B.slots = A.slots + n) := by
  subst hn hN
  refine Back.mono (StrChars.Road.backV hZ hw wi (cs := cs) (n0 := n0) hx0 hh0 E V C K S hz rfl rfl l0 l2 hp rfl hfr hlo) (fun _ _ q => q) (fun P a v B _ hq => ?_)
  obtain ⟨L, ⟨q1, q2, q3, q4, q5, t, kb, -, -, -, q6, q7⟩, r⟩ := hq
  exact ⟨L, ⟨q1, q2, q3, ⟨t, kb, q4, q6, q5, q7⟩, hp, l2⟩, r⟩
theorem Str.cod {cs : List Int32} (hb : ∀ c ∈ cs, ¬ c < 0 ∧ ¬ (255 : Int32) < c) : StrChars.Road.CodA cs 0 (Int32.ofNat cs.length) ((cs.map fun c => c.toInt8.toInt32).map Value.int) := Or.inl ⟨rfl, rfl, by rw [List.map_map]; rfl, fun c hc => (hb c hc).2⟩
theorem lenB (hZ : Z.Warmed39 s.vm) (hw : ∀ d ∈ StrChars.Road.wordsLen, d.before a0 Z = true) (wi : (Jvm.Cond.instantiable "java/lang/String" kI).before a0 Z = true) {x : Addr} {cs : List Int32} (X : Str Z h x cs) (S : Sta Z h "java/lang/String" "COMPACT_STRINGS" "Z" (.int z)) (hz : ¬ z = 0) (hfr : 2 ≤ R.frames) (hlo : W + 25 ≤ R.locals) :
    Back l R p e below s args (⟨"java/lang/String", "length", "()I"⟩ : MethodName) 3 W (fun A a => a = #[.ref x] ∧ A.U.heap = h ∧ A.cells + 0 ≤ R.cells ∧ A.slots + 0 ≤ R.slots)
      (fun A _ v B => ∃ L, QPure (.int (Int32.ofNat cs.length)) h n0 v B.U.heap L ∧ B.locs = A.locs ++ L ∧ B.cells = A.cells + 0 ∧ B.slots = A.slots + 0) := by
  have up := X.up
  obtain ⟨⟨t, kb, x1, x2, x3, x4⟩, hp, hl⟩ := X
  refine Back.mono (StrChars.Road.lenW hZ hw wi x1 x2 x3 x4 (Str.cod hp) up S hz hl hfr hlo) (fun _ _ q => q) (fun P a v B _ hq => ?_)
  obtain ⟨L, ⟨q1, q2, q3⟩, r⟩ := hq
  exact ⟨L, ⟨q1, by subst q2; exact Fr.nil _, q3⟩, r⟩
theorem eqB (hZ : Z.Warmed39 s.vm) (hw : ∀ d ∈ StrChars.Road.wordsEq, d.before a0 Z = true) (wi : (Jvm.Cond.instantiable "java/lang/String" kI).before a0 Z = true) {x y : Addr} {cs ds : List Int32} (X : Str Z h x cs) (Y : Str Z h y ds) (S : Sta Z h "java/lang/String" "COMPACT_STRINGS" "Z" (.int z)) (hz : ¬ z = 0) (hfr : 2 ≤ R.frames) (hlo : W + 28 ≤ R.locals) :
    Back l R p e below s args (⟨"java/lang/String", "equals", "(Ljava/lang/Object;)Z"⟩ : MethodName) 3 W (fun A a => a = #[.ref x, .ref y] ∧ A.U.heap = h ∧ A.cells + 0 ≤ R.cells ∧ A.slots + 0 ≤ R.slots)
      (fun A _ v B => ∃ L, QPure (.int (if cs = ds then 1 else 0)) h n0 v B.U.heap L ∧ B.locs = A.locs ++ L ∧ B.cells = A.cells + 0 ∧ B.slots = A.slots + 0) := by
  have up := X.up
  have up' := Y.up
  obtain ⟨⟨t, kb, x1, x2, x3, x4⟩, hp, hl⟩ := X
  obtain ⟨⟨t', kb', y1, y2, y3, y4⟩, hp', hl'⟩ := Y
  refine Back.mono (StrChars.Road.eqW hZ hw wi x1 x2 x3 x4 (Str.cod hp) up hl y1 y2 y3 y4 (Str.cod hp') up' hl' S hz hfr hlo) (fun _ _ q => q) (fun P a v B _ hq => ?_)
  obtain ⟨L, ⟨q1, q2, q3⟩, r⟩ := hq
  refine ⟨L, ⟨?_, by subst q2; exact Fr.nil _, q3⟩, r⟩
  rcases q1 with ⟨q, g⟩ | ⟨q, g⟩
  · rw [q, if_pos g]
  · rw [q, if_neg g]
end StrB
end Own
end Jvm.Pilot.@@N@@
namespace Jvm.Pilot.@@N@@
namespace Own
open Jvm Jvm.ClassFile Sem Op Lib Jvm.Free Jvm.Stand Jvm.LawKit Jvm.RoadKit Bundle
section Held
variable {Z : State} {own : String} {bytes : ByteArray} {h h' : Heap} {p : Program} {l : Launch} {e : Env} {R : Room} {s : State} {m : MethodId} {args : Array Value} {below : List Frame} {meth : Method} {c : Code} {T : State} {locs : List Loc} {cells slots : Nat}
  {K : State → Outcome → Prop} {a0 : Array Value} {pc q : Nat} {Ls : Array Slot} {st : List Value} {vm : Vm} {h0 : Heap} {EL : List (String × Nat)}
/-- where a walk that may intern stands: since its start s, with the tables vm -/
def Hd (Z : State) (EL : List (String × Nat)) (s : State) (vm : Vm) (h0 h : Heap) : Prop := (∃ k, s.Since vm k ∧ k ≤ h.size) ∧ CHr Z EL s.vm h0 vm h
theorem Hd.start (H : CHv Z EL s.vm h0) : Hd Z EL s s.vm h0 h0 := ⟨⟨0, (State.WarmedH.refl s).since 0, Nat.zero_le _⟩, CHr.refl H⟩
theorem Hd.ext (H : Hd Z EL s vm h0 h) (E : Ext h h') : Hd Z EL s vm h0 h' := by
  obtain ⟨⟨k, a, b⟩, r⟩ := H
  exact ⟨⟨k, a, Nat.le_trans b E.1⟩, r.trans (CHr.ext E r.1)⟩
theorem Hd.wr {a : Addr} {sl : Nat} {v : Value} (H : Hd Z EL s vm h0 h) (W : Wr h h' a sl v) (S : Safe Z EL vm h a) : Hd Z EL s vm h0 h' := by
  obtain ⟨⟨k, a, b⟩, r⟩ := H
  exact ⟨⟨k, a, by rw [W.size]; exact b⟩, r.trans (CHr.wr W S r.1)⟩
theorem Hd.kp {ws : List Addr} (H : Hd Z EL s vm h0 h) (Kp : Keep h h' ws) (S : ∀ x ∈ ws, Safe Z EL vm h x) : Hd Z EL s vm h0 h' := by
  obtain ⟨⟨k, a, b⟩, r⟩ := H
  exact ⟨⟨k, a, Nat.le_trans b Kp.1⟩, r.trans (CHr.keep Kp S r.1)⟩
theorem backH {y : MethodName} {cb : ByteArray} {maxL : Nat} {ret : Option FieldType} {rm : Room} {len W : Nat} {as' : Array Value} {Q : Option Value → Heap → List Loc → Prop} {sf : List Addr}
    (hM : MetFree l y (head1 [Cond.code y cb maxL ret] rm) (fun a U => a = as' ∧ Z.Warmed39 U.vm ∧ U.heap = h ∧ CHv Z EL U.vm h ∧ ∀ x ∈ sf, Safe Z EL U.vm h x) (fun _ _ _ _ _ => True) (fun _ U o U' => ∃ v L, o = .returned v ∧ Q v U'.heap L ∧ CHr Z EL U.vm U.heap U'.vm U'.heap ∧ ReturnedEndW U o U' L rm.cells rm.slots))
    (hZ : Z.Warmed39 vm) (wc : (Cond.code y cb maxL ret).before a0 Z = true) (wz : (Cond.initialized y.cls).before a0 Z = true) (hf : rm.frames + 1 ≤ R.frames) (hl : W + (maxL + 11) + rm.locals ≤ R.locals) (hEL : EW Z a0 EL) (H : CHv Z EL vm h) (hsf : ∀ x ∈ sf, x < h.size ∧ Safe Z EL vm h x) :
    BackS l R p e below (s.setVm vm) args y len W (fun A a => a = as' ∧ A.U.heap = h ∧ A.cells + rm.cells ≤ R.cells ∧ A.slots + rm.slots ≤ R.slots)
      (fun A _ v B => ∃ L, Q v B.U.heap L ∧ B.locs = A.locs ++ L ∧ B.cells = A.cells + rm.cells ∧ B.slots = A.slots + rm.slots ∧ CHr Z EL vm h B.U.vm B.U.heap) := by
  refine BackS.of_freeW (bytes := cb) (maxL := maxL) (ret := ret) (E := fun _ first o t L k n => k = rm.cells ∧ n = rm.slots ∧ (∃ v, o = .returned v ∧ Q v t.heap L) ∧ CHr Z EL first.vm first.heap t.vm t.heap) hM hf hl ?_ ?_ (fun _ _ _ _ _ _ _ _ _ => trivial) ?_ ?_
  · intro m meth c A a Y hp
    have hU : Z.Warmed39 A.U.vm := wtrans (s := s.setVm vm) hZ Y.warmed
    exact ⟨by show (Cond.and _ .tt).before a A.U = true; rw [Cond.before_and, mv hU wc]; rfl, mv hU wc, mv hU wz, hp.2.2.1, hp.2.2.2⟩
  · intro m meth c A a g mk Y hp
    have q := CHv.at Y hZ hEL H
    exact ⟨hp.1, wtrans (s := s.setVm vm) hZ Y.warmed, hp.2.1, q.1, fun x hx => q.safe (hsf x hx).1 (hsf x hx).2⟩
  · rintro _ _ _ _ ⟨v, L, h1, h2, h3, h4⟩
    exact ⟨L, _, _, h4, rfl, rfl, ⟨v, h1, h2⟩, h3⟩
  · rintro m meth c A a g mk v t L k n Y hp - - ⟨e1, e2, ⟨v', e3, e4⟩, e5⟩
    cases e3
    subst e1 e2
    refine ⟨L, e4, rfl, rfl, rfl, (CHv.at Y hZ hEL H).trans ?_⟩
    rw [← hp.2.1]
    exact e5
theorem ldcStr {i n : Nat} {text : String} {cs : List Int32} (P : Wk Z own bytes h p l e R (s.setVm vm) m args below meth c T locs cells slots) (H : Hd Z EL s vm h0 h) (hd : decode bytes pc = .ok (.ldc i, 2)) (w : (Cond.stringLink own i text).before a0 Z = true) (wS : ∀ a ∈ Bundle.stringAtoms, a.before a0 Z = true) (hEL : EW Z a0 EL) (hmem : (own, i) ∈ EL)
    (ht : (∀ c ∈ text.toList, c.toNat < 256) ∧ text.toList.map (fun c => Value.int (Jvm.Lit.byteI c.toNat.toUInt16)) = (cs.map fun c => c.toInt8.toInt32).map Value.int) (hp : ∀ c ∈ cs, ¬ c < 0 ∧ ¬ (255 : Int32) < c) (hl : cs.length ≤ 4000) (hz : ¬ (Int32.ofNat cs.length) < 0) (hz2 : (Int32.ofNat cs.length).toNatClampNeg = ((cs.map fun c => c.toInt8.toInt32).map Value.int).length)
    (hn : 4 * text.toList.length ≤ n) (hbig : n ≤ 536870912) (hc : cells + 2 ≤ R.cells) (hs : slots + (n + 4) ≤ R.slots) (hq : pc + 2 = q)
    (k : ∀ T₂ vm₂ h₂ a, Wk Z own bytes h₂ p l e R (s.setVm vm₂) m args below meth c T₂ locs (cells + 2) (slots + (n + 4)) → Hd Z EL s vm₂ h0 h₂ → CHr Z EL vm h vm₂ h₂ → Ext h h₂ → Str Z h₂ a cs → Goes p.tables e below K (T₂.setTop (mkF m (q) Ls (.ref a :: st)))) : Goes p.tables e below K (T.setTop (mkF m pc Ls (st))) := by
  subst hq
  obtain ⟨⟨k0, S0, b0⟩, r0⟩ := H
  obtain ⟨a, T₂, h₂, k1, b, kb, X2, e2, E2, S2, b2, hW, hf, g1, g2, g3, g4, -, -, r2, -, -, st2⟩ := ldcCH P.1 P.2.1 P.2.2.2.1 P.2.2.2.2.1 w wS P.2.2.2.2.2 S0 b0 hEL hmem r0.1 ht hz hz2 (g := mkF m pc Ls st) rfl (hb P.2.2.1 hd) hn hbig hc hs
  exact Goes.go st2 (k T₂ T₂.vm h₂ a ⟨X2, P.2.1, P.2.2.1, hW, hf, e2⟩ ⟨⟨k1, S2, b2⟩, r0.trans r2⟩ r2 E2 ⟨⟨b, kb, g1, g3, g2, g4⟩, hp, hl⟩)
theorem invStaticH {y : MethodName} {cb : ByteArray} {mL : Nat} {ret : Option FieldType} {i W kc ks : Nat} {as' : Array Value} {Q : Option Value → Heap → List Loc → Prop} {argsL rest : List Value} (P : Wk Z own bytes h p l e R (s.setVm vm) m args below meth c T locs cells slots) (H : Hd Z EL s vm h0 h) (hd : decode bytes pc = .ok (.invokestatic i, 3)) (w1 : (Cond.methodLink own i y).before a0 Z = true) (w2 : (Cond.static y).before a0 Z = true) (w3 : (Cond.initialized y.cls).before a0 Z = true) (w4 : (Cond.code y cb mL ret).before a0 Z = true) (hy : y.cls ≠ "java/lang/invoke/MethodHandle" ∧ y.cls ≠ "java/lang/invoke/VarHandle") (B : BackS l R p e below (s.setVm vm) args y 3 W (fun A a => a = as' ∧ A.U.heap = h ∧ A.cells + kc ≤ R.cells ∧ A.slots + ks ≤ R.slots) (fun A _ v B => ∃ L, Q v B.U.heap L ∧ B.locs = A.locs ++ L ∧ B.cells = A.cells + kc ∧ B.slots = A.slots + ks ∧ CHr Z EL vm h B.U.vm B.U.heap)) (ha : argsL.toArray = as') (hst : st = argsL.reverse ++ rest) (hz : Ls.size = c.maxLocals) (hlen : ∀ sig, parseMethodDescriptor y.desc = some sig → argsL.length = sig.parameters.length) (hW : 2 * (mkF m pc Ls st).monitorRoom + (rest.map fun v => v.category).sum ≤ W) (hcc : cells + kc ≤ R.cells) (hss : slots + ks ≤ R.slots) (hq : pc + 3 = q) (k : ∀ v T₂ vm₂ h₂ L, Q v h₂ L → Wk Z own bytes h₂ p l e R (s.setVm vm₂) m args below meth c T₂ (locs ++ L) (cells + kc) (slots + ks) → Hd Z EL s vm₂ h0 h₂ → CHr Z EL vm h vm₂ h₂ → Goes p.tables e below K (T₂.setTop (mkF m q Ls (v.toList ++ rest)))) : Goes p.tables e below K (T.setTop (mkF m pc Ls (st))) := by
  subst hq
  obtain ⟨v, _, ⟨T₂, L₂, c₂, n₂⟩, -, X2, S2, b2, ⟨L, hQ, hl, hc2, hs2, r2⟩, st2⟩ := callSS P.1 P.2.1 (y := y) P.2.2.2.2.1 (mvT P.2.2.2.1 w1) (mvT P.2.2.2.1 w2) (mvT P.2.2.2.1 w3) (mvT P.2.2.2.1 w4) hy B (g := mkF m pc Ls st) rfl hz (argsL := argsL) (rest := rest) hlen hst hW (hb P.2.2.1 hd) (fun _ _ => ⟨ha, P.2.2.2.2.2, hcc, hss⟩)
  dsimp only [Pt.U, Pt.locs, Pt.cells, Pt.slots] at X2 hl hc2 hs2 st2 hQ S2 b2 r2
  subst hl hc2 hs2
  obtain ⟨⟨k0, S0, b0⟩, r0⟩ := H
  have hW : Z.Warmed39 T₂.vm := State.Warmed39.trans (t := s.setVm vm) P.2.2.2.1 S2.1
  have hf : (s.setVm T₂.vm).vm.findClass own = some m.cls := by rw [show (s.setVm T₂.vm).vm = T₂.vm from rfl, S2.1.alike.findClass]; exact P.2.2.2.2.1
  have b1 : k0 ≤ T.heap.size := by rw [P.2.2.2.2.2]; exact b0
  exact Goes.tr st2 (k v T₂ T₂.vm _ L hQ ⟨X2, P.2.1, P.2.2.1, hW, hf, rfl⟩ ⟨⟨_, S0.trans S2 (Nat.le_trans b1 b2), Nat.le_refl _⟩, r0.trans r2⟩ r2)
theorem invSpecialH {y : MethodName} {cb : ByteArray} {mL : Nat} {i W kc ks : Nat} {as' : Array Value} {Q : Option Value → Heap → List Loc → Prop} {a : Addr} {argsL rest : List Value} (P : Wk Z own bytes h p l e R (s.setVm vm) m args below meth c T locs cells slots) (H : Hd Z EL s vm h0 h) (hd : decode bytes pc = .ok (.invokespecial i, 3)) (hin : y.name = "<init>") (w1 : (Cond.methodLink own i y).before a0 Z = true) (w2 : (Cond.instanceMethod y).before a0 Z = true) (w4 : (Cond.code y cb mL none).before a0 Z = true) (hy : y.cls ≠ "java/lang/invoke/MethodHandle" ∧ y.cls ≠ "java/lang/invoke/VarHandle") (B : BackS l R p e below (s.setVm vm) args y 3 W (fun A a => a = as' ∧ A.U.heap = h ∧ A.cells + kc ≤ R.cells ∧ A.slots + ks ≤ R.slots) (fun A _ v B => ∃ L, Q v B.U.heap L ∧ B.locs = A.locs ++ L ∧ B.cells = A.cells + kc ∧ B.slots = A.slots + ks ∧ CHr Z EL vm h B.U.vm B.U.heap)) (ha : (.ref a :: argsL).toArray = as') (hst : st = argsL.reverse ++ .ref a :: rest) (hz : Ls.size = c.maxLocals) (hlen : ∀ sig, parseMethodDescriptor y.desc = some sig → argsL.length = sig.parameters.length) (hW : 2 * (mkF m pc Ls st).monitorRoom + (rest.map fun v => v.category).sum ≤ W) (hcc : cells + kc ≤ R.cells) (hss : slots + ks ≤ R.slots) (hq : pc + 3 = q) (k : ∀ v T₂ vm₂ h₂ L, Q v h₂ L → Wk Z own bytes h₂ p l e R (s.setVm vm₂) m args below meth c T₂ (locs ++ L) (cells + kc) (slots + ks) → Hd Z EL s vm₂ h0 h₂ → CHr Z EL vm h vm₂ h₂ → Goes p.tables e below K (T₂.setTop (mkF m q Ls (v.toList ++ rest)))) : Goes p.tables e below K (T.setTop (mkF m pc Ls (st))) := by
  subst hq
  obtain ⟨v, _, ⟨T₂, L₂, c₂, n₂⟩, -, X2, S2, b2, ⟨L, hQ, hl, hc2, hs2, r2⟩, st2⟩ := P.1.specialBackS P.2.1 (y := y) hin P.2.2.2.2.1 (mvT P.2.2.2.1 w1) (mvT P.2.2.2.1 w2) (mvT P.2.2.2.1 w4) hy B (g := mkF m pc Ls st) rfl hz (Steps.refl _) (a := a) (argsL := argsL) (rest := rest) hlen hst hW (hb P.2.2.1 hd) (fun _ _ => ⟨ha, P.2.2.2.2.2, hcc, hss⟩)
  dsimp only [Pt.U, Pt.locs, Pt.cells, Pt.slots] at X2 hl hc2 hs2 st2 hQ S2 b2 r2
  subst hl hc2 hs2
  obtain ⟨⟨k0, S0, b0⟩, r0⟩ := H
  have hW : Z.Warmed39 T₂.vm := State.Warmed39.trans (t := s.setVm vm) P.2.2.2.1 S2.1
  have hf : (s.setVm T₂.vm).vm.findClass own = some m.cls := by rw [show (s.setVm T₂.vm).vm = T₂.vm from rfl, S2.1.alike.findClass]; exact P.2.2.2.2.1
  have b1 : k0 ≤ T.heap.size := by rw [P.2.2.2.2.2]; exact b0
  exact Goes.tr st2 (k v T₂ T₂.vm _ L hQ ⟨X2, P.2.1, P.2.2.1, hW, hf, rfl⟩ ⟨⟨_, S0.trans S2 (Nat.le_trans b1 b2), Nat.le_refl _⟩, r0.trans r2⟩ r2)
theorem invVirtualH {y z : MethodName} {C : String} {i W kc ks : Nat} {as' : Array Value} {Q : Option Value → Heap → List Loc → Prop} {a : Addr} {argsL rest : List Value} (P : Wk Z own bytes h p l e R (s.setVm vm) m args below meth c T locs cells slots) (H : Hd Z EL s vm h0 h) (hd : decode bytes pc = .ok (.invokevirtual i, 3)) (w1 : (Cond.methodLink own i y).before a0 Z = true) (w2 : (Cond.declares y).before a0 Z = true) (w3 : (Cond.selects C y z).before a0 Z = true) (w4 : (Cond.instanceMethod z).before a0 Z = true) (nf : NotFace (s.setVm vm) y) (hy : y.cls ≠ "java/lang/invoke/MethodHandle" ∧ y.cls ≠ "java/lang/invoke/VarHandle") (B : BackS l R p e below (s.setVm vm) args z 3 W (fun A a => a = as' ∧ A.U.heap = h ∧ A.cells + kc ≤ R.cells ∧ A.slots + ks ≤ R.slots) (fun A _ v B => ∃ L, Q v B.U.heap L ∧ B.locs = A.locs ++ L ∧ B.cells = A.cells + kc ∧ B.slots = A.slots + ks ∧ CHr Z EL vm h B.U.vm B.U.heap)) (E : Exa Z h a C) (ha : (.ref a :: argsL).toArray = as') (hst : st = argsL.reverse ++ .ref a :: rest) (hz : Ls.size = c.maxLocals) (hlen : ∀ sig, parseMethodDescriptor y.desc = some sig → argsL.length = sig.parameters.length) (hW : 2 * (mkF m pc Ls st).monitorRoom + (rest.map fun v => v.category).sum ≤ W) (hcc : cells + kc ≤ R.cells) (hss : slots + ks ≤ R.slots) (hq : pc + 3 = q) (k : ∀ v T₂ vm₂ h₂ L, Q v h₂ L → Wk Z own bytes h₂ p l e R (s.setVm vm₂) m args below meth c T₂ (locs ++ L) (cells + kc) (slots + ks) → Hd Z EL s vm₂ h0 h₂ → CHr Z EL vm h vm₂ h₂ → Goes p.tables e below K (T₂.setTop (mkF m q Ls (v.toList ++ rest)))) : Goes p.tables e below K (T.setTop (mkF m pc Ls (st))) := by
  subst hq
  obtain ⟨cB, kB, r1, -, r3⟩ := isOf P.2.2.2.1 P.2.2.2.2.2 E
  obtain ⟨v, _, ⟨T₂, L₂, c₂, n₂⟩, -, X2, S2, b2, ⟨L, hQ, hl, hc2, hs2, r2⟩, st2⟩ := P.1.virtualBackS P.2.1 (y := y) (z := z) P.2.2.2.2.1 (mvT P.2.2.2.1 w1) (mvT P.2.2.2.1 w2) nf (mvT P.2.2.2.1 w3) (mvT P.2.2.2.1 w4) hy B r1 r3 (g := mkF m pc Ls st) rfl hz (Steps.refl _) (argsL := argsL) (rest := rest) hlen hst hW (hb P.2.2.1 hd) (fun _ _ => ⟨ha, P.2.2.2.2.2, hcc, hss⟩)
  dsimp only [Pt.U, Pt.locs, Pt.cells, Pt.slots] at X2 hl hc2 hs2 st2 hQ S2 b2 r2
  subst hl hc2 hs2
  obtain ⟨⟨k0, S0, b0⟩, r0⟩ := H
  have hW : Z.Warmed39 T₂.vm := State.Warmed39.trans (t := s.setVm vm) P.2.2.2.1 S2.1
  have hf : (s.setVm T₂.vm).vm.findClass own = some m.cls := by rw [show (s.setVm T₂.vm).vm = T₂.vm from rfl, S2.1.alike.findClass]; exact P.2.2.2.2.1
  have b1 : k0 ≤ T.heap.size := by rw [P.2.2.2.2.2]; exact b0
  exact Goes.tr st2 (k v T₂ T₂.vm _ L hQ ⟨X2, P.2.1, P.2.2.1, hW, hf, rfl⟩ ⟨⟨_, S0.trans S2 (Nat.le_trans b1 b2), Nat.le_refl _⟩, r0.trans r2⟩ r2)
theorem retVH {kc ks : Nat} {Q : Option Value → Heap → List Loc → Prop}  (P : Wk Z own bytes h p l e R (s.setVm vm) m args below meth c T locs cells slots) (hh : s.heap = h0) (hEL : EW Z a0 EL) (H : Hd Z EL s vm h0 h) (hd : decode bytes pc = .ok (.return_, 1)) (hret : meth.sig.returnType = none) (hlk : meth.locks = false) (hc : cells ≤ kc) (hs : slots ≤ ks) (hQ : Q none h locs) : Goes p.tables e below (fun s₂ o => ∃ v L, o = .returned v ∧ Q v s₂.heap L ∧ CHr Z EL s.vm s.heap s₂.vm s₂.heap ∧ ReturnedEndW s o s₂ L kc ks) (T.setTop (mkF m pc Ls ([]))) := by
  obtain ⟨⟨k0, S0, b0⟩, r0⟩ := H
  obtain ⟨fs, hr, hrun, hended, q1, q2, q3, q4⟩ := P.1.leaveW S0 (by rw [P.2.2.2.2.2]; exact b0) (v := none) (fun h => by first | rfl | (rw [hret] at h; cases h)) hlk
  have r1 := CHv.at P.1 P.2.2.2.1 hEL r0.1
  refine ⟨_, _, P.1.returnOut P.2.1 hret (hb P.2.2.1 hd) hr, hrun, hended, _, _, rfl, by show Q _ T.heap _; rw [P.2.2.2.2.2]; exact hQ, ?_, q1, q2, q3, q4.mono hc hs⟩
  show CHr Z EL s.vm s.heap T.vm T.heap
  rw [P.2.2.2.2.2, hh]
  exact r0.trans r1
theorem retZH {kc ks : Nat} {Q : Option Value → Heap → List Loc → Prop} {t : FieldType} {z : Int32} (P : Wk Z own bytes h p l e R (s.setVm vm) m args below meth c T locs cells slots) (hh : s.heap = h0) (hEL : EW Z a0 EL) (H : Hd Z EL s vm h0 h) (hd : decode bytes pc = .ok (.ireturn, 1)) (hret : meth.sig.returnType = some t) (ht : t = .boolean ∨ t = .byte ∨ t = .char ∨ t = .short) (hlk : meth.locks = false) (hc : cells ≤ kc) (hs : slots ≤ ks) (hQ : Q (some (.int (nar t z))) h locs) : Goes p.tables e below (fun s₂ o => ∃ v L, o = .returned v ∧ Q v s₂.heap L ∧ CHr Z EL s.vm s.heap s₂.vm s₂.heap ∧ ReturnedEndW s o s₂ L kc ks) (T.setTop (mkF m pc Ls (.int z :: st))) := by
  obtain ⟨⟨k0, S0, b0⟩, r0⟩ := H
  obtain ⟨fs, hr, hrun, hended, q1, q2, q3, q4⟩ := P.1.leaveW S0 (by rw [P.2.2.2.2.2]; exact b0) (v := (some (.int (nar t z)))) (fun h => by first | rfl | (rw [hret] at h; cases h)) hlk
  have r1 := CHv.at P.1 P.2.2.2.1 hEL r0.1
  refine ⟨_, _, retN P.1 P.2.1 hret ht (hb P.2.2.1 hd) hr, hrun, hended, _, _, rfl, by show Q _ T.heap _; rw [P.2.2.2.2.2]; exact hQ, ?_, q1, q2, q3, q4.mono hc hs⟩
  show CHr Z EL s.vm s.heap T.vm T.heap
  rw [P.2.2.2.2.2, hh]
  exact r0.trans r1
theorem retIH {kc ks : Nat} {Q : Option Value → Heap → List Loc → Prop} {z : Int32} (P : Wk Z own bytes h p l e R (s.setVm vm) m args below meth c T locs cells slots) (hh : s.heap = h0) (hEL : EW Z a0 EL) (H : Hd Z EL s vm h0 h) (hd : decode bytes pc = .ok (.ireturn, 1)) (hret : meth.sig.returnType = some .int) (hlk : meth.locks = false) (hc : cells ≤ kc) (hs : slots ≤ ks) (hQ : Q (some (.int z)) h locs) : Goes p.tables e below (fun s₂ o => ∃ v L, o = .returned v ∧ Q v s₂.heap L ∧ CHr Z EL s.vm s.heap s₂.vm s₂.heap ∧ ReturnedEndW s o s₂ L kc ks) (T.setTop (mkF m pc Ls (.int z :: st))) := by
  obtain ⟨⟨k0, S0, b0⟩, r0⟩ := H
  obtain ⟨fs, hr, hrun, hended, q1, q2, q3, q4⟩ := P.1.leaveW S0 (by rw [P.2.2.2.2.2]; exact b0) (v := (some (.int z))) (fun h => by first | rfl | (rw [hret] at h; cases h)) hlk
  have r1 := CHv.at P.1 P.2.2.2.1 hEL r0.1
  refine ⟨_, _, retOut P.1 P.2.1 hret rfl (Or.inl ⟨rfl, Or.inl rfl, _, rfl⟩) (hb P.2.2.1 hd) hr, hrun, hended, _, _, rfl, by show Q _ T.heap _; rw [P.2.2.2.2.2]; exact hQ, ?_, q1, q2, q3, q4.mono hc hs⟩
  show CHr Z EL s.vm s.heap T.vm T.heap
  rw [P.2.2.2.2.2, hh]
  exact r0.trans r1
theorem retAH {kc ks : Nat} {Q : Option Value → Heap → List Loc → Prop} {t : FieldType} {v : Value} (P : Wk Z own bytes h p l e R (s.setVm vm) m args below meth c T locs cells slots) (hh : s.heap = h0) (hEL : EW Z a0 EL) (H : Hd Z EL s vm h0 h) (hd : decode bytes pc = .ok (.areturn, 1)) (hret : meth.sig.returnType = some t) (ht : t.isReference = true) (hv : v.isRef = true) (hn : narrow t v = v) (hlk : meth.locks = false) (hc : cells ≤ kc) (hs : slots ≤ ks) (hQ : Q (some v) h locs) : Goes p.tables e below (fun s₂ o => ∃ v L, o = .returned v ∧ Q v s₂.heap L ∧ CHr Z EL s.vm s.heap s₂.vm s₂.heap ∧ ReturnedEndW s o s₂ L kc ks) (T.setTop (mkF m pc Ls (v :: st))) := by
  obtain ⟨⟨k0, S0, b0⟩, r0⟩ := H
  obtain ⟨fs, hr, hrun, hended, q1, q2, q3, q4⟩ := P.1.leaveW S0 (by rw [P.2.2.2.2.2]; exact b0) (v := (some v)) (fun h => by first | rfl | (rw [hret] at h; cases h)) hlk
  have r1 := CHv.at P.1 P.2.2.2.1 hEL r0.1
  refine ⟨_, _, retOut P.1 P.2.1 hret hn (Or.inr (Or.inr (Or.inr (Or.inr ⟨rfl, ht, hv⟩)))) (hb P.2.2.1 hd) hr, hrun, hended, _, _, rfl, by show Q _ T.heap _; rw [P.2.2.2.2.2]; exact hQ, ?_, q1, q2, q3, q4.mono hc hs⟩
  show CHr Z EL s.vm s.heap T.vm T.heap
  rw [P.2.2.2.2.2, hh]
  exact r0.trans r1
end Held
end Own
end Jvm.Pilot.@@N@@
namespace Jvm.Pilot.@@N@@
open Jvm Jvm.ClassFile Sem Op Lib Jvm.Free Jvm.Stand Jvm.LawKit Jvm.RoadKit Bundle Jvm.Pilot.@@N@@.Jvm.D
set_option maxRecDepth 65536 in
theorem sub_backV : ∀ d ∈ StrChars.Road.words, d ∈ tables_1 := by
  intro d hd
  have h : StrChars.Road.words.all (fun d => tables_1.contains d) = true := by decide +kernel
  exact List.contains_iff_mem.mp (List.all_eq_true.mp h d hd)
set_option maxRecDepth 65536 in
theorem sub_lenW : ∀ d ∈ StrChars.Road.wordsLen, d ∈ tables_1 := by
  intro d hd
  have h : StrChars.Road.wordsLen.all (fun d => tables_1.contains d) = true := by decide +kernel
  exact List.contains_iff_mem.mp (List.all_eq_true.mp h d hd)
set_option maxRecDepth 65536 in
theorem sub_eqW : ∀ d ∈ StrChars.Road.wordsEq, d ∈ tables_1 := by
  intro d hd
  have h : StrChars.Road.wordsEq.all (fun d => tables_1.contains d) = true := by decide +kernel
  exact List.contains_iff_mem.mp (List.all_eq_true.mp h d hd)

abbrev EL : List (String × Nat) := [("java/lang/String", 7), ("lifestack/model/ComponentName", 28), ("lifestack/model/ComponentName", 44)]
theorem ew {Z : State} {a0 : Array Value} (hw : ∀ d ∈ tables_1, d.before a0 Z = true) : EW Z a0 EL := (EW.cons (hw _ (List.mem_of_getElem? (i := 21) rfl)) (by decide) (EW.cons (hw _ (List.mem_of_getElem? (i := 80) rfl)) (by decide) (EW.cons (hw _ (List.mem_of_getElem? (i := 139) rfl)) (by decide) EW.nil)))
set_option maxRecDepth 65536 in
theorem sub_str : ∀ d ∈ Bundle.stringAtoms, d ∈ tables_1 := by
  intro d hd
  have h : Bundle.stringAtoms.all (fun d => tables_1.contains d) = true := by decide +kernel
  exact List.contains_iff_mem.mp (List.all_eq_true.mp h d hd)

namespace Own
section SbSteps
variable {Z : State} {own : String} {bytes : ByteArray} {h : Heap} {p : Program} {l : Launch} {e : Env} {R : Room} {s : State} {m : MethodId} {args : Array Value} {below : List Frame} {meth : Method} {c : Code} {T : State} {locs : List Loc} {cells slots : Nat}
  {K : State → Outcome → Prop} {a0 : Array Value} {pc q : Nat} {Ls : Array Slot} {st : List Value}
theorem copyA {i W n0 j d : Nat} {a b : Addr} {k1 k2 : ClassId} {ty : FieldType} {z z' sp dp nn : Int32} {vs vd us : List Value} {dv dd : Value} {rest : List Value} (P : Wk Z own bytes h p l e R s m args below meth c T locs cells slots) (N : Fr n0 locs) (hd : decode bytes pc = .ok (.invokestatic i, 3))
    (w1 : (Cond.methodLink own i Jvm.Stand.acN).before a0 Z = true) (w2 : (Cond.native Jvm.Stand.acN).before a0 Z = true) (w3 : (Cond.static Jvm.Stand.acN).before a0 Z = true) (w4 : (Cond.initialized "java/lang/System").before a0 Z = true) (A : Arv Z h a k1 ty z vs dv) (B : Arv Z h b k2 ty z' vd dd) (hty : refKind ty = false)
    (h1 : ¬ sp < 0) (h2 : ¬ dp < 0) (h3 : ¬ nn < 0) (hsp : sp.toNatClampNeg = 0) (hdp : dp.toNatClampNeg = d) (hnn : nn.toNatClampNeg = j) (h4 : j ≤ z.toNatClampNeg) (h5 : d + j ≤ z'.toNatClampNeg) (hus : us = (List.range j).map fun i => vs.getD i dv) (hl : d + j ≤ vd.length) (ge : n0 ≤ b)
    (hz : Ls.size = c.maxLocals) (hf : 1 ≤ R.frames) (hW : 2 * (mkF m pc Ls (.int nn :: .int dp :: .ref b :: .int sp :: .ref a :: rest)).monitorRoom + (rest.map fun v => v.category).sum ≤ W) (hlo : W + 18 ≤ R.locals) (hq : pc + 3 = q)
    (k : ∀ T₂ h₂ L, Fr n0 L → Wk Z own bytes h₂ p l e R s m args below meth c T₂ L cells slots → Keep h h₂ [b] → Arv Z h₂ b k2 ty z' (vd.take d ++ us ++ vd.drop (d + j)) dd → Goes p.tables e below K (T₂.setTop (mkF m q Ls rest))) : Goes p.tables e below K (T.setTop (mkF m pc Ls (.int nn :: .int dp :: .ref b :: .int sp :: .ref a :: rest))) := by
  subst hq hdp hnn
  obtain ⟨T₂, h₂, L, X2, e2, N2, K2, A2, st2⟩ := cpA P.1 P.2.1 P.2.2.2.1 P.2.2.2.2.1 w1 w2 w3 w4 P.2.2.2.2.2 A B (us := us) (Or.inl ⟨rfl, hty⟩) h1 h2 h3 (by rw [hsp]; omega) h5 (by rw [hsp, hus]; simp only [Nat.zero_add]) hl N ge (g := mkF m pc Ls (.int nn :: .int dp :: .ref b :: .int sp :: .ref a :: rest)) rfl hz rfl (hb P.2.2.1 hd) hf hW hlo
  exact Goes.go st2 (k T₂ h₂ L N2 ⟨X2, P.2.1, P.2.2.1, P.2.2.2.1, P.2.2.2.2.1, e2⟩ K2 A2)
theorem invSuper {y : MethodName} {cb : ByteArray} {mL : Nat} {ret : Option FieldType} {C : String} {i W kc ks : Nat} {as' : Array Value} {Q : Option Value → Heap → List Loc → Prop} {a : Addr} {argsL rest : List Value} (P : Wk Z own bytes h p l e R s m args below meth c T locs cells slots) (hd : decode bytes pc = .ok (.invokespecial i, 3)) (hin : y.name ≠ "<init>")
    (w1 : (Cond.methodLink own i y).before a0 Z = true) (w2 : (Cond.sameMethod y.cls y.cls y.name y.desc).before a0 Z = true) (w3 : (Cond.instanceMethod y).before a0 Z = true) (w4 : (Cond.superclass own y.cls).before a0 Z = true) (w5 : (Cond.code y cb mL ret).before a0 Z = true)
    (B : Back l R p e below s args y 3 W (fun A a => a = as' ∧ A.U.heap = h ∧ A.cells + kc ≤ R.cells ∧ A.slots + ks ≤ R.slots) (fun A _ v B => ∃ L, Q v B.U.heap L ∧ B.locs = A.locs ++ L ∧ B.cells = A.cells + kc ∧ B.slots = A.slots + ks)) (E : Exa Z h a C) (ha : (.ref a :: argsL).toArray = as') (hst : st = argsL.reverse ++ .ref a :: rest) (hz : Ls.size = c.maxLocals) (hlen : ∀ sig, parseMethodDescriptor y.desc = some sig → argsL.length = sig.parameters.length)
    (hW : 2 * (mkF m pc Ls st).monitorRoom + (rest.map fun v => v.category).sum ≤ W) (hcc : cells + kc ≤ R.cells) (hss : slots + ks ≤ R.slots) (hq : pc + 3 = q)
    (k : ∀ v T₂ h₂ L, Q v h₂ L → Wk Z own bytes h₂ p l e R s m args below meth c T₂ (locs ++ L) (cells + kc) (slots + ks) → Goes p.tables e below K (T₂.setTop (mkF m q Ls (v.toList ++ rest)))) : Goes p.tables e below K (T.setTop (mkF m pc Ls st)) := by
  subst hq
  obtain ⟨v, _, ⟨T₂, L₂, c₂, n₂⟩, -, X2, ⟨L, hQ, hl, hc2, hs2⟩, st2⟩ := superBack P.1 P.2.1 P.2.2.2.1 (y := y) P.2.2.2.2.1 w1 w2 w3 w4 hin B P.2.2.2.2.2 (Ins.self E) (g := mkF m pc Ls st) rfl hz w5 (argsL := argsL) (rest := rest) hlen hst hW (hb P.2.2.1 hd) (fun _ _ => ⟨ha, P.2.2.2.2.2, hcc, hss⟩)
  dsimp only [Pt.U, Pt.locs, Pt.cells, Pt.slots] at X2 hl hc2 hs2 st2 hQ
  subst hl hc2 hs2
  exact Goes.tr st2 (k v T₂ _ L hQ ⟨X2, P.2.1, P.2.2.1, P.2.2.2.1, P.2.2.2.2.1, rfl⟩)
end SbSteps
theorem sameOwn {Z : State} {a0 : Array Value} {y y' : MethodName} {C : String} (w3 : (Cond.instanceMethod y).before a0 Z = true) (w3' : (Cond.instanceMethod y').before a0 Z = true) (ws : (Cond.selects C y' y').before a0 Z = true) (e : y'.cls = y.cls) (hy : y.cls ≠ "java/lang/invoke/MethodHandle" ∧ y.cls ≠ "java/lang/invoke/VarHandle") : (Cond.sameMethod y.cls y.cls y.name y.desc).before a0 Z = true := by
  obtain ⟨mk, methM, hnamed, -⟩ := Cond.instanceMethod_spec w3
  obtain ⟨mk', meth', hnamed', -⟩ := Cond.instanceMethod_spec w3'
  have hcn := findClass_of_methodNamed hnamed
  have hcn' := findClass_of_methodNamed hnamed'
  have hf := State.methodFound?_of_named hnamed hy
  obtain ⟨kr, hk, hi⟩ := notFace_of_selects (args := a0) ws _ hnamed'
  rw [e, hcn] at hcn'
  have ec : mk'.cls = mk.cls := (Option.some.inj hcn').symm
  rw [ec] at hk
  have hn2 : Z.methodNamed? ⟨y.cls, y.name, y.desc⟩ = some mk := hnamed
  simp [Cond.before, Cond.holds, Cond.value, hcn, hf, hn2, hk, hi]
theorem declOf {Z : State} {a0 : Array Value} {y : MethodName} {cb : ByteArray} {mL : Nat} {ret : Option FieldType} (w3 : (Cond.instanceMethod y).before a0 Z = true) (wc : (Cond.code y cb mL ret).before a0 Z = true) : (Cond.declares y).before a0 Z = true := by
  obtain ⟨mk, methM, hnamed, hmethM, hstM, -⟩ := Cond.instanceMethod_spec w3
  obtain ⟨m2, cM, q1, -, -, -, -, -, -, hsig⟩ := Cond.code_spec hnamed wc
  cases hmethM.symm.trans q1
  simp [Cond.before, Cond.holds, Cond.value, hnamed, hmethM, hstM, hsig]
theorem clamp {n : Nat} (h : n ≤ 4000) : (Int32.ofNat n).toNatClampNeg = n := by simp only [Int32.toNatClampNeg, Int32.toInt_ofNat_of_lt (show n < 2 ^ 31 by omega)]; rfl
theorem nneg {n : Nat} (h : n ≤ 4000) : ¬ Int32.ofNat n < 0 := by
  rw [Int32.lt_iff_toInt_lt, Int32.toInt_ofNat_of_lt (show n < 2 ^ 31 by omega)]
  have : (0 : Int32).toInt = 0 := rfl
  omega
theorem ofNat_lt {a b : Nat} (ha : a ≤ 4000) (hb : b ≤ 4000) : Int32.ofNat a < Int32.ofNat b ↔ a < b := by
  rw [Int32.lt_iff_toInt_lt, Int32.toInt_ofNat_of_lt (show a < 2 ^ 31 by omega), Int32.toInt_ofNat_of_lt (show b < 2 ^ 31 by omega)]
  omega
theorem room16 {a b : Nat} (h : a + b ≤ 16) : ¬ (0 : Int32) < (Int32.ofNat a + Int32.ofNat b) - ((16 : Int32) >>> ((0 : Int32) &&& 31)) := by
  have k : ∀ n : Fin 17, ¬ (0 : Int32) < Int32.ofNat n.val - ((16 : Int32) >>> ((0 : Int32) &&& 31)) := by decide
  rw [← Int32.ofNat_add]
  exact k ⟨a + b, by omega⟩
theorem range_get (vs : List Value) (d : Value) : vs = (List.range vs.length).map fun i => vs.getD i d := by
  apply List.ext_getElem
  · simp
  · intro i h1 h2
    simp [List.getD_eq_getElem?_getD, h1]
theorem shl0 (x : Int32) : x <<< ((0 : Int32) &&& 31) = x := by
  rw [show ((0 : Int32) &&& 31) = 0 from rfl]
  first | exact Int32.shiftLeft_zero | simp
theorem range_get2 (ds : List Int32) : ((ds.map fun c : Int32 => c.toInt8.toInt32).map Value.int) = (List.range ds.length).map fun i => (((ds.map fun c : Int32 => c.toInt8.toInt32).map Value.int)).getD i (.int 0) := by
  have h := range_get ((ds.map fun c : Int32 => c.toInt8.toInt32).map Value.int) (.int 0)
  rw [show (((ds.map fun c : Int32 => c.toInt8.toInt32).map Value.int)).length = ds.length by simp] at h
  exact h
theorem vd_len {cs : List Int32} (h : cs.length ≤ 16) : ((((cs.map fun c : Int32 => c.toInt8.toInt32).map Value.int) ++ List.replicate (16 - cs.length) (Value.int 0))).length = 16 := by
  simp only [List.length_append, List.length_map, List.length_replicate]
  omega
theorem put_list (cs ds : List Int32) : ((((cs.map fun c : Int32 => c.toInt8.toInt32).map Value.int) ++ List.replicate (16 - cs.length) (Value.int 0))).take cs.length ++ ((ds.map fun c : Int32 => c.toInt8.toInt32).map Value.int) ++ ((((cs.map fun c : Int32 => c.toInt8.toInt32).map Value.int) ++ List.replicate (16 - cs.length) (Value.int 0))).drop (cs.length + ds.length) = ((((cs ++ ds).map fun c : Int32 => c.toInt8.toInt32).map Value.int) ++ List.replicate (16 - (cs ++ ds).length) (Value.int 0)) := by
  have e1 : ((cs.map fun c : Int32 => c.toInt8.toInt32).map Value.int).length = cs.length := by simp
  have t1 : ∀ (A B : List Value) (n k : Nat), A.length = n → (A ++ B).take n = A ∧ (A ++ B).drop (n + k) = B.drop k := fun A B n k h => by
    subst h
    exact ⟨by simp, by simp [List.drop_append]⟩
  rw [(t1 _ _ _ 0 e1).1, (t1 _ _ _ ds.length e1).2]
  simp [List.drop_replicate, List.map_append, Nat.sub_sub]
end Own

namespace Own
section SbSteps2
variable {Z : State} {own : String} {bytes : ByteArray} {h : Heap} {p : Program} {l : Launch} {e : Env} {R : Room} {s : State} {m : MethodId} {args : Array Value} {below : List Frame} {meth : Method} {c : Code} {T : State} {locs : List Loc} {cells slots : Nat}
  {K : State → Outcome → Prop} {a0 : Array Value} {pc q : Nat} {Ls : Array Slot} {st : List Value}
theorem copyB {i W n0 j d sp0 : Nat} {a b : Addr} {k1 k2 : ClassId} {ty : FieldType} {z z' sp dp nn : Int32} {vs vd us : List Value} {dv dd : Value} {rest : List Value} (P : Wk Z own bytes h p l e R s m args below meth c T locs cells slots) (N : Fr n0 locs) (hd : decode bytes pc = .ok (.invokestatic i, 3))
    (w1 : (Cond.methodLink own i Jvm.Stand.acN).before a0 Z = true) (w2 : (Cond.native Jvm.Stand.acN).before a0 Z = true) (w3 : (Cond.static Jvm.Stand.acN).before a0 Z = true) (w4 : (Cond.initialized "java/lang/System").before a0 Z = true) (A : Arv Z h a k1 ty z vs dv) (B : Arv Z h b k2 ty z' vd dd) (hty : refKind ty = false)
    (h1 : ¬ sp < 0) (h2 : ¬ dp < 0) (h3 : ¬ nn < 0) (hsp : sp.toNatClampNeg = sp0) (hdp : dp.toNatClampNeg = d) (hnn : nn.toNatClampNeg = j) (h4 : sp0 + j ≤ z.toNatClampNeg) (h5 : d + j ≤ z'.toNatClampNeg) (hus : us = (List.range j).map fun i => vs.getD (sp0 + i) dv) (hl : d + j ≤ vd.length) (ge : n0 ≤ b)
    (hz : Ls.size = c.maxLocals) (hf : 1 ≤ R.frames) (hW : 2 * (mkF m pc Ls (.int nn :: .int dp :: .ref b :: .int sp :: .ref a :: rest)).monitorRoom + (rest.map fun v => v.category).sum ≤ W) (hlo : W + 18 ≤ R.locals) (hq : pc + 3 = q)
    (k : ∀ T₂ h₂ L, Fr n0 L → Wk Z own bytes h₂ p l e R s m args below meth c T₂ L cells slots → Keep h h₂ [b] → Arv Z h₂ b k2 ty z' (vd.take d ++ us ++ vd.drop (d + j)) dd → Goes p.tables e below K (T₂.setTop (mkF m q Ls rest))) : Goes p.tables e below K (T.setTop (mkF m pc Ls (.int nn :: .int dp :: .ref b :: .int sp :: .ref a :: rest))) := by
  subst hq hdp hnn hsp
  obtain ⟨T₂, h₂, L, X2, e2, N2, K2, A2, st2⟩ := cpA P.1 P.2.1 P.2.2.2.1 P.2.2.2.2.1 w1 w2 w3 w4 P.2.2.2.2.2 A B (us := us) (Or.inl ⟨rfl, hty⟩) h1 h2 h3 h4 h5 hus hl N ge (g := mkF m pc Ls (.int nn :: .int dp :: .ref b :: .int sp :: .ref a :: rest)) rfl hz rfl (hb P.2.2.1 hd) hf hW hlo
  exact Goes.go st2 (k T₂ h₂ L N2 ⟨X2, P.2.1, P.2.2.1, P.2.2.2.1, P.2.2.2.2.1, e2⟩ K2 A2)
end SbSteps2
theorem nfOwn {Z s : State} {a0 : Array Value} {y y' : MethodName} {C : String} (ws : (Cond.selects C y' y').before a0 s = true) (w3 : (Cond.instanceMethod y').before a0 s = true) (e : y'.cls = y.cls) : NotFace s y := fun r0 h0 => by
  obtain ⟨mk', meth', hnamed', -⟩ := Cond.instanceMethod_spec w3
  obtain ⟨kr, hk, hi⟩ := notFace_of_selects (args := a0) ws _ hnamed'
  have hcn := findClass_of_methodNamed h0
  have hcn' := findClass_of_methodNamed hnamed'
  rw [e, hcn] at hcn'
  have ec : r0.cls = mk'.cls := Option.some.inj hcn'
  exact ⟨kr, by rw [ec]; exact hk, hi⟩
theorem subE {e f n : Nat} (h : e = f + n) : Int32.ofNat e - Int32.ofNat f = Int32.ofNat n := by
  rw [h, Int32.ofNat_add, Int32.add_comm, Int32.add_sub_cancel]
theorem leE {e f n : Nat} (h : e = f + n) (he : e ≤ 4000) : ¬ Int32.ofNat e < Int32.ofNat f := by
  rw [ofNat_lt he (by omega)]
  omega
theorem minE {z f n : Nat} (h : f + n ≤ z) (hz : z ≤ 4000) : (if Int32.ofNat n < (Int32.ofNat z - Int32.ofNat f) then Int32.ofNat n else (Int32.ofNat z - Int32.ofNat f)) = Int32.ofNat n := by
  have e := ofNat_lt (a := n) (b := z - f) (by omega) (by omega)
  rw [subE (show z = f + (z - f) by omega)]
  by_cases q : n < z - f
  · rw [if_pos (e.mpr q)]
  · rw [if_neg (fun y => q (e.mp y)), show z - f = n by omega]
theorem range_drop {vs : List Value} {z f n : Nat} (d : Value) (h : vs.length = z) (h2 : f + n ≤ z) : (vs.drop f).take n = (List.range n).map fun i => vs.getD (f + i) d := by
  apply List.ext_getElem
  · simp
    omega
  · intro i h1 h2
    simp at h1 h2
    simp [List.getD_eq_getElem?_getD, show f + i < vs.length by omega]
theorem cr_list (us : List Value) (n : Nat) (d : Value) : (List.replicate n d).take 0 ++ us ++ (List.replicate n d).drop (0 + n) = us := by
  simp
theorem crNe {e f n z : Nat} (he : e = f + n) (h : f + n ≤ z) (hz : z ≤ 4000) (hne : ¬ (f = 0 ∧ n = z)) (q1 : Int32.ofNat f = 0) (q : Int32.ofNat e = Int32.ofNat z) : False := by
  have a := ofNat_inj (n := f) (k := 0) (by omega) (by omega) q1
  have b := ofNat_inj (by omega) hz q
  exact hne ⟨a, by omega⟩
theorem take_vd (cs : List Int32) : ((((cs.map fun c : Int32 => c.toInt8.toInt32).map Value.int) ++ List.replicate (16 - cs.length) (Value.int 0)).drop 0).take cs.length = ((cs.map fun c : Int32 => c.toInt8.toInt32).map Value.int) := by
  rw [List.drop_zero, List.take_append_of_le_length (by simp), List.take_of_length_le (by simp)]
theorem sub_len {cs : List Int32} {f n : Nat} (h : f + n ≤ cs.length) : ((cs.drop f).take n).length = n := by
  simp
  omega
theorem sub_by (cs : List Int32) (f n : Nat) : ((((cs.drop f).take n).map fun c : Int32 => c.toInt8.toInt32).map Value.int) = (((cs.map fun c : Int32 => c.toInt8.toInt32).map Value.int).drop f).take n := by
  simp only [List.map_take, List.map_drop]
theorem by_get (cs : List Int32) (n : Nat) : ((cs.map fun c : Int32 => c.toInt8.toInt32).map Value.int).getD n (.int 0) = .int (cs.getD n 0).toInt8.toInt32 := by
  simp only [List.getD_eq_getElem?_getD, List.getElem?_map]
  cases cs[n]? <;> rfl
theorem sw_ge {f a b : Nat} (hf : f ≤ 4000) (ha : a ≤ 4000) (hb : b ≤ 4000) (h : ¬ (Int32.ofNat a - Int32.ofNat b) < Int32.ofNat f) : f + b ≤ a := by
  have k := c_isub (Int32.ofNat a) (Int32.ofNat b)
  have r := rng32 (Int32.ofNat a - Int32.ofNat b)
  rw [Int32.lt_iff_toInt_lt, Int32.toInt_ofNat_of_lt (show f < 2 ^ 31 by omega)] at h
  rw [Int32.toInt_ofNat_of_lt (show a < 2 ^ 31 by omega), Int32.toInt_ofNat_of_lt (show b < 2 ^ 31 by omega)] at k
  omega
theorem n0_of {n : Nat} (h : n ≤ 4000) (h0 : ¬ n = 0) : ¬ Int32.ofNat n = 0 := fun q => h0 (ofNat_inj (n := n) (k := 0) h (by omega) q)
theorem z_of {n : Nat} (h : n ≤ 4000) (q : Int32.ofNat n = 0) : n = 0 := ofNat_inj (n := n) (k := 0) h (by omega) q
theorem rng_sub {cs : List Int32} (hp : ∀ c ∈ cs, ¬ c < 0 ∧ ¬ (255 : Int32) < c) (f n : Nat) : ∀ c ∈ (cs.drop f).take n, ¬ c < 0 ∧ ¬ (255 : Int32) < c := fun c hc => hp c (List.mem_of_mem_drop (List.mem_of_mem_take hc))
theorem rng_drop {cs : List Int32} (hp : ∀ c ∈ cs, ¬ c < 0 ∧ ¬ (255 : Int32) < c) (f : Nat) : ∀ c ∈ cs.drop f, ¬ c < 0 ∧ ¬ (255 : Int32) < c := fun c hc => hp c (List.mem_of_mem_drop hc)
theorem rng_app {cs ds : List Int32} (hp : ∀ c ∈ cs, ¬ c < 0 ∧ ¬ (255 : Int32) < c) (hq : ∀ c ∈ ds, ¬ c < 0 ∧ ¬ (255 : Int32) < c) : ∀ c ∈ cs ++ ds, ¬ c < 0 ∧ ¬ (255 : Int32) < c := fun c hc => (List.mem_append.mp hc).elim (hp c) (hq c)
end Own

abbrev l3 (x : Int32) : Int32 := x &&& (3 : Int32)
def chV (k : Int32) : Int32 := if l3 k = 0 then 97 else if l3 k = 1 then 98 else if l3 k = 2 then 46 else 47
abbrev k1 (x : Int32) : Int32 := chV (Jvm.Free.XT.ushr x (2 : Int32))
abbrev k2 (x : Int32) : Int32 := chV (Jvm.Free.XT.ushr x (4 : Int32))
abbrev k3 (x : Int32) : Int32 := chV (Jvm.Free.XT.ushr x (6 : Int32))
def stOf (x : Int32) : List Int32 := if l3 x = 0 then [] else if l3 x = 1 then [k1 x] else if l3 x = 2 then [k1 x, k2 x] else [k1 x, k2 x, k3 x]
theorem Own.lt4 (y : Int32) : (y &&& 3) = 0 ∨ (y &&& 3) = 1 ∨ (y &&& 3) = 2 ∨ (y &&& 3) = 3 := by
  have h := c_mask y 3 2 (by decide) (by decide)
  have h0 : (0 : Int32).toInt = 0 := rfl
  have h1 : (1 : Int32).toInt = 1 := rfl
  have h2 : (2 : Int32).toInt = 2 := rfl
  have h3 : (3 : Int32).toInt = 3 := rfl
  have : (y &&& 3).toInt = 0 ∨ (y &&& 3).toInt = 1 ∨ (y &&& 3).toInt = 2 ∨ (y &&& 3).toInt = 3 := by omega
  rcases this with q | q | q | q
  · exact Or.inl (Int32.toInt_inj.mp (q.trans h0.symm))
  · exact Or.inr (Or.inl (Int32.toInt_inj.mp (q.trans h1.symm)))
  · exact Or.inr (Or.inr (Or.inl (Int32.toInt_inj.mp (q.trans h2.symm))))
  · exact Or.inr (Or.inr (Or.inr (Int32.toInt_inj.mp (q.trans h3.symm))))
theorem st0 {x : Int32} (h : l3 x = 0) : stOf x = [] := if_pos h
theorem st1 {x : Int32} (h : l3 x = 1) : stOf x = [k1 x] := by unfold stOf; rw [h]; rfl
theorem st2 {x : Int32} (h : l3 x = 2) : stOf x = [k1 x, k2 x] := by unfold stOf; rw [h]; rfl
theorem st3 {x : Int32} (h : l3 x = 3) : stOf x = [k1 x, k2 x, k3 x] := by unfold stOf; rw [h]; rfl
theorem st_ln (x : Int32) : (stOf x).length = (l3 x).toInt.toNat := by
  rcases Own.lt4 x with q | q | q | q
  · rw [st0 q, show l3 x = _ from q]; rfl
  · rw [st1 q, show l3 x = _ from q]; rfl
  · rw [st2 q, show l3 x = _ from q]; rfl
  · rw [st3 q, show l3 x = _ from q]; rfl
theorem st_len (x : Int32) : (stOf x).length ≤ 3 := by
  rcases Own.lt4 x with q | q | q | q
  · rw [st0 q]; decide
  · rw [st1 q]; exact Own.leb rfl
  · rw [st2 q]; exact Own.leb rfl
  · rw [st3 q]; exact Own.leb rfl
theorem ch_rng (k : Int32) : ¬ chV k < 0 ∧ ¬ (255 : Int32) < chV k := by
  unfold chV l3
  rcases Own.lt4 k with q | q | q | q <;> rw [q] <;> decide
theorem ch_iff (a b : Int32) : chV a = chV b ↔ l3 a = l3 b := by
  unfold chV l3
  rcases Own.lt4 a with q | q | q | q <;> rcases Own.lt4 b with r | r | r | r <;> rw [q, r] <;> decide
theorem un (x : Int32) : x.toUInt32.toNat < 4294967296 := x.toUInt32.toNat_lt
theorem ush_n (x : Int32) (k : Int32) (j : Nat) (hk : (k &&& 31).toUInt32.toNat % 32 = j) : (Jvm.Free.XT.ushr x k).toUInt32.toNat = x.toUInt32.toNat / 2 ^ j := by
  show ((x.toUInt32 >>> (k &&& 31).toUInt32).toInt32).toUInt32.toNat = _
  rw [UInt32.toUInt32_toInt32, UInt32.toNat_shiftRight, hk, Nat.shiftRight_eq_div_pow]
theorem and_n (x : Int32) (m : Int32) (j : Nat) (hm : m.toUInt32.toNat = 2 ^ j - 1) : (x &&& m).toUInt32.toNat = x.toUInt32.toNat % 2 ^ j := by
  rw [Int32.toUInt32_and, UInt32.toNat_and, hm, Nat.and_two_pow_sub_one_eq_mod]
theorem i_iff (x y : Int32) : x = y ↔ x.toUInt32.toNat = y.toUInt32.toNat := ⟨fun h => by rw [h], fun h => by
  have e := congrArg UInt32.toInt32 (UInt32.toNat_inj.mp h)
  simpa using e⟩
theorem l3_n (x : Int32) : (l3 x).toUInt32.toNat = x.toUInt32.toNat % 4 := and_n x 3 2 (by decide)
def mk (x : Int32) : Int32 := ((1 : Int32) <<< (((2 : Int32) * l3 x) &&& 31)) - (1 : Int32)
theorem st_iff (x y : Int32) : stOf x = stOf y ↔ l3 x = l3 y ∧ ((Jvm.Free.XT.ushr x (2 : Int32)) &&& mk x) = ((Jvm.Free.XT.ushr y (2 : Int32)) &&& mk x) := by
  have hx2 := ush_n x 2 2 (by decide)
  have hx4 := ush_n x 4 4 (by decide)
  have hx6 := ush_n x 6 6 (by decide)
  have hy2 := ush_n y 2 2 (by decide)
  have hy4 := ush_n y 4 4 (by decide)
  have hy6 := ush_n y 6 6 (by decide)
  have e1 : k1 x = k1 y ↔ x.toUInt32.toNat / 4 % 4 = y.toUInt32.toNat / 4 % 4 := by
    rw [ch_iff, i_iff, l3_n, l3_n, hx2, hy2]
  have e2 : k2 x = k2 y ↔ x.toUInt32.toNat / 16 % 4 = y.toUInt32.toNat / 16 % 4 := by
    rw [ch_iff, i_iff, l3_n, l3_n, hx4, hy4]
  have e3 : k3 x = k3 y ↔ x.toUInt32.toNat / 64 % 4 = y.toUInt32.toNat / 64 % 4 := by
    rw [ch_iff, i_iff, l3_n, l3_n, hx6, hy6]
  by_cases hl : l3 x = l3 y
  · have hy : l3 y = l3 x := hl.symm
    rw [and_iff_right hl]
    rcases Own.lt4 x with q | q | q | q
    · rw [st0 q, st0 (hy.trans q), show mk x = 0 by unfold mk; rw [show l3 x = _ from q]; decide]
      simp
    · rw [st1 q, st1 (hy.trans q), show mk x = 3 by unfold mk; rw [show l3 x = _ from q]; decide, i_iff (_ &&& _), and_n _ 3 2 (by decide), and_n _ 3 2 (by decide), hx2, hy2]
      simp only [List.cons.injEq, and_true, e1]
      first | done | omega
    · rw [st2 q, st2 (hy.trans q), show mk x = 15 by unfold mk; rw [show l3 x = _ from q]; decide, i_iff (_ &&& _), and_n _ 15 4 (by decide), and_n _ 15 4 (by decide), hx2, hy2]
      simp only [List.cons.injEq, and_true, e1, e2]
      first | done | omega
    · rw [st3 q, st3 (hy.trans q), show mk x = 63 by unfold mk; rw [show l3 x = _ from q]; decide, i_iff (_ &&& _), and_n _ 63 6 (by decide), and_n _ 63 6 (by decide), hx2, hy2]
      simp only [List.cons.injEq, and_true, e1, e2, e3]
      first | done | omega
  · refine ⟨fun h => absurd ?_ hl, fun h => absurd h.1 hl⟩
    have := congrArg List.length h
    rw [st_ln x, st_ln y] at this
    rcases Own.lt4 x with q | q | q | q <;> rcases Own.lt4 y with r | r | r | r <;> rw [show l3 x = _ from q, show l3 y = _ from r] at this ⊢ <;> first | rfl | (revert this; decide)
theorem noCN {Z : State} {a0 : Array Value} (hw : ∀ d ∈ tables_1, d.before a0 Z = true) : ∃ c t, Z.vm.findClass "java/lang/String" = some c ∧ Z.vm.findClass "lifestack/model/ComponentName" = some t ∧ Z.vm.assignable c t = false := by
  have ws : (Jvm.Cond.superclass "java/lang/String" "java/lang/Object").before a0 Z = true := (hw _ (List.mem_of_getElem? (i := 212) rfl))
  have wo : (Jvm.Cond.noSuperclass "java/lang/Object").before a0 Z = true := (hw _ (List.mem_of_getElem? (i := 213) rfl))
  have wi : (Jvm.Cond.instantiable "lifestack/model/ComponentName" 3).before a0 Z = true := (hw _ (List.mem_of_getElem? (i := 1) rfl))
  obtain ⟨t, kt, i1, i2, i3, i4⟩ := Cond.instantiable_spec wi
  obtain ⟨o, ko, o1, o2, o3, -, -⟩ := Cond.noSuperclass_spec wo
  obtain ⟨c, c0⟩ := found_sup ws
  obtain ⟨q, k, kq, h1, h2, h3, h4, h5, -, h7⟩ := Cond.superclass_spec c0 ws
  cases o1.symm.trans h1
  have ne := ids_ne c0 i1 (by decide)
  have ne2 := ids_ne o1 i1 (by decide)
  refine ⟨c, t, c0, i1, ?_⟩
  have n3 : ∀ fuel, Z.vm.isSubclassAux fuel c t = false := fun fuel => by
    cases fuel with
    | zero => rfl
    | succ f =>
      have n2 : Z.vm.isSubclassAux f o t = false := by
        cases f with
        | zero => rfl
        | succ g => simp [Vm.isSubclassAux, ne2, o2, o3]
      simp [Vm.isSubclassAux, ne, h2, h4, n2]
  show Z.vm.assignableAux (255 + 1) c t = false
  simp [Vm.assignableAux, ne, h2, i2, h5, i3, (Bool.or_eq_false_iff.mp i4.1).1, Vm.isSubclass, n3]
theorem d3_0 : decode jdk_42_method_149_code 0 = .ok (.aload_n 0, 1) := by decide +kernel
theorem d3_1 : decode jdk_42_method_149_code 1 = .ok (.invokespecial 1, 3) := by decide +kernel
theorem d3_4 : decode jdk_42_method_149_code 4 = .ok (.iload_n 3, 1) := by decide +kernel
theorem d3_5 : decode jdk_42_method_149_code 5 = .ok (.ifCond .ne 22, 3) := by decide +kernel
theorem d3_8 : decode jdk_42_method_149_code 8 = .ok (.aload_n 0, 1) := by decide +kernel
theorem d3_9 : decode jdk_42_method_149_code 9 = .ok (.ldc 7, 2) := by decide +kernel
theorem d3_11 : decode jdk_42_method_149_code 11 = .ok (.getfield 9, 3) := by decide +kernel
theorem d3_14 : decode jdk_42_method_149_code 14 = .ok (.putfield 9, 3) := by decide +kernel
theorem d3_17 : decode jdk_42_method_149_code 17 = .ok (.aload_n 0, 1) := by decide +kernel
theorem d3_18 : decode jdk_42_method_149_code 18 = .ok (.ldc 7, 2) := by decide +kernel
theorem d3_20 : decode jdk_42_method_149_code 20 = .ok (.getfield 15, 3) := by decide +kernel
theorem d3_23 : decode jdk_42_method_149_code 23 = .ok (.putfield 15, 3) := by decide +kernel
theorem d3_26 : decode jdk_42_method_149_code 26 = .ok (.return_, 1) := by decide +kernel
theorem d3_27 : decode jdk_42_method_149_code 27 = .ok (.getstatic 38, 3) := by decide +kernel
theorem d3_30 : decode jdk_42_method_149_code 30 = .ok (.ifCond .eq 28, 3) := by decide +kernel
theorem d3_33 : decode jdk_42_method_149_code 33 = .ok (.aload_n 1, 1) := by decide +kernel
theorem d3_34 : decode jdk_42_method_149_code 34 = .ok (.iload_n 2, 1) := by decide +kernel
theorem d3_35 : decode jdk_42_method_149_code 35 = .ok (.iload_n 3, 1) := by decide +kernel
theorem d3_36 : decode jdk_42_method_149_code 36 = .ok (.invokestatic 177, 3) := by decide +kernel
theorem d3_39 : decode jdk_42_method_149_code 39 = .ok (.astore 5, 2) := by decide +kernel
theorem d3_41 : decode jdk_42_method_149_code 41 = .ok (.aload_n 0, 1) := by decide +kernel
theorem d3_42 : decode jdk_42_method_149_code 42 = .ok (.aload 5, 2) := by decide +kernel
theorem d3_44 : decode jdk_42_method_149_code 44 = .ok (.iload_n 3, 1) := by decide +kernel
theorem d3_45 : decode jdk_42_method_149_code 45 = .ok (.invokestatic 47, 3) := by decide +kernel
theorem d3_48 : decode jdk_42_method_149_code 48 = .ok (.putfield 15, 3) := by decide +kernel
theorem d3_51 : decode jdk_42_method_149_code 51 = .ok (.aload_n 0, 1) := by decide +kernel
theorem d3_52 : decode jdk_42_method_149_code 52 = .ok (.aload 5, 2) := by decide +kernel
theorem d3_54 : decode jdk_42_method_149_code 54 = .ok (.putfield 9, 3) := by decide +kernel
theorem d3_57 : decode jdk_42_method_149_code 57 = .ok (.return_, 1) := by decide +kernel
theorem d3_58 : decode jdk_42_method_149_code 58 = .ok (.aload_n 0, 1) := by decide +kernel
theorem d3_59 : decode jdk_42_method_149_code 59 = .ok (.iconst 1, 1) := by decide +kernel
theorem d3_60 : decode jdk_42_method_149_code 60 = .ok (.putfield 15, 3) := by decide +kernel
theorem d3_63 : decode jdk_42_method_149_code 63 = .ok (.aload_n 0, 1) := by decide +kernel
theorem d3_64 : decode jdk_42_method_149_code 64 = .ok (.aload_n 1, 1) := by decide +kernel
theorem d3_65 : decode jdk_42_method_149_code 65 = .ok (.iload_n 2, 1) := by decide +kernel
theorem d3_66 : decode jdk_42_method_149_code 66 = .ok (.iload_n 3, 1) := by decide +kernel
theorem d3_67 : decode jdk_42_method_149_code 67 = .ok (.invokestatic 180, 3) := by decide +kernel
theorem d3_70 : decode jdk_42_method_149_code 70 = .ok (.putfield 9, 3) := by decide +kernel
theorem d3_73 : decode jdk_42_method_149_code 73 = .ok (.return_, 1) := by decide +kernel
theorem pn_3 : plainFor (⟨"java/lang/String", "<init>", "([CIILjava/lang/Void;)V"⟩ : MethodName) = true := by first | exact plainFor_of_name (by first | (simp [plainName, overriddenIn]; done) | decide +kernel) | decide +kernel
def QrmE4 (Z : State) (a1 : Addr) (b1 : Addr) (u1 : Value) (u2 : Value) (h0 : Heap) (n0 : Nat) (v : Option Value) (h : Heap) (L : List Loc) : Prop := v = none ∧ Fr n0 L ∧ Keep h0 h [a1] ∧ Own.Str Z h a1 []
set_option maxRecDepth 65536 in
set_option maxHeartbeats 40000000 in
theorem rmE4 (l : Launch) (Z : State) (a0 : Array Value) (hw : ∀ d ∈ tables_1, d.before a0 Z = true) (ws : List Jvm.Cond) (a1 : Addr) (b1 : Addr) (u1 : Value) (u2 : Value) (h0 : Heap) (n0 : Nat) (Z0 : n0 ≤ h0.size) (E_a1 : Exa Z h0 a1 "java/lang/String") (f1 : Fld Z h0 a1 "java/lang/String" "value" "[B" u1) (f2 : Fld Z h0 a1 "java/lang/String" "coder" "B" u2) (g_a1 : n0 ≤ a1) :
    MetFree l (⟨"java/lang/String", "<init>", "([CIILjava/lang/Void;)V"⟩ : MethodName) (head1 (Jvm.Cond.code (⟨"java/lang/String", "<init>", "([CIILjava/lang/Void;)V"⟩ : MethodName) jdk_42_method_149_code 6 none :: ws) ({ frames := 1, cells := 4, slots := 8, locals := 12 } : Room)) (fun a U => a = #[(.ref a1), (.ref b1), (.int (0 : Int32)), (.int (0 : Int32)), .null] ∧ Z.Warmed39 U.vm ∧ U.heap = h0 ∧ CHv Z EL U.vm h0 ∧ ∀ x ∈ ([a1] : List Addr), Safe Z EL U.vm h0 x) (fun _ _ _ _ _ => True) (fun _ U o U' => ∃ v L, o = .returned v ∧ QrmE4 Z a1 b1 u1 u2 h0 n0 v U'.heap L ∧ CHr Z EL U.vm U.heap U'.vm U'.heap ∧ ReturnedEndW U o U' L ({ frames := 1, cells := 4, slots := 8, locals := 12 } : Room).cells ({ frames := 1, cells := 4, slots := 8, locals := 12 } : Room).slots) := by
  refine MetFree.of_bodySF pn_3 hisR ?_
  intro p e s m args below meth c s₁ Bd hml0 hP hK
  obtain ⟨rfl, hZ, hh, hCH, hSf⟩ := hP
  have hml : c.maxLocals = 6 := hml0
  have hlk : meth.locks = false := Bd.notSynchronized
  have hret := Bd.returns
  have hnm := (name_of_methodNamed Bd.named Bd.method).1
  have P0 : Own.Wk Z "java/lang/String" jdk_42_method_149_code h0 p l e ({ frames := 1, cells := 4, slots := 8, locals := 12 } : Room) (s.setVm s.vm) m #[(.ref a1), (.ref b1), (.int (0 : Int32)), (.int (0 : Int32)), .null] below meth c s₁ [] 0 0 := ⟨Stand.of_body Bd, Bd.exec, Bd.bytes, hZ, findClass_of_methodNamed Bd.named, by rw [← hh, Bd.state]; rfl⟩
  have H0 : Own.Hd Z EL s s.vm h0 h0 := Own.Hd.start hCH
  have N0 := Fr.nil n0
  show Own.Goes p.tables e below (fun s₂ o => ∃ v L, o = .returned v ∧ QrmE4 Z a1 b1 u1 u2 h0 n0 v s₂.heap L ∧ CHr Z EL s.vm s.heap s₂.vm s₂.heap ∧ ReturnedEndW s o s₂ L ({ frames := 1, cells := 4, slots := 8, locals := 12 } : Room).cells ({ frames := 1, cells := 4, slots := 8, locals := 12 } : Room).slots) (s₁.setTop (entryFrame m #[(.ref a1), (.ref b1), (.int (0 : Int32)), (.int (0 : Int32)), .null] 6))
  rw [show entryFrame m #[(.ref a1), (.ref b1), (.int (0 : Int32)), (.int (0 : Int32)), .null] 6 = mkF m 0 #[.val (.ref a1), .val (.ref b1), .val (.int (0 : Int32)), .val (.int (0 : Int32)), .val .null, .unset] [] from by first | rfl | (rcases Own.refc hfm with rfl | ⟨_, rfl⟩ <;> rfl) | (simp [entryFrame, mkF, argsToLocals, Value.category]; done)]
  refine Own.aloadN (q := 1) P0 d3_0 rfl rfl rfl ?_
  refine Own.objinit (q := 4) (W := 0) P0 d3_1 (hw _ (List.mem_of_getElem? (i := 18) rfl)) (hw _ (List.mem_of_getElem? (i := 19) rfl)) (hw _ (List.mem_of_getElem? (i := 20) rfl)) (by rw [hml]; rfl) (by decide) (by show 2 * 0 + _ ≤ _; exact Nat.le_of_eq rfl) (by decide) rfl ?_
  intro T21 P21
  refine Own.iloadN (q := 5) P21 d3_4 rfl rfl ?_
  refine Own.if_ne (q := 8) (qy := 27) P21 d3_5 (by decide) rfl (fun q => absurd rfl q) (fun _ => ?_)
  refine Own.aloadN (q := 9) P21 d3_8 rfl rfl rfl ?_
  refine Own.ldcStr (q := 11) (n := 0) (cs := []) P21 H0 d3_9 (hw _ (List.mem_of_getElem? (i := 21) rfl)) (fun a ha => hw a (sub_str a ha)) (ew hw) (by decide) (by decide) Own.ch0 (by decide) (by decide) (by decide) (by decide) (by decide) (by decide) (by decide) rfl ?_
  intro T22 vm22 h22 a22 P22 H22 hr22 E22 St22
  obtain ⟨⟨t23, kb23, y23a, y23v, y23c, y23b⟩, -, -⟩ := id St22
  refine Own.getfield (q := 14) P22 d3_11 (hw _ (List.mem_of_getElem? (i := 27) rfl)) y23v rfl ?_
  intro T24 P24
  have E0_1_25 : Ext h0 h22 := E22
  refine Own.putfield (q := 17) P24 d3_14 (hw _ (List.mem_of_getElem? (i := 27) rfl)) (f1.ext E0_1_25) (E_a1.ext E0_1_25) (Or.inr ⟨(hw _ (List.mem_of_getElem? (i := 23) rfl)), rfl, hnm⟩) (hw _ (List.mem_of_getElem? (i := 9) rfl)) (ty := (.array .byte)) (by decide) rfl rfl rfl ?_
  intro T26 h26 lc26 hl26 P26 W26
  have c26_t23 := y23b.other W26 (Ne.symm (Exa.neArv (E_a1.ext E0_1_25) y23b (hw _ (List.mem_of_getElem? (i := 9) rfl))))
  have F26_value := Fld.same W26 (f1.ext E0_1_25)
  have F26_coder := (f2.ext E0_1_25).other W26 (Or.inr (slot_ne (Or.inr (hw _ (List.mem_of_getElem? (i := 24) rfl))) (Or.inr (hw _ (List.mem_of_getElem? (i := 23) rfl))) (by decide) (t := .byte) (t' := (.array .byte)) (by decide) (by decide)))
  have A26 := (E_a1.ext E0_1_25).wr W26
  have N26 := Own.Fr.one N0 hl26 g_a1
  refine Own.aloadN (q := 18) P26 d3_17 rfl rfl rfl ?_
  have Hd27 := (Own.Hd.wr H22 W26 (CHr.safe H22.2 E_a1.lt (hSf _ (by simp))))
  refine Own.ldcStr (q := 20) (n := 0) (cs := []) P26 Hd27 d3_18 (hw _ (List.mem_of_getElem? (i := 21) rfl)) (fun a ha => hw a (sub_str a ha)) (ew hw) (by decide) (by decide) Own.ch0 (by decide) (by decide) (by decide) (by decide) (by decide) (by decide) (by decide) rfl ?_
  intro T28 vm28 h28 a28 P28 H28 hr28 E28 St28
  obtain ⟨⟨t29, kb29, y29a, y29v, y29c, y29b⟩, -, -⟩ := id St28
  refine Own.getfield (q := 23) P28 d3_20 (hw _ (List.mem_of_getElem? (i := 28) rfl)) y29c rfl ?_
  intro T30 P30
  have E2_3_31 : Ext h26 h28 := E28
  refine Own.putfield (q := 26) P30 d3_23 (hw _ (List.mem_of_getElem? (i := 28) rfl)) (F26_coder.ext E2_3_31) (A26.ext E2_3_31) (Or.inr ⟨(hw _ (List.mem_of_getElem? (i := 24) rfl)), rfl, hnm⟩) (hw _ (List.mem_of_getElem? (i := 9) rfl)) (ty := .byte) (by decide) rfl rfl rfl ?_
  intro T32 h32 lc32 hl32 P32 W32
  have c32_t23 := (c26_t23.ext E2_3_31).other W32 (Ne.symm (Exa.neArv (A26.ext E2_3_31) (c26_t23.ext E2_3_31) (hw _ (List.mem_of_getElem? (i := 9) rfl))))
  have F32_value := (F26_value.ext E2_3_31).other W32 (Or.inr (slot_ne (Or.inr (hw _ (List.mem_of_getElem? (i := 23) rfl))) (Or.inr (hw _ (List.mem_of_getElem? (i := 24) rfl))) (by decide) (t := (.array .byte)) (t' := .byte) (by decide) (by decide)))
  have F32_coder := Fld.same W32 (F26_coder.ext E2_3_31)
  have A32 := (A26.ext E2_3_31).wr W32
  have N32 := Own.Fr.one N26 hl32 g_a1
  have Hd33 := (Own.Hd.wr H28 W32 (CHr.safe H28.2 E_a1.lt (hSf _ (by simp))))
  refine Own.retVH (Q := QrmE4 Z a1 b1 u1 u2 h0 n0) P32 hh (ew hw) Hd33 d3_26 hret hlk (by decide) (by decide) ?_
  exact ⟨rfl, N32, (Keep.wr (Keep.ext (Keep.wr (Keep.ext (Keep.refl h0 _) E22) W26 (Or.inl (by simp))) E28) W32 (Or.inl (by simp))), ⟨t23, _, A32, F32_value, F32_coder, c32_t23⟩, Own.ch0, by decide⟩
theorem d2_0 : decode jdk_42_method_3_code 0 = .ok (.aload_n 0, 1) := by decide +kernel
theorem d2_1 : decode jdk_42_method_3_code 1 = .ok (.aload_n 1, 1) := by decide +kernel
theorem d2_2 : decode jdk_42_method_3_code 2 = .ok (.iconst 0, 1) := by decide +kernel
theorem d2_3 : decode jdk_42_method_3_code 3 = .ok (.aload_n 1, 1) := by decide +kernel
theorem d2_4 : decode jdk_42_method_3_code 4 = .ok (.arraylength, 1) := by decide +kernel
theorem d2_5 : decode jdk_42_method_3_code 5 = .ok (.aconst_null, 1) := by decide +kernel
theorem d2_6 : decode jdk_42_method_3_code 6 = .ok (.invokespecial 27, 3) := by decide +kernel
theorem d2_9 : decode jdk_42_method_3_code 9 = .ok (.return_, 1) := by decide +kernel
theorem pn_2 : plainFor (⟨"java/lang/String", "<init>", "([C)V"⟩ : MethodName) = true := by first | exact plainFor_of_name (by first | (simp [plainName, overriddenIn]; done) | decide +kernel) | decide +kernel
def QrmE1 (Z : State) (a1 : Addr) (b1 : Addr) (kc : ClassId) (u1 : Value) (u2 : Value) (d1 : Value) (h0 : Heap) (n0 : Nat) (v : Option Value) (h : Heap) (L : List Loc) : Prop := v = none ∧ Fr n0 L ∧ Keep h0 h [a1] ∧ Own.Str Z h a1 []
set_option maxRecDepth 65536 in
set_option maxHeartbeats 40000000 in
theorem rmE1 (l : Launch) (Z : State) (a0 : Array Value) (hw : ∀ d ∈ tables_1, d.before a0 Z = true) (ws : List Jvm.Cond) (a1 : Addr) (b1 : Addr) (kc : ClassId) (u1 : Value) (u2 : Value) (d1 : Value) (h0 : Heap) (n0 : Nat) (Z0 : n0 ≤ h0.size) (E_a1 : Exa Z h0 a1 "java/lang/String") (f1 : Fld Z h0 a1 "java/lang/String" "value" "[B" u1) (f2 : Fld Z h0 a1 "java/lang/String" "coder" "B" u2) (g_a1 : n0 ≤ a1) (A_b1 : Arv Z h0 b1 kc .char 0 [] d1) :
    MetFree l (⟨"java/lang/String", "<init>", "([C)V"⟩ : MethodName) (head1 (Jvm.Cond.code (⟨"java/lang/String", "<init>", "([C)V"⟩ : MethodName) jdk_42_method_3_code 2 none :: ws) ({ frames := 2, cells := 4, slots := 8, locals := 29 } : Room)) (fun a U => a = #[(.ref a1), (.ref b1)] ∧ Z.Warmed39 U.vm ∧ U.heap = h0 ∧ CHv Z EL U.vm h0 ∧ ∀ x ∈ ([a1] : List Addr), Safe Z EL U.vm h0 x) (fun _ _ _ _ _ => True) (fun _ U o U' => ∃ v L, o = .returned v ∧ QrmE1 Z a1 b1 kc u1 u2 d1 h0 n0 v U'.heap L ∧ CHr Z EL U.vm U.heap U'.vm U'.heap ∧ ReturnedEndW U o U' L ({ frames := 2, cells := 4, slots := 8, locals := 29 } : Room).cells ({ frames := 2, cells := 4, slots := 8, locals := 29 } : Room).slots) := by
  refine MetFree.of_bodySF pn_2 hisR ?_
  intro p e s m args below meth c s₁ Bd hml0 hP hK
  obtain ⟨rfl, hZ, hh, hCH, hSf⟩ := hP
  have hml : c.maxLocals = 2 := hml0
  have hlk : meth.locks = false := Bd.notSynchronized
  have hret := Bd.returns
  have hnm := (name_of_methodNamed Bd.named Bd.method).1
  have P0 : Own.Wk Z "java/lang/String" jdk_42_method_3_code h0 p l e ({ frames := 2, cells := 4, slots := 8, locals := 29 } : Room) (s.setVm s.vm) m #[(.ref a1), (.ref b1)] below meth c s₁ [] 0 0 := ⟨Stand.of_body Bd, Bd.exec, Bd.bytes, hZ, findClass_of_methodNamed Bd.named, by rw [← hh, Bd.state]; rfl⟩
  have H0 : Own.Hd Z EL s s.vm h0 h0 := Own.Hd.start hCH
  have N0 := Fr.nil n0
  show Own.Goes p.tables e below (fun s₂ o => ∃ v L, o = .returned v ∧ QrmE1 Z a1 b1 kc u1 u2 d1 h0 n0 v s₂.heap L ∧ CHr Z EL s.vm s.heap s₂.vm s₂.heap ∧ ReturnedEndW s o s₂ L ({ frames := 2, cells := 4, slots := 8, locals := 29 } : Room).cells ({ frames := 2, cells := 4, slots := 8, locals := 29 } : Room).slots) (s₁.setTop (entryFrame m #[(.ref a1), (.ref b1)] 2))
  rw [show entryFrame m #[(.ref a1), (.ref b1)] 2 = mkF m 0 #[.val (.ref a1), .val (.ref b1)] [] from by first | rfl | (rcases Own.refc hfm with rfl | ⟨_, rfl⟩ <;> rfl) | (simp [entryFrame, mkF, argsToLocals, Value.category]; done)]
  refine Own.aloadN (q := 1) P0 d2_0 rfl rfl rfl ?_
  refine Own.aloadN (q := 2) P0 d2_1 rfl rfl rfl ?_
  refine Own.iconst (q := 3) (v := (0 : Int32)) P0 d2_2 rfl rfl ?_
  refine Own.aloadN (q := 4) P0 d2_3 rfl rfl rfl ?_
  refine Own.arraylength (q := 5) P0 d2_4 A_b1 rfl ?_
  refine Own.aconst (q := 6) P0 d2_5  rfl ?_
  refine Own.invSpecialH (q := 9) (W := 0) (y := (⟨"java/lang/String", "<init>", "([CIILjava/lang/Void;)V"⟩ : MethodName)) (a := a1) (argsL := [(.ref b1), (.int (0 : Int32)), (.int (0 : Int32)), .null]) (rest := []) P0 H0 d2_6 rfl (hw _ (List.mem_of_getElem? (i := 14) rfl)) (hw _ (List.mem_of_getElem? (i := 15) rfl)) (hw _ (List.mem_of_getElem? (i := 17) rfl)) (by decide) (Own.backH (W := 0) (rmE4 l Z a0 hw [] a1 b1 u1 u2 h0 n0 Z0 E_a1 f1 f2 g_a1) P0.2.2.2.1 (hw _ (List.mem_of_getElem? (i := 17) rfl)) (hw _ (List.mem_of_getElem? (i := 10) rfl)) (by decide) (by decide) (ew hw) H0.2.1 (allS ⟨E_a1.lt, (CHr.safe H0.2 E_a1.lt (hSf _ (by simp)))⟩ all0)) rfl rfl (by rw [hml]; rfl) (lenOf (show parseMethodDescriptor "([CIILjava/lang/Void;)V" = some ⟨[(.array .char), .int, .int, (.object "java/lang/Void")], none⟩ from by decide +kernel) rfl) (by show 2 * 0 + _ ≤ _; exact Nat.le_of_eq rfl) (by decide) (by decide) rfl ?_
  rintro v21 T21 vm21 h21 L21 ⟨rfl, N21q, K21, St21⟩ P21 H21 hr21
  have N21 := Fr.app N0 N21q
  show Own.Goes _ _ _ _ (T21.setTop (mkF m 9 #[.val (.ref a1), .val (.ref b1)] []))
  refine Own.retVH (Q := QrmE1 Z a1 b1 kc u1 u2 d1 h0 n0) P21 hh (ew hw) H21 d2_9 hret hlk (by decide) (by decide) ?_
  exact ⟨rfl, N21, K21, St21⟩
theorem d5_0 : decode method_2_code 0 = .ok (.iload_n 0, 1) := by decide +kernel
theorem d5_1 : decode method_2_code 1 = .ok (.iconst 3, 1) := by decide +kernel
theorem d5_2 : decode method_2_code 2 = .ok (.iand, 1) := by decide +kernel
theorem d5_3 : decode method_2_code 3 = .ok (.istore_n 1, 1) := by decide +kernel
theorem d5_4 : decode method_2_code 4 = .ok (.iload_n 1, 1) := by decide +kernel
theorem d5_5 : decode method_2_code 5 = .ok (.ifCond .ne 6, 3) := by decide +kernel
theorem d5_8 : decode method_2_code 8 = .ok (.bipush 97, 2) := by decide +kernel
theorem d5_10 : decode method_2_code 10 = .ok (.ireturn, 1) := by decide +kernel
theorem d5_11 : decode method_2_code 11 = .ok (.iload_n 1, 1) := by decide +kernel
theorem d5_12 : decode method_2_code 12 = .ok (.iconst 1, 1) := by decide +kernel
theorem d5_13 : decode method_2_code 13 = .ok (.if_icmp .ne 6, 3) := by decide +kernel
theorem d5_16 : decode method_2_code 16 = .ok (.bipush 98, 2) := by decide +kernel
theorem d5_18 : decode method_2_code 18 = .ok (.ireturn, 1) := by decide +kernel
theorem d5_19 : decode method_2_code 19 = .ok (.iload_n 1, 1) := by decide +kernel
theorem d5_20 : decode method_2_code 20 = .ok (.iconst 2, 1) := by decide +kernel
theorem d5_21 : decode method_2_code 21 = .ok (.if_icmp .ne 6, 3) := by decide +kernel
theorem d5_24 : decode method_2_code 24 = .ok (.bipush 46, 2) := by decide +kernel
theorem d5_26 : decode method_2_code 26 = .ok (.ireturn, 1) := by decide +kernel
theorem d5_27 : decode method_2_code 27 = .ok (.bipush 47, 2) := by decide +kernel
theorem d5_29 : decode method_2_code 29 = .ok (.ireturn, 1) := by decide +kernel
theorem pn_5 : plainFor (⟨"lifestack/model/ComponentNameEqualsPinLaw", "ch", "(I)C"⟩ : MethodName) = true := by first | exact plainFor_of_name (by first | (simp [plainName, overriddenIn]; done) | decide +kernel) | decide +kernel
def QrmCh (Z : State) (x0 : Int32) (h0 : Heap) (n0 : Nat) (v : Option Value) (h : Heap) (L : List Loc) : Prop := v = some (.int (chV x0)) ∧ Fr n0 L ∧ h = h0
set_option maxRecDepth 65536 in
set_option maxHeartbeats 40000000 in
theorem rmCh (l : Launch) (Z : State) (a0 : Array Value) (hw : ∀ d ∈ tables_1, d.before a0 Z = true) (ws : List Jvm.Cond) (x0 : Int32) (h0 : Heap) (n0 : Nat) (Z0 : n0 ≤ h0.size)  :
    MetFree l (⟨"lifestack/model/ComponentNameEqualsPinLaw", "ch", "(I)C"⟩ : MethodName) (head1 (Jvm.Cond.code (⟨"lifestack/model/ComponentNameEqualsPinLaw", "ch", "(I)C"⟩ : MethodName) method_2_code 2 (some .char) :: ws) ({ frames := 0, cells := 0, slots := 0, locals := 0 } : Room)) (fun a U => a = #[(.int x0)] ∧ Z.Warmed39 U.vm ∧ U.heap = h0) (fun _ _ _ _ _ => True) (fun _ U o U' => ∃ v L, o = .returned v ∧ QrmCh Z x0 h0 n0 v U'.heap L ∧ FrameEnd U o U' L ({ frames := 0, cells := 0, slots := 0, locals := 0 } : Room).cells ({ frames := 0, cells := 0, slots := 0, locals := 0 } : Room).slots) := by
  refine MetFree.of_bodySF pn_5 hisR ?_
  intro p e s m args below meth c s₁ Bd hml0 hP hK
  obtain ⟨rfl, hZ, hh⟩ := hP
  have hml : c.maxLocals = 2 := hml0
  have hlk : meth.locks = false := Bd.notSynchronized
  have hret := Bd.returns
  have hnm := (name_of_methodNamed Bd.named Bd.method).1
  have P0 : Own.Wk Z "lifestack/model/ComponentNameEqualsPinLaw" method_2_code h0 p l e ({ frames := 0, cells := 0, slots := 0, locals := 0 } : Room) s m #[(.int x0)] below meth c s₁ [] 0 0 := ⟨Stand.of_body Bd, Bd.exec, Bd.bytes, hZ, findClass_of_methodNamed Bd.named, by rw [← hh, Bd.state]; rfl⟩
  have N0 := Fr.nil n0
  show Own.Goes p.tables e below (fun s₂ o => ∃ v L, o = .returned v ∧ QrmCh Z x0 h0 n0 v s₂.heap L ∧ FrameEnd s o s₂ L ({ frames := 0, cells := 0, slots := 0, locals := 0 } : Room).cells ({ frames := 0, cells := 0, slots := 0, locals := 0 } : Room).slots) (s₁.setTop (entryFrame m #[(.int x0)] 2))
  rw [show entryFrame m #[(.int x0)] 2 = mkF m 0 #[.val (.int x0), .unset] [] from by first | rfl | (rcases Own.refc hfm with rfl | ⟨_, rfl⟩ <;> rfl) | (simp [entryFrame, mkF, argsToLocals, Value.category]; done)]
  refine Own.iloadN (q := 1) P0 d5_0 rfl rfl ?_
  refine Own.iconst (q := 2) (v := (3 : Int32)) P0 d5_1 rfl rfl ?_
  refine Own.iand (q := 3) P0 d5_2  rfl ?_
  refine Own.istoreN (q := 4) (L2 := #[.val (.int x0), .val (.int (x0 &&& (3 : Int32)))]) P0 d5_3 rfl rfl ?_
  refine Own.iloadN (q := 5) P0 d5_4 rfl rfl ?_
  refine Own.if_ne (q := 8) (qy := 11) P0 d5_5 (by decide) rfl (fun q5 => ?_) (fun q5 => ?_)
  · refine Own.iloadN (q := 12) P0 d5_11 rfl rfl ?_
    refine Own.iconst (q := 13) (v := (1 : Int32)) P0 d5_12 rfl rfl ?_
    refine Own.icmp_ne (q := 16) (qy := 19) P0 d5_13 (by decide) rfl (fun q13 => ?_) (fun q13 => ?_)
    · refine Own.iloadN (q := 20) P0 d5_19 rfl rfl ?_
      refine Own.iconst (q := 21) (v := (2 : Int32)) P0 d5_20 rfl rfl ?_
      refine Own.icmp_ne (q := 24) (qy := 27) P0 d5_21 (by decide) rfl (fun q21 => ?_) (fun q21 => ?_)
      · refine Own.bipush (q := 29) (v := (47 : Int32)) P0 d5_27 rfl rfl ?_
        refine Own.retZ (Q := QrmCh Z x0 h0 n0) P0 d5_29 hret (by simp) hlk (by decide) (by decide) ?_
        exact ⟨by unfold chV; first | (rw [if_pos q5]; rfl) | (rw [if_neg q5, if_pos q13]; rfl) | (rw [if_neg q5, if_neg q13, if_pos q21]; rfl) | (rw [if_neg q5, if_neg q13, if_neg q21]; rfl), N0, rfl⟩
      · refine Own.bipush (q := 26) (v := (46 : Int32)) P0 d5_24 rfl rfl ?_
        refine Own.retZ (Q := QrmCh Z x0 h0 n0) P0 d5_26 hret (by simp) hlk (by decide) (by decide) ?_
        exact ⟨by unfold chV; first | (rw [if_pos q5]; rfl) | (rw [if_neg q5, if_pos q13]; rfl) | (rw [if_neg q5, if_neg q13, if_pos q21]; rfl) | (rw [if_neg q5, if_neg q13, if_neg q21]; rfl), N0, rfl⟩
    · refine Own.bipush (q := 18) (v := (98 : Int32)) P0 d5_16 rfl rfl ?_
      refine Own.retZ (Q := QrmCh Z x0 h0 n0) P0 d5_18 hret (by simp) hlk (by decide) (by decide) ?_
      exact ⟨by unfold chV; first | (rw [if_pos q5]; rfl) | (rw [if_neg q5, if_pos q13]; rfl) | (rw [if_neg q5, if_neg q13, if_pos q21]; rfl) | (rw [if_neg q5, if_neg q13, if_neg q21]; rfl), N0, rfl⟩
  · refine Own.bipush (q := 10) (v := (97 : Int32)) P0 d5_8 rfl rfl ?_
    refine Own.retZ (Q := QrmCh Z x0 h0 n0) P0 d5_10 hret (by simp) hlk (by decide) (by decide) ?_
    exact ⟨by unfold chV; first | (rw [if_pos q5]; rfl) | (rw [if_neg q5, if_pos q13]; rfl) | (rw [if_neg q5, if_neg q13, if_pos q21]; rfl) | (rw [if_neg q5, if_neg q13, if_neg q21]; rfl), N0, rfl⟩
theorem d1_0 : decode method_3_code 0 = .ok (.iload_n 0, 1) := by decide +kernel
theorem d1_1 : decode method_3_code 1 = .ok (.iconst 3, 1) := by decide +kernel
theorem d1_2 : decode method_3_code 2 = .ok (.iand, 1) := by decide +kernel
theorem d1_3 : decode method_3_code 3 = .ok (.istore_n 1, 1) := by decide +kernel
theorem d1_4 : decode method_3_code 4 = .ok (.iload_n 1, 1) := by decide +kernel
theorem d1_5 : decode method_3_code 5 = .ok (.newarray .char, 2) := by decide +kernel
theorem d1_7 : decode method_3_code 7 = .ok (.astore_n 2, 1) := by decide +kernel
theorem d1_8 : decode method_3_code 8 = .ok (.iload_n 1, 1) := by decide +kernel
theorem d1_9 : decode method_3_code 9 = .ok (.ifCond .le 12, 3) := by decide +kernel
theorem d1_12 : decode method_3_code 12 = .ok (.aload_n 2, 1) := by decide +kernel
theorem d1_13 : decode method_3_code 13 = .ok (.iconst 0, 1) := by decide +kernel
theorem d1_14 : decode method_3_code 14 = .ok (.iload_n 0, 1) := by decide +kernel
theorem d1_15 : decode method_3_code 15 = .ok (.iconst 2, 1) := by decide +kernel
theorem d1_16 : decode method_3_code 16 = .ok (.iushr, 1) := by decide +kernel
theorem d1_17 : decode method_3_code 17 = .ok (.invokestatic 7, 3) := by decide +kernel
theorem d1_20 : decode method_3_code 20 = .ok (.castore, 1) := by decide +kernel
theorem d1_21 : decode method_3_code 21 = .ok (.iload_n 1, 1) := by decide +kernel
theorem d1_22 : decode method_3_code 22 = .ok (.iconst 1, 1) := by decide +kernel
theorem d1_23 : decode method_3_code 23 = .ok (.if_icmp .le 12, 3) := by decide +kernel
theorem d1_26 : decode method_3_code 26 = .ok (.aload_n 2, 1) := by decide +kernel
theorem d1_27 : decode method_3_code 27 = .ok (.iconst 1, 1) := by decide +kernel
theorem d1_28 : decode method_3_code 28 = .ok (.iload_n 0, 1) := by decide +kernel
theorem d1_29 : decode method_3_code 29 = .ok (.iconst 4, 1) := by decide +kernel
theorem d1_30 : decode method_3_code 30 = .ok (.iushr, 1) := by decide +kernel
theorem d1_31 : decode method_3_code 31 = .ok (.invokestatic 7, 3) := by decide +kernel
theorem d1_34 : decode method_3_code 34 = .ok (.castore, 1) := by decide +kernel
theorem d1_35 : decode method_3_code 35 = .ok (.iload_n 1, 1) := by decide +kernel
theorem d1_36 : decode method_3_code 36 = .ok (.iconst 2, 1) := by decide +kernel
theorem d1_37 : decode method_3_code 37 = .ok (.if_icmp .le 13, 3) := by decide +kernel
theorem d1_40 : decode method_3_code 40 = .ok (.aload_n 2, 1) := by decide +kernel
theorem d1_41 : decode method_3_code 41 = .ok (.iconst 2, 1) := by decide +kernel
theorem d1_42 : decode method_3_code 42 = .ok (.iload_n 0, 1) := by decide +kernel
theorem d1_43 : decode method_3_code 43 = .ok (.bipush 6, 2) := by decide +kernel
theorem d1_45 : decode method_3_code 45 = .ok (.iushr, 1) := by decide +kernel
theorem d1_46 : decode method_3_code 46 = .ok (.invokestatic 7, 3) := by decide +kernel
theorem d1_49 : decode method_3_code 49 = .ok (.castore, 1) := by decide +kernel
theorem d1_50 : decode method_3_code 50 = .ok (.new 13, 3) := by decide +kernel
theorem d1_53 : decode method_3_code 53 = .ok (.dup, 1) := by decide +kernel
theorem d1_54 : decode method_3_code 54 = .ok (.aload_n 2, 1) := by decide +kernel
theorem d1_55 : decode method_3_code 55 = .ok (.invokespecial 15, 3) := by decide +kernel
theorem d1_58 : decode method_3_code 58 = .ok (.areturn, 1) := by decide +kernel
theorem pn_1 : plainFor (⟨"lifestack/model/ComponentNameEqualsPinLaw", "str", "(I)Ljava/lang/String;"⟩ : MethodName) = true := by first | exact plainFor_of_name (by first | (simp [plainName, overriddenIn]; done) | decide +kernel) | decide +kernel
def QrmStr (Z : State) (x0 : Int32) (zc : Int32) (h0 : Heap) (n0 : Nat) (v : Option Value) (h : Heap) (L : List Loc) : Prop := ∃ r, v = some (.ref r) ∧ Fr n0 L ∧ Ext h0 h ∧ h0.size ≤ r ∧ Own.Str Z h r (stOf x0)
set_option maxRecDepth 65536 in
set_option maxHeartbeats 40000000 in
theorem rmStr (l : Launch) (Z : State) (a0 : Array Value) (hw : ∀ d ∈ tables_1, d.before a0 Z = true) (ws : List Jvm.Cond) (x0 : Int32) (zc : Int32) (h0 : Heap) (n0 : Nat) (Z0 : n0 ≤ h0.size) (SC : Sta Z h0 "java/lang/String" "COMPACT_STRINGS" "Z" (.int zc)) (hzc : ¬ zc = 0) :
    MetFree l (⟨"lifestack/model/ComponentNameEqualsPinLaw", "str", "(I)Ljava/lang/String;"⟩ : MethodName) (head1 (Jvm.Cond.code (⟨"lifestack/model/ComponentNameEqualsPinLaw", "str", "(I)Ljava/lang/String;"⟩ : MethodName) method_3_code 3 (some (.object "java/lang/String")) :: ws) ({ frames := 4, cells := 6, slots := 12, locals := 66 } : Room)) (fun a U => a = #[(.int x0)] ∧ Z.Warmed39 U.vm ∧ U.heap = h0 ∧ CHv Z EL U.vm h0 ∧ ∀ x ∈ ([] : List Addr), Safe Z EL U.vm h0 x) (fun _ _ _ _ _ => True) (fun _ U o U' => ∃ v L, o = .returned v ∧ QrmStr Z x0 zc h0 n0 v U'.heap L ∧ CHr Z EL U.vm U.heap U'.vm U'.heap ∧ ReturnedEndW U o U' L ({ frames := 4, cells := 6, slots := 12, locals := 66 } : Room).cells ({ frames := 4, cells := 6, slots := 12, locals := 66 } : Room).slots) := by
  refine MetFree.of_bodySF pn_1 hisR ?_
  intro p e s m args below meth c s₁ Bd hml0 hP hK
  obtain ⟨rfl, hZ, hh, hCH, hSf⟩ := hP
  have hml : c.maxLocals = 3 := hml0
  have hlk : meth.locks = false := Bd.notSynchronized
  have hret := Bd.returns
  have hnm := (name_of_methodNamed Bd.named Bd.method).1
  have P0 : Own.Wk Z "lifestack/model/ComponentNameEqualsPinLaw" method_3_code h0 p l e ({ frames := 4, cells := 6, slots := 12, locals := 66 } : Room) (s.setVm s.vm) m #[(.int x0)] below meth c s₁ [] 0 0 := ⟨Stand.of_body Bd, Bd.exec, Bd.bytes, hZ, findClass_of_methodNamed Bd.named, by rw [← hh, Bd.state]; rfl⟩
  have H0 : Own.Hd Z EL s s.vm h0 h0 := Own.Hd.start hCH
  have N0 := Fr.nil n0
  show Own.Goes p.tables e below (fun s₂ o => ∃ v L, o = .returned v ∧ QrmStr Z x0 zc h0 n0 v s₂.heap L ∧ CHr Z EL s.vm s.heap s₂.vm s₂.heap ∧ ReturnedEndW s o s₂ L ({ frames := 4, cells := 6, slots := 12, locals := 66 } : Room).cells ({ frames := 4, cells := 6, slots := 12, locals := 66 } : Room).slots) (s₁.setTop (entryFrame m #[(.int x0)] 3))
  rw [show entryFrame m #[(.int x0)] 3 = mkF m 0 #[.val (.int x0), .unset, .unset] [] from by first | rfl | (rcases Own.refc hfm with rfl | ⟨_, rfl⟩ <;> rfl) | (simp [entryFrame, mkF, argsToLocals, Value.category]; done)]
  refine Own.iloadN (q := 1) P0 d1_0 rfl rfl ?_
  refine Own.iconst (q := 2) (v := (3 : Int32)) P0 d1_1 rfl rfl ?_
  refine Own.iand (q := 3) P0 d1_2  rfl ?_
  refine Own.istoreN (q := 4) (L2 := #[.val (.int x0), .val (.int (x0 &&& (3 : Int32))), .unset]) P0 d1_3 rfl rfl ?_
  rcases Own.lt4 x0 with q4 | q4 | q4 | q4
  · rw [q4]
    show Own.Goes _ _ _ _ (s₁.setTop (mkF m 4 #[.val (.int x0), .val (.int (0 : Int32)), .unset] []))
    refine Own.iloadN (q := 5) P0 d1_4 rfl rfl ?_
    refine Own.newarr (q := 7) (cap := 0) P0 d1_5 (hw _ (List.mem_of_getElem? (i := 7) rfl)) (by decide) (by decide) (by decide) (by decide) (by decide) rfl ?_
    intro T21 h21 a21 k21 ha21 P21 E21 A21
    have V21 : Arv Z h21 a21 k21 .char (0 : Int32) [] (.int 0) := Arv.pad A21 (pad_rep [] _ 0)
    refine Own.astoreN (q := 8) (L2 := #[.val (.int x0), .val (.int (0 : Int32)), .val (.ref a21)]) P21 d1_7 rfl rfl rfl ?_
    refine Own.iloadN (q := 9) P21 d1_8 rfl rfl ?_
    refine Own.if_le (q := 12) (qy := 21) P21 d1_9 (by decide) rfl (fun _ => ?_) (fun q => absurd q (by decide))
    refine Own.iloadN (q := 22) P21 d1_21 rfl rfl ?_
    refine Own.iconst (q := 23) (v := (1 : Int32)) P21 d1_22 rfl rfl ?_
    refine Own.icmp_le (q := 26) (qy := 35) P21 d1_23 (by decide) rfl (fun _ => ?_) (fun q => absurd q (by decide))
    refine Own.iloadN (q := 36) P21 d1_35 rfl rfl ?_
    refine Own.iconst (q := 37) (v := (2 : Int32)) P21 d1_36 rfl rfl ?_
    refine Own.icmp_le (q := 40) (qy := 50) P21 d1_37 (by decide) rfl (fun _ => ?_) (fun q => absurd q (by decide))
    refine Own.newobj (q := 53) P21 d1_50 (hw _ (List.mem_of_getElem? (i := 8) rfl)) (hw _ (List.mem_of_getElem? (i := 9) rfl)) (hw _ (List.mem_of_getElem? (i := 10) rfl)) (by decide) (by decide) rfl ?_
    intro T22 h22 a22 ha22 P22 E22 A22 D22
    have F22_value : Fld Z h22 a22 "java/lang/String" "value" "[B" .null := D22 (Or.inr (hw _ (List.mem_of_getElem? (i := 23) rfl))) (ty := (.array .byte)) (by decide)
    have F22_coder : Fld Z h22 a22 "java/lang/String" "coder" "B" (.int (0 : Int32)) := D22 (Or.inr (hw _ (List.mem_of_getElem? (i := 24) rfl))) (ty := .byte) (by decide)
    refine Own.dup (q := 54) P22 d1_53 rfl rfl ?_
    refine Own.aloadN (q := 55) P22 d1_54 rfl rfl rfl ?_
    have E0_1_23 : Ext h0 h21 := E21
    have E1_2_24 : Ext h21 h22 := E22
    have Hd25 := (H0.ext E0_1_23)
    have Sf26 := (Safe.ext E22 Hd25.2.1 (Safe.new (Nat.le_of_eq ha22.symm)))
    have E0_2_27 : Ext h0 h22 := (Own.Ext.tr E0_1_23 E22)
    have Hd28 := (Hd25.ext E1_2_24)
    refine Own.invSpecialH (q := 58) (W := 1) (y := (⟨"java/lang/String", "<init>", "([C)V"⟩ : MethodName)) (a := a22) (argsL := [(.ref a21)]) (rest := [(.ref a22)]) P22 Hd28 d1_55 rfl (hw _ (List.mem_of_getElem? (i := 11) rfl)) (hw _ (List.mem_of_getElem? (i := 12) rfl)) (hw _ (List.mem_of_getElem? (i := 13) rfl)) (by decide) (Own.backH (W := 1) (rmE1 l Z a0 hw [] a22 a21 k21 .null (.int (0 : Int32)) _ h22 n0 (Nat.le_trans Z0 E0_2_27.1) A22 F22_value F22_coder (Nat.le_trans Z0 (Nat.le_trans E0_1_23.1 (Nat.le_of_eq ha22.symm))) (V21.ext E1_2_24)) P22.2.2.2.1 (hw _ (List.mem_of_getElem? (i := 13) rfl)) (hw _ (List.mem_of_getElem? (i := 10) rfl)) (by decide) (by decide) (ew hw) Hd28.2.1 (allS ⟨A22.lt, Sf26⟩ all0)) rfl rfl (by rw [hml]; rfl) (lenOf (show parseMethodDescriptor "([C)V" = some ⟨[(.array .char)], none⟩ from by decide +kernel) rfl) (by show 2 * 0 + _ ≤ _; exact Nat.le_of_eq rfl) (by decide) (by decide) rfl ?_
    rintro v29 T29 vm29 h29 L29 ⟨rfl, N29q, K29, St29⟩ P29 H29 hr29
    have N29 := Fr.app N0 N29q
    show Own.Goes _ _ _ _ (T29.setTop (mkF m 58 #[.val (.int x0), .val (.int (0 : Int32)), .val (.ref a21)] [(.ref a22)]))
    have E0_3_30 : Ext h0 h29 := (Own.Ext.kp E0_2_27 K29 (allS (Nat.le_trans E0_1_23.1 (Nat.le_of_eq ha22.symm)) all0))
    refine Own.retAH (Q := QrmStr Z x0 zc h0 n0) P29 hh (ew hw) H29 d1_58 hret rfl rfl rfl hlk (by decide) (by decide) ?_
    exact ⟨_, rfl, N29, E0_3_30, (Nat.le_trans E0_1_23.1 (Nat.le_of_eq ha22.symm)), by rw [st0 q4]; exact St29⟩
  · rw [q4]
    show Own.Goes _ _ _ _ (s₁.setTop (mkF m 4 #[.val (.int x0), .val (.int (1 : Int32)), .unset] []))
    refine Own.iloadN (q := 5) P0 d1_4 rfl rfl ?_
    refine Own.newarr (q := 7) (cap := 1) P0 d1_5 (hw _ (List.mem_of_getElem? (i := 7) rfl)) (by decide) (by decide) (by decide) (by decide) (by decide) rfl ?_
    intro T31 h31 a31 k31 ha31 P31 E31 A31
    have V31 : Arv Z h31 a31 k31 .char (1 : Int32) [(.int 0)] (.int 0) := Arv.pad A31 (pad_rep [] _ 1)
    refine Own.astoreN (q := 8) (L2 := #[.val (.int x0), .val (.int (1 : Int32)), .val (.ref a31)]) P31 d1_7 rfl rfl rfl ?_
    refine Own.iloadN (q := 9) P31 d1_8 rfl rfl ?_
    refine Own.if_le (q := 12) (qy := 21) P31 d1_9 (by decide) rfl (fun q => absurd (by decide) q) (fun _ => ?_)
    refine Own.aloadN (q := 13) P31 d1_12 rfl rfl rfl ?_
    refine Own.iconst (q := 14) (v := (0 : Int32)) P31 d1_13 rfl rfl ?_
    refine Own.iloadN (q := 15) P31 d1_14 rfl rfl ?_
    refine Own.iconst (q := 16) (v := (2 : Int32)) P31 d1_15 rfl rfl ?_
    refine Own.iushr (q := 17) P31 d1_16  rfl ?_
    have E0_1_32 : Ext h0 h31 := E31
    refine Own.invStatic (q := 20) (W := 2) (y := (⟨"lifestack/model/ComponentNameEqualsPinLaw", "ch", "(I)C"⟩ : MethodName)) (argsL := [(.int (Jvm.Free.XT.ushr x0 (2 : Int32)))]) (rest := [(.int (0 : Int32)), (.ref a31)]) P31 d1_17 (hw _ (List.mem_of_getElem? (i := 29) rfl)) (hw _ (List.mem_of_getElem? (i := 30) rfl)) (hw _ (List.mem_of_getElem? (i := 5) rfl)) (hw _ (List.mem_of_getElem? (i := 31) rfl)) (by decide) (backOf (W := 2) (rmCh l Z a0 hw [] (Jvm.Free.XT.ushr x0 (2 : Int32)) h31 n0 (Nat.le_trans Z0 E0_1_32.1) ) P31.2.2.2.1 (hw _ (List.mem_of_getElem? (i := 31) rfl)) (hw _ (List.mem_of_getElem? (i := 5) rfl)) (by decide) (by decide)) rfl rfl (by rw [hml]; rfl) (lenOf (show parseMethodDescriptor "(I)C" = some ⟨[.int], some .char⟩ from by decide +kernel) rfl) (by show 2 * 0 + _ ≤ _; exact Nat.le_of_eq rfl) (by decide) (by decide) rfl ?_
    rintro v33 T33 h33 L33 ⟨rfl, N33q, e33⟩ P33
    rw [e33] at P33
    have N33 := Fr.app N0 N33q
    show Own.Goes _ _ _ _ (T33.setTop (mkF m 20 #[.val (.int x0), .val (.int (1 : Int32)), .val (.ref a31)] [(.int (chV (Jvm.Free.XT.ushr x0 (2 : Int32)))), (.int (0 : Int32)), (.ref a31)]))
    refine Own.castore (q := 21) (i := 0) (x2 := (chV (Jvm.Free.XT.ushr x0 (2 : Int32)))) P33 d1_20 V31 (by decide) (by decide) (Own.nar_id (ch_rng _)) (Own.fits_ch (ch_rng _)) (by decide) (Own.ltb rfl) rfl ?_
    intro T34 h34 lc34 hl34 P34 W34 A34
    have V34 : Arv Z h34 a31 k31 .char (1 : Int32) [(.int (chV (Jvm.Free.XT.ushr x0 (2 : Int32))))] (.int 0) := A34
    have N34 := Own.Fr.one N33 hl34 (Nat.le_trans Z0 (Nat.le_of_eq ha31.symm))
    refine Own.iloadN (q := 22) P34 d1_21 rfl rfl ?_
    refine Own.iconst (q := 23) (v := (1 : Int32)) P34 d1_22 rfl rfl ?_
    refine Own.icmp_le (q := 26) (qy := 35) P34 d1_23 (by decide) rfl (fun _ => ?_) (fun q => absurd q (by decide))
    refine Own.iloadN (q := 36) P34 d1_35 rfl rfl ?_
    refine Own.iconst (q := 37) (v := (2 : Int32)) P34 d1_36 rfl rfl ?_
    refine Own.icmp_le (q := 40) (qy := 50) P34 d1_37 (by decide) rfl (fun _ => ?_) (fun q => absurd q (by decide))
    refine Own.newobj (q := 53) P34 d1_50 (hw _ (List.mem_of_getElem? (i := 8) rfl)) (hw _ (List.mem_of_getElem? (i := 9) rfl)) (hw _ (List.mem_of_getElem? (i := 10) rfl)) (by decide) (by decide) rfl ?_
    intro T35 h35 a35 ha35 P35 E35 A35 D35
    have F35_value : Fld Z h35 a35 "java/lang/String" "value" "[B" .null := D35 (Or.inr (hw _ (List.mem_of_getElem? (i := 23) rfl))) (ty := (.array .byte)) (by decide)
    have F35_coder : Fld Z h35 a35 "java/lang/String" "coder" "B" (.int (0 : Int32)) := D35 (Or.inr (hw _ (List.mem_of_getElem? (i := 24) rfl))) (ty := .byte) (by decide)
    refine Own.dup (q := 54) P35 d1_53 rfl rfl ?_
    refine Own.aloadN (q := 55) P35 d1_54 rfl rfl rfl ?_
    have E0_2_36 : Ext h0 h34 := (Own.Ext.wr E0_1_32 W34 (Nat.le_of_eq ha31.symm))
    have E0_3_37 : Ext h0 h35 := (Own.Ext.tr E0_2_36 E35)
    have E2_3_38 : Ext h34 h35 := E35
    refine Own.invSpecial (q := 58) (W := 1) (y := (⟨"java/lang/String", "<init>", "([C)V"⟩ : MethodName)) (a := a35) (argsL := [(.ref a31)]) (rest := [(.ref a35)]) P35 d1_55 rfl (hw _ (List.mem_of_getElem? (i := 11) rfl)) (hw _ (List.mem_of_getElem? (i := 12) rfl)) (hw _ (List.mem_of_getElem? (i := 13) rfl)) (by decide) (Own.newB (W := 1) (n0 := n0) (cs := [(chV (Jvm.Free.XT.ushr x0 (2 : Int32)))]) (n := 1) P35.2.2.2.1 (fun d hd => hw d (sub_backV d hd)) (hw _ (List.mem_of_getElem? (i := 9) rfl)) (Nat.le_trans Z0 (Nat.le_trans E0_2_36.1 (Nat.le_of_eq ha35.symm))) (Nat.le_trans Z0 E0_3_37.1) A35 F35_value F35_coder (V34.ext E2_3_38) (SC.ext E0_3_37) hzc rfl rfl (by decide) (by decide) (Own.chS (ch_rng _) Own.ch0) (by decide) (by decide)) rfl rfl (by rw [hml]; rfl) (lenOf (show parseMethodDescriptor "([C)V" = some ⟨[(.array .char)], none⟩ from by decide +kernel) rfl) (by show 2 * 0 + _ ≤ _; exact Nat.le_of_eq rfl) (by decide) (by decide) rfl ?_
    rintro v39 T39 h39 L39 ⟨rfl, N39q, K39, St39⟩ P39
    have N39 := Fr.app N34 N39q
    show Own.Goes _ _ _ _ (T39.setTop (mkF m 58 #[.val (.int x0), .val (.int (1 : Int32)), .val (.ref a31)] [(.ref a35)]))
    have E0_4_40 : Ext h0 h39 := (Own.Ext.kp E0_3_37 K39 (allS (Nat.le_trans E0_2_36.1 (Nat.le_of_eq ha35.symm)) all0))
    have Hd41 := (H0.ext E0_4_40)
    refine Own.retAH (Q := QrmStr Z x0 zc h0 n0) P39 hh (ew hw) Hd41 d1_58 hret rfl rfl rfl hlk (by decide) (by decide) ?_
    exact ⟨_, rfl, N39, E0_4_40, (Nat.le_trans E0_2_36.1 (Nat.le_of_eq ha35.symm)), by rw [st1 q4]; exact St39⟩
  · rw [q4]
    show Own.Goes _ _ _ _ (s₁.setTop (mkF m 4 #[.val (.int x0), .val (.int (2 : Int32)), .unset] []))
    refine Own.iloadN (q := 5) P0 d1_4 rfl rfl ?_
    refine Own.newarr (q := 7) (cap := 2) P0 d1_5 (hw _ (List.mem_of_getElem? (i := 7) rfl)) (by decide) (by decide) (by decide) (by decide) (by decide) rfl ?_
    intro T42 h42 a42 k42 ha42 P42 E42 A42
    have V42 : Arv Z h42 a42 k42 .char (2 : Int32) [(.int 0), (.int 0)] (.int 0) := Arv.pad A42 (pad_rep [] _ 2)
    refine Own.astoreN (q := 8) (L2 := #[.val (.int x0), .val (.int (2 : Int32)), .val (.ref a42)]) P42 d1_7 rfl rfl rfl ?_
    refine Own.iloadN (q := 9) P42 d1_8 rfl rfl ?_
    refine Own.if_le (q := 12) (qy := 21) P42 d1_9 (by decide) rfl (fun q => absurd (by decide) q) (fun _ => ?_)
    refine Own.aloadN (q := 13) P42 d1_12 rfl rfl rfl ?_
    refine Own.iconst (q := 14) (v := (0 : Int32)) P42 d1_13 rfl rfl ?_
    refine Own.iloadN (q := 15) P42 d1_14 rfl rfl ?_
    refine Own.iconst (q := 16) (v := (2 : Int32)) P42 d1_15 rfl rfl ?_
    refine Own.iushr (q := 17) P42 d1_16  rfl ?_
    have E0_1_43 : Ext h0 h42 := E42
    refine Own.invStatic (q := 20) (W := 2) (y := (⟨"lifestack/model/ComponentNameEqualsPinLaw", "ch", "(I)C"⟩ : MethodName)) (argsL := [(.int (Jvm.Free.XT.ushr x0 (2 : Int32)))]) (rest := [(.int (0 : Int32)), (.ref a42)]) P42 d1_17 (hw _ (List.mem_of_getElem? (i := 29) rfl)) (hw _ (List.mem_of_getElem? (i := 30) rfl)) (hw _ (List.mem_of_getElem? (i := 5) rfl)) (hw _ (List.mem_of_getElem? (i := 31) rfl)) (by decide) (backOf (W := 2) (rmCh l Z a0 hw [] (Jvm.Free.XT.ushr x0 (2 : Int32)) h42 n0 (Nat.le_trans Z0 E0_1_43.1) ) P42.2.2.2.1 (hw _ (List.mem_of_getElem? (i := 31) rfl)) (hw _ (List.mem_of_getElem? (i := 5) rfl)) (by decide) (by decide)) rfl rfl (by rw [hml]; rfl) (lenOf (show parseMethodDescriptor "(I)C" = some ⟨[.int], some .char⟩ from by decide +kernel) rfl) (by show 2 * 0 + _ ≤ _; exact Nat.le_of_eq rfl) (by decide) (by decide) rfl ?_
    rintro v44 T44 h44 L44 ⟨rfl, N44q, e44⟩ P44
    rw [e44] at P44
    have N44 := Fr.app N0 N44q
    show Own.Goes _ _ _ _ (T44.setTop (mkF m 20 #[.val (.int x0), .val (.int (2 : Int32)), .val (.ref a42)] [(.int (chV (Jvm.Free.XT.ushr x0 (2 : Int32)))), (.int (0 : Int32)), (.ref a42)]))
    refine Own.castore (q := 21) (i := 0) (x2 := (chV (Jvm.Free.XT.ushr x0 (2 : Int32)))) P44 d1_20 V42 (by decide) (by decide) (Own.nar_id (ch_rng _)) (Own.fits_ch (ch_rng _)) (by decide) (Own.ltb rfl) rfl ?_
    intro T45 h45 lc45 hl45 P45 W45 A45
    have V45 : Arv Z h45 a42 k42 .char (2 : Int32) [(.int (chV (Jvm.Free.XT.ushr x0 (2 : Int32)))), (.int 0)] (.int 0) := A45
    have N45 := Own.Fr.one N44 hl45 (Nat.le_trans Z0 (Nat.le_of_eq ha42.symm))
    refine Own.iloadN (q := 22) P45 d1_21 rfl rfl ?_
    refine Own.iconst (q := 23) (v := (1 : Int32)) P45 d1_22 rfl rfl ?_
    refine Own.icmp_le (q := 26) (qy := 35) P45 d1_23 (by decide) rfl (fun q => absurd (by decide) q) (fun _ => ?_)
    refine Own.aloadN (q := 27) P45 d1_26 rfl rfl rfl ?_
    refine Own.iconst (q := 28) (v := (1 : Int32)) P45 d1_27 rfl rfl ?_
    refine Own.iloadN (q := 29) P45 d1_28 rfl rfl ?_
    refine Own.iconst (q := 30) (v := (4 : Int32)) P45 d1_29 rfl rfl ?_
    refine Own.iushr (q := 31) P45 d1_30  rfl ?_
    have E0_2_46 : Ext h0 h45 := (Own.Ext.wr E0_1_43 W45 (Nat.le_of_eq ha42.symm))
    refine Own.invStatic (q := 34) (W := 2) (y := (⟨"lifestack/model/ComponentNameEqualsPinLaw", "ch", "(I)C"⟩ : MethodName)) (argsL := [(.int (Jvm.Free.XT.ushr x0 (4 : Int32)))]) (rest := [(.int (1 : Int32)), (.ref a42)]) P45 d1_31 (hw _ (List.mem_of_getElem? (i := 29) rfl)) (hw _ (List.mem_of_getElem? (i := 30) rfl)) (hw _ (List.mem_of_getElem? (i := 5) rfl)) (hw _ (List.mem_of_getElem? (i := 31) rfl)) (by decide) (backOf (W := 2) (rmCh l Z a0 hw [] (Jvm.Free.XT.ushr x0 (4 : Int32)) h45 n0 (Nat.le_trans Z0 E0_2_46.1) ) P45.2.2.2.1 (hw _ (List.mem_of_getElem? (i := 31) rfl)) (hw _ (List.mem_of_getElem? (i := 5) rfl)) (by decide) (by decide)) rfl rfl (by rw [hml]; rfl) (lenOf (show parseMethodDescriptor "(I)C" = some ⟨[.int], some .char⟩ from by decide +kernel) rfl) (by show 2 * 0 + _ ≤ _; exact Nat.le_of_eq rfl) (by decide) (by decide) rfl ?_
    rintro v47 T47 h47 L47 ⟨rfl, N47q, e47⟩ P47
    rw [e47] at P47
    have N47 := Fr.app N45 N47q
    show Own.Goes _ _ _ _ (T47.setTop (mkF m 34 #[.val (.int x0), .val (.int (2 : Int32)), .val (.ref a42)] [(.int (chV (Jvm.Free.XT.ushr x0 (4 : Int32)))), (.int (1 : Int32)), (.ref a42)]))
    refine Own.castore (q := 35) (i := 1) (x2 := (chV (Jvm.Free.XT.ushr x0 (4 : Int32)))) P47 d1_34 V45 (by decide) (by decide) (Own.nar_id (ch_rng _)) (Own.fits_ch (ch_rng _)) (by decide) (Own.ltb rfl) rfl ?_
    intro T48 h48 lc48 hl48 P48 W48 A48
    have V48 : Arv Z h48 a42 k42 .char (2 : Int32) [(.int (chV (Jvm.Free.XT.ushr x0 (2 : Int32)))), (.int (chV (Jvm.Free.XT.ushr x0 (4 : Int32))))] (.int 0) := A48
    have N48 := Own.Fr.one N47 hl48 (Nat.le_trans Z0 (Nat.le_of_eq ha42.symm))
    refine Own.iloadN (q := 36) P48 d1_35 rfl rfl ?_
    refine Own.iconst (q := 37) (v := (2 : Int32)) P48 d1_36 rfl rfl ?_
    refine Own.icmp_le (q := 40) (qy := 50) P48 d1_37 (by decide) rfl (fun _ => ?_) (fun q => absurd q (by decide))
    refine Own.newobj (q := 53) P48 d1_50 (hw _ (List.mem_of_getElem? (i := 8) rfl)) (hw _ (List.mem_of_getElem? (i := 9) rfl)) (hw _ (List.mem_of_getElem? (i := 10) rfl)) (by decide) (by decide) rfl ?_
    intro T49 h49 a49 ha49 P49 E49 A49 D49
    have F49_value : Fld Z h49 a49 "java/lang/String" "value" "[B" .null := D49 (Or.inr (hw _ (List.mem_of_getElem? (i := 23) rfl))) (ty := (.array .byte)) (by decide)
    have F49_coder : Fld Z h49 a49 "java/lang/String" "coder" "B" (.int (0 : Int32)) := D49 (Or.inr (hw _ (List.mem_of_getElem? (i := 24) rfl))) (ty := .byte) (by decide)
    refine Own.dup (q := 54) P49 d1_53 rfl rfl ?_
    refine Own.aloadN (q := 55) P49 d1_54 rfl rfl rfl ?_
    have E0_3_50 : Ext h0 h48 := (Own.Ext.wr E0_2_46 W48 (Nat.le_of_eq ha42.symm))
    have E0_4_51 : Ext h0 h49 := (Own.Ext.tr E0_3_50 E49)
    have E3_4_52 : Ext h48 h49 := E49
    refine Own.invSpecial (q := 58) (W := 1) (y := (⟨"java/lang/String", "<init>", "([C)V"⟩ : MethodName)) (a := a49) (argsL := [(.ref a42)]) (rest := [(.ref a49)]) P49 d1_55 rfl (hw _ (List.mem_of_getElem? (i := 11) rfl)) (hw _ (List.mem_of_getElem? (i := 12) rfl)) (hw _ (List.mem_of_getElem? (i := 13) rfl)) (by decide) (Own.newB (W := 1) (n0 := n0) (cs := [(chV (Jvm.Free.XT.ushr x0 (2 : Int32))), (chV (Jvm.Free.XT.ushr x0 (4 : Int32)))]) (n := 2) P49.2.2.2.1 (fun d hd => hw d (sub_backV d hd)) (hw _ (List.mem_of_getElem? (i := 9) rfl)) (Nat.le_trans Z0 (Nat.le_trans E0_3_50.1 (Nat.le_of_eq ha49.symm))) (Nat.le_trans Z0 E0_4_51.1) A49 F49_value F49_coder (V48.ext E3_4_52) (SC.ext E0_4_51) hzc rfl rfl (by decide) (by decide) (Own.chS (ch_rng _) (Own.chS (ch_rng _) Own.ch0)) (by decide) (by decide)) rfl rfl (by rw [hml]; rfl) (lenOf (show parseMethodDescriptor "([C)V" = some ⟨[(.array .char)], none⟩ from by decide +kernel) rfl) (by show 2 * 0 + _ ≤ _; exact Nat.le_of_eq rfl) (by decide) (by decide) rfl ?_
    rintro v53 T53 h53 L53 ⟨rfl, N53q, K53, St53⟩ P53
    have N53 := Fr.app N48 N53q
    show Own.Goes _ _ _ _ (T53.setTop (mkF m 58 #[.val (.int x0), .val (.int (2 : Int32)), .val (.ref a42)] [(.ref a49)]))
    have E0_5_54 : Ext h0 h53 := (Own.Ext.kp E0_4_51 K53 (allS (Nat.le_trans E0_3_50.1 (Nat.le_of_eq ha49.symm)) all0))
    have Hd55 := (H0.ext E0_5_54)
    refine Own.retAH (Q := QrmStr Z x0 zc h0 n0) P53 hh (ew hw) Hd55 d1_58 hret rfl rfl rfl hlk (by decide) (by decide) ?_
    exact ⟨_, rfl, N53, E0_5_54, (Nat.le_trans E0_3_50.1 (Nat.le_of_eq ha49.symm)), by rw [st2 q4]; exact St53⟩
  · rw [q4]
    show Own.Goes _ _ _ _ (s₁.setTop (mkF m 4 #[.val (.int x0), .val (.int (3 : Int32)), .unset] []))
    refine Own.iloadN (q := 5) P0 d1_4 rfl rfl ?_
    refine Own.newarr (q := 7) (cap := 3) P0 d1_5 (hw _ (List.mem_of_getElem? (i := 7) rfl)) (by decide) (by decide) (by decide) (by decide) (by decide) rfl ?_
    intro T56 h56 a56 k56 ha56 P56 E56 A56
    have V56 : Arv Z h56 a56 k56 .char (3 : Int32) [(.int 0), (.int 0), (.int 0)] (.int 0) := Arv.pad A56 (pad_rep [] _ 3)
    refine Own.astoreN (q := 8) (L2 := #[.val (.int x0), .val (.int (3 : Int32)), .val (.ref a56)]) P56 d1_7 rfl rfl rfl ?_
    refine Own.iloadN (q := 9) P56 d1_8 rfl rfl ?_
    refine Own.if_le (q := 12) (qy := 21) P56 d1_9 (by decide) rfl (fun q => absurd (by decide) q) (fun _ => ?_)
    refine Own.aloadN (q := 13) P56 d1_12 rfl rfl rfl ?_
    refine Own.iconst (q := 14) (v := (0 : Int32)) P56 d1_13 rfl rfl ?_
    refine Own.iloadN (q := 15) P56 d1_14 rfl rfl ?_
    refine Own.iconst (q := 16) (v := (2 : Int32)) P56 d1_15 rfl rfl ?_
    refine Own.iushr (q := 17) P56 d1_16  rfl ?_
    have E0_1_57 : Ext h0 h56 := E56
    refine Own.invStatic (q := 20) (W := 2) (y := (⟨"lifestack/model/ComponentNameEqualsPinLaw", "ch", "(I)C"⟩ : MethodName)) (argsL := [(.int (Jvm.Free.XT.ushr x0 (2 : Int32)))]) (rest := [(.int (0 : Int32)), (.ref a56)]) P56 d1_17 (hw _ (List.mem_of_getElem? (i := 29) rfl)) (hw _ (List.mem_of_getElem? (i := 30) rfl)) (hw _ (List.mem_of_getElem? (i := 5) rfl)) (hw _ (List.mem_of_getElem? (i := 31) rfl)) (by decide) (backOf (W := 2) (rmCh l Z a0 hw [] (Jvm.Free.XT.ushr x0 (2 : Int32)) h56 n0 (Nat.le_trans Z0 E0_1_57.1) ) P56.2.2.2.1 (hw _ (List.mem_of_getElem? (i := 31) rfl)) (hw _ (List.mem_of_getElem? (i := 5) rfl)) (by decide) (by decide)) rfl rfl (by rw [hml]; rfl) (lenOf (show parseMethodDescriptor "(I)C" = some ⟨[.int], some .char⟩ from by decide +kernel) rfl) (by show 2 * 0 + _ ≤ _; exact Nat.le_of_eq rfl) (by decide) (by decide) rfl ?_
    rintro v58 T58 h58 L58 ⟨rfl, N58q, e58⟩ P58
    rw [e58] at P58
    have N58 := Fr.app N0 N58q
    show Own.Goes _ _ _ _ (T58.setTop (mkF m 20 #[.val (.int x0), .val (.int (3 : Int32)), .val (.ref a56)] [(.int (chV (Jvm.Free.XT.ushr x0 (2 : Int32)))), (.int (0 : Int32)), (.ref a56)]))
    refine Own.castore (q := 21) (i := 0) (x2 := (chV (Jvm.Free.XT.ushr x0 (2 : Int32)))) P58 d1_20 V56 (by decide) (by decide) (Own.nar_id (ch_rng _)) (Own.fits_ch (ch_rng _)) (by decide) (Own.ltb rfl) rfl ?_
    intro T59 h59 lc59 hl59 P59 W59 A59
    have V59 : Arv Z h59 a56 k56 .char (3 : Int32) [(.int (chV (Jvm.Free.XT.ushr x0 (2 : Int32)))), (.int 0), (.int 0)] (.int 0) := A59
    have N59 := Own.Fr.one N58 hl59 (Nat.le_trans Z0 (Nat.le_of_eq ha56.symm))
    refine Own.iloadN (q := 22) P59 d1_21 rfl rfl ?_
    refine Own.iconst (q := 23) (v := (1 : Int32)) P59 d1_22 rfl rfl ?_
    refine Own.icmp_le (q := 26) (qy := 35) P59 d1_23 (by decide) rfl (fun q => absurd (by decide) q) (fun _ => ?_)
    refine Own.aloadN (q := 27) P59 d1_26 rfl rfl rfl ?_
    refine Own.iconst (q := 28) (v := (1 : Int32)) P59 d1_27 rfl rfl ?_
    refine Own.iloadN (q := 29) P59 d1_28 rfl rfl ?_
    refine Own.iconst (q := 30) (v := (4 : Int32)) P59 d1_29 rfl rfl ?_
    refine Own.iushr (q := 31) P59 d1_30  rfl ?_
    have E0_2_60 : Ext h0 h59 := (Own.Ext.wr E0_1_57 W59 (Nat.le_of_eq ha56.symm))
    refine Own.invStatic (q := 34) (W := 2) (y := (⟨"lifestack/model/ComponentNameEqualsPinLaw", "ch", "(I)C"⟩ : MethodName)) (argsL := [(.int (Jvm.Free.XT.ushr x0 (4 : Int32)))]) (rest := [(.int (1 : Int32)), (.ref a56)]) P59 d1_31 (hw _ (List.mem_of_getElem? (i := 29) rfl)) (hw _ (List.mem_of_getElem? (i := 30) rfl)) (hw _ (List.mem_of_getElem? (i := 5) rfl)) (hw _ (List.mem_of_getElem? (i := 31) rfl)) (by decide) (backOf (W := 2) (rmCh l Z a0 hw [] (Jvm.Free.XT.ushr x0 (4 : Int32)) h59 n0 (Nat.le_trans Z0 E0_2_60.1) ) P59.2.2.2.1 (hw _ (List.mem_of_getElem? (i := 31) rfl)) (hw _ (List.mem_of_getElem? (i := 5) rfl)) (by decide) (by decide)) rfl rfl (by rw [hml]; rfl) (lenOf (show parseMethodDescriptor "(I)C" = some ⟨[.int], some .char⟩ from by decide +kernel) rfl) (by show 2 * 0 + _ ≤ _; exact Nat.le_of_eq rfl) (by decide) (by decide) rfl ?_
    rintro v61 T61 h61 L61 ⟨rfl, N61q, e61⟩ P61
    rw [e61] at P61
    have N61 := Fr.app N59 N61q
    show Own.Goes _ _ _ _ (T61.setTop (mkF m 34 #[.val (.int x0), .val (.int (3 : Int32)), .val (.ref a56)] [(.int (chV (Jvm.Free.XT.ushr x0 (4 : Int32)))), (.int (1 : Int32)), (.ref a56)]))
    refine Own.castore (q := 35) (i := 1) (x2 := (chV (Jvm.Free.XT.ushr x0 (4 : Int32)))) P61 d1_34 V59 (by decide) (by decide) (Own.nar_id (ch_rng _)) (Own.fits_ch (ch_rng _)) (by decide) (Own.ltb rfl) rfl ?_
    intro T62 h62 lc62 hl62 P62 W62 A62
    have V62 : Arv Z h62 a56 k56 .char (3 : Int32) [(.int (chV (Jvm.Free.XT.ushr x0 (2 : Int32)))), (.int (chV (Jvm.Free.XT.ushr x0 (4 : Int32)))), (.int 0)] (.int 0) := A62
    have N62 := Own.Fr.one N61 hl62 (Nat.le_trans Z0 (Nat.le_of_eq ha56.symm))
    refine Own.iloadN (q := 36) P62 d1_35 rfl rfl ?_
    refine Own.iconst (q := 37) (v := (2 : Int32)) P62 d1_36 rfl rfl ?_
    refine Own.icmp_le (q := 40) (qy := 50) P62 d1_37 (by decide) rfl (fun q => absurd (by decide) q) (fun _ => ?_)
    refine Own.aloadN (q := 41) P62 d1_40 rfl rfl rfl ?_
    refine Own.iconst (q := 42) (v := (2 : Int32)) P62 d1_41 rfl rfl ?_
    refine Own.iloadN (q := 43) P62 d1_42 rfl rfl ?_
    refine Own.bipush (q := 45) (v := (6 : Int32)) P62 d1_43 rfl rfl ?_
    refine Own.iushr (q := 46) P62 d1_45  rfl ?_
    have E0_3_63 : Ext h0 h62 := (Own.Ext.wr E0_2_60 W62 (Nat.le_of_eq ha56.symm))
    refine Own.invStatic (q := 49) (W := 2) (y := (⟨"lifestack/model/ComponentNameEqualsPinLaw", "ch", "(I)C"⟩ : MethodName)) (argsL := [(.int (Jvm.Free.XT.ushr x0 (6 : Int32)))]) (rest := [(.int (2 : Int32)), (.ref a56)]) P62 d1_46 (hw _ (List.mem_of_getElem? (i := 29) rfl)) (hw _ (List.mem_of_getElem? (i := 30) rfl)) (hw _ (List.mem_of_getElem? (i := 5) rfl)) (hw _ (List.mem_of_getElem? (i := 31) rfl)) (by decide) (backOf (W := 2) (rmCh l Z a0 hw [] (Jvm.Free.XT.ushr x0 (6 : Int32)) h62 n0 (Nat.le_trans Z0 E0_3_63.1) ) P62.2.2.2.1 (hw _ (List.mem_of_getElem? (i := 31) rfl)) (hw _ (List.mem_of_getElem? (i := 5) rfl)) (by decide) (by decide)) rfl rfl (by rw [hml]; rfl) (lenOf (show parseMethodDescriptor "(I)C" = some ⟨[.int], some .char⟩ from by decide +kernel) rfl) (by show 2 * 0 + _ ≤ _; exact Nat.le_of_eq rfl) (by decide) (by decide) rfl ?_
    rintro v64 T64 h64 L64 ⟨rfl, N64q, e64⟩ P64
    rw [e64] at P64
    have N64 := Fr.app N62 N64q
    show Own.Goes _ _ _ _ (T64.setTop (mkF m 49 #[.val (.int x0), .val (.int (3 : Int32)), .val (.ref a56)] [(.int (chV (Jvm.Free.XT.ushr x0 (6 : Int32)))), (.int (2 : Int32)), (.ref a56)]))
    refine Own.castore (q := 50) (i := 2) (x2 := (chV (Jvm.Free.XT.ushr x0 (6 : Int32)))) P64 d1_49 V62 (by decide) (by decide) (Own.nar_id (ch_rng _)) (Own.fits_ch (ch_rng _)) (by decide) (Own.ltb rfl) rfl ?_
    intro T65 h65 lc65 hl65 P65 W65 A65
    have V65 : Arv Z h65 a56 k56 .char (3 : Int32) [(.int (chV (Jvm.Free.XT.ushr x0 (2 : Int32)))), (.int (chV (Jvm.Free.XT.ushr x0 (4 : Int32)))), (.int (chV (Jvm.Free.XT.ushr x0 (6 : Int32))))] (.int 0) := A65
    have N65 := Own.Fr.one N64 hl65 (Nat.le_trans Z0 (Nat.le_of_eq ha56.symm))
    refine Own.newobj (q := 53) P65 d1_50 (hw _ (List.mem_of_getElem? (i := 8) rfl)) (hw _ (List.mem_of_getElem? (i := 9) rfl)) (hw _ (List.mem_of_getElem? (i := 10) rfl)) (by decide) (by decide) rfl ?_
    intro T66 h66 a66 ha66 P66 E66 A66 D66
    have F66_value : Fld Z h66 a66 "java/lang/String" "value" "[B" .null := D66 (Or.inr (hw _ (List.mem_of_getElem? (i := 23) rfl))) (ty := (.array .byte)) (by decide)
    have F66_coder : Fld Z h66 a66 "java/lang/String" "coder" "B" (.int (0 : Int32)) := D66 (Or.inr (hw _ (List.mem_of_getElem? (i := 24) rfl))) (ty := .byte) (by decide)
    refine Own.dup (q := 54) P66 d1_53 rfl rfl ?_
    refine Own.aloadN (q := 55) P66 d1_54 rfl rfl rfl ?_
    have E0_4_67 : Ext h0 h65 := (Own.Ext.wr E0_3_63 W65 (Nat.le_of_eq ha56.symm))
    have E0_5_68 : Ext h0 h66 := (Own.Ext.tr E0_4_67 E66)
    have E4_5_69 : Ext h65 h66 := E66
    refine Own.invSpecial (q := 58) (W := 1) (y := (⟨"java/lang/String", "<init>", "([C)V"⟩ : MethodName)) (a := a66) (argsL := [(.ref a56)]) (rest := [(.ref a66)]) P66 d1_55 rfl (hw _ (List.mem_of_getElem? (i := 11) rfl)) (hw _ (List.mem_of_getElem? (i := 12) rfl)) (hw _ (List.mem_of_getElem? (i := 13) rfl)) (by decide) (Own.newB (W := 1) (n0 := n0) (cs := [(chV (Jvm.Free.XT.ushr x0 (2 : Int32))), (chV (Jvm.Free.XT.ushr x0 (4 : Int32))), (chV (Jvm.Free.XT.ushr x0 (6 : Int32)))]) (n := 3) P66.2.2.2.1 (fun d hd => hw d (sub_backV d hd)) (hw _ (List.mem_of_getElem? (i := 9) rfl)) (Nat.le_trans Z0 (Nat.le_trans E0_4_67.1 (Nat.le_of_eq ha66.symm))) (Nat.le_trans Z0 E0_5_68.1) A66 F66_value F66_coder (V65.ext E4_5_69) (SC.ext E0_5_68) hzc rfl rfl (by decide) (by decide) (Own.chS (ch_rng _) (Own.chS (ch_rng _) (Own.chS (ch_rng _) Own.ch0))) (by decide) (by decide)) rfl rfl (by rw [hml]; rfl) (lenOf (show parseMethodDescriptor "([C)V" = some ⟨[(.array .char)], none⟩ from by decide +kernel) rfl) (by show 2 * 0 + _ ≤ _; exact Nat.le_of_eq rfl) (by decide) (by decide) rfl ?_
    rintro v70 T70 h70 L70 ⟨rfl, N70q, K70, St70⟩ P70
    have N70 := Fr.app N65 N70q
    show Own.Goes _ _ _ _ (T70.setTop (mkF m 58 #[.val (.int x0), .val (.int (3 : Int32)), .val (.ref a56)] [(.ref a66)]))
    have E0_6_71 : Ext h0 h70 := (Own.Ext.kp E0_5_68 K70 (allS (Nat.le_trans E0_4_67.1 (Nat.le_of_eq ha66.symm)) all0))
    have Hd72 := (H0.ext E0_6_71)
    refine Own.retAH (Q := QrmStr Z x0 zc h0 n0) P70 hh (ew hw) Hd72 d1_58 hret rfl rfl rfl hlk (by decide) (by decide) ?_
    exact ⟨_, rfl, N70, E0_6_71, (Nat.le_trans E0_4_67.1 (Nat.le_of_eq ha66.symm)), by rw [st3 q4]; exact St70⟩
theorem d35_0 : decode method_4_code 0 = .ok (.iload_n 0, 1) := by decide +kernel
theorem d35_1 : decode method_4_code 1 = .ok (.iconst 3, 1) := by decide +kernel
theorem d35_2 : decode method_4_code 2 = .ok (.iand, 1) := by decide +kernel
theorem d35_3 : decode method_4_code 3 = .ok (.istore_n 2, 1) := by decide +kernel
theorem d35_4 : decode method_4_code 4 = .ok (.iload_n 2, 1) := by decide +kernel
theorem d35_5 : decode method_4_code 5 = .ok (.iload_n 1, 1) := by decide +kernel
theorem d35_6 : decode method_4_code 6 = .ok (.iconst 3, 1) := by decide +kernel
theorem d35_7 : decode method_4_code 7 = .ok (.iand, 1) := by decide +kernel
theorem d35_8 : decode method_4_code 8 = .ok (.if_icmp .eq 5, 3) := by decide +kernel
theorem d35_11 : decode method_4_code 11 = .ok (.iconst 0, 1) := by decide +kernel
theorem d35_12 : decode method_4_code 12 = .ok (.ireturn, 1) := by decide +kernel
theorem d35_13 : decode method_4_code 13 = .ok (.iconst 1, 1) := by decide +kernel
theorem d35_14 : decode method_4_code 14 = .ok (.iconst 2, 1) := by decide +kernel
theorem d35_15 : decode method_4_code 15 = .ok (.iload_n 2, 1) := by decide +kernel
theorem d35_16 : decode method_4_code 16 = .ok (.imul, 1) := by decide +kernel
theorem d35_17 : decode method_4_code 17 = .ok (.ishl, 1) := by decide +kernel
theorem d35_18 : decode method_4_code 18 = .ok (.iconst 1, 1) := by decide +kernel
theorem d35_19 : decode method_4_code 19 = .ok (.isub, 1) := by decide +kernel
theorem d35_20 : decode method_4_code 20 = .ok (.istore_n 3, 1) := by decide +kernel
theorem d35_21 : decode method_4_code 21 = .ok (.iload_n 0, 1) := by decide +kernel
theorem d35_22 : decode method_4_code 22 = .ok (.iconst 2, 1) := by decide +kernel
theorem d35_23 : decode method_4_code 23 = .ok (.iushr, 1) := by decide +kernel
theorem d35_24 : decode method_4_code 24 = .ok (.iload_n 3, 1) := by decide +kernel
theorem d35_25 : decode method_4_code 25 = .ok (.iand, 1) := by decide +kernel
theorem d35_26 : decode method_4_code 26 = .ok (.iload_n 1, 1) := by decide +kernel
theorem d35_27 : decode method_4_code 27 = .ok (.iconst 2, 1) := by decide +kernel
theorem d35_28 : decode method_4_code 28 = .ok (.iushr, 1) := by decide +kernel
theorem d35_29 : decode method_4_code 29 = .ok (.iload_n 3, 1) := by decide +kernel
theorem d35_30 : decode method_4_code 30 = .ok (.iand, 1) := by decide +kernel
theorem d35_31 : decode method_4_code 31 = .ok (.if_icmp .ne 7, 3) := by decide +kernel
theorem d35_34 : decode method_4_code 34 = .ok (.iconst 1, 1) := by decide +kernel
theorem d35_35 : decode method_4_code 35 = .ok (.goto 4, 3) := by decide +kernel
theorem d35_38 : decode method_4_code 38 = .ok (.iconst 0, 1) := by decide +kernel
theorem d35_39 : decode method_4_code 39 = .ok (.ireturn, 1) := by decide +kernel
theorem pn_35 : plainFor (⟨"lifestack/model/ComponentNameEqualsPinLaw", "same", "(II)Z"⟩ : MethodName) = true := by first | exact plainFor_of_name (by first | (simp [plainName, overriddenIn]; done) | decide +kernel) | decide +kernel
def QrmSame (Z : State) (x0 : Int32) (y0 : Int32) (h0 : Heap) (n0 : Nat) (v : Option Value) (h : Heap) (L : List Loc) : Prop := v = some (.int (if stOf x0 = stOf y0 then 1 else 0)) ∧ Fr n0 L ∧ h = h0
set_option maxRecDepth 65536 in
set_option maxHeartbeats 40000000 in
theorem rmSame (l : Launch) (Z : State) (a0 : Array Value) (hw : ∀ d ∈ tables_1, d.before a0 Z = true) (ws : List Jvm.Cond) (x0 : Int32) (y0 : Int32) (h0 : Heap) (n0 : Nat) (Z0 : n0 ≤ h0.size)  :
    MetFree l (⟨"lifestack/model/ComponentNameEqualsPinLaw", "same", "(II)Z"⟩ : MethodName) (head1 (Jvm.Cond.code (⟨"lifestack/model/ComponentNameEqualsPinLaw", "same", "(II)Z"⟩ : MethodName) method_4_code 4 (some .boolean) :: ws) ({ frames := 0, cells := 0, slots := 0, locals := 0 } : Room)) (fun a U => a = #[(.int x0), (.int y0)] ∧ Z.Warmed39 U.vm ∧ U.heap = h0) (fun _ _ _ _ _ => True) (fun _ U o U' => ∃ v L, o = .returned v ∧ QrmSame Z x0 y0 h0 n0 v U'.heap L ∧ FrameEnd U o U' L ({ frames := 0, cells := 0, slots := 0, locals := 0 } : Room).cells ({ frames := 0, cells := 0, slots := 0, locals := 0 } : Room).slots) := by
  refine MetFree.of_bodySF pn_35 hisR ?_
  intro p e s m args below meth c s₁ Bd hml0 hP hK
  obtain ⟨rfl, hZ, hh⟩ := hP
  have hml : c.maxLocals = 4 := hml0
  have hlk : meth.locks = false := Bd.notSynchronized
  have hret := Bd.returns
  have hnm := (name_of_methodNamed Bd.named Bd.method).1
  have P0 : Own.Wk Z "lifestack/model/ComponentNameEqualsPinLaw" method_4_code h0 p l e ({ frames := 0, cells := 0, slots := 0, locals := 0 } : Room) s m #[(.int x0), (.int y0)] below meth c s₁ [] 0 0 := ⟨Stand.of_body Bd, Bd.exec, Bd.bytes, hZ, findClass_of_methodNamed Bd.named, by rw [← hh, Bd.state]; rfl⟩
  have N0 := Fr.nil n0
  show Own.Goes p.tables e below (fun s₂ o => ∃ v L, o = .returned v ∧ QrmSame Z x0 y0 h0 n0 v s₂.heap L ∧ FrameEnd s o s₂ L ({ frames := 0, cells := 0, slots := 0, locals := 0 } : Room).cells ({ frames := 0, cells := 0, slots := 0, locals := 0 } : Room).slots) (s₁.setTop (entryFrame m #[(.int x0), (.int y0)] 4))
  rw [show entryFrame m #[(.int x0), (.int y0)] 4 = mkF m 0 #[.val (.int x0), .val (.int y0), .unset, .unset] [] from by first | rfl | (rcases Own.refc hfm with rfl | ⟨_, rfl⟩ <;> rfl) | (simp [entryFrame, mkF, argsToLocals, Value.category]; done)]
  refine Own.iloadN (q := 1) P0 d35_0 rfl rfl ?_
  refine Own.iconst (q := 2) (v := (3 : Int32)) P0 d35_1 rfl rfl ?_
  refine Own.iand (q := 3) P0 d35_2  rfl ?_
  refine Own.istoreN (q := 4) (L2 := #[.val (.int x0), .val (.int y0), .val (.int (x0 &&& (3 : Int32))), .unset]) P0 d35_3 rfl rfl ?_
  refine Own.iloadN (q := 5) P0 d35_4 rfl rfl ?_
  refine Own.iloadN (q := 6) P0 d35_5 rfl rfl ?_
  refine Own.iconst (q := 7) (v := (3 : Int32)) P0 d35_6 rfl rfl ?_
  refine Own.iand (q := 8) P0 d35_7  rfl ?_
  refine Own.icmp_eq (q := 11) (qy := 13) P0 d35_8 (by decide) rfl (fun q8 => ?_) (fun q8 => ?_)
  · refine Own.iconst (q := 14) (v := (1 : Int32)) P0 d35_13 rfl rfl ?_
    refine Own.iconst (q := 15) (v := (2 : Int32)) P0 d35_14 rfl rfl ?_
    refine Own.iloadN (q := 16) P0 d35_15 rfl rfl ?_
    refine Own.imul (q := 17) P0 d35_16  rfl ?_
    refine Own.ishl (q := 18) P0 d35_17  rfl ?_
    refine Own.iconst (q := 19) (v := (1 : Int32)) P0 d35_18 rfl rfl ?_
    refine Own.isub (q := 20) P0 d35_19  rfl ?_
    refine Own.istoreN (q := 21) (L2 := #[.val (.int x0), .val (.int y0), .val (.int (x0 &&& (3 : Int32))), .val (.int (((1 : Int32) <<< (((2 : Int32) * (x0 &&& (3 : Int32))) &&& 31)) - (1 : Int32)))]) P0 d35_20 rfl rfl ?_
    refine Own.iloadN (q := 22) P0 d35_21 rfl rfl ?_
    refine Own.iconst (q := 23) (v := (2 : Int32)) P0 d35_22 rfl rfl ?_
    refine Own.iushr (q := 24) P0 d35_23  rfl ?_
    refine Own.iloadN (q := 25) P0 d35_24 rfl rfl ?_
    refine Own.iand (q := 26) P0 d35_25  rfl ?_
    refine Own.iloadN (q := 27) P0 d35_26 rfl rfl ?_
    refine Own.iconst (q := 28) (v := (2 : Int32)) P0 d35_27 rfl rfl ?_
    refine Own.iushr (q := 29) P0 d35_28  rfl ?_
    refine Own.iloadN (q := 30) P0 d35_29 rfl rfl ?_
    refine Own.iand (q := 31) P0 d35_30  rfl ?_
    refine Own.icmp_ne (q := 34) (qy := 38) P0 d35_31 (by decide) rfl (fun q31 => ?_) (fun q31 => ?_)
    · refine Own.iconst (q := 39) (v := (0 : Int32)) P0 d35_38 rfl rfl ?_
      refine Own.retZ (Q := QrmSame Z x0 y0 h0 n0) P0 d35_39 hret (by simp) hlk (by decide) (by decide) ?_
      exact ⟨by rw [if_neg (fun z => by have z := (st_iff _ _).mp z; exact q31 z.2)]; rfl, N0, rfl⟩
    · refine Own.iconst (q := 35) (v := (1 : Int32)) P0 d35_34 rfl rfl ?_
      refine Own.goto (q := 39) P0 d35_35 (by decide) ?_
      refine Own.retZ (Q := QrmSame Z x0 y0 h0 n0) P0 d35_39 hret (by simp) hlk (by decide) (by decide) ?_
      exact ⟨by rw [if_pos ((st_iff _ _).mpr ⟨q8, q31⟩)]; rfl, N0, rfl⟩
  · refine Own.iconst (q := 12) (v := (0 : Int32)) P0 d35_11 rfl rfl ?_
    refine Own.retZ (Q := QrmSame Z x0 y0 h0 n0) P0 d35_12 hret (by simp) hlk (by decide) (by decide) ?_
    exact ⟨by rw [if_neg (fun z => by have z := (st_iff _ _).mp z; exact q8 z.1)]; rfl, N0, rfl⟩
theorem d14_0 : decode jdk_42_method_152_code 0 = .ok (.getstatic 38, 3) := by decide +kernel
theorem d14_3 : decode jdk_42_method_152_code 3 = .ok (.ifCond .eq 10, 3) := by decide +kernel
theorem d14_6 : decode jdk_42_method_152_code 6 = .ok (.aload_n 0, 1) := by decide +kernel
theorem d14_7 : decode jdk_42_method_152_code 7 = .ok (.getfield 15, 3) := by decide +kernel
theorem d14_10 : decode jdk_42_method_152_code 10 = .ok (.goto 4, 3) := by decide +kernel
theorem d14_13 : decode jdk_42_method_152_code 13 = .ok (.iconst 1, 1) := by decide +kernel
theorem d14_14 : decode jdk_42_method_152_code 14 = .ok (.ireturn, 1) := by decide +kernel
theorem pn_14 : plainFor (⟨"java/lang/String", "coder", "()B"⟩ : MethodName) = true := by first | exact plainFor_of_name (by first | (simp [plainName, overriddenIn]; done) | decide +kernel) | decide +kernel
def QrmCod (Z : State) (a1 : Addr) (zc : Int32) (h0 : Heap) (n0 : Nat) (v : Option Value) (h : Heap) (L : List Loc) : Prop := v = some (.int 0) ∧ Fr n0 L ∧ h = h0
set_option maxRecDepth 65536 in
set_option maxHeartbeats 40000000 in
theorem rmCod (l : Launch) (Z : State) (a0 : Array Value) (hw : ∀ d ∈ tables_1, d.before a0 Z = true) (ws : List Jvm.Cond) (a1 : Addr) (zc : Int32) (h0 : Heap) (n0 : Nat) (Z0 : n0 ≤ h0.size) (SC : Sta Z h0 "java/lang/String" "COMPACT_STRINGS" "Z" (.int zc)) (hzc : ¬ zc = 0) (f1 : Fld Z h0 a1 "java/lang/String" "coder" "B" (.int 0)) :
    MetFree l (⟨"java/lang/String", "coder", "()B"⟩ : MethodName) (head1 (Jvm.Cond.code (⟨"java/lang/String", "coder", "()B"⟩ : MethodName) jdk_42_method_152_code 1 (some .byte) :: ws) ({ frames := 0, cells := 0, slots := 0, locals := 0 } : Room)) (fun a U => a = #[(.ref a1)] ∧ Z.Warmed39 U.vm ∧ U.heap = h0) (fun _ _ _ _ _ => True) (fun _ U o U' => ∃ v L, o = .returned v ∧ QrmCod Z a1 zc h0 n0 v U'.heap L ∧ FrameEnd U o U' L ({ frames := 0, cells := 0, slots := 0, locals := 0 } : Room).cells ({ frames := 0, cells := 0, slots := 0, locals := 0 } : Room).slots) := by
  refine MetFree.of_bodySF pn_14 hisR ?_
  intro p e s m args below meth c s₁ Bd hml0 hP hK
  obtain ⟨rfl, hZ, hh⟩ := hP
  have hml : c.maxLocals = 1 := hml0
  have hlk : meth.locks = false := Bd.notSynchronized
  have hret := Bd.returns
  have hnm := (name_of_methodNamed Bd.named Bd.method).1
  have P0 : Own.Wk Z "java/lang/String" jdk_42_method_152_code h0 p l e ({ frames := 0, cells := 0, slots := 0, locals := 0 } : Room) s m #[(.ref a1)] below meth c s₁ [] 0 0 := ⟨Stand.of_body Bd, Bd.exec, Bd.bytes, hZ, findClass_of_methodNamed Bd.named, by rw [← hh, Bd.state]; rfl⟩
  have N0 := Fr.nil n0
  show Own.Goes p.tables e below (fun s₂ o => ∃ v L, o = .returned v ∧ QrmCod Z a1 zc h0 n0 v s₂.heap L ∧ FrameEnd s o s₂ L ({ frames := 0, cells := 0, slots := 0, locals := 0 } : Room).cells ({ frames := 0, cells := 0, slots := 0, locals := 0 } : Room).slots) (s₁.setTop (entryFrame m #[(.ref a1)] 1))
  rw [show entryFrame m #[(.ref a1)] 1 = mkF m 0 #[.val (.ref a1)] [] from by first | rfl | (rcases Own.refc hfm with rfl | ⟨_, rfl⟩ <;> rfl) | (simp [entryFrame, mkF, argsToLocals, Value.category]; done)]
  refine Own.getstatic (q := 3) P0 d14_0 (hw _ (List.mem_of_getElem? (i := 32) rfl)) SC rfl ?_
  intro T21 P21
  refine Own.if_eq (q := 6) (qy := 13) P21 d14_3 (by decide) rfl (fun q => absurd q hzc) (fun _ => ?_)
  refine Own.aloadN (q := 7) P21 d14_6 rfl rfl rfl ?_
  refine Own.getfield (q := 10) P21 d14_7 (hw _ (List.mem_of_getElem? (i := 28) rfl)) f1 rfl ?_
  intro T22 P22
  refine Own.goto (q := 14) P22 d14_10 (by decide) ?_
  refine Own.retZ (Q := QrmCod Z a1 zc h0 n0) P22 d14_14 hret (by simp) hlk (by decide) (by decide) ?_
  exact ⟨rfl, N0, rfl⟩
theorem d17_0 : decode jdk_68_method_2_code 0 = .ok (.aload_n 0, 1) := by decide +kernel
theorem d17_1 : decode jdk_68_method_2_code 1 = .ok (.invokespecial 3, 3) := by decide +kernel
theorem d17_4 : decode jdk_68_method_2_code 4 = .ok (.getstatic 18, 3) := by decide +kernel
theorem d17_7 : decode jdk_68_method_2_code 7 = .ok (.ifCond .eq 18, 3) := by decide +kernel
theorem d17_10 : decode jdk_68_method_2_code 10 = .ok (.aload_n 0, 1) := by decide +kernel
theorem d17_11 : decode jdk_68_method_2_code 11 = .ok (.iload_n 1, 1) := by decide +kernel
theorem d17_12 : decode jdk_68_method_2_code 12 = .ok (.newarray .byte, 2) := by decide +kernel
theorem d17_14 : decode jdk_68_method_2_code 14 = .ok (.putfield 15, 3) := by decide +kernel
theorem d17_17 : decode jdk_68_method_2_code 17 = .ok (.aload_n 0, 1) := by decide +kernel
theorem d17_18 : decode jdk_68_method_2_code 18 = .ok (.iconst 0, 1) := by decide +kernel
theorem d17_19 : decode jdk_68_method_2_code 19 = .ok (.putfield 22, 3) := by decide +kernel
theorem d17_22 : decode jdk_68_method_2_code 22 = .ok (.goto 16, 3) := by decide +kernel
theorem d17_25 : decode jdk_68_method_2_code 25 = .ok (.aload_n 0, 1) := by decide +kernel
theorem d17_26 : decode jdk_68_method_2_code 26 = .ok (.iload_n 1, 1) := by decide +kernel
theorem d17_27 : decode jdk_68_method_2_code 27 = .ok (.invokestatic 26, 3) := by decide +kernel
theorem d17_30 : decode jdk_68_method_2_code 30 = .ok (.putfield 15, 3) := by decide +kernel
theorem d17_33 : decode jdk_68_method_2_code 33 = .ok (.aload_n 0, 1) := by decide +kernel
theorem d17_34 : decode jdk_68_method_2_code 34 = .ok (.iconst 1, 1) := by decide +kernel
theorem d17_35 : decode jdk_68_method_2_code 35 = .ok (.putfield 22, 3) := by decide +kernel
theorem d17_38 : decode jdk_68_method_2_code 38 = .ok (.return_, 1) := by decide +kernel
theorem pn_17 : plainFor (⟨"java/lang/AbstractStringBuilder", "<init>", "(I)V"⟩ : MethodName) = true := by first | exact plainFor_of_name (by first | (simp [plainName, overriddenIn]; done) | decide +kernel) | decide +kernel
def QrmAI (Z : State) (a1 : Addr) (u1 : Value) (u2 : Value) (zc : Int32) (h0 : Heap) (n0 : Nat) (v : Option Value) (h : Heap) (L : List Loc) : Prop := v = none ∧ Fr n0 L ∧ Keep h0 h [a1] ∧ ∃ t kb, h0.size ≤ t ∧ Exa Z h a1 "java/lang/StringBuilder" ∧ Fld Z h a1 "java/lang/AbstractStringBuilder" "value" "[B" (.ref t) ∧ Fld Z h a1 "java/lang/AbstractStringBuilder" "coder" "B" (.int 0) ∧ Fld Z h a1 "java/lang/AbstractStringBuilder" "count" "I" (.int 0) ∧ Arv Z h t kb .byte 16 (List.replicate 16 (.int 0)) (.int 0)
set_option maxRecDepth 65536 in
set_option maxHeartbeats 40000000 in
theorem rmAI (l : Launch) (Z : State) (a0 : Array Value) (hw : ∀ d ∈ tables_1, d.before a0 Z = true) (ws : List Jvm.Cond) (a1 : Addr) (u1 : Value) (u2 : Value) (zc : Int32) (h0 : Heap) (n0 : Nat) (Z0 : n0 ≤ h0.size) (SC : Sta Z h0 "java/lang/String" "COMPACT_STRINGS" "Z" (.int zc)) (hzc : ¬ zc = 0) (E_a1 : Exa Z h0 a1 "java/lang/StringBuilder") (f1 : Fld Z h0 a1 "java/lang/AbstractStringBuilder" "value" "[B" u1) (f2 : Fld Z h0 a1 "java/lang/AbstractStringBuilder" "coder" "B" u2) (f3 : Fld Z h0 a1 "java/lang/AbstractStringBuilder" "count" "I" (.int 0)) (g_a1 : n0 ≤ a1) :
    MetFree l (⟨"java/lang/AbstractStringBuilder", "<init>", "(I)V"⟩ : MethodName) (head1 (Jvm.Cond.code (⟨"java/lang/AbstractStringBuilder", "<init>", "(I)V"⟩ : MethodName) jdk_68_method_2_code 2 none :: ws) ({ frames := 1, cells := 1, slots := 16, locals := 12 } : Room)) (fun a U => a = #[(.ref a1), (.int (16 : Int32))] ∧ Z.Warmed39 U.vm ∧ U.heap = h0) (fun _ _ _ _ _ => True) (fun _ U o U' => ∃ v L, o = .returned v ∧ QrmAI Z a1 u1 u2 zc h0 n0 v U'.heap L ∧ FrameEnd U o U' L ({ frames := 1, cells := 1, slots := 16, locals := 12 } : Room).cells ({ frames := 1, cells := 1, slots := 16, locals := 12 } : Room).slots) := by
  refine MetFree.of_bodySF pn_17 hisR ?_
  intro p e s m args below meth c s₁ Bd hml0 hP hK
  obtain ⟨rfl, hZ, hh⟩ := hP
  have hml : c.maxLocals = 2 := hml0
  have hlk : meth.locks = false := Bd.notSynchronized
  have hret := Bd.returns
  have hnm := (name_of_methodNamed Bd.named Bd.method).1
  have P0 : Own.Wk Z "java/lang/AbstractStringBuilder" jdk_68_method_2_code h0 p l e ({ frames := 1, cells := 1, slots := 16, locals := 12 } : Room) s m #[(.ref a1), (.int (16 : Int32))] below meth c s₁ [] 0 0 := ⟨Stand.of_body Bd, Bd.exec, Bd.bytes, hZ, findClass_of_methodNamed Bd.named, by rw [← hh, Bd.state]; rfl⟩
  have N0 := Fr.nil n0
  show Own.Goes p.tables e below (fun s₂ o => ∃ v L, o = .returned v ∧ QrmAI Z a1 u1 u2 zc h0 n0 v s₂.heap L ∧ FrameEnd s o s₂ L ({ frames := 1, cells := 1, slots := 16, locals := 12 } : Room).cells ({ frames := 1, cells := 1, slots := 16, locals := 12 } : Room).slots) (s₁.setTop (entryFrame m #[(.ref a1), (.int (16 : Int32))] 2))
  rw [show entryFrame m #[(.ref a1), (.int (16 : Int32))] 2 = mkF m 0 #[.val (.ref a1), .val (.int (16 : Int32))] [] from by first | rfl | (rcases Own.refc hfm with rfl | ⟨_, rfl⟩ <;> rfl) | (simp [entryFrame, mkF, argsToLocals, Value.category]; done)]
  refine Own.aloadN (q := 1) P0 d17_0 rfl rfl rfl ?_
  refine Own.objinit (q := 4) (W := 0) P0 d17_1 (hw _ (List.mem_of_getElem? (i := 95) rfl)) (hw _ (List.mem_of_getElem? (i := 19) rfl)) (hw _ (List.mem_of_getElem? (i := 20) rfl)) (by rw [hml]; rfl) (by decide) (by show 2 * 0 + _ ≤ _; exact Nat.le_of_eq rfl) (by decide) rfl ?_
  intro T21 P21
  refine Own.getstatic (q := 7) P21 d17_4 (hw _ (List.mem_of_getElem? (i := 96) rfl)) SC rfl ?_
  intro T22 P22
  refine Own.if_eq (q := 10) (qy := 25) P22 d17_7 (by decide) rfl (fun q => absurd q hzc) (fun _ => ?_)
  refine Own.aloadN (q := 11) P22 d17_10 rfl rfl rfl ?_
  refine Own.iloadN (q := 12) P22 d17_11 rfl rfl ?_
  refine Own.newarr (q := 14) (cap := 16) P22 d17_12 (hw _ (List.mem_of_getElem? (i := 22) rfl)) (by decide) (by decide) (by decide) (by decide) (by decide) rfl ?_
  intro T23 h23 a23 k23 ha23 P23 E23 A23
  have V23 : Arv Z h23 a23 k23 .byte (16 : Int32) [(.int 0), (.int 0), (.int 0), (.int 0), (.int 0), (.int 0), (.int 0), (.int 0), (.int 0), (.int 0), (.int 0), (.int 0), (.int 0), (.int 0), (.int 0), (.int 0)] (.int 0) := Arv.pad A23 (pad_rep [] _ 16)
  have E0_1_24 : Ext h0 h23 := E23
  refine Own.putfield (q := 17) P23 d17_14 (hw _ (List.mem_of_getElem? (i := 97) rfl)) (f1.ext E0_1_24) (E_a1.ext E0_1_24) (Or.inl (hw _ (List.mem_of_getElem? (i := 98) rfl))) (hw _ (List.mem_of_getElem? (i := 84) rfl)) (ty := (.array .byte)) (by decide) rfl rfl rfl ?_
  intro T25 h25 lc25 hl25 P25 W25
  have F25_value := Fld.same W25 (f1.ext E0_1_24)
  have F25_coder := (f2.ext E0_1_24).other W25 (Or.inr (slot_ne (Or.inl (hw _ (List.mem_of_getElem? (i := 100) rfl))) (Or.inl (hw _ (List.mem_of_getElem? (i := 98) rfl))) (by decide) (t := .byte) (t' := (.array .byte)) (by decide) (by decide)))
  have F25_count := (f3.ext E0_1_24).other W25 (Or.inr (slot_ne (Or.inl (hw _ (List.mem_of_getElem? (i := 113) rfl))) (Or.inl (hw _ (List.mem_of_getElem? (i := 98) rfl))) (by decide) (t := .int) (t' := (.array .byte)) (by decide) (by decide)))
  have A25 := (E_a1.ext E0_1_24).wr W25
  have N25 := Own.Fr.one N0 hl25 g_a1
  refine Own.aloadN (q := 18) P25 d17_17 rfl rfl rfl ?_
  refine Own.iconst (q := 19) (v := (0 : Int32)) P25 d17_18 rfl rfl ?_
  refine Own.putfield (q := 22) P25 d17_19 (hw _ (List.mem_of_getElem? (i := 99) rfl)) F25_coder A25 (Or.inl (hw _ (List.mem_of_getElem? (i := 100) rfl))) (hw _ (List.mem_of_getElem? (i := 84) rfl)) (ty := .byte) (by decide) rfl rfl rfl ?_
  intro T26 h26 lc26 hl26 P26 W26
  have F26_value := F25_value.other W26 (Or.inr (slot_ne (Or.inl (hw _ (List.mem_of_getElem? (i := 98) rfl))) (Or.inl (hw _ (List.mem_of_getElem? (i := 100) rfl))) (by decide) (t := (.array .byte)) (t' := .byte) (by decide) (by decide)))
  have F26_coder := Fld.same W26 F25_coder
  have F26_count := F25_count.other W26 (Or.inr (slot_ne (Or.inl (hw _ (List.mem_of_getElem? (i := 113) rfl))) (Or.inl (hw _ (List.mem_of_getElem? (i := 100) rfl))) (by decide) (t := .int) (t' := .byte) (by decide) (by decide)))
  have A26 := A25.wr W26
  have N26 := Own.Fr.one N25 hl26 g_a1
  refine Own.goto (q := 38) P26 d17_22 (by decide) ?_
  have qf27 := (Arv.keep V23 (Keep.of_wr W25) (ninS (Ne.symm (Exa.neArv (E_a1.ext E23) V23 (hw _ (List.mem_of_getElem? (i := 84) rfl)))) nin0))
  have qf28 := (Arv.keep qf27 (Keep.of_wr W26) (ninS (Ne.symm (Exa.neArv A25 qf27 (hw _ (List.mem_of_getElem? (i := 84) rfl)))) nin0))
  refine Own.retV (Q := QrmAI Z a1 u1 u2 zc h0 n0) P26 d17_38 hret hlk (by decide) (by decide) ?_
  exact ⟨rfl, N26, (Keep.wr (Keep.wr (Keep.ext (Keep.refl h0 _) E23) W25 (Or.inl (by simp))) W26 (Or.inl (by simp))), a23, _, (Nat.le_of_eq ha23.symm), A26, F26_value, F26_coder, F26_count, qf28⟩
theorem d16_0 : decode jdk_67_method_1_code 0 = .ok (.aload_n 0, 1) := by decide +kernel
theorem d16_1 : decode jdk_67_method_1_code 1 = .ok (.bipush 16, 2) := by decide +kernel
theorem d16_3 : decode jdk_67_method_1_code 3 = .ok (.invokespecial 1, 3) := by decide +kernel
theorem d16_6 : decode jdk_67_method_1_code 6 = .ok (.return_, 1) := by decide +kernel
theorem pn_16 : plainFor (⟨"java/lang/StringBuilder", "<init>", "()V"⟩ : MethodName) = true := by first | exact plainFor_of_name (by first | (simp [plainName, overriddenIn]; done) | decide +kernel) | decide +kernel
def QrmSI (Z : State) (a1 : Addr) (u1 : Value) (u2 : Value) (zc : Int32) (h0 : Heap) (n0 : Nat) (v : Option Value) (h : Heap) (L : List Loc) : Prop := v = none ∧ Fr n0 L ∧ Keep h0 h [a1] ∧ ∃ t kb, h0.size ≤ t ∧ Exa Z h a1 "java/lang/StringBuilder" ∧ Fld Z h a1 "java/lang/AbstractStringBuilder" "value" "[B" (.ref t) ∧ Fld Z h a1 "java/lang/AbstractStringBuilder" "coder" "B" (.int 0) ∧ Fld Z h a1 "java/lang/AbstractStringBuilder" "count" "I" (.int 0) ∧ Arv Z h t kb .byte 16 (List.replicate 16 (.int 0)) (.int 0)
set_option maxRecDepth 65536 in
set_option maxHeartbeats 40000000 in
theorem rmSI (l : Launch) (Z : State) (a0 : Array Value) (hw : ∀ d ∈ tables_1, d.before a0 Z = true) (ws : List Jvm.Cond) (a1 : Addr) (u1 : Value) (u2 : Value) (zc : Int32) (h0 : Heap) (n0 : Nat) (Z0 : n0 ≤ h0.size) (SC : Sta Z h0 "java/lang/String" "COMPACT_STRINGS" "Z" (.int zc)) (hzc : ¬ zc = 0) (E_a1 : Exa Z h0 a1 "java/lang/StringBuilder") (f1 : Fld Z h0 a1 "java/lang/AbstractStringBuilder" "value" "[B" u1) (f2 : Fld Z h0 a1 "java/lang/AbstractStringBuilder" "coder" "B" u2) (f3 : Fld Z h0 a1 "java/lang/AbstractStringBuilder" "count" "I" (.int 0)) (g_a1 : n0 ≤ a1) :
    MetFree l (⟨"java/lang/StringBuilder", "<init>", "()V"⟩ : MethodName) (head1 (Jvm.Cond.code (⟨"java/lang/StringBuilder", "<init>", "()V"⟩ : MethodName) jdk_67_method_1_code 1 none :: ws) ({ frames := 2, cells := 1, slots := 16, locals := 25 } : Room)) (fun a U => a = #[(.ref a1)] ∧ Z.Warmed39 U.vm ∧ U.heap = h0) (fun _ _ _ _ _ => True) (fun _ U o U' => ∃ v L, o = .returned v ∧ QrmSI Z a1 u1 u2 zc h0 n0 v U'.heap L ∧ FrameEnd U o U' L ({ frames := 2, cells := 1, slots := 16, locals := 25 } : Room).cells ({ frames := 2, cells := 1, slots := 16, locals := 25 } : Room).slots) := by
  refine MetFree.of_bodySF pn_16 hisR ?_
  intro p e s m args below meth c s₁ Bd hml0 hP hK
  obtain ⟨rfl, hZ, hh⟩ := hP
  have hml : c.maxLocals = 1 := hml0
  have hlk : meth.locks = false := Bd.notSynchronized
  have hret := Bd.returns
  have hnm := (name_of_methodNamed Bd.named Bd.method).1
  have P0 : Own.Wk Z "java/lang/StringBuilder" jdk_67_method_1_code h0 p l e ({ frames := 2, cells := 1, slots := 16, locals := 25 } : Room) s m #[(.ref a1)] below meth c s₁ [] 0 0 := ⟨Stand.of_body Bd, Bd.exec, Bd.bytes, hZ, findClass_of_methodNamed Bd.named, by rw [← hh, Bd.state]; rfl⟩
  have N0 := Fr.nil n0
  show Own.Goes p.tables e below (fun s₂ o => ∃ v L, o = .returned v ∧ QrmSI Z a1 u1 u2 zc h0 n0 v s₂.heap L ∧ FrameEnd s o s₂ L ({ frames := 2, cells := 1, slots := 16, locals := 25 } : Room).cells ({ frames := 2, cells := 1, slots := 16, locals := 25 } : Room).slots) (s₁.setTop (entryFrame m #[(.ref a1)] 1))
  rw [show entryFrame m #[(.ref a1)] 1 = mkF m 0 #[.val (.ref a1)] [] from by first | rfl | (rcases Own.refc hfm with rfl | ⟨_, rfl⟩ <;> rfl) | (simp [entryFrame, mkF, argsToLocals, Value.category]; done)]
  refine Own.aloadN (q := 1) P0 d16_0 rfl rfl rfl ?_
  refine Own.bipush (q := 3) (v := (16 : Int32)) P0 d16_1 rfl rfl ?_
  refine Own.invSpecial (q := 6) (W := 0) (y := (⟨"java/lang/AbstractStringBuilder", "<init>", "(I)V"⟩ : MethodName)) (a := a1) (argsL := [(.int (16 : Int32))]) (rest := []) P0 d16_3 rfl (hw _ (List.mem_of_getElem? (i := 89) rfl)) (hw _ (List.mem_of_getElem? (i := 90) rfl)) (hw _ (List.mem_of_getElem? (i := 94) rfl)) (by decide) (backOf (W := 0) (rmAI l Z a0 hw [] a1 u1 u2 zc h0 n0 Z0 SC hzc E_a1 f1 f2 f3 g_a1) P0.2.2.2.1 (hw _ (List.mem_of_getElem? (i := 94) rfl)) (hw _ (List.mem_of_getElem? (i := 93) rfl)) (by decide) (by decide)) rfl rfl (by rw [hml]; rfl) (lenOf (show parseMethodDescriptor "(I)V" = some ⟨[.int], none⟩ from by decide +kernel) rfl) (by show 2 * 0 + _ ≤ _; exact Nat.le_of_eq rfl) (by decide) (by decide) rfl ?_
  rintro v21 T21 h21 L21 ⟨rfl, N21q, K21, t21, kb21, G21, X21⟩ P21
  have N21 := Fr.app N0 N21q
  show Own.Goes _ _ _ _ (T21.setTop (mkF m 6 #[.val (.ref a1)] []))
  refine Own.retV (Q := QrmSI Z a1 u1 u2 zc h0 n0) P21 d16_6 hret hlk (by decide) (by decide) ?_
  exact ⟨rfl, N21, K21, t21, kb21, G21, X21⟩
theorem d20_0 : decode jdk_68_method_9_code 0 = .ok (.aload_n 0, 1) := by decide +kernel
theorem d20_1 : decode jdk_68_method_9_code 1 = .ok (.getfield 15, 3) := by decide +kernel
theorem d20_4 : decode jdk_68_method_9_code 4 = .ok (.arraylength, 1) := by decide +kernel
theorem d20_5 : decode jdk_68_method_9_code 5 = .ok (.aload_n 0, 1) := by decide +kernel
theorem d20_6 : decode jdk_68_method_9_code 6 = .ok (.getfield 22, 3) := by decide +kernel
theorem d20_9 : decode jdk_68_method_9_code 9 = .ok (.ishr, 1) := by decide +kernel
theorem d20_10 : decode jdk_68_method_9_code 10 = .ok (.istore_n 2, 1) := by decide +kernel
theorem d20_11 : decode jdk_68_method_9_code 11 = .ok (.iload_n 1, 1) := by decide +kernel
theorem d20_12 : decode jdk_68_method_9_code 12 = .ok (.iload_n 2, 1) := by decide +kernel
theorem d20_13 : decode jdk_68_method_9_code 13 = .ok (.isub, 1) := by decide +kernel
theorem d20_14 : decode jdk_68_method_9_code 14 = .ok (.ifCond .le 24, 3) := by decide +kernel
theorem d20_17 : decode jdk_68_method_9_code 17 = .ok (.aload_n 0, 1) := by decide +kernel
theorem d20_18 : decode jdk_68_method_9_code 18 = .ok (.aload_n 0, 1) := by decide +kernel
theorem d20_19 : decode jdk_68_method_9_code 19 = .ok (.getfield 15, 3) := by decide +kernel
theorem d20_22 : decode jdk_68_method_9_code 22 = .ok (.aload_n 0, 1) := by decide +kernel
theorem d20_23 : decode jdk_68_method_9_code 23 = .ok (.iload_n 1, 1) := by decide +kernel
theorem d20_24 : decode jdk_68_method_9_code 24 = .ok (.invokevirtual 104, 3) := by decide +kernel
theorem d20_27 : decode jdk_68_method_9_code 27 = .ok (.aload_n 0, 1) := by decide +kernel
theorem d20_28 : decode jdk_68_method_9_code 28 = .ok (.getfield 22, 3) := by decide +kernel
theorem d20_31 : decode jdk_68_method_9_code 31 = .ok (.ishl, 1) := by decide +kernel
theorem d20_32 : decode jdk_68_method_9_code 32 = .ok (.invokestatic 108, 3) := by decide +kernel
theorem d20_35 : decode jdk_68_method_9_code 35 = .ok (.putfield 15, 3) := by decide +kernel
theorem d20_38 : decode jdk_68_method_9_code 38 = .ok (.return_, 1) := by decide +kernel
theorem pn_20 : plainFor (⟨"java/lang/AbstractStringBuilder", "ensureCapacityInternal", "(I)V"⟩ : MethodName) = true := by first | exact plainFor_of_name (by first | (simp [plainName, overriddenIn]; done) | decide +kernel) | decide +kernel
def QrmEns (Z : State) (a1 : Addr) (t1 : Addr) (kb : ClassId) (vd : List Value) (n1 : Int32) (h0 : Heap) (n0 : Nat) (v : Option Value) (h : Heap) (L : List Loc) : Prop := v = none ∧ Fr n0 L ∧ h = h0
set_option maxRecDepth 65536 in
set_option maxHeartbeats 40000000 in
theorem rmEns (l : Launch) (Z : State) (a0 : Array Value) (hw : ∀ d ∈ tables_1, d.before a0 Z = true) (ws : List Jvm.Cond) (a1 : Addr) (t1 : Addr) (kb : ClassId) (vd : List Value) (n1 : Int32) (h0 : Heap) (n0 : Nat) (Z0 : n0 ≤ h0.size) (f1 : Fld Z h0 a1 "java/lang/AbstractStringBuilder" "value" "[B" (.ref t1)) (f2 : Fld Z h0 a1 "java/lang/AbstractStringBuilder" "coder" "B" (.int 0)) (A_t : Arv Z h0 t1 kb .byte 16 vd (.int 0)) (hn : ¬ (0 : Int32) < n1 - ((16 : Int32) >>> ((0 : Int32) &&& 31))) :
    MetFree l (⟨"java/lang/AbstractStringBuilder", "ensureCapacityInternal", "(I)V"⟩ : MethodName) (head1 (Jvm.Cond.code (⟨"java/lang/AbstractStringBuilder", "ensureCapacityInternal", "(I)V"⟩ : MethodName) jdk_68_method_9_code 3 none :: ws) ({ frames := 0, cells := 0, slots := 0, locals := 0 } : Room)) (fun a U => a = #[(.ref a1), (.int n1)] ∧ Z.Warmed39 U.vm ∧ U.heap = h0) (fun _ _ _ _ _ => True) (fun _ U o U' => ∃ v L, o = .returned v ∧ QrmEns Z a1 t1 kb vd n1 h0 n0 v U'.heap L ∧ FrameEnd U o U' L ({ frames := 0, cells := 0, slots := 0, locals := 0 } : Room).cells ({ frames := 0, cells := 0, slots := 0, locals := 0 } : Room).slots) := by
  refine MetFree.of_bodySF pn_20 hisR ?_
  intro p e s m args below meth c s₁ Bd hml0 hP hK
  obtain ⟨rfl, hZ, hh⟩ := hP
  have hml : c.maxLocals = 3 := hml0
  have hlk : meth.locks = false := Bd.notSynchronized
  have hret := Bd.returns
  have hnm := (name_of_methodNamed Bd.named Bd.method).1
  have P0 : Own.Wk Z "java/lang/AbstractStringBuilder" jdk_68_method_9_code h0 p l e ({ frames := 0, cells := 0, slots := 0, locals := 0 } : Room) s m #[(.ref a1), (.int n1)] below meth c s₁ [] 0 0 := ⟨Stand.of_body Bd, Bd.exec, Bd.bytes, hZ, findClass_of_methodNamed Bd.named, by rw [← hh, Bd.state]; rfl⟩
  have N0 := Fr.nil n0
  show Own.Goes p.tables e below (fun s₂ o => ∃ v L, o = .returned v ∧ QrmEns Z a1 t1 kb vd n1 h0 n0 v s₂.heap L ∧ FrameEnd s o s₂ L ({ frames := 0, cells := 0, slots := 0, locals := 0 } : Room).cells ({ frames := 0, cells := 0, slots := 0, locals := 0 } : Room).slots) (s₁.setTop (entryFrame m #[(.ref a1), (.int n1)] 3))
  rw [show entryFrame m #[(.ref a1), (.int n1)] 3 = mkF m 0 #[.val (.ref a1), .val (.int n1), .unset] [] from by first | rfl | (rcases Own.refc hfm with rfl | ⟨_, rfl⟩ <;> rfl) | (simp [entryFrame, mkF, argsToLocals, Value.category]; done)]
  refine Own.aloadN (q := 1) P0 d20_0 rfl rfl rfl ?_
  refine Own.getfield (q := 4) P0 d20_1 (hw _ (List.mem_of_getElem? (i := 97) rfl)) f1 rfl ?_
  intro T21 P21
  refine Own.arraylength (q := 5) P21 d20_4 A_t rfl ?_
  refine Own.aloadN (q := 6) P21 d20_5 rfl rfl rfl ?_
  refine Own.getfield (q := 9) P21 d20_6 (hw _ (List.mem_of_getElem? (i := 99) rfl)) f2 rfl ?_
  intro T22 P22
  refine Own.ishr (q := 10) P22 d20_9  rfl ?_
  refine Own.istoreN (q := 11) (L2 := #[.val (.ref a1), .val (.int n1), .val (.int ((16 : Int32) >>> ((0 : Int32) &&& 31)))]) P22 d20_10 rfl rfl ?_
  refine Own.iloadN (q := 12) P22 d20_11 rfl rfl ?_
  refine Own.iloadN (q := 13) P22 d20_12 rfl rfl ?_
  refine Own.isub (q := 14) P22 d20_13  rfl ?_
  refine Own.if_le (q := 17) (qy := 38) P22 d20_14 (by decide) rfl (fun _ => ?_) (fun q => absurd q hn)
  refine Own.retV (Q := QrmEns Z a1 t1 kb vd n1 h0 n0) P22 d20_38 hret hlk (by decide) (by decide) ?_
  exact ⟨rfl, N0, rfl⟩
theorem d22_0 : decode jdk_68_method_71_code 0 = .ok (.getstatic 18, 3) := by decide +kernel
theorem d22_3 : decode jdk_68_method_71_code 3 = .ok (.ifCond .eq 18, 3) := by decide +kernel
theorem d22_6 : decode jdk_68_method_71_code 6 = .ok (.aload_n 0, 1) := by decide +kernel
theorem d22_7 : decode jdk_68_method_71_code 7 = .ok (.getfield 22, 3) := by decide +kernel
theorem d22_10 : decode jdk_68_method_71_code 10 = .ok (.aload_n 1, 1) := by decide +kernel
theorem d22_11 : decode jdk_68_method_71_code 11 = .ok (.invokevirtual 40, 3) := by decide +kernel
theorem d22_14 : decode jdk_68_method_71_code 14 = .ok (.if_icmp .eq 7, 3) := by decide +kernel
theorem d22_17 : decode jdk_68_method_71_code 17 = .ok (.aload_n 0, 1) := by decide +kernel
theorem d22_18 : decode jdk_68_method_71_code 18 = .ok (.invokevirtual 195, 3) := by decide +kernel
theorem d22_21 : decode jdk_68_method_71_code 21 = .ok (.return_, 1) := by decide +kernel
theorem pn_22 : plainFor (⟨"java/lang/AbstractStringBuilder", "inflateIfNeededFor", "(Ljava/lang/String;)V"⟩ : MethodName) = true := by first | exact plainFor_of_name (by first | (simp [plainName, overriddenIn]; done) | decide +kernel) | decide +kernel
def QrmInf (Z : State) (a1 : Addr) (a2 : Addr) (ds : List Int32) (zc : Int32) (h0 : Heap) (n0 : Nat) (v : Option Value) (h : Heap) (L : List Loc) : Prop := v = none ∧ Fr n0 L ∧ h = h0
set_option maxRecDepth 65536 in
set_option maxHeartbeats 40000000 in
theorem rmInf (l : Launch) (Z : State) (a0 : Array Value) (hw : ∀ d ∈ tables_1, d.before a0 Z = true) (ws : List Jvm.Cond) (a1 : Addr) (a2 : Addr) (ds : List Int32) (zc : Int32) (h0 : Heap) (n0 : Nat) (Z0 : n0 ≤ h0.size) (SC : Sta Z h0 "java/lang/String" "COMPACT_STRINGS" "Z" (.int zc)) (hzc : ¬ zc = 0) (f2 : Fld Z h0 a1 "java/lang/AbstractStringBuilder" "coder" "B" (.int 0)) (S2 : Own.Str Z h0 a2 ds) :
    MetFree l (⟨"java/lang/AbstractStringBuilder", "inflateIfNeededFor", "(Ljava/lang/String;)V"⟩ : MethodName) (head1 (Jvm.Cond.code (⟨"java/lang/AbstractStringBuilder", "inflateIfNeededFor", "(Ljava/lang/String;)V"⟩ : MethodName) jdk_68_method_71_code 2 none :: ws) ({ frames := 1, cells := 0, slots := 0, locals := 13 } : Room)) (fun a U => a = #[(.ref a1), (.ref a2)] ∧ Z.Warmed39 U.vm ∧ U.heap = h0) (fun _ _ _ _ _ => True) (fun _ U o U' => ∃ v L, o = .returned v ∧ QrmInf Z a1 a2 ds zc h0 n0 v U'.heap L ∧ FrameEnd U o U' L ({ frames := 1, cells := 0, slots := 0, locals := 13 } : Room).cells ({ frames := 1, cells := 0, slots := 0, locals := 13 } : Room).slots) := by
  refine MetFree.of_bodySF pn_22 hisR ?_
  intro p e s m args below meth c s₁ Bd hml0 hP hK
  obtain ⟨rfl, hZ, hh⟩ := hP
  have hml : c.maxLocals = 2 := hml0
  have hlk : meth.locks = false := Bd.notSynchronized
  have hret := Bd.returns
  have hnm := (name_of_methodNamed Bd.named Bd.method).1
  have P0 : Own.Wk Z "java/lang/AbstractStringBuilder" jdk_68_method_71_code h0 p l e ({ frames := 1, cells := 0, slots := 0, locals := 13 } : Room) s m #[(.ref a1), (.ref a2)] below meth c s₁ [] 0 0 := ⟨Stand.of_body Bd, Bd.exec, Bd.bytes, hZ, findClass_of_methodNamed Bd.named, by rw [← hh, Bd.state]; rfl⟩
  have N0 := Fr.nil n0
  show Own.Goes p.tables e below (fun s₂ o => ∃ v L, o = .returned v ∧ QrmInf Z a1 a2 ds zc h0 n0 v s₂.heap L ∧ FrameEnd s o s₂ L ({ frames := 1, cells := 0, slots := 0, locals := 13 } : Room).cells ({ frames := 1, cells := 0, slots := 0, locals := 13 } : Room).slots) (s₁.setTop (entryFrame m #[(.ref a1), (.ref a2)] 2))
  rw [show entryFrame m #[(.ref a1), (.ref a2)] 2 = mkF m 0 #[.val (.ref a1), .val (.ref a2)] [] from by first | rfl | (rcases Own.refc hfm with rfl | ⟨_, rfl⟩ <;> rfl) | (simp [entryFrame, mkF, argsToLocals, Value.category]; done)]
  refine Own.getstatic (q := 3) P0 d22_0 (hw _ (List.mem_of_getElem? (i := 96) rfl)) SC rfl ?_
  intro T21 P21
  refine Own.if_eq (q := 6) (qy := 21) P21 d22_3 (by decide) rfl (fun q => absurd q hzc) (fun _ => ?_)
  refine Own.aloadN (q := 7) P21 d22_6 rfl rfl rfl ?_
  refine Own.getfield (q := 10) P21 d22_7 (hw _ (List.mem_of_getElem? (i := 99) rfl)) f2 rfl ?_
  intro T22 P22
  refine Own.aloadN (q := 11) P22 d22_10 rfl rfl rfl ?_
  obtain ⟨⟨t23, kb23, y23a, y23v, y23c, y23b⟩, -, -⟩ := id S2
  refine Own.invVirtual (q := 14) (W := 1) (y := (⟨"java/lang/String", "coder", "()B"⟩ : MethodName)) (a := a2) (argsL := []) (rest := [(.int (0 : Int32))]) P22 d22_11 (hw _ (List.mem_of_getElem? (i := 129) rfl)) (hw _ (List.mem_of_getElem? (i := 72) rfl)) (hw _ (List.mem_of_getElem? (i := 74) rfl)) (hw _ (List.mem_of_getElem? (i := 73) rfl)) (notFace_of_selects (args := #[]) (mvT P22.2.2.2.1 (hw _ (List.mem_of_getElem? (i := 74) rfl)))) (by decide) (backOf (W := 1) (rmCod l Z a0 hw [] a2 zc h0 n0 Z0 SC hzc y23c) P22.2.2.2.1 (hw _ (List.mem_of_getElem? (i := 75) rfl)) (hw _ (List.mem_of_getElem? (i := 10) rfl)) (by decide) (by decide)) S2.exa rfl rfl (by rw [hml]; rfl) (lenOf (show parseMethodDescriptor "()B" = some ⟨[], some .byte⟩ from by decide +kernel) rfl) (by show 2 * 0 + _ ≤ _; exact Nat.le_of_eq rfl) (by decide) (by decide) rfl ?_
  rintro v24 T24 h24 L24 ⟨rfl, N24q, e24⟩ P24
  rw [e24] at P24
  have N24 := Fr.app N0 N24q
  show Own.Goes _ _ _ _ (T24.setTop (mkF m 14 #[.val (.ref a1), .val (.ref a2)] [(.int (0 : Int32)), (.int (0 : Int32))]))
  refine Own.icmp_eq (q := 17) (qy := 21) P24 d22_14 (by decide) rfl (fun _ => ?_) (fun q => absurd rfl q)
  refine Own.retV (Q := QrmInf Z a1 a2 ds zc h0 n0) P24 d22_21 hret hlk (by decide) (by decide) ?_
  exact ⟨rfl, N24, rfl⟩
theorem d27_0 : decode jdk_68_method_64_code 0 = .ok (.aload_n 0, 1) := by decide +kernel
theorem d27_1 : decode jdk_68_method_64_code 1 = .ok (.getfield 15, 3) := by decide +kernel
theorem d27_4 : decode jdk_68_method_64_code 4 = .ok (.areturn, 1) := by decide +kernel
theorem pn_27 : plainFor (⟨"java/lang/AbstractStringBuilder", "getValue", "()[B"⟩ : MethodName) = true := by first | exact plainFor_of_name (by first | (simp [plainName, overriddenIn]; done) | decide +kernel) | decide +kernel
def QrmGv (Z : State) (a1 : Addr) (t1 : Addr) (h0 : Heap) (n0 : Nat) (v : Option Value) (h : Heap) (L : List Loc) : Prop := v = some (.ref t1) ∧ Fr n0 L ∧ h = h0
set_option maxRecDepth 65536 in
set_option maxHeartbeats 40000000 in
theorem rmGv (l : Launch) (Z : State) (a0 : Array Value) (hw : ∀ d ∈ tables_1, d.before a0 Z = true) (ws : List Jvm.Cond) (a1 : Addr) (t1 : Addr) (h0 : Heap) (n0 : Nat) (Z0 : n0 ≤ h0.size) (f1 : Fld Z h0 a1 "java/lang/AbstractStringBuilder" "value" "[B" (.ref t1)) :
    MetFree l (⟨"java/lang/AbstractStringBuilder", "getValue", "()[B"⟩ : MethodName) (head1 (Jvm.Cond.code (⟨"java/lang/AbstractStringBuilder", "getValue", "()[B"⟩ : MethodName) jdk_68_method_64_code 1 (some (.array .byte)) :: ws) ({ frames := 0, cells := 0, slots := 0, locals := 0 } : Room)) (fun a U => a = #[(.ref a1)] ∧ Z.Warmed39 U.vm ∧ U.heap = h0) (fun _ _ _ _ _ => True) (fun _ U o U' => ∃ v L, o = .returned v ∧ QrmGv Z a1 t1 h0 n0 v U'.heap L ∧ FrameEnd U o U' L ({ frames := 0, cells := 0, slots := 0, locals := 0 } : Room).cells ({ frames := 0, cells := 0, slots := 0, locals := 0 } : Room).slots) := by
  refine MetFree.of_bodySF pn_27 hisR ?_
  intro p e s m args below meth c s₁ Bd hml0 hP hK
  obtain ⟨rfl, hZ, hh⟩ := hP
  have hml : c.maxLocals = 1 := hml0
  have hlk : meth.locks = false := Bd.notSynchronized
  have hret := Bd.returns
  have hnm := (name_of_methodNamed Bd.named Bd.method).1
  have P0 : Own.Wk Z "java/lang/AbstractStringBuilder" jdk_68_method_64_code h0 p l e ({ frames := 0, cells := 0, slots := 0, locals := 0 } : Room) s m #[(.ref a1)] below meth c s₁ [] 0 0 := ⟨Stand.of_body Bd, Bd.exec, Bd.bytes, hZ, findClass_of_methodNamed Bd.named, by rw [← hh, Bd.state]; rfl⟩
  have N0 := Fr.nil n0
  show Own.Goes p.tables e below (fun s₂ o => ∃ v L, o = .returned v ∧ QrmGv Z a1 t1 h0 n0 v s₂.heap L ∧ FrameEnd s o s₂ L ({ frames := 0, cells := 0, slots := 0, locals := 0 } : Room).cells ({ frames := 0, cells := 0, slots := 0, locals := 0 } : Room).slots) (s₁.setTop (entryFrame m #[(.ref a1)] 1))
  rw [show entryFrame m #[(.ref a1)] 1 = mkF m 0 #[.val (.ref a1)] [] from by first | rfl | (rcases Own.refc hfm with rfl | ⟨_, rfl⟩ <;> rfl) | (simp [entryFrame, mkF, argsToLocals, Value.category]; done)]
  refine Own.aloadN (q := 1) P0 d27_0 rfl rfl rfl ?_
  refine Own.getfield (q := 4) P0 d27_1 (hw _ (List.mem_of_getElem? (i := 97) rfl)) f1 rfl ?_
  intro T21 P21
  refine Own.retA (Q := QrmGv Z a1 t1 h0 n0) P21 d27_4 hret rfl rfl rfl hlk (by decide) (by decide) ?_
  exact ⟨rfl, N0, rfl⟩
theorem d29_0 : decode jdk_68_method_6_code 0 = .ok (.aload_n 0, 1) := by decide +kernel
theorem d29_1 : decode jdk_68_method_6_code 1 = .ok (.getfield 79, 3) := by decide +kernel
theorem d29_4 : decode jdk_68_method_6_code 4 = .ok (.ireturn, 1) := by decide +kernel
theorem pn_29 : plainFor (⟨"java/lang/AbstractStringBuilder", "length", "()I"⟩ : MethodName) = true := by first | exact plainFor_of_name (by first | (simp [plainName, overriddenIn]; done) | decide +kernel) | decide +kernel
def QrmLn (Z : State) (a1 : Addr) (n1 : Int32) (h0 : Heap) (n0 : Nat) (v : Option Value) (h : Heap) (L : List Loc) : Prop := v = some (.int n1) ∧ Fr n0 L ∧ h = h0
set_option maxRecDepth 65536 in
set_option maxHeartbeats 40000000 in
theorem rmLn (l : Launch) (Z : State) (a0 : Array Value) (hw : ∀ d ∈ tables_1, d.before a0 Z = true) (ws : List Jvm.Cond) (a1 : Addr) (n1 : Int32) (h0 : Heap) (n0 : Nat) (Z0 : n0 ≤ h0.size) (f3 : Fld Z h0 a1 "java/lang/AbstractStringBuilder" "count" "I" (.int n1)) :
    MetFree l (⟨"java/lang/AbstractStringBuilder", "length", "()I"⟩ : MethodName) (head1 (Jvm.Cond.code (⟨"java/lang/AbstractStringBuilder", "length", "()I"⟩ : MethodName) jdk_68_method_6_code 1 (some .int) :: ws) ({ frames := 0, cells := 0, slots := 0, locals := 0 } : Room)) (fun a U => a = #[(.ref a1)] ∧ Z.Warmed39 U.vm ∧ U.heap = h0) (fun _ _ _ _ _ => True) (fun _ U o U' => ∃ v L, o = .returned v ∧ QrmLn Z a1 n1 h0 n0 v U'.heap L ∧ FrameEnd U o U' L ({ frames := 0, cells := 0, slots := 0, locals := 0 } : Room).cells ({ frames := 0, cells := 0, slots := 0, locals := 0 } : Room).slots) := by
  refine MetFree.of_bodySF pn_29 hisR ?_
  intro p e s m args below meth c s₁ Bd hml0 hP hK
  obtain ⟨rfl, hZ, hh⟩ := hP
  have hml : c.maxLocals = 1 := hml0
  have hlk : meth.locks = false := Bd.notSynchronized
  have hret := Bd.returns
  have hnm := (name_of_methodNamed Bd.named Bd.method).1
  have P0 : Own.Wk Z "java/lang/AbstractStringBuilder" jdk_68_method_6_code h0 p l e ({ frames := 0, cells := 0, slots := 0, locals := 0 } : Room) s m #[(.ref a1)] below meth c s₁ [] 0 0 := ⟨Stand.of_body Bd, Bd.exec, Bd.bytes, hZ, findClass_of_methodNamed Bd.named, by rw [← hh, Bd.state]; rfl⟩
  have N0 := Fr.nil n0
  show Own.Goes p.tables e below (fun s₂ o => ∃ v L, o = .returned v ∧ QrmLn Z a1 n1 h0 n0 v s₂.heap L ∧ FrameEnd s o s₂ L ({ frames := 0, cells := 0, slots := 0, locals := 0 } : Room).cells ({ frames := 0, cells := 0, slots := 0, locals := 0 } : Room).slots) (s₁.setTop (entryFrame m #[(.ref a1)] 1))
  rw [show entryFrame m #[(.ref a1)] 1 = mkF m 0 #[.val (.ref a1)] [] from by first | rfl | (rcases Own.refc hfm with rfl | ⟨_, rfl⟩ <;> rfl) | (simp [entryFrame, mkF, argsToLocals, Value.category]; done)]
  refine Own.aloadN (q := 1) P0 d29_0 rfl rfl rfl ?_
  refine Own.getfield (q := 4) P0 d29_1 (hw _ (List.mem_of_getElem? (i := 112) rfl)) f3 rfl ?_
  intro T21 P21
  refine Own.retI (Q := QrmLn Z a1 n1 h0 n0) P21 d29_4 hret hlk (by decide) (by decide) ?_
  exact ⟨rfl, N0, rfl⟩
theorem d30_0 : decode jdk_68_method_68_code 0 = .ok (.getstatic 18, 3) := by decide +kernel
theorem d30_3 : decode jdk_68_method_68_code 3 = .ok (.ifCond .eq 14, 3) := by decide +kernel
theorem d30_6 : decode jdk_68_method_68_code 6 = .ok (.aload_n 0, 1) := by decide +kernel
theorem d30_7 : decode jdk_68_method_68_code 7 = .ok (.getfield 22, 3) := by decide +kernel
theorem d30_10 : decode jdk_68_method_68_code 10 = .ok (.ifCond .ne 7, 3) := by decide +kernel
theorem d30_13 : decode jdk_68_method_68_code 13 = .ok (.iconst 1, 1) := by decide +kernel
theorem d30_14 : decode jdk_68_method_68_code 14 = .ok (.goto 4, 3) := by decide +kernel
theorem d30_17 : decode jdk_68_method_68_code 17 = .ok (.iconst 0, 1) := by decide +kernel
theorem d30_18 : decode jdk_68_method_68_code 18 = .ok (.ireturn, 1) := by decide +kernel
theorem pn_30 : plainFor (⟨"java/lang/AbstractStringBuilder", "isLatin1", "()Z"⟩ : MethodName) = true := by first | exact plainFor_of_name (by first | (simp [plainName, overriddenIn]; done) | decide +kernel) | decide +kernel
def QrmIl (Z : State) (a1 : Addr) (zc : Int32) (h0 : Heap) (n0 : Nat) (v : Option Value) (h : Heap) (L : List Loc) : Prop := v = some (.int 1) ∧ Fr n0 L ∧ h = h0
set_option maxRecDepth 65536 in
set_option maxHeartbeats 40000000 in
theorem rmIl (l : Launch) (Z : State) (a0 : Array Value) (hw : ∀ d ∈ tables_1, d.before a0 Z = true) (ws : List Jvm.Cond) (a1 : Addr) (zc : Int32) (h0 : Heap) (n0 : Nat) (Z0 : n0 ≤ h0.size) (SC : Sta Z h0 "java/lang/String" "COMPACT_STRINGS" "Z" (.int zc)) (hzc : ¬ zc = 0) (f2 : Fld Z h0 a1 "java/lang/AbstractStringBuilder" "coder" "B" (.int 0)) :
    MetFree l (⟨"java/lang/AbstractStringBuilder", "isLatin1", "()Z"⟩ : MethodName) (head1 (Jvm.Cond.code (⟨"java/lang/AbstractStringBuilder", "isLatin1", "()Z"⟩ : MethodName) jdk_68_method_68_code 1 (some .boolean) :: ws) ({ frames := 0, cells := 0, slots := 0, locals := 0 } : Room)) (fun a U => a = #[(.ref a1)] ∧ Z.Warmed39 U.vm ∧ U.heap = h0) (fun _ _ _ _ _ => True) (fun _ U o U' => ∃ v L, o = .returned v ∧ QrmIl Z a1 zc h0 n0 v U'.heap L ∧ FrameEnd U o U' L ({ frames := 0, cells := 0, slots := 0, locals := 0 } : Room).cells ({ frames := 0, cells := 0, slots := 0, locals := 0 } : Room).slots) := by
  refine MetFree.of_bodySF pn_30 hisR ?_
  intro p e s m args below meth c s₁ Bd hml0 hP hK
  obtain ⟨rfl, hZ, hh⟩ := hP
  have hml : c.maxLocals = 1 := hml0
  have hlk : meth.locks = false := Bd.notSynchronized
  have hret := Bd.returns
  have hnm := (name_of_methodNamed Bd.named Bd.method).1
  have P0 : Own.Wk Z "java/lang/AbstractStringBuilder" jdk_68_method_68_code h0 p l e ({ frames := 0, cells := 0, slots := 0, locals := 0 } : Room) s m #[(.ref a1)] below meth c s₁ [] 0 0 := ⟨Stand.of_body Bd, Bd.exec, Bd.bytes, hZ, findClass_of_methodNamed Bd.named, by rw [← hh, Bd.state]; rfl⟩
  have N0 := Fr.nil n0
  show Own.Goes p.tables e below (fun s₂ o => ∃ v L, o = .returned v ∧ QrmIl Z a1 zc h0 n0 v s₂.heap L ∧ FrameEnd s o s₂ L ({ frames := 0, cells := 0, slots := 0, locals := 0 } : Room).cells ({ frames := 0, cells := 0, slots := 0, locals := 0 } : Room).slots) (s₁.setTop (entryFrame m #[(.ref a1)] 1))
  rw [show entryFrame m #[(.ref a1)] 1 = mkF m 0 #[.val (.ref a1)] [] from by first | rfl | (rcases Own.refc hfm with rfl | ⟨_, rfl⟩ <;> rfl) | (simp [entryFrame, mkF, argsToLocals, Value.category]; done)]
  refine Own.getstatic (q := 3) P0 d30_0 (hw _ (List.mem_of_getElem? (i := 96) rfl)) SC rfl ?_
  intro T21 P21
  refine Own.if_eq (q := 6) (qy := 17) P21 d30_3 (by decide) rfl (fun q => absurd q hzc) (fun _ => ?_)
  refine Own.aloadN (q := 7) P21 d30_6 rfl rfl rfl ?_
  refine Own.getfield (q := 10) P21 d30_7 (hw _ (List.mem_of_getElem? (i := 99) rfl)) f2 rfl ?_
  intro T22 P22
  refine Own.if_ne (q := 13) (qy := 17) P22 d30_10 (by decide) rfl (fun q => absurd rfl q) (fun _ => ?_)
  refine Own.iconst (q := 14) (v := (1 : Int32)) P22 d30_13 rfl rfl ?_
  refine Own.goto (q := 18) P22 d30_14 (by decide) ?_
  refine Own.retZ (Q := QrmIl Z a1 zc h0 n0) P22 d30_18 hret (by simp) hlk (by decide) (by decide) ?_
  exact ⟨rfl, N0, rfl⟩
theorem d34_0 : decode jdk_29_method_69_code 0 = .ok (.iload_n 0, 1) := by decide +kernel
theorem d34_1 : decode jdk_29_method_69_code 1 = .ok (.iload_n 1, 1) := by decide +kernel
theorem d34_2 : decode jdk_29_method_69_code 2 = .ok (.if_icmp .gt 7, 3) := by decide +kernel
theorem d34_5 : decode jdk_29_method_69_code 5 = .ok (.iload_n 0, 1) := by decide +kernel
theorem d34_6 : decode jdk_29_method_69_code 6 = .ok (.goto 4, 3) := by decide +kernel
theorem d34_9 : decode jdk_29_method_69_code 9 = .ok (.iload_n 1, 1) := by decide +kernel
theorem d34_10 : decode jdk_29_method_69_code 10 = .ok (.ireturn, 1) := by decide +kernel
theorem pn_34 : plainFor (⟨"java/lang/Math", "min", "(II)I"⟩ : MethodName) = true := by first | exact plainFor_of_name (by first | (simp [plainName, overriddenIn]; done) | decide +kernel) | decide +kernel
def QrmMin (Z : State) (x1 : Int32) (y1 : Int32) (h0 : Heap) (n0 : Nat) (v : Option Value) (h : Heap) (L : List Loc) : Prop := v = some (.int (if y1 < x1 then y1 else x1)) ∧ Fr n0 L ∧ h = h0
set_option maxRecDepth 65536 in
set_option maxHeartbeats 40000000 in
theorem rmMin (l : Launch) (Z : State) (a0 : Array Value) (hw : ∀ d ∈ tables_1, d.before a0 Z = true) (ws : List Jvm.Cond) (x1 : Int32) (y1 : Int32) (h0 : Heap) (n0 : Nat) (Z0 : n0 ≤ h0.size)  :
    MetFree l (⟨"java/lang/Math", "min", "(II)I"⟩ : MethodName) (head1 (Jvm.Cond.code (⟨"java/lang/Math", "min", "(II)I"⟩ : MethodName) jdk_29_method_69_code 2 (some .int) :: ws) ({ frames := 0, cells := 0, slots := 0, locals := 0 } : Room)) (fun a U => a = #[(.int x1), (.int y1)] ∧ Z.Warmed39 U.vm ∧ U.heap = h0) (fun _ _ _ _ _ => True) (fun _ U o U' => ∃ v L, o = .returned v ∧ QrmMin Z x1 y1 h0 n0 v U'.heap L ∧ FrameEnd U o U' L ({ frames := 0, cells := 0, slots := 0, locals := 0 } : Room).cells ({ frames := 0, cells := 0, slots := 0, locals := 0 } : Room).slots) := by
  refine MetFree.of_bodySF pn_34 hisR ?_
  intro p e s m args below meth c s₁ Bd hml0 hP hK
  obtain ⟨rfl, hZ, hh⟩ := hP
  have hml : c.maxLocals = 2 := hml0
  have hlk : meth.locks = false := Bd.notSynchronized
  have hret := Bd.returns
  have hnm := (name_of_methodNamed Bd.named Bd.method).1
  have P0 : Own.Wk Z "java/lang/Math" jdk_29_method_69_code h0 p l e ({ frames := 0, cells := 0, slots := 0, locals := 0 } : Room) s m #[(.int x1), (.int y1)] below meth c s₁ [] 0 0 := ⟨Stand.of_body Bd, Bd.exec, Bd.bytes, hZ, findClass_of_methodNamed Bd.named, by rw [← hh, Bd.state]; rfl⟩
  have N0 := Fr.nil n0
  show Own.Goes p.tables e below (fun s₂ o => ∃ v L, o = .returned v ∧ QrmMin Z x1 y1 h0 n0 v s₂.heap L ∧ FrameEnd s o s₂ L ({ frames := 0, cells := 0, slots := 0, locals := 0 } : Room).cells ({ frames := 0, cells := 0, slots := 0, locals := 0 } : Room).slots) (s₁.setTop (entryFrame m #[(.int x1), (.int y1)] 2))
  rw [show entryFrame m #[(.int x1), (.int y1)] 2 = mkF m 0 #[.val (.int x1), .val (.int y1)] [] from by first | rfl | (rcases Own.refc hfm with rfl | ⟨_, rfl⟩ <;> rfl) | (simp [entryFrame, mkF, argsToLocals, Value.category]; done)]
  refine Own.iloadN (q := 1) P0 d34_0 rfl rfl ?_
  refine Own.iloadN (q := 2) P0 d34_1 rfl rfl ?_
  refine Own.icmp_gt (q := 5) (qy := 9) P0 d34_2 (by decide) rfl (fun q2 => ?_) (fun q2 => ?_)
  · refine Own.iloadN (q := 10) P0 d34_9 rfl rfl ?_
    refine Own.retI (Q := QrmMin Z x1 y1 h0 n0) P0 d34_10 hret hlk (by decide) (by decide) ?_
    exact ⟨by first | rw [if_pos q2] | rw [if_neg q2], N0, rfl⟩
  · refine Own.iloadN (q := 6) P0 d34_5 rfl rfl ?_
    refine Own.goto (q := 10) P0 d34_6 (by decide) ?_
    refine Own.retI (Q := QrmMin Z x1 y1 h0 n0) P0 d34_10 hret hlk (by decide) (by decide) ?_
    exact ⟨by first | rw [if_pos q2] | rw [if_neg q2], N0, rfl⟩
theorem d33_0 : decode jdk_65_method_131_code 0 = .ok (.iload_n 1, 1) := by decide +kernel
theorem d33_1 : decode jdk_65_method_131_code 1 = .ok (.iload_n 0, 1) := by decide +kernel
theorem d33_2 : decode jdk_65_method_131_code 2 = .ok (.if_icmp .ge 35, 3) := by decide +kernel
theorem d33_5 : decode jdk_65_method_131_code 5 = .ok (.new 43, 3) := by decide +kernel
theorem d33_8 : decode jdk_65_method_131_code 8 = .ok (.dup, 1) := by decide +kernel
theorem d33_9 : decode jdk_65_method_131_code 9 = .ok (.new 45, 3) := by decide +kernel
theorem d33_12 : decode jdk_65_method_131_code 12 = .ok (.dup, 1) := by decide +kernel
theorem d33_13 : decode jdk_65_method_131_code 13 = .ok (.invokespecial 47, 3) := by decide +kernel
theorem d33_16 : decode jdk_65_method_131_code 16 = .ok (.iload_n 0, 1) := by decide +kernel
theorem d33_17 : decode jdk_65_method_131_code 17 = .ok (.invokevirtual 54, 3) := by decide +kernel
theorem d33_20 : decode jdk_65_method_131_code 20 = .ok (.ldc_w 337, 3) := by decide +kernel
theorem d33_23 : decode jdk_65_method_131_code 23 = .ok (.invokevirtual 50, 3) := by decide +kernel
theorem d33_26 : decode jdk_65_method_131_code 26 = .ok (.iload_n 1, 1) := by decide +kernel
theorem d33_27 : decode jdk_65_method_131_code 27 = .ok (.invokevirtual 54, 3) := by decide +kernel
theorem d33_30 : decode jdk_65_method_131_code 30 = .ok (.invokevirtual 61, 3) := by decide +kernel
theorem d33_33 : decode jdk_65_method_131_code 33 = .ok (.invokespecial 65, 3) := by decide +kernel
theorem d33_36 : decode jdk_65_method_131_code 36 = .ok (.athrow, 1) := by decide +kernel
theorem d33_37 : decode jdk_65_method_131_code 37 = .ok (.return_, 1) := by decide +kernel
theorem pn_33 : plainFor (⟨"java/util/Arrays", "checkLength", "(II)V"⟩ : MethodName) = true := by first | exact plainFor_of_name (by first | (simp [plainName, overriddenIn]; done) | decide +kernel) | decide +kernel
def QrmCl (Z : State) (x1 : Int32) (y1 : Int32) (h0 : Heap) (n0 : Nat) (v : Option Value) (h : Heap) (L : List Loc) : Prop := v = none ∧ Fr n0 L ∧ h = h0
set_option maxRecDepth 65536 in
set_option maxHeartbeats 40000000 in
theorem rmCl (l : Launch) (Z : State) (a0 : Array Value) (hw : ∀ d ∈ tables_1, d.before a0 Z = true) (ws : List Jvm.Cond) (x1 : Int32) (y1 : Int32) (h0 : Heap) (n0 : Nat) (Z0 : n0 ≤ h0.size) (hle : ¬ y1 < x1) :
    MetFree l (⟨"java/util/Arrays", "checkLength", "(II)V"⟩ : MethodName) (head1 (Jvm.Cond.code (⟨"java/util/Arrays", "checkLength", "(II)V"⟩ : MethodName) jdk_65_method_131_code 2 none :: ws) ({ frames := 0, cells := 0, slots := 0, locals := 0 } : Room)) (fun a U => a = #[(.int x1), (.int y1)] ∧ Z.Warmed39 U.vm ∧ U.heap = h0) (fun _ _ _ _ _ => True) (fun _ U o U' => ∃ v L, o = .returned v ∧ QrmCl Z x1 y1 h0 n0 v U'.heap L ∧ FrameEnd U o U' L ({ frames := 0, cells := 0, slots := 0, locals := 0 } : Room).cells ({ frames := 0, cells := 0, slots := 0, locals := 0 } : Room).slots) := by
  refine MetFree.of_bodySF pn_33 hisR ?_
  intro p e s m args below meth c s₁ Bd hml0 hP hK
  obtain ⟨rfl, hZ, hh⟩ := hP
  have hml : c.maxLocals = 2 := hml0
  have hlk : meth.locks = false := Bd.notSynchronized
  have hret := Bd.returns
  have hnm := (name_of_methodNamed Bd.named Bd.method).1
  have P0 : Own.Wk Z "java/util/Arrays" jdk_65_method_131_code h0 p l e ({ frames := 0, cells := 0, slots := 0, locals := 0 } : Room) s m #[(.int x1), (.int y1)] below meth c s₁ [] 0 0 := ⟨Stand.of_body Bd, Bd.exec, Bd.bytes, hZ, findClass_of_methodNamed Bd.named, by rw [← hh, Bd.state]; rfl⟩
  have N0 := Fr.nil n0
  show Own.Goes p.tables e below (fun s₂ o => ∃ v L, o = .returned v ∧ QrmCl Z x1 y1 h0 n0 v s₂.heap L ∧ FrameEnd s o s₂ L ({ frames := 0, cells := 0, slots := 0, locals := 0 } : Room).cells ({ frames := 0, cells := 0, slots := 0, locals := 0 } : Room).slots) (s₁.setTop (entryFrame m #[(.int x1), (.int y1)] 2))
  rw [show entryFrame m #[(.int x1), (.int y1)] 2 = mkF m 0 #[.val (.int x1), .val (.int y1)] [] from by first | rfl | (rcases Own.refc hfm with rfl | ⟨_, rfl⟩ <;> rfl) | (simp [entryFrame, mkF, argsToLocals, Value.category]; done)]
  refine Own.iloadN (q := 1) P0 d33_0 rfl rfl ?_
  refine Own.iloadN (q := 2) P0 d33_1 rfl rfl ?_
  refine Own.icmp_ge (q := 5) (qy := 37) P0 d33_2 (by decide) rfl (fun _ => ?_) (fun q => absurd q hle)
  refine Own.retV (Q := QrmCl Z x1 y1 h0 n0) P0 d33_37 hret hlk (by decide) (by decide) ?_
  exact ⟨rfl, N0, rfl⟩
theorem d23_0 : decode jdk_42_method_147_code 0 = .ok (.aload_n 0, 1) := by decide +kernel
theorem d23_1 : decode jdk_42_method_147_code 1 = .ok (.invokevirtual 335, 3) := by decide +kernel
theorem d23_4 : decode jdk_42_method_147_code 4 = .ok (.iload_n 3, 1) := by decide +kernel
theorem d23_5 : decode jdk_42_method_147_code 5 = .ok (.if_icmp .ne 23, 3) := by decide +kernel
theorem d23_8 : decode jdk_42_method_147_code 8 = .ok (.aload_n 0, 1) := by decide +kernel
theorem d23_9 : decode jdk_42_method_147_code 9 = .ok (.getfield 9, 3) := by decide +kernel
theorem d23_12 : decode jdk_42_method_147_code 12 = .ok (.iconst 0, 1) := by decide +kernel
theorem d23_13 : decode jdk_42_method_147_code 13 = .ok (.aload_n 1, 1) := by decide +kernel
theorem d23_14 : decode jdk_42_method_147_code 14 = .ok (.iload_n 2, 1) := by decide +kernel
theorem d23_15 : decode jdk_42_method_147_code 15 = .ok (.iload_n 3, 1) := by decide +kernel
theorem d23_16 : decode jdk_42_method_147_code 16 = .ok (.ishl, 1) := by decide +kernel
theorem d23_17 : decode jdk_42_method_147_code 17 = .ok (.aload_n 0, 1) := by decide +kernel
theorem d23_18 : decode jdk_42_method_147_code 18 = .ok (.getfield 9, 3) := by decide +kernel
theorem d23_21 : decode jdk_42_method_147_code 21 = .ok (.arraylength, 1) := by decide +kernel
theorem d23_22 : decode jdk_42_method_147_code 22 = .ok (.invokestatic 212, 3) := by decide +kernel
theorem d23_25 : decode jdk_42_method_147_code 25 = .ok (.goto 18, 3) := by decide +kernel
theorem d23_28 : decode jdk_42_method_147_code 28 = .ok (.aload_n 0, 1) := by decide +kernel
theorem d23_29 : decode jdk_42_method_147_code 29 = .ok (.getfield 9, 3) := by decide +kernel
theorem d23_32 : decode jdk_42_method_147_code 32 = .ok (.iconst 0, 1) := by decide +kernel
theorem d23_33 : decode jdk_42_method_147_code 33 = .ok (.aload_n 1, 1) := by decide +kernel
theorem d23_34 : decode jdk_42_method_147_code 34 = .ok (.iload_n 2, 1) := by decide +kernel
theorem d23_35 : decode jdk_42_method_147_code 35 = .ok (.aload_n 0, 1) := by decide +kernel
theorem d23_36 : decode jdk_42_method_147_code 36 = .ok (.getfield 9, 3) := by decide +kernel
theorem d23_39 : decode jdk_42_method_147_code 39 = .ok (.arraylength, 1) := by decide +kernel
theorem d23_40 : decode jdk_42_method_147_code 40 = .ok (.invokestatic 106, 3) := by decide +kernel
theorem d23_43 : decode jdk_42_method_147_code 43 = .ok (.return_, 1) := by decide +kernel
theorem pn_23 : plainFor (⟨"java/lang/String", "getBytes", "([BIB)V"⟩ : MethodName) = true := by first | exact plainFor_of_name (by first | (simp [plainName, overriddenIn]; done) | decide +kernel) | decide +kernel
def QrmGb (Z : State) (a1 : Addr) (t1 : Addr) (kb : ClassId) (vd : List Value) (ds : List Int32) (pos : Nat) (zc : Int32) (h0 : Heap) (n0 : Nat) (v : Option Value) (h : Heap) (L : List Loc) : Prop := v = none ∧ Fr n0 L ∧ Keep h0 h [t1] ∧ Arv Z h t1 kb .byte 16 (vd.take pos ++ ((ds.map fun c : Int32 => c.toInt8.toInt32).map Value.int) ++ vd.drop (pos + ds.length)) (.int 0)
set_option maxRecDepth 65536 in
set_option maxHeartbeats 40000000 in
theorem rmGb (l : Launch) (Z : State) (a0 : Array Value) (hw : ∀ d ∈ tables_1, d.before a0 Z = true) (ws : List Jvm.Cond) (a1 : Addr) (t1 : Addr) (kb : ClassId) (vd : List Value) (ds : List Int32) (pos : Nat) (zc : Int32) (h0 : Heap) (n0 : Nat) (Z0 : n0 ≤ h0.size) (SC : Sta Z h0 "java/lang/String" "COMPACT_STRINGS" "Z" (.int zc)) (hzc : ¬ zc = 0) (S1 : Own.Str Z h0 a1 ds) (A_t : Arv Z h0 t1 kb .byte 16 vd (.int 0)) (hpos : pos + ds.length ≤ 16) (hvl : vd.length = 16) (g_t1 : n0 ≤ t1) :
    MetFree l (⟨"java/lang/String", "getBytes", "([BIB)V"⟩ : MethodName) (head1 (Jvm.Cond.code (⟨"java/lang/String", "getBytes", "([BIB)V"⟩ : MethodName) jdk_42_method_147_code 4 none :: ws) ({ frames := 1, cells := 0, slots := 0, locals := 18 } : Room)) (fun a U => a = #[(.ref a1), (.ref t1), (.int (Int32.ofNat pos)), (.int (0 : Int32))] ∧ Z.Warmed39 U.vm ∧ U.heap = h0) (fun _ _ _ _ _ => True) (fun _ U o U' => ∃ v L, o = .returned v ∧ QrmGb Z a1 t1 kb vd ds pos zc h0 n0 v U'.heap L ∧ FrameEnd U o U' L ({ frames := 1, cells := 0, slots := 0, locals := 18 } : Room).cells ({ frames := 1, cells := 0, slots := 0, locals := 18 } : Room).slots) := by
  refine MetFree.of_bodySF pn_23 hisR ?_
  intro p e s m args below meth c s₁ Bd hml0 hP hK
  obtain ⟨rfl, hZ, hh⟩ := hP
  have hml : c.maxLocals = 4 := hml0
  have hlk : meth.locks = false := Bd.notSynchronized
  have hret := Bd.returns
  have hnm := (name_of_methodNamed Bd.named Bd.method).1
  have P0 : Own.Wk Z "java/lang/String" jdk_42_method_147_code h0 p l e ({ frames := 1, cells := 0, slots := 0, locals := 18 } : Room) s m #[(.ref a1), (.ref t1), (.int (Int32.ofNat pos)), (.int (0 : Int32))] below meth c s₁ [] 0 0 := ⟨Stand.of_body Bd, Bd.exec, Bd.bytes, hZ, findClass_of_methodNamed Bd.named, by rw [← hh, Bd.state]; rfl⟩
  have N0 := Fr.nil n0
  show Own.Goes p.tables e below (fun s₂ o => ∃ v L, o = .returned v ∧ QrmGb Z a1 t1 kb vd ds pos zc h0 n0 v s₂.heap L ∧ FrameEnd s o s₂ L ({ frames := 1, cells := 0, slots := 0, locals := 18 } : Room).cells ({ frames := 1, cells := 0, slots := 0, locals := 18 } : Room).slots) (s₁.setTop (entryFrame m #[(.ref a1), (.ref t1), (.int (Int32.ofNat pos)), (.int (0 : Int32))] 4))
  rw [show entryFrame m #[(.ref a1), (.ref t1), (.int (Int32.ofNat pos)), (.int (0 : Int32))] 4 = mkF m 0 #[.val (.ref a1), .val (.ref t1), .val (.int (Int32.ofNat pos)), .val (.int (0 : Int32))] [] from by first | rfl | (rcases Own.refc hfm with rfl | ⟨_, rfl⟩ <;> rfl) | (simp [entryFrame, mkF, argsToLocals, Value.category]; done)]
  refine Own.aloadN (q := 1) P0 d23_0 rfl rfl rfl ?_
  obtain ⟨⟨t21, kb21, y21a, y21v, y21c, y21b⟩, -, -⟩ := id S1
  refine Own.invVirtual (q := 4) (W := 0) (y := (⟨"java/lang/String", "coder", "()B"⟩ : MethodName)) (a := a1) (argsL := []) (rest := []) P0 d23_1 (hw _ (List.mem_of_getElem? (i := 71) rfl)) (hw _ (List.mem_of_getElem? (i := 72) rfl)) (hw _ (List.mem_of_getElem? (i := 74) rfl)) (hw _ (List.mem_of_getElem? (i := 73) rfl)) (notFace_of_selects (args := #[]) (mvT P0.2.2.2.1 (hw _ (List.mem_of_getElem? (i := 74) rfl)))) (by decide) (backOf (W := 0) (rmCod l Z a0 hw [] a1 zc h0 n0 Z0 SC hzc y21c) P0.2.2.2.1 (hw _ (List.mem_of_getElem? (i := 75) rfl)) (hw _ (List.mem_of_getElem? (i := 10) rfl)) (by decide) (by decide)) S1.exa rfl rfl (by rw [hml]; rfl) (lenOf (show parseMethodDescriptor "()B" = some ⟨[], some .byte⟩ from by decide +kernel) rfl) (by show 2 * 0 + _ ≤ _; exact Nat.le_of_eq rfl) (by decide) (by decide) rfl ?_
  rintro v22 T22 h22 L22 ⟨rfl, N22q, e22⟩ P22
  rw [e22] at P22
  have N22 := Fr.app N0 N22q
  show Own.Goes _ _ _ _ (T22.setTop (mkF m 4 #[.val (.ref a1), .val (.ref t1), .val (.int (Int32.ofNat pos)), .val (.int (0 : Int32))] [(.int (0 : Int32))]))
  refine Own.iloadN (q := 5) P22 d23_4 rfl rfl ?_
  refine Own.icmp_ne (q := 8) (qy := 28) P22 d23_5 (by decide) rfl (fun q => absurd rfl q) (fun _ => ?_)
  refine Own.aloadN (q := 9) P22 d23_8 rfl rfl rfl ?_
  refine Own.getfield (q := 12) P22 d23_9 (hw _ (List.mem_of_getElem? (i := 27) rfl)) y21v rfl ?_
  intro T23 P23
  refine Own.iconst (q := 13) (v := (0 : Int32)) P23 d23_12 rfl rfl ?_
  refine Own.aloadN (q := 14) P23 d23_13 rfl rfl rfl ?_
  refine Own.iloadN (q := 15) P23 d23_14 rfl rfl ?_
  refine Own.iloadN (q := 16) P23 d23_15 rfl rfl ?_
  refine Own.ishl (q := 17) P23 d23_16  rfl ?_
  rw [show ((Int32.ofNat pos) <<< ((0 : Int32) &&& 31)) = Int32.ofNat pos from Own.shl0 _]
  refine Own.aloadN (q := 18) P23 d23_17 rfl rfl rfl ?_
  refine Own.getfield (q := 21) P23 d23_18 (hw _ (List.mem_of_getElem? (i := 27) rfl)) y21v rfl ?_
  intro T24 P24
  refine Own.arraylength (q := 22) P24 d23_21 y21b rfl ?_
  refine Own.copyA (q := 25) (W := 0) (n0 := n0) (d := pos) (j := ds.length) (us := ((ds.map fun c : Int32 => c.toInt8.toInt32).map Value.int)) P24 N22 d23_22 (hw _ (List.mem_of_getElem? (i := 135) rfl)) (hw _ (List.mem_of_getElem? (i := 138) rfl)) (hw _ (List.mem_of_getElem? (i := 136) rfl)) (hw _ (List.mem_of_getElem? (i := 137) rfl)) y21b A_t rfl (by decide) (Own.nneg (by have := hpos; omega)) (Own.nneg (by have := hpos; omega)) (by decide) (Own.clamp (by have := hpos; omega)) (Own.clamp (by have := hpos; omega)) (by rw [Own.clamp (by have := hpos; omega)]; exact Nat.le_refl _) (by show _ ≤ 16; exact hpos) (Own.range_get2 ds) (by rw [hvl]; exact hpos) g_t1 (by rw [hml]; rfl) (by decide) (by show 2 * 0 + _ ≤ _; exact Nat.le_of_eq rfl) (by decide) rfl ?_
  intro T25 h25 L25 N25 P25 K25 A25
  refine Own.goto (q := 43) P25 d23_25 (by decide) ?_
  refine Own.retV (Q := QrmGb Z a1 t1 kb vd ds pos zc h0 n0) P25 d23_43 hret hlk (by decide) (by decide) ?_
  exact ⟨rfl, N25, (Keep.trans (Keep.refl h0 _) K25 (allS (Or.inl (by simp)) all0)), A25⟩
theorem d21_0 : decode jdk_68_method_73_code 0 = .ok (.aload_n 0, 1) := by decide +kernel
theorem d21_1 : decode jdk_68_method_73_code 1 = .ok (.aload_n 2, 1) := by decide +kernel
theorem d21_2 : decode jdk_68_method_73_code 2 = .ok (.invokevirtual 397, 3) := by decide +kernel
theorem d21_5 : decode jdk_68_method_73_code 5 = .ok (.aload_n 2, 1) := by decide +kernel
theorem d21_6 : decode jdk_68_method_73_code 6 = .ok (.aload_n 0, 1) := by decide +kernel
theorem d21_7 : decode jdk_68_method_73_code 7 = .ok (.getfield 15, 3) := by decide +kernel
theorem d21_10 : decode jdk_68_method_73_code 10 = .ok (.iload_n 1, 1) := by decide +kernel
theorem d21_11 : decode jdk_68_method_73_code 11 = .ok (.aload_n 0, 1) := by decide +kernel
theorem d21_12 : decode jdk_68_method_73_code 12 = .ok (.getfield 22, 3) := by decide +kernel
theorem d21_15 : decode jdk_68_method_73_code 15 = .ok (.invokevirtual 399, 3) := by decide +kernel
theorem d21_18 : decode jdk_68_method_73_code 18 = .ok (.return_, 1) := by decide +kernel
theorem pn_21 : plainFor (⟨"java/lang/AbstractStringBuilder", "putStringAt", "(ILjava/lang/String;)V"⟩ : MethodName) = true := by first | exact plainFor_of_name (by first | (simp [plainName, overriddenIn]; done) | decide +kernel) | decide +kernel
def QrmPut (Z : State) (a1 : Addr) (t1 : Addr) (kb : ClassId) (vd : List Value) (a2 : Addr) (ds : List Int32) (pos : Nat) (zc : Int32) (h0 : Heap) (n0 : Nat) (v : Option Value) (h : Heap) (L : List Loc) : Prop := v = none ∧ Fr n0 L ∧ Keep h0 h [t1] ∧ Arv Z h t1 kb .byte 16 (vd.take pos ++ ((ds.map fun c : Int32 => c.toInt8.toInt32).map Value.int) ++ vd.drop (pos + ds.length)) (.int 0)
set_option maxRecDepth 65536 in
set_option maxHeartbeats 40000000 in
theorem rmPut (l : Launch) (Z : State) (a0 : Array Value) (hw : ∀ d ∈ tables_1, d.before a0 Z = true) (ws : List Jvm.Cond) (a1 : Addr) (t1 : Addr) (kb : ClassId) (vd : List Value) (a2 : Addr) (ds : List Int32) (pos : Nat) (zc : Int32) (h0 : Heap) (n0 : Nat) (Z0 : n0 ≤ h0.size) (SC : Sta Z h0 "java/lang/String" "COMPACT_STRINGS" "Z" (.int zc)) (hzc : ¬ zc = 0) (E_a1 : Exa Z h0 a1 "java/lang/StringBuilder") (f1 : Fld Z h0 a1 "java/lang/AbstractStringBuilder" "value" "[B" (.ref t1)) (f2 : Fld Z h0 a1 "java/lang/AbstractStringBuilder" "coder" "B" (.int 0)) (S2 : Own.Str Z h0 a2 ds) (A_t : Arv Z h0 t1 kb .byte 16 vd (.int 0)) (hpos : pos + ds.length ≤ 16) (hvl : vd.length = 16) (g_t1 : n0 ≤ t1) :
    MetFree l (⟨"java/lang/AbstractStringBuilder", "putStringAt", "(ILjava/lang/String;)V"⟩ : MethodName) (head1 (Jvm.Cond.code (⟨"java/lang/AbstractStringBuilder", "putStringAt", "(ILjava/lang/String;)V"⟩ : MethodName) jdk_68_method_73_code 3 none :: ws) ({ frames := 2, cells := 0, slots := 0, locals := 33 } : Room)) (fun a U => a = #[(.ref a1), (.int (Int32.ofNat pos)), (.ref a2)] ∧ Z.Warmed39 U.vm ∧ U.heap = h0) (fun _ _ _ _ _ => True) (fun _ U o U' => ∃ v L, o = .returned v ∧ QrmPut Z a1 t1 kb vd a2 ds pos zc h0 n0 v U'.heap L ∧ FrameEnd U o U' L ({ frames := 2, cells := 0, slots := 0, locals := 33 } : Room).cells ({ frames := 2, cells := 0, slots := 0, locals := 33 } : Room).slots) := by
  refine MetFree.of_bodySF pn_21 hisR ?_
  intro p e s m args below meth c s₁ Bd hml0 hP hK
  obtain ⟨rfl, hZ, hh⟩ := hP
  have hml : c.maxLocals = 3 := hml0
  have hlk : meth.locks = false := Bd.notSynchronized
  have hret := Bd.returns
  have hnm := (name_of_methodNamed Bd.named Bd.method).1
  have P0 : Own.Wk Z "java/lang/AbstractStringBuilder" jdk_68_method_73_code h0 p l e ({ frames := 2, cells := 0, slots := 0, locals := 33 } : Room) s m #[(.ref a1), (.int (Int32.ofNat pos)), (.ref a2)] below meth c s₁ [] 0 0 := ⟨Stand.of_body Bd, Bd.exec, Bd.bytes, hZ, findClass_of_methodNamed Bd.named, by rw [← hh, Bd.state]; rfl⟩
  have N0 := Fr.nil n0
  show Own.Goes p.tables e below (fun s₂ o => ∃ v L, o = .returned v ∧ QrmPut Z a1 t1 kb vd a2 ds pos zc h0 n0 v s₂.heap L ∧ FrameEnd s o s₂ L ({ frames := 2, cells := 0, slots := 0, locals := 33 } : Room).cells ({ frames := 2, cells := 0, slots := 0, locals := 33 } : Room).slots) (s₁.setTop (entryFrame m #[(.ref a1), (.int (Int32.ofNat pos)), (.ref a2)] 3))
  rw [show entryFrame m #[(.ref a1), (.int (Int32.ofNat pos)), (.ref a2)] 3 = mkF m 0 #[.val (.ref a1), .val (.int (Int32.ofNat pos)), .val (.ref a2)] [] from by first | rfl | (rcases Own.refc hfm with rfl | ⟨_, rfl⟩ <;> rfl) | (simp [entryFrame, mkF, argsToLocals, Value.category]; done)]
  refine Own.aloadN (q := 1) P0 d21_0 rfl rfl rfl ?_
  refine Own.aloadN (q := 2) P0 d21_1 rfl rfl rfl ?_
  refine Own.invVirtual (q := 5) (W := 0) (y := (⟨"java/lang/AbstractStringBuilder", "inflateIfNeededFor", "(Ljava/lang/String;)V"⟩ : MethodName)) (a := a1) (argsL := [(.ref a2)]) (rest := []) P0 d21_2 (hw _ (List.mem_of_getElem? (i := 124) rfl)) (Own.declOf (hw _ (List.mem_of_getElem? (i := 125) rfl)) (hw _ (List.mem_of_getElem? (i := 128) rfl))) (hw _ (List.mem_of_getElem? (i := 127) rfl)) (hw _ (List.mem_of_getElem? (i := 125) rfl)) (notFace_of_selects (args := #[]) (mvT P0.2.2.2.1 (hw _ (List.mem_of_getElem? (i := 127) rfl)))) (by decide) (backOf (W := 0) (rmInf l Z a0 hw [] a1 a2 ds zc h0 n0 Z0 SC hzc f2 S2) P0.2.2.2.1 (hw _ (List.mem_of_getElem? (i := 128) rfl)) (hw _ (List.mem_of_getElem? (i := 93) rfl)) (by decide) (by decide)) E_a1 rfl rfl (by rw [hml]; rfl) (lenOf (show parseMethodDescriptor "(Ljava/lang/String;)V" = some ⟨[(.object "java/lang/String")], none⟩ from by decide +kernel) rfl) (by show 2 * 0 + _ ≤ _; exact Nat.le_of_eq rfl) (by decide) (by decide) rfl ?_
  rintro v21 T21 h21 L21 ⟨rfl, N21q, e21⟩ P21
  rw [e21] at P21
  have N21 := Fr.app N0 N21q
  show Own.Goes _ _ _ _ (T21.setTop (mkF m 5 #[.val (.ref a1), .val (.int (Int32.ofNat pos)), .val (.ref a2)] []))
  refine Own.aloadN (q := 6) P21 d21_5 rfl rfl rfl ?_
  refine Own.aloadN (q := 7) P21 d21_6 rfl rfl rfl ?_
  refine Own.getfield (q := 10) P21 d21_7 (hw _ (List.mem_of_getElem? (i := 97) rfl)) f1 rfl ?_
  intro T22 P22
  refine Own.iloadN (q := 11) P22 d21_10 rfl rfl ?_
  refine Own.aloadN (q := 12) P22 d21_11 rfl rfl rfl ?_
  refine Own.getfield (q := 15) P22 d21_12 (hw _ (List.mem_of_getElem? (i := 99) rfl)) f2 rfl ?_
  intro T23 P23
  refine Own.invVirtual (q := 18) (W := 0) (y := (⟨"java/lang/String", "getBytes", "([BIB)V"⟩ : MethodName)) (a := a2) (argsL := [(.ref t1), (.int (Int32.ofNat pos)), (.int (0 : Int32))]) (rest := []) P23 d21_15 (hw _ (List.mem_of_getElem? (i := 130) rfl)) (hw _ (List.mem_of_getElem? (i := 131) rfl)) (hw _ (List.mem_of_getElem? (i := 133) rfl)) (hw _ (List.mem_of_getElem? (i := 132) rfl)) (notFace_of_selects (args := #[]) (mvT P23.2.2.2.1 (hw _ (List.mem_of_getElem? (i := 133) rfl)))) (by decide) (backOf (W := 0) (rmGb l Z a0 hw [] a2 t1 kb vd ds pos zc h0 n0 Z0 SC hzc S2 A_t hpos hvl g_t1) P23.2.2.2.1 (hw _ (List.mem_of_getElem? (i := 134) rfl)) (hw _ (List.mem_of_getElem? (i := 10) rfl)) (by decide) (by decide)) S2.exa rfl rfl (by rw [hml]; rfl) (lenOf (show parseMethodDescriptor "([BIB)V" = some ⟨[(.array .byte), .int, .byte], none⟩ from by decide +kernel) rfl) (by show 2 * 0 + _ ≤ _; exact Nat.le_of_eq rfl) (by decide) (by decide) rfl ?_
  rintro v24 T24 h24 L24 ⟨rfl, N24q, K24, A24⟩ P24
  have N24 := Fr.app N21 N24q
  show Own.Goes _ _ _ _ (T24.setTop (mkF m 18 #[.val (.ref a1), .val (.int (Int32.ofNat pos)), .val (.ref a2)] []))
  refine Own.retV (Q := QrmPut Z a1 t1 kb vd a2 ds pos zc h0 n0) P24 d21_18 hret hlk (by decide) (by decide) ?_
  exact ⟨rfl, N24, K24, A24⟩
theorem d19_0 : decode jdk_68_method_22_code 0 = .ok (.aload_n 1, 1) := by decide +kernel
theorem d19_1 : decode jdk_68_method_22_code 1 = .ok (.ifnonnull 8, 3) := by decide +kernel
theorem d19_4 : decode jdk_68_method_22_code 4 = .ok (.aload_n 0, 1) := by decide +kernel
theorem d19_5 : decode jdk_68_method_22_code 5 = .ok (.invokevirtual 204, 3) := by decide +kernel
theorem d19_8 : decode jdk_68_method_22_code 8 = .ok (.areturn, 1) := by decide +kernel
theorem d19_9 : decode jdk_68_method_22_code 9 = .ok (.aload_n 1, 1) := by decide +kernel
theorem d19_10 : decode jdk_68_method_22_code 10 = .ok (.invokevirtual 32, 3) := by decide +kernel
theorem d19_13 : decode jdk_68_method_22_code 13 = .ok (.istore_n 2, 1) := by decide +kernel
theorem d19_14 : decode jdk_68_method_22_code 14 = .ok (.aload_n 0, 1) := by decide +kernel
theorem d19_15 : decode jdk_68_method_22_code 15 = .ok (.aload_n 0, 1) := by decide +kernel
theorem d19_16 : decode jdk_68_method_22_code 16 = .ok (.getfield 79, 3) := by decide +kernel
theorem d19_19 : decode jdk_68_method_22_code 19 = .ok (.iload_n 2, 1) := by decide +kernel
theorem d19_20 : decode jdk_68_method_22_code 20 = .ok (.iadd, 1) := by decide +kernel
theorem d19_21 : decode jdk_68_method_22_code 21 = .ok (.invokevirtual 100, 3) := by decide +kernel
theorem d19_24 : decode jdk_68_method_22_code 24 = .ok (.aload_n 0, 1) := by decide +kernel
theorem d19_25 : decode jdk_68_method_22_code 25 = .ok (.aload_n 0, 1) := by decide +kernel
theorem d19_26 : decode jdk_68_method_22_code 26 = .ok (.getfield 79, 3) := by decide +kernel
theorem d19_29 : decode jdk_68_method_22_code 29 = .ok (.aload_n 1, 1) := by decide +kernel
theorem d19_30 : decode jdk_68_method_22_code 30 = .ok (.invokevirtual 208, 3) := by decide +kernel
theorem d19_33 : decode jdk_68_method_22_code 33 = .ok (.aload_n 0, 1) := by decide +kernel
theorem d19_34 : decode jdk_68_method_22_code 34 = .ok (.dup, 1) := by decide +kernel
theorem d19_35 : decode jdk_68_method_22_code 35 = .ok (.getfield 79, 3) := by decide +kernel
theorem d19_38 : decode jdk_68_method_22_code 38 = .ok (.iload_n 2, 1) := by decide +kernel
theorem d19_39 : decode jdk_68_method_22_code 39 = .ok (.iadd, 1) := by decide +kernel
theorem d19_40 : decode jdk_68_method_22_code 40 = .ok (.putfield 79, 3) := by decide +kernel
theorem d19_43 : decode jdk_68_method_22_code 43 = .ok (.aload_n 0, 1) := by decide +kernel
theorem d19_44 : decode jdk_68_method_22_code 44 = .ok (.areturn, 1) := by decide +kernel
theorem pn_19 : plainFor (⟨"java/lang/AbstractStringBuilder", "append", "(Ljava/lang/String;)Ljava/lang/AbstractStringBuilder;"⟩ : MethodName) = true := by first | exact plainFor_of_name (by first | (simp [plainName, overriddenIn]; done) | decide +kernel) | decide +kernel
def QrmAap (Z : State) (a1 : Addr) (t1 : Addr) (kb : ClassId) (cs : List Int32) (a2 : Addr) (ds : List Int32) (zc : Int32) (h0 : Heap) (n0 : Nat) (v : Option Value) (h : Heap) (L : List Loc) : Prop := v = some (.ref a1) ∧ Fr n0 L ∧ Keep h0 h [a1, t1] ∧ Exa Z h a1 "java/lang/StringBuilder" ∧ Fld Z h a1 "java/lang/AbstractStringBuilder" "value" "[B" (.ref t1) ∧ Fld Z h a1 "java/lang/AbstractStringBuilder" "coder" "B" (.int 0) ∧ Fld Z h a1 "java/lang/AbstractStringBuilder" "count" "I" (.int (Int32.ofNat (cs ++ ds).length)) ∧ Arv Z h t1 kb .byte 16 ((((cs ++ ds).map fun c : Int32 => c.toInt8.toInt32).map Value.int) ++ List.replicate (16 - (cs ++ ds).length) (Value.int 0)) (.int 0)
set_option maxRecDepth 65536 in
set_option maxHeartbeats 40000000 in
theorem rmAap (l : Launch) (Z : State) (a0 : Array Value) (hw : ∀ d ∈ tables_1, d.before a0 Z = true) (ws : List Jvm.Cond) (a1 : Addr) (t1 : Addr) (kb : ClassId) (cs : List Int32) (a2 : Addr) (ds : List Int32) (zc : Int32) (h0 : Heap) (n0 : Nat) (Z0 : n0 ≤ h0.size) (SC : Sta Z h0 "java/lang/String" "COMPACT_STRINGS" "Z" (.int zc)) (hzc : ¬ zc = 0) (E_a1 : Exa Z h0 a1 "java/lang/StringBuilder") (f1 : Fld Z h0 a1 "java/lang/AbstractStringBuilder" "value" "[B" (.ref t1)) (f2 : Fld Z h0 a1 "java/lang/AbstractStringBuilder" "coder" "B" (.int 0)) (f3 : Fld Z h0 a1 "java/lang/AbstractStringBuilder" "count" "I" (.int (Int32.ofNat cs.length))) (A_t : Arv Z h0 t1 kb .byte 16 (((cs.map fun c : Int32 => c.toInt8.toInt32).map Value.int) ++ List.replicate (16 - cs.length) (Value.int 0)) (.int 0)) (S2 : Own.Str Z h0 a2 ds) (hsz : cs.length + ds.length ≤ 16) (g_a1 : n0 ≤ a1) (g_t1 : n0 ≤ t1) :
    MetFree l (⟨"java/lang/AbstractStringBuilder", "append", "(Ljava/lang/String;)Ljava/lang/AbstractStringBuilder;"⟩ : MethodName) (head1 (Jvm.Cond.code (⟨"java/lang/AbstractStringBuilder", "append", "(Ljava/lang/String;)Ljava/lang/AbstractStringBuilder;"⟩ : MethodName) jdk_68_method_22_code 3 (some (.object "java/lang/AbstractStringBuilder")) :: ws) ({ frames := 3, cells := 0, slots := 0, locals := 48 } : Room)) (fun a U => a = #[(.ref a1), (.ref a2)] ∧ Z.Warmed39 U.vm ∧ U.heap = h0) (fun _ _ _ _ _ => True) (fun _ U o U' => ∃ v L, o = .returned v ∧ QrmAap Z a1 t1 kb cs a2 ds zc h0 n0 v U'.heap L ∧ FrameEnd U o U' L ({ frames := 3, cells := 0, slots := 0, locals := 48 } : Room).cells ({ frames := 3, cells := 0, slots := 0, locals := 48 } : Room).slots) := by
  refine MetFree.of_bodySF pn_19 hisR ?_
  intro p e s m args below meth c s₁ Bd hml0 hP hK
  obtain ⟨rfl, hZ, hh⟩ := hP
  have hml : c.maxLocals = 3 := hml0
  have hlk : meth.locks = false := Bd.notSynchronized
  have hret := Bd.returns
  have hnm := (name_of_methodNamed Bd.named Bd.method).1
  have P0 : Own.Wk Z "java/lang/AbstractStringBuilder" jdk_68_method_22_code h0 p l e ({ frames := 3, cells := 0, slots := 0, locals := 48 } : Room) s m #[(.ref a1), (.ref a2)] below meth c s₁ [] 0 0 := ⟨Stand.of_body Bd, Bd.exec, Bd.bytes, hZ, findClass_of_methodNamed Bd.named, by rw [← hh, Bd.state]; rfl⟩
  have N0 := Fr.nil n0
  show Own.Goes p.tables e below (fun s₂ o => ∃ v L, o = .returned v ∧ QrmAap Z a1 t1 kb cs a2 ds zc h0 n0 v s₂.heap L ∧ FrameEnd s o s₂ L ({ frames := 3, cells := 0, slots := 0, locals := 48 } : Room).cells ({ frames := 3, cells := 0, slots := 0, locals := 48 } : Room).slots) (s₁.setTop (entryFrame m #[(.ref a1), (.ref a2)] 3))
  rw [show entryFrame m #[(.ref a1), (.ref a2)] 3 = mkF m 0 #[.val (.ref a1), .val (.ref a2), .unset] [] from by first | rfl | (rcases Own.refc hfm with rfl | ⟨_, rfl⟩ <;> rfl) | (simp [entryFrame, mkF, argsToLocals, Value.category]; done)]
  refine Own.aloadN (q := 1) P0 d19_0 rfl rfl rfl ?_
  refine Own.nonnullY (q := 9) P0 d19_1 (by decide) ?_
  refine Own.aloadN (q := 10) P0 d19_9 rfl rfl rfl ?_
  refine Own.invVirtual (q := 13) (W := 0) (y := (⟨"java/lang/String", "length", "()I"⟩ : MethodName)) (a := a2) (argsL := []) (rest := []) P0 d19_10 (hw _ (List.mem_of_getElem? (i := 111) rfl)) (hw _ (List.mem_of_getElem? (i := 67) rfl)) (hw _ (List.mem_of_getElem? (i := 69) rfl)) (hw _ (List.mem_of_getElem? (i := 68) rfl)) (notFace_of_selects (args := #[]) (mvT P0.2.2.2.1 (hw _ (List.mem_of_getElem? (i := 69) rfl)))) (by decide) (Own.lenB (W := 0) (n0 := n0) P0.2.2.2.1 (fun d hd => hw d (sub_lenW d hd)) (hw _ (List.mem_of_getElem? (i := 9) rfl)) S2 SC hzc (by decide) (by decide)) S2.exa rfl rfl (by rw [hml]; rfl) (lenOf (show parseMethodDescriptor "()I" = some ⟨[], some .int⟩ from by decide +kernel) rfl) (by show 2 * 0 + _ ≤ _; exact Nat.le_of_eq rfl) (by decide) (by decide) rfl ?_
  rintro v21 T21 h21 L21 ⟨rfl, N21q, e21⟩ P21
  rw [e21] at P21
  have N21 := Fr.app N0 N21q
  show Own.Goes _ _ _ _ (T21.setTop (mkF m 13 #[.val (.ref a1), .val (.ref a2), .unset] [(.int (Int32.ofNat (ds : List Int32).length))]))
  refine Own.istoreN (q := 14) (L2 := #[.val (.ref a1), .val (.ref a2), .val (.int (Int32.ofNat (ds : List Int32).length))]) P21 d19_13 rfl rfl ?_
  refine Own.aloadN (q := 15) P21 d19_14 rfl rfl rfl ?_
  refine Own.aloadN (q := 16) P21 d19_15 rfl rfl rfl ?_
  refine Own.getfield (q := 19) P21 d19_16 (hw _ (List.mem_of_getElem? (i := 112) rfl)) f3 rfl ?_
  intro T22 P22
  refine Own.iloadN (q := 20) P22 d19_19 rfl rfl ?_
  refine Own.iadd (q := 21) P22 d19_20  rfl ?_
  refine Own.invVirtual (q := 24) (W := 0) (y := (⟨"java/lang/AbstractStringBuilder", "ensureCapacityInternal", "(I)V"⟩ : MethodName)) (a := a1) (argsL := [(.int ((Int32.ofNat cs.length) + (Int32.ofNat (ds : List Int32).length)))]) (rest := []) P22 d19_21 (hw _ (List.mem_of_getElem? (i := 114) rfl)) (Own.declOf (hw _ (List.mem_of_getElem? (i := 115) rfl)) (hw _ (List.mem_of_getElem? (i := 118) rfl))) (hw _ (List.mem_of_getElem? (i := 117) rfl)) (hw _ (List.mem_of_getElem? (i := 115) rfl)) (notFace_of_selects (args := #[]) (mvT P22.2.2.2.1 (hw _ (List.mem_of_getElem? (i := 117) rfl)))) (by decide) (backOf (W := 0) (rmEns l Z a0 hw [] a1 t1 kb (((cs.map fun c : Int32 => c.toInt8.toInt32).map Value.int) ++ List.replicate (16 - cs.length) (Value.int 0)) ((Int32.ofNat cs.length) + (Int32.ofNat (ds : List Int32).length)) h0 n0 Z0 f1 f2 A_t (Own.room16 hsz)) P22.2.2.2.1 (hw _ (List.mem_of_getElem? (i := 118) rfl)) (hw _ (List.mem_of_getElem? (i := 93) rfl)) (by decide) (by decide)) E_a1 rfl rfl (by rw [hml]; rfl) (lenOf (show parseMethodDescriptor "(I)V" = some ⟨[.int], none⟩ from by decide +kernel) rfl) (by show 2 * 0 + _ ≤ _; exact Nat.le_of_eq rfl) (by decide) (by decide) rfl ?_
  rintro v23 T23 h23 L23 ⟨rfl, N23q, e23⟩ P23
  rw [e23] at P23
  have N23 := Fr.app N21 N23q
  show Own.Goes _ _ _ _ (T23.setTop (mkF m 24 #[.val (.ref a1), .val (.ref a2), .val (.int (Int32.ofNat (ds : List Int32).length))] []))
  refine Own.aloadN (q := 25) P23 d19_24 rfl rfl rfl ?_
  refine Own.aloadN (q := 26) P23 d19_25 rfl rfl rfl ?_
  refine Own.getfield (q := 29) P23 d19_26 (hw _ (List.mem_of_getElem? (i := 112) rfl)) f3 rfl ?_
  intro T24 P24
  refine Own.aloadN (q := 30) P24 d19_29 rfl rfl rfl ?_
  refine Own.invVirtual (q := 33) (W := 0) (y := (⟨"java/lang/AbstractStringBuilder", "putStringAt", "(ILjava/lang/String;)V"⟩ : MethodName)) (a := a1) (argsL := [(.int (Int32.ofNat cs.length)), (.ref a2)]) (rest := []) P24 d19_30 (hw _ (List.mem_of_getElem? (i := 119) rfl)) (Own.declOf (hw _ (List.mem_of_getElem? (i := 120) rfl)) (hw _ (List.mem_of_getElem? (i := 123) rfl))) (hw _ (List.mem_of_getElem? (i := 122) rfl)) (hw _ (List.mem_of_getElem? (i := 120) rfl)) (notFace_of_selects (args := #[]) (mvT P24.2.2.2.1 (hw _ (List.mem_of_getElem? (i := 122) rfl)))) (by decide) (backOf (W := 0) (rmPut l Z a0 hw [] a1 t1 kb (((cs.map fun c : Int32 => c.toInt8.toInt32).map Value.int) ++ List.replicate (16 - cs.length) (Value.int 0)) a2 ds cs.length zc h0 n0 Z0 SC hzc E_a1 f1 f2 S2 A_t hsz (Own.vd_len (cs := cs) (by have := hsz; omega)) g_t1) P24.2.2.2.1 (hw _ (List.mem_of_getElem? (i := 123) rfl)) (hw _ (List.mem_of_getElem? (i := 93) rfl)) (by decide) (by decide)) E_a1 rfl rfl (by rw [hml]; rfl) (lenOf (show parseMethodDescriptor "(ILjava/lang/String;)V" = some ⟨[.int, (.object "java/lang/String")], none⟩ from by decide +kernel) rfl) (by show 2 * 0 + _ ≤ _; exact Nat.le_of_eq rfl) (by decide) (by decide) rfl ?_
  rintro v25 T25 h25 L25 ⟨rfl, N25q, K25, A25⟩ P25
  have N25 := Fr.app N23 N25q
  show Own.Goes _ _ _ _ (T25.setTop (mkF m 33 #[.val (.ref a1), .val (.ref a2), .val (.int (Int32.ofNat (ds : List Int32).length))] []))
  rw [Own.put_list] at A25
  refine Own.aloadN (q := 34) P25 d19_33 rfl rfl rfl ?_
  refine Own.dup (q := 35) P25 d19_34 rfl rfl ?_
  have qf26 := (Fld.keep f3 K25 (ninS (Exa.neArv E_a1 A_t (hw _ (List.mem_of_getElem? (i := 84) rfl))) nin0))
  refine Own.getfield (q := 38) P25 d19_35 (hw _ (List.mem_of_getElem? (i := 112) rfl)) qf26 rfl ?_
  intro T27 P27
  refine Own.iloadN (q := 39) P27 d19_38 rfl rfl ?_
  refine Own.iadd (q := 40) P27 d19_39  rfl ?_
  have qf28 := (Fld.keep f1 K25 (ninS (Exa.neArv E_a1 A_t (hw _ (List.mem_of_getElem? (i := 84) rfl))) nin0))
  have qf29 := (Fld.keep f2 K25 (ninS (Exa.neArv E_a1 A_t (hw _ (List.mem_of_getElem? (i := 84) rfl))) nin0))
  refine Own.putfield (q := 43) P27 d19_40 (hw _ (List.mem_of_getElem? (i := 112) rfl)) qf26 (E_a1.keep K25) (Or.inl (hw _ (List.mem_of_getElem? (i := 113) rfl))) (hw _ (List.mem_of_getElem? (i := 84) rfl)) (ty := .int) (by decide) rfl rfl rfl ?_
  intro T30 h30 lc30 hl30 P30 W30
  have F30_value := qf28.other W30 (Or.inr (slot_ne (Or.inl (hw _ (List.mem_of_getElem? (i := 98) rfl))) (Or.inl (hw _ (List.mem_of_getElem? (i := 113) rfl))) (by decide) (t := (.array .byte)) (t' := .int) (by decide) (by decide)))
  have F30_coder := qf29.other W30 (Or.inr (slot_ne (Or.inl (hw _ (List.mem_of_getElem? (i := 100) rfl))) (Or.inl (hw _ (List.mem_of_getElem? (i := 113) rfl))) (by decide) (t := .byte) (t' := .int) (by decide) (by decide)))
  have F30_count := Fld.same W30 qf26
  have A30 := (E_a1.keep K25).wr W30
  have N30 := Own.Fr.one N25 hl30 g_a1
  refine Own.aloadN (q := 44) P30 d19_43 rfl rfl rfl ?_
  have qf31 := (Arv.keep A25 (Keep.of_wr W30) (ninS (Ne.symm (Exa.neArv (E_a1.keep K25) A25 (hw _ (List.mem_of_getElem? (i := 84) rfl)))) nin0))
  refine Own.retA (Q := QrmAap Z a1 t1 kb cs a2 ds zc h0 n0) P30 d19_44 hret rfl rfl rfl hlk (by decide) (by decide) ?_
  exact ⟨rfl, N30, (Keep.wr (Keep.trans (Keep.refl h0 _) K25 (allS (Or.inl (by simp)) all0)) W30 (Or.inl (by simp))), A30, F30_value, F30_coder, by rw [List.length_append, Int32.ofNat_add]; exact F30_count, qf31⟩
theorem d18_0 : decode jdk_67_method_7_code 0 = .ok (.aload_n 0, 1) := by decide +kernel
theorem d18_1 : decode jdk_67_method_7_code 1 = .ok (.aload_n 1, 1) := by decide +kernel
theorem d18_2 : decode jdk_67_method_7_code 2 = .ok (.invokespecial 29, 3) := by decide +kernel
theorem d18_5 : decode jdk_67_method_7_code 5 = .ok (.pop, 1) := by decide +kernel
theorem d18_6 : decode jdk_67_method_7_code 6 = .ok (.aload_n 0, 1) := by decide +kernel
theorem d18_7 : decode jdk_67_method_7_code 7 = .ok (.areturn, 1) := by decide +kernel
theorem pn_18 : plainFor (⟨"java/lang/StringBuilder", "append", "(Ljava/lang/String;)Ljava/lang/StringBuilder;"⟩ : MethodName) = true := by first | exact plainFor_of_name (by first | (simp [plainName, overriddenIn]; done) | decide +kernel) | decide +kernel
def QrmSap (Z : State) (a1 : Addr) (t1 : Addr) (kb : ClassId) (cs : List Int32) (a2 : Addr) (ds : List Int32) (zc : Int32) (h0 : Heap) (n0 : Nat) (v : Option Value) (h : Heap) (L : List Loc) : Prop := v = some (.ref a1) ∧ Fr n0 L ∧ Keep h0 h [a1, t1] ∧ Exa Z h a1 "java/lang/StringBuilder" ∧ Fld Z h a1 "java/lang/AbstractStringBuilder" "value" "[B" (.ref t1) ∧ Fld Z h a1 "java/lang/AbstractStringBuilder" "coder" "B" (.int 0) ∧ Fld Z h a1 "java/lang/AbstractStringBuilder" "count" "I" (.int (Int32.ofNat (cs ++ ds).length)) ∧ Arv Z h t1 kb .byte 16 ((((cs ++ ds).map fun c : Int32 => c.toInt8.toInt32).map Value.int) ++ List.replicate (16 - (cs ++ ds).length) (Value.int 0)) (.int 0)
set_option maxRecDepth 65536 in
set_option maxHeartbeats 40000000 in
theorem rmSap (l : Launch) (Z : State) (a0 : Array Value) (hw : ∀ d ∈ tables_1, d.before a0 Z = true) (ws : List Jvm.Cond) (a1 : Addr) (t1 : Addr) (kb : ClassId) (cs : List Int32) (a2 : Addr) (ds : List Int32) (zc : Int32) (h0 : Heap) (n0 : Nat) (Z0 : n0 ≤ h0.size) (SC : Sta Z h0 "java/lang/String" "COMPACT_STRINGS" "Z" (.int zc)) (hzc : ¬ zc = 0) (E_a1 : Exa Z h0 a1 "java/lang/StringBuilder") (f1 : Fld Z h0 a1 "java/lang/AbstractStringBuilder" "value" "[B" (.ref t1)) (f2 : Fld Z h0 a1 "java/lang/AbstractStringBuilder" "coder" "B" (.int 0)) (f3 : Fld Z h0 a1 "java/lang/AbstractStringBuilder" "count" "I" (.int (Int32.ofNat cs.length))) (A_t : Arv Z h0 t1 kb .byte 16 (((cs.map fun c : Int32 => c.toInt8.toInt32).map Value.int) ++ List.replicate (16 - cs.length) (Value.int 0)) (.int 0)) (S2 : Own.Str Z h0 a2 ds) (hsz : cs.length + ds.length ≤ 16) (g_a1 : n0 ≤ a1) (g_t1 : n0 ≤ t1) :
    MetFree l (⟨"java/lang/StringBuilder", "append", "(Ljava/lang/String;)Ljava/lang/StringBuilder;"⟩ : MethodName) (head1 (Jvm.Cond.code (⟨"java/lang/StringBuilder", "append", "(Ljava/lang/String;)Ljava/lang/StringBuilder;"⟩ : MethodName) jdk_67_method_7_code 2 (some (.object "java/lang/StringBuilder")) :: ws) ({ frames := 4, cells := 0, slots := 0, locals := 62 } : Room)) (fun a U => a = #[(.ref a1), (.ref a2)] ∧ Z.Warmed39 U.vm ∧ U.heap = h0) (fun _ _ _ _ _ => True) (fun _ U o U' => ∃ v L, o = .returned v ∧ QrmSap Z a1 t1 kb cs a2 ds zc h0 n0 v U'.heap L ∧ FrameEnd U o U' L ({ frames := 4, cells := 0, slots := 0, locals := 62 } : Room).cells ({ frames := 4, cells := 0, slots := 0, locals := 62 } : Room).slots) := by
  refine MetFree.of_bodySF pn_18 hisR ?_
  intro p e s m args below meth c s₁ Bd hml0 hP hK
  obtain ⟨rfl, hZ, hh⟩ := hP
  have hml : c.maxLocals = 2 := hml0
  have hlk : meth.locks = false := Bd.notSynchronized
  have hret := Bd.returns
  have hnm := (name_of_methodNamed Bd.named Bd.method).1
  have P0 : Own.Wk Z "java/lang/StringBuilder" jdk_67_method_7_code h0 p l e ({ frames := 4, cells := 0, slots := 0, locals := 62 } : Room) s m #[(.ref a1), (.ref a2)] below meth c s₁ [] 0 0 := ⟨Stand.of_body Bd, Bd.exec, Bd.bytes, hZ, findClass_of_methodNamed Bd.named, by rw [← hh, Bd.state]; rfl⟩
  have N0 := Fr.nil n0
  show Own.Goes p.tables e below (fun s₂ o => ∃ v L, o = .returned v ∧ QrmSap Z a1 t1 kb cs a2 ds zc h0 n0 v s₂.heap L ∧ FrameEnd s o s₂ L ({ frames := 4, cells := 0, slots := 0, locals := 62 } : Room).cells ({ frames := 4, cells := 0, slots := 0, locals := 62 } : Room).slots) (s₁.setTop (entryFrame m #[(.ref a1), (.ref a2)] 2))
  rw [show entryFrame m #[(.ref a1), (.ref a2)] 2 = mkF m 0 #[.val (.ref a1), .val (.ref a2)] [] from by first | rfl | (rcases Own.refc hfm with rfl | ⟨_, rfl⟩ <;> rfl) | (simp [entryFrame, mkF, argsToLocals, Value.category]; done)]
  refine Own.aloadN (q := 1) P0 d18_0 rfl rfl rfl ?_
  refine Own.aloadN (q := 2) P0 d18_1 rfl rfl rfl ?_
  refine Own.invSuper (q := 5) (W := 0) (y := (⟨"java/lang/AbstractStringBuilder", "append", "(Ljava/lang/String;)Ljava/lang/AbstractStringBuilder;"⟩ : MethodName)) (a := a1) (argsL := [(.ref a2)]) (rest := []) P0 d18_2 (by decide) (hw _ (List.mem_of_getElem? (i := 106) rfl)) (Own.sameOwn (y := (⟨"java/lang/AbstractStringBuilder", "append", "(Ljava/lang/String;)Ljava/lang/AbstractStringBuilder;"⟩ : MethodName)) (hw _ (List.mem_of_getElem? (i := 107) rfl)) (hw _ (List.mem_of_getElem? (i := 154) rfl)) (hw _ (List.mem_of_getElem? (i := 155) rfl)) rfl (by decide)) (hw _ (List.mem_of_getElem? (i := 107) rfl)) (hw _ (List.mem_of_getElem? (i := 108) rfl)) (hw _ (List.mem_of_getElem? (i := 110) rfl)) (backOf (W := 0) (rmAap l Z a0 hw [] a1 t1 kb cs a2 ds zc h0 n0 Z0 SC hzc E_a1 f1 f2 f3 A_t S2 hsz g_a1 g_t1) P0.2.2.2.1 (hw _ (List.mem_of_getElem? (i := 110) rfl)) (hw _ (List.mem_of_getElem? (i := 93) rfl)) (by decide) (by decide)) E_a1 rfl rfl (by rw [hml]; rfl) (lenOf (show parseMethodDescriptor "(Ljava/lang/String;)Ljava/lang/AbstractStringBuilder;" = some ⟨[(.object "java/lang/String")], some (.object "java/lang/AbstractStringBuilder")⟩ from by decide +kernel) rfl) (by show 2 * 0 + _ ≤ _; exact Nat.le_of_eq rfl) (by decide) (by decide) rfl ?_
  rintro v21 T21 h21 L21 ⟨rfl, N21q, K21, E21a, V21, C21, n21, A21⟩ P21
  have N21 := Fr.app N0 N21q
  show Own.Goes _ _ _ _ (T21.setTop (mkF m 5 #[.val (.ref a1), .val (.ref a2)] [(.ref a1)]))
  refine Own.pop (q := 6) P21 d18_5 rfl rfl ?_
  refine Own.aloadN (q := 7) P21 d18_6 rfl rfl rfl ?_
  refine Own.retA (Q := QrmSap Z a1 t1 kb cs a2 ds zc h0 n0) P21 d18_7 hret rfl rfl rfl hlk (by decide) (by decide) ?_
  exact ⟨rfl, N21, K21, E21a, V21, C21, n21, A21⟩
theorem d32_0 : decode jdk_65_method_133_code 0 = .ok (.iload_n 1, 1) := by decide +kernel
theorem d32_1 : decode jdk_65_method_133_code 1 = .ok (.iload_n 2, 1) := by decide +kernel
theorem d32_2 : decode jdk_65_method_133_code 2 = .ok (.invokestatic 343, 3) := by decide +kernel
theorem d32_5 : decode jdk_65_method_133_code 5 = .ok (.iload_n 2, 1) := by decide +kernel
theorem d32_6 : decode jdk_65_method_133_code 6 = .ok (.iload_n 1, 1) := by decide +kernel
theorem d32_7 : decode jdk_65_method_133_code 7 = .ok (.isub, 1) := by decide +kernel
theorem d32_8 : decode jdk_65_method_133_code 8 = .ok (.istore_n 3, 1) := by decide +kernel
theorem d32_9 : decode jdk_65_method_133_code 9 = .ok (.iload_n 3, 1) := by decide +kernel
theorem d32_10 : decode jdk_65_method_133_code 10 = .ok (.newarray .byte, 2) := by decide +kernel
theorem d32_12 : decode jdk_65_method_133_code 12 = .ok (.astore 4, 2) := by decide +kernel
theorem d32_14 : decode jdk_65_method_133_code 14 = .ok (.aload_n 0, 1) := by decide +kernel
theorem d32_15 : decode jdk_65_method_133_code 15 = .ok (.iload_n 1, 1) := by decide +kernel
theorem d32_16 : decode jdk_65_method_133_code 16 = .ok (.aload 4, 2) := by decide +kernel
theorem d32_18 : decode jdk_65_method_133_code 18 = .ok (.iconst 0, 1) := by decide +kernel
theorem d32_19 : decode jdk_65_method_133_code 19 = .ok (.aload_n 0, 1) := by decide +kernel
theorem d32_20 : decode jdk_65_method_133_code 20 = .ok (.arraylength, 1) := by decide +kernel
theorem d32_21 : decode jdk_65_method_133_code 21 = .ok (.iload_n 1, 1) := by decide +kernel
theorem d32_22 : decode jdk_65_method_133_code 22 = .ok (.isub, 1) := by decide +kernel
theorem d32_23 : decode jdk_65_method_133_code 23 = .ok (.iload_n 3, 1) := by decide +kernel
theorem d32_24 : decode jdk_65_method_133_code 24 = .ok (.invokestatic 304, 3) := by decide +kernel
theorem d32_27 : decode jdk_65_method_133_code 27 = .ok (.invokestatic 150, 3) := by decide +kernel
theorem d32_30 : decode jdk_65_method_133_code 30 = .ok (.aload 4, 2) := by decide +kernel
theorem d32_32 : decode jdk_65_method_133_code 32 = .ok (.areturn, 1) := by decide +kernel
theorem pn_32 : plainFor (⟨"java/util/Arrays", "copyOfRangeByte", "([BII)[B"⟩ : MethodName) = true := by first | exact plainFor_of_name (by first | (simp [plainName, overriddenIn]; done) | decide +kernel) | decide +kernel
def QrmCrb (Z : State) (t1 : Addr) (kb : ClassId) (z : Nat) (vs : List Value) (f : Nat) (n : Nat) (e1 : Nat) (h0 : Heap) (n0 : Nat) (v : Option Value) (h : Heap) (L : List Loc) : Prop := ∃ r kr, v = some (.ref r) ∧ Fr n0 L ∧ Ext h0 h ∧ h0.size ≤ r ∧ Arv Z h r kr .byte (Int32.ofNat n) ((vs.drop f).take n) (.int 0)
set_option maxRecDepth 65536 in
set_option maxHeartbeats 40000000 in
theorem rmCrb (l : Launch) (Z : State) (a0 : Array Value) (hw : ∀ d ∈ tables_1, d.before a0 Z = true) (ws : List Jvm.Cond) (t1 : Addr) (kb : ClassId) (z : Nat) (vs : List Value) (f : Nat) (n : Nat) (e1 : Nat) (h0 : Heap) (n0 : Nat) (Z0 : n0 ≤ h0.size) (A_t : Arv Z h0 t1 kb .byte (Int32.ofNat z) vs (.int 0)) (hvl : vs.length = z) (hfn : f + n ≤ z) (hz4 : z ≤ 4000) (hn16 : n ≤ 16) (he : e1 = f + n) :
    MetFree l (⟨"java/util/Arrays", "copyOfRangeByte", "([BII)[B"⟩ : MethodName) (head1 (Jvm.Cond.code (⟨"java/util/Arrays", "copyOfRangeByte", "([BII)[B"⟩ : MethodName) jdk_65_method_133_code 5 (some (.array .byte)) :: ws) ({ frames := 1, cells := 1, slots := 16, locals := 18 } : Room)) (fun a U => a = #[(.ref t1), (.int (Int32.ofNat f)), (.int (Int32.ofNat e1))] ∧ Z.Warmed39 U.vm ∧ U.heap = h0) (fun _ _ _ _ _ => True) (fun _ U o U' => ∃ v L, o = .returned v ∧ QrmCrb Z t1 kb z vs f n e1 h0 n0 v U'.heap L ∧ FrameEnd U o U' L ({ frames := 1, cells := 1, slots := 16, locals := 18 } : Room).cells ({ frames := 1, cells := 1, slots := 16, locals := 18 } : Room).slots) := by
  refine MetFree.of_bodySF pn_32 hisR ?_
  intro p e s m args below meth c s₁ Bd hml0 hP hK
  obtain ⟨rfl, hZ, hh⟩ := hP
  have hml : c.maxLocals = 5 := hml0
  have hlk : meth.locks = false := Bd.notSynchronized
  have hret := Bd.returns
  have hnm := (name_of_methodNamed Bd.named Bd.method).1
  have P0 : Own.Wk Z "java/util/Arrays" jdk_65_method_133_code h0 p l e ({ frames := 1, cells := 1, slots := 16, locals := 18 } : Room) s m #[(.ref t1), (.int (Int32.ofNat f)), (.int (Int32.ofNat e1))] below meth c s₁ [] 0 0 := ⟨Stand.of_body Bd, Bd.exec, Bd.bytes, hZ, findClass_of_methodNamed Bd.named, by rw [← hh, Bd.state]; rfl⟩
  have N0 := Fr.nil n0
  show Own.Goes p.tables e below (fun s₂ o => ∃ v L, o = .returned v ∧ QrmCrb Z t1 kb z vs f n e1 h0 n0 v s₂.heap L ∧ FrameEnd s o s₂ L ({ frames := 1, cells := 1, slots := 16, locals := 18 } : Room).cells ({ frames := 1, cells := 1, slots := 16, locals := 18 } : Room).slots) (s₁.setTop (entryFrame m #[(.ref t1), (.int (Int32.ofNat f)), (.int (Int32.ofNat e1))] 5))
  rw [show entryFrame m #[(.ref t1), (.int (Int32.ofNat f)), (.int (Int32.ofNat e1))] 5 = mkF m 0 #[.val (.ref t1), .val (.int (Int32.ofNat f)), .val (.int (Int32.ofNat e1)), .unset, .unset] [] from by first | rfl | (rcases Own.refc hfm with rfl | ⟨_, rfl⟩ <;> rfl) | (simp [entryFrame, mkF, argsToLocals, Value.category]; done)]
  refine Own.iloadN (q := 1) P0 d32_0 rfl rfl ?_
  refine Own.iloadN (q := 2) P0 d32_1 rfl rfl ?_
  refine Own.invStatic (q := 5) (W := 0) (y := (⟨"java/util/Arrays", "checkLength", "(II)V"⟩ : MethodName)) (argsL := [(.int (Int32.ofNat f)), (.int (Int32.ofNat e1))]) (rest := []) P0 d32_2 (hw _ (List.mem_of_getElem? (i := 177) rfl)) (hw _ (List.mem_of_getElem? (i := 178) rfl)) (hw _ (List.mem_of_getElem? (i := 172) rfl)) (hw _ (List.mem_of_getElem? (i := 179) rfl)) (by decide) (backOf (W := 0) (rmCl l Z a0 hw [] (Int32.ofNat f) (Int32.ofNat e1) h0 n0 Z0 (Own.leE he (by have := hfn; have := hz4; have := hn16; have := he; omega))) P0.2.2.2.1 (hw _ (List.mem_of_getElem? (i := 179) rfl)) (hw _ (List.mem_of_getElem? (i := 172) rfl)) (by decide) (by decide)) rfl rfl (by rw [hml]; rfl) (lenOf (show parseMethodDescriptor "(II)V" = some ⟨[.int, .int], none⟩ from by decide +kernel) rfl) (by show 2 * 0 + _ ≤ _; exact Nat.le_of_eq rfl) (by decide) (by decide) rfl ?_
  rintro v21 T21 h21 L21 ⟨rfl, N21q, e21⟩ P21
  rw [e21] at P21
  have N21 := Fr.app N0 N21q
  show Own.Goes _ _ _ _ (T21.setTop (mkF m 5 #[.val (.ref t1), .val (.int (Int32.ofNat f)), .val (.int (Int32.ofNat e1)), .unset, .unset] []))
  refine Own.iloadN (q := 6) P21 d32_5 rfl rfl ?_
  refine Own.iloadN (q := 7) P21 d32_6 rfl rfl ?_
  refine Own.isub (q := 8) P21 d32_7  rfl ?_
  rw [show ((Int32.ofNat e1) - (Int32.ofNat f)) = (Int32.ofNat n) from Own.subE he]
  show Own.Goes _ _ _ _ (T21.setTop (mkF m 8 #[.val (.ref t1), .val (.int (Int32.ofNat f)), .val (.int (Int32.ofNat e1)), .unset, .unset] [(.int (Int32.ofNat n))]))
  refine Own.istoreN (q := 9) (L2 := #[.val (.ref t1), .val (.int (Int32.ofNat f)), .val (.int (Int32.ofNat e1)), .val (.int (Int32.ofNat n)), .unset]) P21 d32_8 rfl rfl ?_
  refine Own.iloadN (q := 10) P21 d32_9 rfl rfl ?_
  refine Own.newarr (q := 12) (cap := 16) P21 d32_10 (hw _ (List.mem_of_getElem? (i := 22) rfl)) (Own.nneg (by have := hfn; have := hz4; have := hn16; have := he; omega)) (by rw [Own.clamp (by have := hfn; have := hz4; have := hn16; have := he; omega)]; exact hn16) (by decide) (by decide) (by decide) rfl ?_
  intro T22 h22 a22 k22 ha22 P22 E22 A22
  have V22 : Arv Z h22 a22 k22 .byte (Int32.ofNat n) (List.replicate n (.int 0)) (.int 0) := Arv.pad A22 (pad_rep [] _ n)
  refine Own.astore (q := 14) (L2 := #[.val (.ref t1), .val (.int (Int32.ofNat f)), .val (.int (Int32.ofNat e1)), .val (.int (Int32.ofNat n)), .val (.ref a22)]) P22 d32_12 rfl rfl rfl ?_
  refine Own.aloadN (q := 15) P22 d32_14 rfl rfl rfl ?_
  refine Own.iloadN (q := 16) P22 d32_15 rfl rfl ?_
  refine Own.aload (q := 18) P22 d32_16 rfl rfl rfl ?_
  refine Own.iconst (q := 19) (v := (0 : Int32)) P22 d32_18 rfl rfl ?_
  refine Own.aloadN (q := 20) P22 d32_19 rfl rfl rfl ?_
  have E0_1_23 : Ext h0 h22 := E22
  refine Own.arraylength (q := 21) P22 d32_20 (A_t.ext E0_1_23) rfl ?_
  refine Own.iloadN (q := 22) P22 d32_21 rfl rfl ?_
  refine Own.isub (q := 23) P22 d32_22  rfl ?_
  refine Own.iloadN (q := 24) P22 d32_23 rfl rfl ?_
  refine Own.invStatic (q := 27) (W := 4) (y := (⟨"java/lang/Math", "min", "(II)I"⟩ : MethodName)) (argsL := [(.int ((Int32.ofNat z) - (Int32.ofNat f))), (.int (Int32.ofNat n))]) (rest := [(.int (0 : Int32)), (.ref a22), (.int (Int32.ofNat f)), (.ref t1)]) P22 d32_24 (hw _ (List.mem_of_getElem? (i := 180) rfl)) (hw _ (List.mem_of_getElem? (i := 181) rfl)) (hw _ (List.mem_of_getElem? (i := 182) rfl)) (hw _ (List.mem_of_getElem? (i := 183) rfl)) (by decide) (backOf (W := 4) (rmMin l Z a0 hw [] ((Int32.ofNat z) - (Int32.ofNat f)) (Int32.ofNat n) h22 n0 (Nat.le_trans Z0 E0_1_23.1) ) P22.2.2.2.1 (hw _ (List.mem_of_getElem? (i := 183) rfl)) (hw _ (List.mem_of_getElem? (i := 182) rfl)) (by decide) (by decide)) rfl rfl (by rw [hml]; rfl) (lenOf (show parseMethodDescriptor "(II)I" = some ⟨[.int, .int], some .int⟩ from by decide +kernel) rfl) (by show 2 * 0 + _ ≤ _; exact Nat.le_of_eq rfl) (by decide) (by decide) rfl ?_
  rintro v24 T24 h24 L24 ⟨rfl, N24q, e24⟩ P24
  rw [e24] at P24
  have N24 := Fr.app N21 N24q
  show Own.Goes _ _ _ _ (T24.setTop (mkF m 27 #[.val (.ref t1), .val (.int (Int32.ofNat f)), .val (.int (Int32.ofNat e1)), .val (.int (Int32.ofNat n)), .val (.ref a22)] [(.int (if (Int32.ofNat n) < ((Int32.ofNat z) - (Int32.ofNat f)) then (Int32.ofNat n) else ((Int32.ofNat z) - (Int32.ofNat f)))), (.int (0 : Int32)), (.ref a22), (.int (Int32.ofNat f)), (.ref t1)]))
  rw [show (if (Int32.ofNat n) < ((Int32.ofNat z) - (Int32.ofNat f)) then (Int32.ofNat n) else ((Int32.ofNat z) - (Int32.ofNat f))) = (Int32.ofNat n) from Own.minE hfn hz4]
  show Own.Goes _ _ _ _ (T24.setTop (mkF m 27 #[.val (.ref t1), .val (.int (Int32.ofNat f)), .val (.int (Int32.ofNat e1)), .val (.int (Int32.ofNat n)), .val (.ref a22)] [(.int (Int32.ofNat n)), (.int (0 : Int32)), (.ref a22), (.int (Int32.ofNat f)), (.ref t1)]))
  refine Own.copyB (q := 30) (W := 0) (n0 := n0) (sp0 := f) (d := 0) (j := n) (us := (vs.drop f).take n) P24 N24 d32_27 (hw _ (List.mem_of_getElem? (i := 184) rfl)) (hw _ (List.mem_of_getElem? (i := 138) rfl)) (hw _ (List.mem_of_getElem? (i := 136) rfl)) (hw _ (List.mem_of_getElem? (i := 137) rfl)) (A_t.ext E0_1_23) V22 rfl (Own.nneg (by have := hfn; have := hz4; have := hn16; have := he; omega)) (by decide) (Own.nneg (by have := hfn; have := hz4; have := hn16; have := he; omega)) (Own.clamp (by have := hfn; have := hz4; have := hn16; have := he; omega)) (by decide) (Own.clamp (by have := hfn; have := hz4; have := hn16; have := he; omega)) (by rw [Own.clamp hz4]; exact hfn) (by rw [Own.clamp (by have := hfn; have := hz4; have := hn16; have := he; omega), Nat.zero_add]; exact Nat.le_refl _) (Own.range_drop _ hvl hfn) (by rw [List.length_replicate, Nat.zero_add]; exact Nat.le_refl _) (Nat.le_trans Z0 (Nat.le_of_eq ha22.symm)) (by rw [hml]; rfl) (by decide) (by show 2 * 0 + _ ≤ _; exact Nat.le_of_eq rfl) (by decide) rfl ?_
  intro T25 h25 L25 N25 P25 K25 A25
  rw [Own.cr_list] at A25
  refine Own.aload (q := 32) P25 d32_30 rfl rfl rfl ?_
  have E0_2_26 : Ext h0 h25 := (Own.Ext.kp E0_1_23 K25 (allS (Nat.le_of_eq ha22.symm) all0))
  refine Own.retA (Q := QrmCrb Z t1 kb z vs f n e1 h0 n0) P25 d32_32 hret rfl rfl rfl hlk (by decide) (by decide) ?_
  exact ⟨_, _, rfl, N25, E0_2_26, (Nat.le_of_eq ha22.symm), A25⟩
theorem d31_0 : decode jdk_65_method_132_code 0 = .ok (.iload_n 1, 1) := by decide +kernel
theorem d31_1 : decode jdk_65_method_132_code 1 = .ok (.ifCond .ne 9, 3) := by decide +kernel
theorem d31_4 : decode jdk_65_method_132_code 4 = .ok (.iload_n 2, 1) := by decide +kernel
theorem d31_5 : decode jdk_65_method_132_code 5 = .ok (.aload_n 0, 1) := by decide +kernel
theorem d31_6 : decode jdk_65_method_132_code 6 = .ok (.arraylength, 1) := by decide +kernel
theorem d31_7 : decode jdk_65_method_132_code 7 = .ok (.if_icmp .eq 10, 3) := by decide +kernel
theorem d31_10 : decode jdk_65_method_132_code 10 = .ok (.aload_n 0, 1) := by decide +kernel
theorem d31_11 : decode jdk_65_method_132_code 11 = .ok (.iload_n 1, 1) := by decide +kernel
theorem d31_12 : decode jdk_65_method_132_code 12 = .ok (.iload_n 2, 1) := by decide +kernel
theorem d31_13 : decode jdk_65_method_132_code 13 = .ok (.invokestatic 339, 3) := by decide +kernel
theorem d31_16 : decode jdk_65_method_132_code 16 = .ok (.areturn, 1) := by decide +kernel
theorem d31_17 : decode jdk_65_method_132_code 17 = .ok (.aload_n 0, 1) := by decide +kernel
theorem d31_18 : decode jdk_65_method_132_code 18 = .ok (.invokevirtual 310, 3) := by decide +kernel
theorem d31_21 : decode jdk_65_method_132_code 21 = .ok (.checkcast 311, 3) := by decide +kernel
theorem d31_24 : decode jdk_65_method_132_code 24 = .ok (.areturn, 1) := by decide +kernel
theorem pn_31 : plainFor (⟨"java/util/Arrays", "copyOfRange", "([BII)[B"⟩ : MethodName) = true := by first | exact plainFor_of_name (by first | (simp [plainName, overriddenIn]; done) | decide +kernel) | decide +kernel
def QrmCr (Z : State) (t1 : Addr) (kb : ClassId) (z : Nat) (vs : List Value) (f : Nat) (n : Nat) (e1 : Nat) (h0 : Heap) (n0 : Nat) (v : Option Value) (h : Heap) (L : List Loc) : Prop := ∃ r kr, v = some (.ref r) ∧ Fr n0 L ∧ Ext h0 h ∧ h0.size ≤ r ∧ Arv Z h r kr .byte (Int32.ofNat n) ((vs.drop f).take n) (.int 0)
set_option maxRecDepth 65536 in
set_option maxHeartbeats 40000000 in
theorem rmCr (l : Launch) (Z : State) (a0 : Array Value) (hw : ∀ d ∈ tables_1, d.before a0 Z = true) (ws : List Jvm.Cond) (t1 : Addr) (kb : ClassId) (z : Nat) (vs : List Value) (f : Nat) (n : Nat) (e1 : Nat) (h0 : Heap) (n0 : Nat) (Z0 : n0 ≤ h0.size) (A_t : Arv Z h0 t1 kb .byte (Int32.ofNat z) vs (.int 0)) (hvl : vs.length = z) (hfn : f + n ≤ z) (hz4 : z ≤ 4000) (hn16 : n ≤ 16) (he : e1 = f + n) (hne : ¬ (f = 0 ∧ n = z)) :
    MetFree l (⟨"java/util/Arrays", "copyOfRange", "([BII)[B"⟩ : MethodName) (head1 (Jvm.Cond.code (⟨"java/util/Arrays", "copyOfRange", "([BII)[B"⟩ : MethodName) jdk_65_method_132_code 3 (some (.array .byte)) :: ws) ({ frames := 2, cells := 1, slots := 16, locals := 34 } : Room)) (fun a U => a = #[(.ref t1), (.int (Int32.ofNat f)), (.int (Int32.ofNat e1))] ∧ Z.Warmed39 U.vm ∧ U.heap = h0) (fun _ _ _ _ _ => True) (fun _ U o U' => ∃ v L, o = .returned v ∧ QrmCr Z t1 kb z vs f n e1 h0 n0 v U'.heap L ∧ FrameEnd U o U' L ({ frames := 2, cells := 1, slots := 16, locals := 34 } : Room).cells ({ frames := 2, cells := 1, slots := 16, locals := 34 } : Room).slots) := by
  refine MetFree.of_bodySF pn_31 hisR ?_
  intro p e s m args below meth c s₁ Bd hml0 hP hK
  obtain ⟨rfl, hZ, hh⟩ := hP
  have hml : c.maxLocals = 3 := hml0
  have hlk : meth.locks = false := Bd.notSynchronized
  have hret := Bd.returns
  have hnm := (name_of_methodNamed Bd.named Bd.method).1
  have P0 : Own.Wk Z "java/util/Arrays" jdk_65_method_132_code h0 p l e ({ frames := 2, cells := 1, slots := 16, locals := 34 } : Room) s m #[(.ref t1), (.int (Int32.ofNat f)), (.int (Int32.ofNat e1))] below meth c s₁ [] 0 0 := ⟨Stand.of_body Bd, Bd.exec, Bd.bytes, hZ, findClass_of_methodNamed Bd.named, by rw [← hh, Bd.state]; rfl⟩
  have N0 := Fr.nil n0
  show Own.Goes p.tables e below (fun s₂ o => ∃ v L, o = .returned v ∧ QrmCr Z t1 kb z vs f n e1 h0 n0 v s₂.heap L ∧ FrameEnd s o s₂ L ({ frames := 2, cells := 1, slots := 16, locals := 34 } : Room).cells ({ frames := 2, cells := 1, slots := 16, locals := 34 } : Room).slots) (s₁.setTop (entryFrame m #[(.ref t1), (.int (Int32.ofNat f)), (.int (Int32.ofNat e1))] 3))
  rw [show entryFrame m #[(.ref t1), (.int (Int32.ofNat f)), (.int (Int32.ofNat e1))] 3 = mkF m 0 #[.val (.ref t1), .val (.int (Int32.ofNat f)), .val (.int (Int32.ofNat e1))] [] from by first | rfl | (rcases Own.refc hfm with rfl | ⟨_, rfl⟩ <;> rfl) | (simp [entryFrame, mkF, argsToLocals, Value.category]; done)]
  refine Own.iloadN (q := 1) P0 d31_0 rfl rfl ?_
  refine Own.if_ne (q := 4) (qy := 10) P0 d31_1 (by decide) rfl (fun q1 => ?_) (fun q1 => ?_)
  · refine Own.aloadN (q := 11) P0 d31_10 rfl rfl rfl ?_
    refine Own.iloadN (q := 12) P0 d31_11 rfl rfl ?_
    refine Own.iloadN (q := 13) P0 d31_12 rfl rfl ?_
    refine Own.invStatic (q := 16) (W := 0) (y := (⟨"java/util/Arrays", "copyOfRangeByte", "([BII)[B"⟩ : MethodName)) (argsL := [(.ref t1), (.int (Int32.ofNat f)), (.int (Int32.ofNat e1))]) (rest := []) P0 d31_13 (hw _ (List.mem_of_getElem? (i := 174) rfl)) (hw _ (List.mem_of_getElem? (i := 175) rfl)) (hw _ (List.mem_of_getElem? (i := 172) rfl)) (hw _ (List.mem_of_getElem? (i := 176) rfl)) (by decide) (backOf (W := 0) (rmCrb l Z a0 hw [] t1 kb z vs f n e1 h0 n0 Z0 A_t hvl hfn hz4 hn16 he) P0.2.2.2.1 (hw _ (List.mem_of_getElem? (i := 176) rfl)) (hw _ (List.mem_of_getElem? (i := 172) rfl)) (by decide) (by decide)) rfl rfl (by rw [hml]; rfl) (lenOf (show parseMethodDescriptor "([BII)[B" = some ⟨[(.array .byte), .int, .int], some (.array .byte)⟩ from by decide +kernel) rfl) (by show 2 * 0 + _ ≤ _; exact Nat.le_of_eq rfl) (by decide) (by decide) rfl ?_
    rintro v21 T21 h21 L21 ⟨r21, kr21, rfl, N21q, E21, gr21, B21⟩ P21
    have N21 := Fr.app N0 N21q
    show Own.Goes _ _ _ _ (T21.setTop (mkF m 16 #[.val (.ref t1), .val (.int (Int32.ofNat f)), .val (.int (Int32.ofNat e1))] [(.ref r21)]))
    refine Own.retA (Q := QrmCr Z t1 kb z vs f n e1 h0 n0) P21 d31_16 hret rfl rfl rfl hlk (by decide) (by decide) ?_
    exact ⟨_, _, rfl, N21, E21, gr21, B21⟩
  · refine Own.iloadN (q := 5) P0 d31_4 rfl rfl ?_
    refine Own.aloadN (q := 6) P0 d31_5 rfl rfl rfl ?_
    refine Own.arraylength (q := 7) P0 d31_6 A_t rfl ?_
    refine Own.icmp_eq (q := 10) (qy := 17) P0 d31_7 (by decide) rfl (fun q => (Own.crNe he hfn hz4 hne q1 q).elim) (fun _ => ?_)
    refine Own.aloadN (q := 11) P0 d31_10 rfl rfl rfl ?_
    refine Own.iloadN (q := 12) P0 d31_11 rfl rfl ?_
    refine Own.iloadN (q := 13) P0 d31_12 rfl rfl ?_
    refine Own.invStatic (q := 16) (W := 0) (y := (⟨"java/util/Arrays", "copyOfRangeByte", "([BII)[B"⟩ : MethodName)) (argsL := [(.ref t1), (.int (Int32.ofNat f)), (.int (Int32.ofNat e1))]) (rest := []) P0 d31_13 (hw _ (List.mem_of_getElem? (i := 174) rfl)) (hw _ (List.mem_of_getElem? (i := 175) rfl)) (hw _ (List.mem_of_getElem? (i := 172) rfl)) (hw _ (List.mem_of_getElem? (i := 176) rfl)) (by decide) (backOf (W := 0) (rmCrb l Z a0 hw [] t1 kb z vs f n e1 h0 n0 Z0 A_t hvl hfn hz4 hn16 he) P0.2.2.2.1 (hw _ (List.mem_of_getElem? (i := 176) rfl)) (hw _ (List.mem_of_getElem? (i := 172) rfl)) (by decide) (by decide)) rfl rfl (by rw [hml]; rfl) (lenOf (show parseMethodDescriptor "([BII)[B" = some ⟨[(.array .byte), .int, .int], some (.array .byte)⟩ from by decide +kernel) rfl) (by show 2 * 0 + _ ≤ _; exact Nat.le_of_eq rfl) (by decide) (by decide) rfl ?_
    rintro v22 T22 h22 L22 ⟨r22, kr22, rfl, N22q, E22, gr22, B22⟩ P22
    have N22 := Fr.app N0 N22q
    show Own.Goes _ _ _ _ (T22.setTop (mkF m 16 #[.val (.ref t1), .val (.int (Int32.ofNat f)), .val (.int (Int32.ofNat e1))] [(.ref r22)]))
    refine Own.retA (Q := QrmCr Z t1 kb z vs f n e1 h0 n0) P22 d31_16 hret rfl rfl rfl hlk (by decide) (by decide) ?_
    exact ⟨_, _, rfl, N22, E22, gr22, B22⟩
theorem d28_0 : decode jdk_67_method_93_code 0 = .ok (.aload_n 0, 1) := by decide +kernel
theorem d28_1 : decode jdk_67_method_93_code 1 = .ok (.invokespecial 343, 3) := by decide +kernel
theorem d28_4 : decode jdk_67_method_93_code 4 = .ok (.ireturn, 1) := by decide +kernel
theorem pn_28 : plainFor (⟨"java/lang/StringBuilder", "length", "()I"⟩ : MethodName) = true := by first | exact plainFor_of_name (by first | (simp [plainName, overriddenIn]; done) | decide +kernel) | decide +kernel
def QrmSln (Z : State) (a1 : Addr) (n1 : Int32) (h0 : Heap) (n0 : Nat) (v : Option Value) (h : Heap) (L : List Loc) : Prop := v = some (.int n1) ∧ Fr n0 L ∧ h = h0
set_option maxRecDepth 65536 in
set_option maxHeartbeats 40000000 in
theorem rmSln (l : Launch) (Z : State) (a0 : Array Value) (hw : ∀ d ∈ tables_1, d.before a0 Z = true) (ws : List Jvm.Cond) (a1 : Addr) (n1 : Int32) (h0 : Heap) (n0 : Nat) (Z0 : n0 ≤ h0.size) (E_a1 : Exa Z h0 a1 "java/lang/StringBuilder") (f3 : Fld Z h0 a1 "java/lang/AbstractStringBuilder" "count" "I" (.int n1)) :
    MetFree l (⟨"java/lang/StringBuilder", "length", "()I"⟩ : MethodName) (head1 (Jvm.Cond.code (⟨"java/lang/StringBuilder", "length", "()I"⟩ : MethodName) jdk_67_method_93_code 1 (some .int) :: ws) ({ frames := 1, cells := 0, slots := 0, locals := 12 } : Room)) (fun a U => a = #[(.ref a1)] ∧ Z.Warmed39 U.vm ∧ U.heap = h0) (fun _ _ _ _ _ => True) (fun _ U o U' => ∃ v L, o = .returned v ∧ QrmSln Z a1 n1 h0 n0 v U'.heap L ∧ FrameEnd U o U' L ({ frames := 1, cells := 0, slots := 0, locals := 12 } : Room).cells ({ frames := 1, cells := 0, slots := 0, locals := 12 } : Room).slots) := by
  refine MetFree.of_bodySF pn_28 hisR ?_
  intro p e s m args below meth c s₁ Bd hml0 hP hK
  obtain ⟨rfl, hZ, hh⟩ := hP
  have hml : c.maxLocals = 1 := hml0
  have hlk : meth.locks = false := Bd.notSynchronized
  have hret := Bd.returns
  have hnm := (name_of_methodNamed Bd.named Bd.method).1
  have P0 : Own.Wk Z "java/lang/StringBuilder" jdk_67_method_93_code h0 p l e ({ frames := 1, cells := 0, slots := 0, locals := 12 } : Room) s m #[(.ref a1)] below meth c s₁ [] 0 0 := ⟨Stand.of_body Bd, Bd.exec, Bd.bytes, hZ, findClass_of_methodNamed Bd.named, by rw [← hh, Bd.state]; rfl⟩
  have N0 := Fr.nil n0
  show Own.Goes p.tables e below (fun s₂ o => ∃ v L, o = .returned v ∧ QrmSln Z a1 n1 h0 n0 v s₂.heap L ∧ FrameEnd s o s₂ L ({ frames := 1, cells := 0, slots := 0, locals := 12 } : Room).cells ({ frames := 1, cells := 0, slots := 0, locals := 12 } : Room).slots) (s₁.setTop (entryFrame m #[(.ref a1)] 1))
  rw [show entryFrame m #[(.ref a1)] 1 = mkF m 0 #[.val (.ref a1)] [] from by first | rfl | (rcases Own.refc hfm with rfl | ⟨_, rfl⟩ <;> rfl) | (simp [entryFrame, mkF, argsToLocals, Value.category]; done)]
  refine Own.aloadN (q := 1) P0 d28_0 rfl rfl rfl ?_
  refine Own.invSuper (q := 4) (W := 0) (y := (⟨"java/lang/AbstractStringBuilder", "length", "()I"⟩ : MethodName)) (a := a1) (argsL := []) (rest := []) P0 d28_1 (by decide) (hw _ (List.mem_of_getElem? (i := 163) rfl)) (Own.sameOwn (y := (⟨"java/lang/AbstractStringBuilder", "length", "()I"⟩ : MethodName)) (hw _ (List.mem_of_getElem? (i := 159) rfl)) (hw _ (List.mem_of_getElem? (i := 154) rfl)) (hw _ (List.mem_of_getElem? (i := 155) rfl)) rfl (by decide)) (hw _ (List.mem_of_getElem? (i := 159) rfl)) (hw _ (List.mem_of_getElem? (i := 108) rfl)) (hw _ (List.mem_of_getElem? (i := 164) rfl)) (backOf (W := 0) (rmLn l Z a0 hw [] a1 n1 h0 n0 Z0 f3) P0.2.2.2.1 (hw _ (List.mem_of_getElem? (i := 164) rfl)) (hw _ (List.mem_of_getElem? (i := 93) rfl)) (by decide) (by decide)) E_a1 rfl rfl (by rw [hml]; rfl) (lenOf (show parseMethodDescriptor "()I" = some ⟨[], some .int⟩ from by decide +kernel) rfl) (by show 2 * 0 + _ ≤ _; exact Nat.le_of_eq rfl) (by decide) (by decide) rfl ?_
  rintro v21 T21 h21 L21 ⟨rfl, N21q, e21⟩ P21
  rw [e21] at P21
  have N21 := Fr.app N0 N21q
  show Own.Goes _ _ _ _ (T21.setTop (mkF m 4 #[.val (.ref a1)] [(.int n1)]))
  refine Own.retI (Q := QrmSln Z a1 n1 h0 n0) P21 d28_4 hret hlk (by decide) (by decide) ?_
  exact ⟨rfl, N21, rfl⟩
theorem d26_0 : decode jdk_42_method_150_code 0 = .ok (.aload_n 0, 1) := by decide +kernel
theorem d26_1 : decode jdk_42_method_150_code 1 = .ok (.invokespecial 1, 3) := by decide +kernel
theorem d26_4 : decode jdk_42_method_150_code 4 = .ok (.aload_n 1, 1) := by decide +kernel
theorem d26_5 : decode jdk_42_method_150_code 5 = .ok (.invokevirtual 552, 3) := by decide +kernel
theorem d26_8 : decode jdk_42_method_150_code 8 = .ok (.astore_n 3, 1) := by decide +kernel
theorem d26_9 : decode jdk_42_method_150_code 9 = .ok (.aload_n 1, 1) := by decide +kernel
theorem d26_10 : decode jdk_42_method_150_code 10 = .ok (.invokevirtual 549, 3) := by decide +kernel
theorem d26_13 : decode jdk_42_method_150_code 13 = .ok (.istore 4, 2) := by decide +kernel
theorem d26_15 : decode jdk_42_method_150_code 15 = .ok (.aload_n 1, 1) := by decide +kernel
theorem d26_16 : decode jdk_42_method_150_code 16 = .ok (.invokevirtual 1047, 3) := by decide +kernel
theorem d26_19 : decode jdk_42_method_150_code 19 = .ok (.ifCond .eq 22, 3) := by decide +kernel
theorem d26_22 : decode jdk_42_method_150_code 22 = .ok (.aload_n 0, 1) := by decide +kernel
theorem d26_23 : decode jdk_42_method_150_code 23 = .ok (.iconst 0, 1) := by decide +kernel
theorem d26_24 : decode jdk_42_method_150_code 24 = .ok (.putfield 15, 3) := by decide +kernel
theorem d26_27 : decode jdk_42_method_150_code 27 = .ok (.aload_n 0, 1) := by decide +kernel
theorem d26_28 : decode jdk_42_method_150_code 28 = .ok (.aload_n 3, 1) := by decide +kernel
theorem d26_29 : decode jdk_42_method_150_code 29 = .ok (.iconst 0, 1) := by decide +kernel
theorem d26_30 : decode jdk_42_method_150_code 30 = .ok (.iload 4, 2) := by decide +kernel
theorem d26_32 : decode jdk_42_method_150_code 32 = .ok (.invokestatic 54, 3) := by decide +kernel
theorem d26_35 : decode jdk_42_method_150_code 35 = .ok (.putfield 9, 3) := by decide +kernel
theorem d26_38 : decode jdk_42_method_150_code 38 = .ok (.goto 59, 3) := by decide +kernel
theorem d26_41 : decode jdk_42_method_150_code 41 = .ok (.getstatic 38, 3) := by decide +kernel
theorem d26_44 : decode jdk_42_method_150_code 44 = .ok (.ifCond .eq 35, 3) := by decide +kernel
theorem d26_47 : decode jdk_42_method_150_code 47 = .ok (.aload_n 1, 1) := by decide +kernel
theorem d26_48 : decode jdk_42_method_150_code 48 = .ok (.getfield 1048, 3) := by decide +kernel
theorem d26_51 : decode jdk_42_method_150_code 51 = .ok (.ifCond .eq 28, 3) := by decide +kernel
theorem d26_54 : decode jdk_42_method_150_code 54 = .ok (.aload_n 0, 1) := by decide +kernel
theorem d26_55 : decode jdk_42_method_150_code 55 = .ok (.aload_n 3, 1) := by decide +kernel
theorem d26_56 : decode jdk_42_method_150_code 56 = .ok (.iconst 0, 1) := by decide +kernel
theorem d26_57 : decode jdk_42_method_150_code 57 = .ok (.iload 4, 2) := by decide +kernel
theorem d26_59 : decode jdk_42_method_150_code 59 = .ok (.invokestatic 1051, 3) := by decide +kernel
theorem d26_62 : decode jdk_42_method_150_code 62 = .ok (.putfield 9, 3) := by decide +kernel
theorem d26_65 : decode jdk_42_method_150_code 65 = .ok (.aload_n 0, 1) := by decide +kernel
theorem d26_66 : decode jdk_42_method_150_code 66 = .ok (.aload_n 0, 1) := by decide +kernel
theorem d26_67 : decode jdk_42_method_150_code 67 = .ok (.getfield 9, 3) := by decide +kernel
theorem d26_70 : decode jdk_42_method_150_code 70 = .ok (.iload 4, 2) := by decide +kernel
theorem d26_72 : decode jdk_42_method_150_code 72 = .ok (.invokestatic 47, 3) := by decide +kernel
theorem d26_75 : decode jdk_42_method_150_code 75 = .ok (.putfield 15, 3) := by decide +kernel
theorem d26_78 : decode jdk_42_method_150_code 78 = .ok (.return_, 1) := by decide +kernel
theorem d26_79 : decode jdk_42_method_150_code 79 = .ok (.aload_n 0, 1) := by decide +kernel
theorem d26_80 : decode jdk_42_method_150_code 80 = .ok (.iconst 1, 1) := by decide +kernel
theorem d26_81 : decode jdk_42_method_150_code 81 = .ok (.putfield 15, 3) := by decide +kernel
theorem d26_84 : decode jdk_42_method_150_code 84 = .ok (.aload_n 0, 1) := by decide +kernel
theorem d26_85 : decode jdk_42_method_150_code 85 = .ok (.aload_n 3, 1) := by decide +kernel
theorem d26_86 : decode jdk_42_method_150_code 86 = .ok (.iconst 0, 1) := by decide +kernel
theorem d26_87 : decode jdk_42_method_150_code 87 = .ok (.iload 4, 2) := by decide +kernel
theorem d26_89 : decode jdk_42_method_150_code 89 = .ok (.iconst 1, 1) := by decide +kernel
theorem d26_90 : decode jdk_42_method_150_code 90 = .ok (.ishl, 1) := by decide +kernel
theorem d26_91 : decode jdk_42_method_150_code 91 = .ok (.invokestatic 54, 3) := by decide +kernel
theorem d26_94 : decode jdk_42_method_150_code 94 = .ok (.putfield 9, 3) := by decide +kernel
theorem d26_97 : decode jdk_42_method_150_code 97 = .ok (.return_, 1) := by decide +kernel
theorem pn_26 : plainFor (⟨"java/lang/String", "<init>", "(Ljava/lang/AbstractStringBuilder;Ljava/lang/Void;)V"⟩ : MethodName) = true := by first | exact plainFor_of_name (by first | (simp [plainName, overriddenIn]; done) | decide +kernel) | decide +kernel
def QrmSav (Z : State) (a1 : Addr) (u1 : Value) (u2 : Value) (a2 : Addr) (t1 : Addr) (kb : ClassId) (cs : List Int32) (zc : Int32) (h0 : Heap) (n0 : Nat) (v : Option Value) (h : Heap) (L : List Loc) : Prop := v = none ∧ Fr n0 L ∧ Keep h0 h [a1] ∧ Own.Str Z h a1 cs
set_option maxRecDepth 65536 in
set_option maxHeartbeats 40000000 in
theorem rmSav (l : Launch) (Z : State) (a0 : Array Value) (hw : ∀ d ∈ tables_1, d.before a0 Z = true) (ws : List Jvm.Cond) (a1 : Addr) (u1 : Value) (u2 : Value) (a2 : Addr) (t1 : Addr) (kb : ClassId) (cs : List Int32) (zc : Int32) (h0 : Heap) (n0 : Nat) (Z0 : n0 ≤ h0.size) (SC : Sta Z h0 "java/lang/String" "COMPACT_STRINGS" "Z" (.int zc)) (hzc : ¬ zc = 0) (E_a1 : Exa Z h0 a1 "java/lang/String") (f1 : Fld Z h0 a1 "java/lang/String" "value" "[B" u1) (f2 : Fld Z h0 a1 "java/lang/String" "coder" "B" u2) (g_a1 : n0 ≤ a1) (E_a2 : Exa Z h0 a2 "java/lang/StringBuilder") (s1 : Fld Z h0 a2 "java/lang/AbstractStringBuilder" "value" "[B" (.ref t1)) (s2 : Fld Z h0 a2 "java/lang/AbstractStringBuilder" "coder" "B" (.int 0)) (s3 : Fld Z h0 a2 "java/lang/AbstractStringBuilder" "count" "I" (.int (Int32.ofNat cs.length))) (A_t : Arv Z h0 t1 kb .byte 16 (((cs.map fun c : Int32 => c.toInt8.toInt32).map Value.int) ++ List.replicate (16 - cs.length) (Value.int 0)) (.int 0)) (hcs : cs.length ≤ 15) (hp : ∀ c ∈ cs, ¬ c < 0 ∧ ¬ (255 : Int32) < c) :
    MetFree l (⟨"java/lang/String", "<init>", "(Ljava/lang/AbstractStringBuilder;Ljava/lang/Void;)V"⟩ : MethodName) (head1 (Jvm.Cond.code (⟨"java/lang/String", "<init>", "(Ljava/lang/AbstractStringBuilder;Ljava/lang/Void;)V"⟩ : MethodName) jdk_42_method_150_code 5 none :: ws) ({ frames := 3, cells := 1, slots := 16, locals := 50 } : Room)) (fun a U => a = #[(.ref a1), (.ref a2), .null] ∧ Z.Warmed39 U.vm ∧ U.heap = h0) (fun _ _ _ _ _ => True) (fun _ U o U' => ∃ v L, o = .returned v ∧ QrmSav Z a1 u1 u2 a2 t1 kb cs zc h0 n0 v U'.heap L ∧ FrameEnd U o U' L ({ frames := 3, cells := 1, slots := 16, locals := 50 } : Room).cells ({ frames := 3, cells := 1, slots := 16, locals := 50 } : Room).slots) := by
  refine MetFree.of_bodySF pn_26 hisR ?_
  intro p e s m args below meth c s₁ Bd hml0 hP hK
  obtain ⟨rfl, hZ, hh⟩ := hP
  have hml : c.maxLocals = 5 := hml0
  have hlk : meth.locks = false := Bd.notSynchronized
  have hret := Bd.returns
  have hnm := (name_of_methodNamed Bd.named Bd.method).1
  have P0 : Own.Wk Z "java/lang/String" jdk_42_method_150_code h0 p l e ({ frames := 3, cells := 1, slots := 16, locals := 50 } : Room) s m #[(.ref a1), (.ref a2), .null] below meth c s₁ [] 0 0 := ⟨Stand.of_body Bd, Bd.exec, Bd.bytes, hZ, findClass_of_methodNamed Bd.named, by rw [← hh, Bd.state]; rfl⟩
  have N0 := Fr.nil n0
  show Own.Goes p.tables e below (fun s₂ o => ∃ v L, o = .returned v ∧ QrmSav Z a1 u1 u2 a2 t1 kb cs zc h0 n0 v s₂.heap L ∧ FrameEnd s o s₂ L ({ frames := 3, cells := 1, slots := 16, locals := 50 } : Room).cells ({ frames := 3, cells := 1, slots := 16, locals := 50 } : Room).slots) (s₁.setTop (entryFrame m #[(.ref a1), (.ref a2), .null] 5))
  rw [show entryFrame m #[(.ref a1), (.ref a2), .null] 5 = mkF m 0 #[.val (.ref a1), .val (.ref a2), .val .null, .unset, .unset] [] from by first | rfl | (rcases Own.refc hfm with rfl | ⟨_, rfl⟩ <;> rfl) | (simp [entryFrame, mkF, argsToLocals, Value.category]; done)]
  refine Own.aloadN (q := 1) P0 d26_0 rfl rfl rfl ?_
  refine Own.objinit (q := 4) (W := 0) P0 d26_1 (hw _ (List.mem_of_getElem? (i := 18) rfl)) (hw _ (List.mem_of_getElem? (i := 19) rfl)) (hw _ (List.mem_of_getElem? (i := 20) rfl)) (by rw [hml]; rfl) (by decide) (by show 2 * 0 + _ ≤ _; exact Nat.le_of_eq rfl) (by decide) rfl ?_
  intro T21 P21
  refine Own.aloadN (q := 5) P21 d26_4 rfl rfl rfl ?_
  refine Own.invVirtual (q := 8) (W := 0) (y := (⟨"java/lang/AbstractStringBuilder", "getValue", "()[B"⟩ : MethodName)) (a := a2) (argsL := []) (rest := []) P21 d26_5 (hw _ (List.mem_of_getElem? (i := 152) rfl)) (hw _ (List.mem_of_getElem? (i := 153) rfl)) (hw _ (List.mem_of_getElem? (i := 155) rfl)) (hw _ (List.mem_of_getElem? (i := 154) rfl)) (notFace_of_selects (args := #[]) (mvT P21.2.2.2.1 (hw _ (List.mem_of_getElem? (i := 155) rfl)))) (by decide) (backOf (W := 0) (rmGv l Z a0 hw [] a2 t1 h0 n0 Z0 s1) P21.2.2.2.1 (hw _ (List.mem_of_getElem? (i := 156) rfl)) (hw _ (List.mem_of_getElem? (i := 93) rfl)) (by decide) (by decide)) E_a2 rfl rfl (by rw [hml]; rfl) (lenOf (show parseMethodDescriptor "()[B" = some ⟨[], some (.array .byte)⟩ from by decide +kernel) rfl) (by show 2 * 0 + _ ≤ _; exact Nat.le_of_eq rfl) (by decide) (by decide) rfl ?_
  rintro v22 T22 h22 L22 ⟨rfl, N22q, e22⟩ P22
  rw [e22] at P22
  have N22 := Fr.app N0 N22q
  show Own.Goes _ _ _ _ (T22.setTop (mkF m 8 #[.val (.ref a1), .val (.ref a2), .val .null, .unset, .unset] [(.ref t1)]))
  refine Own.astoreN (q := 9) (L2 := #[.val (.ref a1), .val (.ref a2), .val .null, .val (.ref t1), .unset]) P22 d26_8 rfl rfl rfl ?_
  refine Own.aloadN (q := 10) P22 d26_9 rfl rfl rfl ?_
  refine Own.invVirtual (q := 13) (W := 0) (y := (⟨"java/lang/AbstractStringBuilder", "length", "()I"⟩ : MethodName)) (a := a2) (argsL := []) (rest := []) P22 d26_10 (hw _ (List.mem_of_getElem? (i := 157) rfl)) (hw _ (List.mem_of_getElem? (i := 158) rfl)) (hw _ (List.mem_of_getElem? (i := 160) rfl)) (hw _ (List.mem_of_getElem? (i := 161) rfl)) (Own.nfOwn (Z := Z) (a0 := #[]) (mvT P22.2.2.2.1 (hw _ (List.mem_of_getElem? (i := 155) rfl))) (mvT P22.2.2.2.1 (hw _ (List.mem_of_getElem? (i := 154) rfl))) rfl) (by decide) (backOf (W := 0) (rmSln l Z a0 hw [] a2 (Int32.ofNat cs.length) h0 n0 Z0 E_a2 s3) P22.2.2.2.1 (hw _ (List.mem_of_getElem? (i := 162) rfl)) (hw _ (List.mem_of_getElem? (i := 85) rfl)) (by decide) (by decide)) E_a2 rfl rfl (by rw [hml]; rfl) (lenOf (show parseMethodDescriptor "()I" = some ⟨[], some .int⟩ from by decide +kernel) rfl) (by show 2 * 0 + _ ≤ _; exact Nat.le_of_eq rfl) (by decide) (by decide) rfl ?_
  rintro v23 T23 h23 L23 ⟨rfl, N23q, e23⟩ P23
  rw [e23] at P23
  have N23 := Fr.app N22 N23q
  show Own.Goes _ _ _ _ (T23.setTop (mkF m 13 #[.val (.ref a1), .val (.ref a2), .val .null, .val (.ref t1), .unset] [(.int (Int32.ofNat cs.length))]))
  refine Own.istore (q := 15) (L2 := #[.val (.ref a1), .val (.ref a2), .val .null, .val (.ref t1), .val (.int (Int32.ofNat cs.length))]) P23 d26_13 rfl rfl ?_
  refine Own.aloadN (q := 16) P23 d26_15 rfl rfl rfl ?_
  refine Own.invVirtual (q := 19) (W := 0) (y := (⟨"java/lang/AbstractStringBuilder", "isLatin1", "()Z"⟩ : MethodName)) (a := a2) (argsL := []) (rest := []) P23 d26_16 (hw _ (List.mem_of_getElem? (i := 165) rfl)) (hw _ (List.mem_of_getElem? (i := 166) rfl)) (hw _ (List.mem_of_getElem? (i := 168) rfl)) (hw _ (List.mem_of_getElem? (i := 167) rfl)) (notFace_of_selects (args := #[]) (mvT P23.2.2.2.1 (hw _ (List.mem_of_getElem? (i := 168) rfl)))) (by decide) (backOf (W := 0) (rmIl l Z a0 hw [] a2 zc h0 n0 Z0 SC hzc s2) P23.2.2.2.1 (hw _ (List.mem_of_getElem? (i := 169) rfl)) (hw _ (List.mem_of_getElem? (i := 93) rfl)) (by decide) (by decide)) E_a2 rfl rfl (by rw [hml]; rfl) (lenOf (show parseMethodDescriptor "()Z" = some ⟨[], some .boolean⟩ from by decide +kernel) rfl) (by show 2 * 0 + _ ≤ _; exact Nat.le_of_eq rfl) (by decide) (by decide) rfl ?_
  rintro v24 T24 h24 L24 ⟨rfl, N24q, e24⟩ P24
  rw [e24] at P24
  have N24 := Fr.app N23 N24q
  show Own.Goes _ _ _ _ (T24.setTop (mkF m 19 #[.val (.ref a1), .val (.ref a2), .val .null, .val (.ref t1), .val (.int (Int32.ofNat cs.length))] [(.int (1 : Int32))]))
  refine Own.if_eq (q := 22) (qy := 41) P24 d26_19 (by decide) rfl (fun q => absurd q (by decide)) (fun _ => ?_)
  refine Own.aloadN (q := 23) P24 d26_22 rfl rfl rfl ?_
  refine Own.iconst (q := 24) (v := (0 : Int32)) P24 d26_23 rfl rfl ?_
  refine Own.putfield (q := 27) P24 d26_24 (hw _ (List.mem_of_getElem? (i := 28) rfl)) f2 E_a1 (Or.inr ⟨(hw _ (List.mem_of_getElem? (i := 24) rfl)), rfl, hnm⟩) (hw _ (List.mem_of_getElem? (i := 9) rfl)) (ty := .byte) (by decide) rfl rfl rfl ?_
  intro T25 h25 lc25 hl25 P25 W25
  have F25_value := f1.other W25 (Or.inr (slot_ne (Or.inr (hw _ (List.mem_of_getElem? (i := 23) rfl))) (Or.inr (hw _ (List.mem_of_getElem? (i := 24) rfl))) (by decide) (t := (.array .byte)) (t' := .byte) (by decide) (by decide)))
  have F25_coder := Fld.same W25 f2
  have A25 := E_a1.wr W25
  have N25 := Own.Fr.one N24 hl25 g_a1
  refine Own.aloadN (q := 28) P25 d26_27 rfl rfl rfl ?_
  refine Own.aloadN (q := 29) P25 d26_28 rfl rfl rfl ?_
  refine Own.iconst (q := 30) (v := (0 : Int32)) P25 d26_29 rfl rfl ?_
  refine Own.iload (q := 32) P25 d26_30 rfl rfl ?_
  have qf26 := (Arv.keep A_t (Keep.of_wr W25) (ninS (Ne.symm (Exa.neArv E_a1 A_t (hw _ (List.mem_of_getElem? (i := 9) rfl)))) nin0))
  have Z1_27 : n0 ≤ h25.size := by rw [W25.size]; exact Z0
  refine Own.invStatic (q := 35) (W := 1) (y := (⟨"java/util/Arrays", "copyOfRange", "([BII)[B"⟩ : MethodName)) (argsL := [(.ref t1), (.int (0 : Int32)), (.int (Int32.ofNat cs.length))]) (rest := [(.ref a1)]) P25 d26_32 (hw _ (List.mem_of_getElem? (i := 170) rfl)) (hw _ (List.mem_of_getElem? (i := 171) rfl)) (hw _ (List.mem_of_getElem? (i := 172) rfl)) (hw _ (List.mem_of_getElem? (i := 173) rfl)) (by decide) (backOf (W := 1) (rmCr l Z a0 hw [] t1 kb 16 (((cs.map fun c : Int32 => c.toInt8.toInt32).map Value.int) ++ List.replicate (16 - cs.length) (Value.int 0)) 0 cs.length cs.length h25 n0 Z1_27 qf26 (Own.vd_len (cs := cs) (by have := hcs; omega)) (by have := hcs; omega) (by decide) (by have := hcs; omega) (Nat.zero_add _).symm (fun q => absurd q.2 (by have := hcs; omega))) P25.2.2.2.1 (hw _ (List.mem_of_getElem? (i := 173) rfl)) (hw _ (List.mem_of_getElem? (i := 172) rfl)) (by decide) (by decide)) rfl rfl (by rw [hml]; rfl) (lenOf (show parseMethodDescriptor "([BII)[B" = some ⟨[(.array .byte), .int, .int], some (.array .byte)⟩ from by decide +kernel) rfl) (by show 2 * 0 + _ ≤ _; exact Nat.le_of_eq rfl) (by decide) (by decide) rfl ?_
  rintro v28 T28 h28 L28 ⟨r28, kr28, rfl, N28q, E28, gr28, B28⟩ P28
  have N28 := Fr.app N25 N28q
  show Own.Goes _ _ _ _ (T28.setTop (mkF m 35 #[.val (.ref a1), .val (.ref a2), .val .null, .val (.ref t1), .val (.int (Int32.ofNat cs.length))] [(.ref r28), (.ref a1)]))
  rw [Own.take_vd] at B28
  have E1_2_29 : Ext h25 h28 := E28
  refine Own.putfield (q := 38) P28 d26_35 (hw _ (List.mem_of_getElem? (i := 27) rfl)) (F25_value.ext E1_2_29) (A25.ext E1_2_29) (Or.inr ⟨(hw _ (List.mem_of_getElem? (i := 23) rfl)), rfl, hnm⟩) (hw _ (List.mem_of_getElem? (i := 9) rfl)) (ty := (.array .byte)) (by decide) rfl rfl rfl ?_
  intro T30 h30 lc30 hl30 P30 W30
  have F30_value := Fld.same W30 (F25_value.ext E1_2_29)
  have F30_coder := (F25_coder.ext E1_2_29).other W30 (Or.inr (slot_ne (Or.inr (hw _ (List.mem_of_getElem? (i := 24) rfl))) (Or.inr (hw _ (List.mem_of_getElem? (i := 23) rfl))) (by decide) (t := .byte) (t' := (.array .byte)) (by decide) (by decide)))
  have A30 := (A25.ext E1_2_29).wr W30
  have N30 := Own.Fr.one N28 hl30 g_a1
  refine Own.goto (q := 97) P30 d26_38 (by decide) ?_
  have qf31 := (Arv.keep B28 (Keep.of_wr W30) (ninS (Ne.symm (Exa.neArv (A25.ext E28) B28 (hw _ (List.mem_of_getElem? (i := 9) rfl)))) nin0))
  refine Own.retV (Q := QrmSav Z a1 u1 u2 a2 t1 kb cs zc h0 n0) P30 d26_97 hret hlk (by decide) (by decide) ?_
  exact ⟨rfl, N30, (Keep.wr (Keep.ext (Keep.wr (Keep.refl h0 _) W25 (Or.inl (by simp))) E28) W30 (Or.inl (by simp))), ⟨_, _, A30, F30_value, F30_coder, qf31⟩, hp, (by have := hcs; omega)⟩
theorem d25_0 : decode jdk_42_method_53_code 0 = .ok (.aload_n 0, 1) := by decide +kernel
theorem d25_1 : decode jdk_42_method_53_code 1 = .ok (.aload_n 1, 1) := by decide +kernel
theorem d25_2 : decode jdk_42_method_53_code 2 = .ok (.aconst_null, 1) := by decide +kernel
theorem d25_3 : decode jdk_42_method_53_code 3 = .ok (.invokespecial 489, 3) := by decide +kernel
theorem d25_6 : decode jdk_42_method_53_code 6 = .ok (.return_, 1) := by decide +kernel
theorem pn_25 : plainFor (⟨"java/lang/String", "<init>", "(Ljava/lang/StringBuilder;)V"⟩ : MethodName) = true := by first | exact plainFor_of_name (by first | (simp [plainName, overriddenIn]; done) | decide +kernel) | decide +kernel
def QrmSsb (Z : State) (a1 : Addr) (u1 : Value) (u2 : Value) (a2 : Addr) (t1 : Addr) (kb : ClassId) (cs : List Int32) (zc : Int32) (h0 : Heap) (n0 : Nat) (v : Option Value) (h : Heap) (L : List Loc) : Prop := v = none ∧ Fr n0 L ∧ Keep h0 h [a1] ∧ Own.Str Z h a1 cs
set_option maxRecDepth 65536 in
set_option maxHeartbeats 40000000 in
theorem rmSsb (l : Launch) (Z : State) (a0 : Array Value) (hw : ∀ d ∈ tables_1, d.before a0 Z = true) (ws : List Jvm.Cond) (a1 : Addr) (u1 : Value) (u2 : Value) (a2 : Addr) (t1 : Addr) (kb : ClassId) (cs : List Int32) (zc : Int32) (h0 : Heap) (n0 : Nat) (Z0 : n0 ≤ h0.size) (SC : Sta Z h0 "java/lang/String" "COMPACT_STRINGS" "Z" (.int zc)) (hzc : ¬ zc = 0) (E_a1 : Exa Z h0 a1 "java/lang/String") (f1 : Fld Z h0 a1 "java/lang/String" "value" "[B" u1) (f2 : Fld Z h0 a1 "java/lang/String" "coder" "B" u2) (g_a1 : n0 ≤ a1) (E_a2 : Exa Z h0 a2 "java/lang/StringBuilder") (s1 : Fld Z h0 a2 "java/lang/AbstractStringBuilder" "value" "[B" (.ref t1)) (s2 : Fld Z h0 a2 "java/lang/AbstractStringBuilder" "coder" "B" (.int 0)) (s3 : Fld Z h0 a2 "java/lang/AbstractStringBuilder" "count" "I" (.int (Int32.ofNat cs.length))) (A_t : Arv Z h0 t1 kb .byte 16 (((cs.map fun c : Int32 => c.toInt8.toInt32).map Value.int) ++ List.replicate (16 - cs.length) (Value.int 0)) (.int 0)) (hcs : cs.length ≤ 15) (hp : ∀ c ∈ cs, ¬ c < 0 ∧ ¬ (255 : Int32) < c) :
    MetFree l (⟨"java/lang/String", "<init>", "(Ljava/lang/StringBuilder;)V"⟩ : MethodName) (head1 (Jvm.Cond.code (⟨"java/lang/String", "<init>", "(Ljava/lang/StringBuilder;)V"⟩ : MethodName) jdk_42_method_53_code 2 none :: ws) ({ frames := 4, cells := 1, slots := 16, locals := 66 } : Room)) (fun a U => a = #[(.ref a1), (.ref a2)] ∧ Z.Warmed39 U.vm ∧ U.heap = h0) (fun _ _ _ _ _ => True) (fun _ U o U' => ∃ v L, o = .returned v ∧ QrmSsb Z a1 u1 u2 a2 t1 kb cs zc h0 n0 v U'.heap L ∧ FrameEnd U o U' L ({ frames := 4, cells := 1, slots := 16, locals := 66 } : Room).cells ({ frames := 4, cells := 1, slots := 16, locals := 66 } : Room).slots) := by
  refine MetFree.of_bodySF pn_25 hisR ?_
  intro p e s m args below meth c s₁ Bd hml0 hP hK
  obtain ⟨rfl, hZ, hh⟩ := hP
  have hml : c.maxLocals = 2 := hml0
  have hlk : meth.locks = false := Bd.notSynchronized
  have hret := Bd.returns
  have hnm := (name_of_methodNamed Bd.named Bd.method).1
  have P0 : Own.Wk Z "java/lang/String" jdk_42_method_53_code h0 p l e ({ frames := 4, cells := 1, slots := 16, locals := 66 } : Room) s m #[(.ref a1), (.ref a2)] below meth c s₁ [] 0 0 := ⟨Stand.of_body Bd, Bd.exec, Bd.bytes, hZ, findClass_of_methodNamed Bd.named, by rw [← hh, Bd.state]; rfl⟩
  have N0 := Fr.nil n0
  show Own.Goes p.tables e below (fun s₂ o => ∃ v L, o = .returned v ∧ QrmSsb Z a1 u1 u2 a2 t1 kb cs zc h0 n0 v s₂.heap L ∧ FrameEnd s o s₂ L ({ frames := 4, cells := 1, slots := 16, locals := 66 } : Room).cells ({ frames := 4, cells := 1, slots := 16, locals := 66 } : Room).slots) (s₁.setTop (entryFrame m #[(.ref a1), (.ref a2)] 2))
  rw [show entryFrame m #[(.ref a1), (.ref a2)] 2 = mkF m 0 #[.val (.ref a1), .val (.ref a2)] [] from by first | rfl | (rcases Own.refc hfm with rfl | ⟨_, rfl⟩ <;> rfl) | (simp [entryFrame, mkF, argsToLocals, Value.category]; done)]
  refine Own.aloadN (q := 1) P0 d25_0 rfl rfl rfl ?_
  refine Own.aloadN (q := 2) P0 d25_1 rfl rfl rfl ?_
  refine Own.aconst (q := 3) P0 d25_2  rfl ?_
  refine Own.invSpecial (q := 6) (W := 0) (y := (⟨"java/lang/String", "<init>", "(Ljava/lang/AbstractStringBuilder;Ljava/lang/Void;)V"⟩ : MethodName)) (a := a1) (argsL := [(.ref a2), .null]) (rest := []) P0 d25_3 rfl (hw _ (List.mem_of_getElem? (i := 149) rfl)) (hw _ (List.mem_of_getElem? (i := 150) rfl)) (hw _ (List.mem_of_getElem? (i := 151) rfl)) (by decide) (backOf (W := 0) (rmSav l Z a0 hw [] a1 u1 u2 a2 t1 kb cs zc h0 n0 Z0 SC hzc E_a1 f1 f2 g_a1 E_a2 s1 s2 s3 A_t hcs hp) P0.2.2.2.1 (hw _ (List.mem_of_getElem? (i := 151) rfl)) (hw _ (List.mem_of_getElem? (i := 10) rfl)) (by decide) (by decide)) rfl rfl (by rw [hml]; rfl) (lenOf (show parseMethodDescriptor "(Ljava/lang/AbstractStringBuilder;Ljava/lang/Void;)V" = some ⟨[(.object "java/lang/AbstractStringBuilder"), (.object "java/lang/Void")], none⟩ from by decide +kernel) rfl) (by show 2 * 0 + _ ≤ _; exact Nat.le_of_eq rfl) (by decide) (by decide) rfl ?_
  rintro v21 T21 h21 L21 ⟨rfl, N21q, K21, St21⟩ P21
  have N21 := Fr.app N0 N21q
  show Own.Goes _ _ _ _ (T21.setTop (mkF m 6 #[.val (.ref a1), .val (.ref a2)] []))
  refine Own.retV (Q := QrmSsb Z a1 u1 u2 a2 t1 kb cs zc h0 n0) P21 d25_6 hret hlk (by decide) (by decide) ?_
  exact ⟨rfl, N21, K21, St21⟩
theorem d24_0 : decode jdk_67_method_42_code 0 = .ok (.new 18, 3) := by decide +kernel
theorem d24_3 : decode jdk_67_method_42_code 3 = .ok (.dup, 1) := by decide +kernel
theorem d24_4 : decode jdk_67_method_42_code 4 = .ok (.aload_n 0, 1) := by decide +kernel
theorem d24_5 : decode jdk_67_method_42_code 5 = .ok (.invokespecial 137, 3) := by decide +kernel
theorem d24_8 : decode jdk_67_method_42_code 8 = .ok (.areturn, 1) := by decide +kernel
theorem pn_24 : plainFor (⟨"java/lang/StringBuilder", "toString", "()Ljava/lang/String;"⟩ : MethodName) = true := by first | exact plainFor_of_name (by first | (simp [plainName, overriddenIn]; done) | decide +kernel) | decide +kernel
def QrmTs (Z : State) (a2 : Addr) (t1 : Addr) (kb : ClassId) (cs : List Int32) (zc : Int32) (h0 : Heap) (n0 : Nat) (v : Option Value) (h : Heap) (L : List Loc) : Prop := ∃ r, v = some (.ref r) ∧ Fr n0 L ∧ Ext h0 h ∧ h0.size ≤ r ∧ Own.Str Z h r cs
set_option maxRecDepth 65536 in
set_option maxHeartbeats 40000000 in
theorem rmTs (l : Launch) (Z : State) (a0 : Array Value) (hw : ∀ d ∈ tables_1, d.before a0 Z = true) (ws : List Jvm.Cond) (a2 : Addr) (t1 : Addr) (kb : ClassId) (cs : List Int32) (zc : Int32) (h0 : Heap) (n0 : Nat) (Z0 : n0 ≤ h0.size) (SC : Sta Z h0 "java/lang/String" "COMPACT_STRINGS" "Z" (.int zc)) (hzc : ¬ zc = 0) (E_a2 : Exa Z h0 a2 "java/lang/StringBuilder") (s1 : Fld Z h0 a2 "java/lang/AbstractStringBuilder" "value" "[B" (.ref t1)) (s2 : Fld Z h0 a2 "java/lang/AbstractStringBuilder" "coder" "B" (.int 0)) (s3 : Fld Z h0 a2 "java/lang/AbstractStringBuilder" "count" "I" (.int (Int32.ofNat cs.length))) (A_t : Arv Z h0 t1 kb .byte 16 (((cs.map fun c : Int32 => c.toInt8.toInt32).map Value.int) ++ List.replicate (16 - cs.length) (Value.int 0)) (.int 0)) (hcs : cs.length ≤ 15) (hp : ∀ c ∈ cs, ¬ c < 0 ∧ ¬ (255 : Int32) < c) :
    MetFree l (⟨"java/lang/StringBuilder", "toString", "()Ljava/lang/String;"⟩ : MethodName) (head1 (Jvm.Cond.code (⟨"java/lang/StringBuilder", "toString", "()Ljava/lang/String;"⟩ : MethodName) jdk_67_method_42_code 1 (some (.object "java/lang/String")) :: ws) ({ frames := 5, cells := 2, slots := 20, locals := 80 } : Room)) (fun a U => a = #[(.ref a2)] ∧ Z.Warmed39 U.vm ∧ U.heap = h0) (fun _ _ _ _ _ => True) (fun _ U o U' => ∃ v L, o = .returned v ∧ QrmTs Z a2 t1 kb cs zc h0 n0 v U'.heap L ∧ FrameEnd U o U' L ({ frames := 5, cells := 2, slots := 20, locals := 80 } : Room).cells ({ frames := 5, cells := 2, slots := 20, locals := 80 } : Room).slots) := by
  refine MetFree.of_bodySF pn_24 hisR ?_
  intro p e s m args below meth c s₁ Bd hml0 hP hK
  obtain ⟨rfl, hZ, hh⟩ := hP
  have hml : c.maxLocals = 1 := hml0
  have hlk : meth.locks = false := Bd.notSynchronized
  have hret := Bd.returns
  have hnm := (name_of_methodNamed Bd.named Bd.method).1
  have P0 : Own.Wk Z "java/lang/StringBuilder" jdk_67_method_42_code h0 p l e ({ frames := 5, cells := 2, slots := 20, locals := 80 } : Room) s m #[(.ref a2)] below meth c s₁ [] 0 0 := ⟨Stand.of_body Bd, Bd.exec, Bd.bytes, hZ, findClass_of_methodNamed Bd.named, by rw [← hh, Bd.state]; rfl⟩
  have N0 := Fr.nil n0
  show Own.Goes p.tables e below (fun s₂ o => ∃ v L, o = .returned v ∧ QrmTs Z a2 t1 kb cs zc h0 n0 v s₂.heap L ∧ FrameEnd s o s₂ L ({ frames := 5, cells := 2, slots := 20, locals := 80 } : Room).cells ({ frames := 5, cells := 2, slots := 20, locals := 80 } : Room).slots) (s₁.setTop (entryFrame m #[(.ref a2)] 1))
  rw [show entryFrame m #[(.ref a2)] 1 = mkF m 0 #[.val (.ref a2)] [] from by first | rfl | (rcases Own.refc hfm with rfl | ⟨_, rfl⟩ <;> rfl) | (simp [entryFrame, mkF, argsToLocals, Value.category]; done)]
  refine Own.newobj (q := 3) P0 d24_0 (hw _ (List.mem_of_getElem? (i := 145) rfl)) (hw _ (List.mem_of_getElem? (i := 9) rfl)) (hw _ (List.mem_of_getElem? (i := 10) rfl)) (by decide) (by decide) rfl ?_
  intro T21 h21 a21 ha21 P21 E21 A21 D21
  have F21_value : Fld Z h21 a21 "java/lang/String" "value" "[B" .null := D21 (Or.inr (hw _ (List.mem_of_getElem? (i := 23) rfl))) (ty := (.array .byte)) (by decide)
  have F21_coder : Fld Z h21 a21 "java/lang/String" "coder" "B" (.int (0 : Int32)) := D21 (Or.inr (hw _ (List.mem_of_getElem? (i := 24) rfl))) (ty := .byte) (by decide)
  refine Own.dup (q := 4) P21 d24_3 rfl rfl ?_
  refine Own.aloadN (q := 5) P21 d24_4 rfl rfl rfl ?_
  have E0_1_22 : Ext h0 h21 := E21
  refine Own.invSpecial (q := 8) (W := 1) (y := (⟨"java/lang/String", "<init>", "(Ljava/lang/StringBuilder;)V"⟩ : MethodName)) (a := a21) (argsL := [(.ref a2)]) (rest := [(.ref a21)]) P21 d24_5 rfl (hw _ (List.mem_of_getElem? (i := 146) rfl)) (hw _ (List.mem_of_getElem? (i := 147) rfl)) (hw _ (List.mem_of_getElem? (i := 148) rfl)) (by decide) (backOf (W := 1) (rmSsb l Z a0 hw [] a21 .null (.int (0 : Int32)) a2 t1 kb cs zc h21 n0 (Nat.le_trans Z0 E0_1_22.1) (SC.ext E0_1_22) hzc A21 F21_value F21_coder (Nat.le_trans Z0 (Nat.le_of_eq ha21.symm)) (E_a2.ext E0_1_22) (s1.ext E0_1_22) (s2.ext E0_1_22) (s3.ext E0_1_22) (A_t.ext E0_1_22) hcs hp) P21.2.2.2.1 (hw _ (List.mem_of_getElem? (i := 148) rfl)) (hw _ (List.mem_of_getElem? (i := 10) rfl)) (by decide) (by decide)) rfl rfl (by rw [hml]; rfl) (lenOf (show parseMethodDescriptor "(Ljava/lang/StringBuilder;)V" = some ⟨[(.object "java/lang/StringBuilder")], none⟩ from by decide +kernel) rfl) (by show 2 * 0 + _ ≤ _; exact Nat.le_of_eq rfl) (by decide) (by decide) rfl ?_
  rintro v23 T23 h23 L23 ⟨rfl, N23q, K23, St23⟩ P23
  have N23 := Fr.app N0 N23q
  show Own.Goes _ _ _ _ (T23.setTop (mkF m 8 #[.val (.ref a2)] [(.ref a21)]))
  have E0_2_24 : Ext h0 h23 := (Own.Ext.kp E0_1_22 K23 (allS (Nat.le_of_eq ha21.symm) all0))
  refine Own.retA (Q := QrmTs Z a2 t1 kb cs zc h0 n0) P23 d24_8 hret rfl rfl rfl hlk (by decide) (by decide) ?_
  exact ⟨_, rfl, N23, E0_2_24, (Nat.le_of_eq ha21.symm), St23⟩
theorem d44_0 : decode jdk_42_method_154_code 0 = .ok (.getstatic 38, 3) := by decide +kernel
theorem d44_3 : decode jdk_42_method_154_code 3 = .ok (.ifCond .eq 14, 3) := by decide +kernel
theorem d44_6 : decode jdk_42_method_154_code 6 = .ok (.aload_n 0, 1) := by decide +kernel
theorem d44_7 : decode jdk_42_method_154_code 7 = .ok (.getfield 15, 3) := by decide +kernel
theorem d44_10 : decode jdk_42_method_154_code 10 = .ok (.ifCond .ne 7, 3) := by decide +kernel
theorem d44_13 : decode jdk_42_method_154_code 13 = .ok (.iconst 1, 1) := by decide +kernel
theorem d44_14 : decode jdk_42_method_154_code 14 = .ok (.goto 4, 3) := by decide +kernel
theorem d44_17 : decode jdk_42_method_154_code 17 = .ok (.iconst 0, 1) := by decide +kernel
theorem d44_18 : decode jdk_42_method_154_code 18 = .ok (.ireturn, 1) := by decide +kernel
theorem pn_44 : plainFor (⟨"java/lang/String", "isLatin1", "()Z"⟩ : MethodName) = true := by first | exact plainFor_of_name (by first | (simp [plainName, overriddenIn]; done) | decide +kernel) | decide +kernel
def QrmSil (Z : State) (a1 : Addr) (zc : Int32) (h0 : Heap) (n0 : Nat) (v : Option Value) (h : Heap) (L : List Loc) : Prop := v = some (.int 1) ∧ Fr n0 L ∧ h = h0
set_option maxRecDepth 65536 in
set_option maxHeartbeats 40000000 in
theorem rmSil (l : Launch) (Z : State) (a0 : Array Value) (hw : ∀ d ∈ tables_1, d.before a0 Z = true) (ws : List Jvm.Cond) (a1 : Addr) (zc : Int32) (h0 : Heap) (n0 : Nat) (Z0 : n0 ≤ h0.size) (SC : Sta Z h0 "java/lang/String" "COMPACT_STRINGS" "Z" (.int zc)) (hzc : ¬ zc = 0) (f2 : Fld Z h0 a1 "java/lang/String" "coder" "B" (.int 0)) :
    MetFree l (⟨"java/lang/String", "isLatin1", "()Z"⟩ : MethodName) (head1 (Jvm.Cond.code (⟨"java/lang/String", "isLatin1", "()Z"⟩ : MethodName) jdk_42_method_154_code 1 (some .boolean) :: ws) ({ frames := 0, cells := 0, slots := 0, locals := 0 } : Room)) (fun a U => a = #[(.ref a1)] ∧ Z.Warmed39 U.vm ∧ U.heap = h0) (fun _ _ _ _ _ => True) (fun _ U o U' => ∃ v L, o = .returned v ∧ QrmSil Z a1 zc h0 n0 v U'.heap L ∧ FrameEnd U o U' L ({ frames := 0, cells := 0, slots := 0, locals := 0 } : Room).cells ({ frames := 0, cells := 0, slots := 0, locals := 0 } : Room).slots) := by
  refine MetFree.of_bodySF pn_44 hisR ?_
  intro p e s m args below meth c s₁ Bd hml0 hP hK
  obtain ⟨rfl, hZ, hh⟩ := hP
  have hml : c.maxLocals = 1 := hml0
  have hlk : meth.locks = false := Bd.notSynchronized
  have hret := Bd.returns
  have hnm := (name_of_methodNamed Bd.named Bd.method).1
  have P0 : Own.Wk Z "java/lang/String" jdk_42_method_154_code h0 p l e ({ frames := 0, cells := 0, slots := 0, locals := 0 } : Room) s m #[(.ref a1)] below meth c s₁ [] 0 0 := ⟨Stand.of_body Bd, Bd.exec, Bd.bytes, hZ, findClass_of_methodNamed Bd.named, by rw [← hh, Bd.state]; rfl⟩
  have N0 := Fr.nil n0
  show Own.Goes p.tables e below (fun s₂ o => ∃ v L, o = .returned v ∧ QrmSil Z a1 zc h0 n0 v s₂.heap L ∧ FrameEnd s o s₂ L ({ frames := 0, cells := 0, slots := 0, locals := 0 } : Room).cells ({ frames := 0, cells := 0, slots := 0, locals := 0 } : Room).slots) (s₁.setTop (entryFrame m #[(.ref a1)] 1))
  rw [show entryFrame m #[(.ref a1)] 1 = mkF m 0 #[.val (.ref a1)] [] from by first | rfl | (rcases Own.refc hfm with rfl | ⟨_, rfl⟩ <;> rfl) | (simp [entryFrame, mkF, argsToLocals, Value.category]; done)]
  refine Own.getstatic (q := 3) P0 d44_0 (hw _ (List.mem_of_getElem? (i := 32) rfl)) SC rfl ?_
  intro T21 P21
  refine Own.if_eq (q := 6) (qy := 17) P21 d44_3 (by decide) rfl (fun q => absurd q hzc) (fun _ => ?_)
  refine Own.aloadN (q := 7) P21 d44_6 rfl rfl rfl ?_
  refine Own.getfield (q := 10) P21 d44_7 (hw _ (List.mem_of_getElem? (i := 28) rfl)) f2 rfl ?_
  intro T22 P22
  refine Own.if_ne (q := 13) (qy := 17) P22 d44_10 (by decide) rfl (fun q => absurd rfl q) (fun _ => ?_)
  refine Own.iconst (q := 14) (v := (1 : Int32)) P22 d44_13 rfl rfl ?_
  refine Own.goto (q := 18) P22 d44_14 (by decide) ?_
  refine Own.retZ (Q := QrmSil Z a1 zc h0 n0) P22 d44_18 hret (by simp) hlk (by decide) (by decide) ?_
  exact ⟨rfl, N0, rfl⟩
theorem d43_0 : decode jdk_41_method_12_code 0 = .ok (.iload_n 0, 1) := by decide +kernel
theorem d43_1 : decode jdk_41_method_12_code 1 = .ok (.ifCond .lt 13, 3) := by decide +kernel
theorem d43_4 : decode jdk_41_method_12_code 4 = .ok (.iload_n 0, 1) := by decide +kernel
theorem d43_5 : decode jdk_41_method_12_code 5 = .ok (.iload_n 1, 1) := by decide +kernel
theorem d43_6 : decode jdk_41_method_12_code 6 = .ok (.if_icmp .gt 8, 3) := by decide +kernel
theorem d43_9 : decode jdk_41_method_12_code 9 = .ok (.iload_n 1, 1) := by decide +kernel
theorem d43_10 : decode jdk_41_method_12_code 10 = .ok (.iload_n 2, 1) := by decide +kernel
theorem d43_11 : decode jdk_41_method_12_code 11 = .ok (.if_icmp .le 11, 3) := by decide +kernel
theorem d43_14 : decode jdk_41_method_12_code 14 = .ok (.aload_n 3, 1) := by decide +kernel
theorem d43_15 : decode jdk_41_method_12_code 15 = .ok (.iload_n 0, 1) := by decide +kernel
theorem d43_16 : decode jdk_41_method_12_code 16 = .ok (.iload_n 1, 1) := by decide +kernel
theorem d43_17 : decode jdk_41_method_12_code 17 = .ok (.iload_n 2, 1) := by decide +kernel
theorem d43_18 : decode jdk_41_method_12_code 18 = .ok (.invokestatic 99, 3) := by decide +kernel
theorem d43_21 : decode jdk_41_method_12_code 21 = .ok (.athrow, 1) := by decide +kernel
theorem d43_22 : decode jdk_41_method_12_code 22 = .ok (.iload_n 0, 1) := by decide +kernel
theorem d43_23 : decode jdk_41_method_12_code 23 = .ok (.ireturn, 1) := by decide +kernel
theorem pn_43 : plainFor (⟨"jdk/internal/util/Preconditions", "checkFromToIndex", "(IIILjava/util/function/BiFunction;)I"⟩ : MethodName) = true := by first | exact plainFor_of_name (by first | (simp [plainName, overriddenIn]; done) | decide +kernel) | decide +kernel
def QrmCft (Z : State) (x1 : Int32) (y1 : Int32) (z1 : Int32) (fm : Value) (h0 : Heap) (n0 : Nat) (v : Option Value) (h : Heap) (L : List Loc) : Prop := v = some (.int x1) ∧ Fr n0 L ∧ h = h0
set_option maxRecDepth 65536 in
set_option maxHeartbeats 40000000 in
theorem rmCft (l : Launch) (Z : State) (a0 : Array Value) (hw : ∀ d ∈ tables_1, d.before a0 Z = true) (ws : List Jvm.Cond) (x1 : Int32) (y1 : Int32) (z1 : Int32) (fm : Value) (h0 : Heap) (n0 : Nat) (Z0 : n0 ≤ h0.size) (hfm : fm.isRef = true) (b1 : ¬ x1 < 0) (b2 : ¬ y1 < x1) (b3 : ¬ z1 < y1) :
    MetFree l (⟨"jdk/internal/util/Preconditions", "checkFromToIndex", "(IIILjava/util/function/BiFunction;)I"⟩ : MethodName) (head1 (Jvm.Cond.code (⟨"jdk/internal/util/Preconditions", "checkFromToIndex", "(IIILjava/util/function/BiFunction;)I"⟩ : MethodName) jdk_41_method_12_code 4 (some .int) :: ws) ({ frames := 0, cells := 0, slots := 0, locals := 0 } : Room)) (fun a U => a = #[(.int x1), (.int y1), (.int z1), fm] ∧ Z.Warmed39 U.vm ∧ U.heap = h0) (fun _ _ _ _ _ => True) (fun _ U o U' => ∃ v L, o = .returned v ∧ QrmCft Z x1 y1 z1 fm h0 n0 v U'.heap L ∧ FrameEnd U o U' L ({ frames := 0, cells := 0, slots := 0, locals := 0 } : Room).cells ({ frames := 0, cells := 0, slots := 0, locals := 0 } : Room).slots) := by
  refine MetFree.of_bodySF pn_43 hisR ?_
  intro p e s m args below meth c s₁ Bd hml0 hP hK
  obtain ⟨rfl, hZ, hh⟩ := hP
  have hml : c.maxLocals = 4 := hml0
  have hlk : meth.locks = false := Bd.notSynchronized
  have hret := Bd.returns
  have hnm := (name_of_methodNamed Bd.named Bd.method).1
  have P0 : Own.Wk Z "jdk/internal/util/Preconditions" jdk_41_method_12_code h0 p l e ({ frames := 0, cells := 0, slots := 0, locals := 0 } : Room) s m #[(.int x1), (.int y1), (.int z1), fm] below meth c s₁ [] 0 0 := ⟨Stand.of_body Bd, Bd.exec, Bd.bytes, hZ, findClass_of_methodNamed Bd.named, by rw [← hh, Bd.state]; rfl⟩
  have N0 := Fr.nil n0
  show Own.Goes p.tables e below (fun s₂ o => ∃ v L, o = .returned v ∧ QrmCft Z x1 y1 z1 fm h0 n0 v s₂.heap L ∧ FrameEnd s o s₂ L ({ frames := 0, cells := 0, slots := 0, locals := 0 } : Room).cells ({ frames := 0, cells := 0, slots := 0, locals := 0 } : Room).slots) (s₁.setTop (entryFrame m #[(.int x1), (.int y1), (.int z1), fm] 4))
  rw [show entryFrame m #[(.int x1), (.int y1), (.int z1), fm] 4 = mkF m 0 #[.val (.int x1), .val (.int y1), .val (.int z1), .val fm] [] from by first | rfl | (rcases Own.refc hfm with rfl | ⟨_, rfl⟩ <;> rfl) | (simp [entryFrame, mkF, argsToLocals, Value.category]; done)]
  refine Own.iloadN (q := 1) P0 d43_0 rfl rfl ?_
  refine Own.if_lt (q := 4) (qy := 14) P0 d43_1 (by decide) rfl (fun q => absurd q b1) (fun _ => ?_)
  refine Own.iloadN (q := 5) P0 d43_4 rfl rfl ?_
  refine Own.iloadN (q := 6) P0 d43_5 rfl rfl ?_
  refine Own.icmp_gt (q := 9) (qy := 14) P0 d43_6 (by decide) rfl (fun q => absurd q b2) (fun _ => ?_)
  refine Own.iloadN (q := 10) P0 d43_9 rfl rfl ?_
  refine Own.iloadN (q := 11) P0 d43_10 rfl rfl ?_
  refine Own.icmp_le (q := 14) (qy := 22) P0 d43_11 (by decide) rfl (fun _ => ?_) (fun q => absurd q b3)
  refine Own.iloadN (q := 23) P0 d43_22 rfl rfl ?_
  refine Own.retI (Q := QrmCft Z x1 y1 z1 fm h0 n0) P0 d43_23 hret hlk (by decide) (by decide) ?_
  exact ⟨rfl, N0, rfl⟩
theorem d42_0 : decode jdk_42_method_158_code 0 = .ok (.iload_n 0, 1) := by decide +kernel
theorem d42_1 : decode jdk_42_method_158_code 1 = .ok (.iload_n 1, 1) := by decide +kernel
theorem d42_2 : decode jdk_42_method_158_code 2 = .ok (.iload_n 2, 1) := by decide +kernel
theorem d42_3 : decode jdk_42_method_158_code 3 = .ok (.getstatic 1053, 3) := by decide +kernel
theorem d42_6 : decode jdk_42_method_158_code 6 = .ok (.invokestatic 1062, 3) := by decide +kernel
theorem d42_9 : decode jdk_42_method_158_code 9 = .ok (.pop, 1) := by decide +kernel
theorem d42_10 : decode jdk_42_method_158_code 10 = .ok (.return_, 1) := by decide +kernel
theorem pn_42 : plainFor (⟨"java/lang/String", "checkBoundsBeginEnd", "(III)V"⟩ : MethodName) = true := by first | exact plainFor_of_name (by first | (simp [plainName, overriddenIn]; done) | decide +kernel) | decide +kernel
def QrmCbe (Z : State) (x1 : Int32) (y1 : Int32) (z1 : Int32) (fm : Value) (h0 : Heap) (n0 : Nat) (v : Option Value) (h : Heap) (L : List Loc) : Prop := v = none ∧ Fr n0 L ∧ h = h0
set_option maxRecDepth 65536 in
set_option maxHeartbeats 40000000 in
theorem rmCbe (l : Launch) (Z : State) (a0 : Array Value) (hw : ∀ d ∈ tables_1, d.before a0 Z = true) (ws : List Jvm.Cond) (x1 : Int32) (y1 : Int32) (z1 : Int32) (fm : Value) (h0 : Heap) (n0 : Nat) (Z0 : n0 ≤ h0.size) (SF : Sta Z h0 "jdk/internal/util/Preconditions" "SIOOBE_FORMATTER" "Ljava/util/function/BiFunction;" fm) (hfm : fm.isRef = true) (b1 : ¬ x1 < 0) (b2 : ¬ y1 < x1) (b3 : ¬ z1 < y1) :
    MetFree l (⟨"java/lang/String", "checkBoundsBeginEnd", "(III)V"⟩ : MethodName) (head1 (Jvm.Cond.code (⟨"java/lang/String", "checkBoundsBeginEnd", "(III)V"⟩ : MethodName) jdk_42_method_158_code 3 none :: ws) ({ frames := 1, cells := 0, slots := 0, locals := 15 } : Room)) (fun a U => a = #[(.int x1), (.int y1), (.int z1)] ∧ Z.Warmed39 U.vm ∧ U.heap = h0) (fun _ _ _ _ _ => True) (fun _ U o U' => ∃ v L, o = .returned v ∧ QrmCbe Z x1 y1 z1 fm h0 n0 v U'.heap L ∧ FrameEnd U o U' L ({ frames := 1, cells := 0, slots := 0, locals := 15 } : Room).cells ({ frames := 1, cells := 0, slots := 0, locals := 15 } : Room).slots) := by
  refine MetFree.of_bodySF pn_42 hisR ?_
  intro p e s m args below meth c s₁ Bd hml0 hP hK
  obtain ⟨rfl, hZ, hh⟩ := hP
  have hml : c.maxLocals = 3 := hml0
  have hlk : meth.locks = false := Bd.notSynchronized
  have hret := Bd.returns
  have hnm := (name_of_methodNamed Bd.named Bd.method).1
  have P0 : Own.Wk Z "java/lang/String" jdk_42_method_158_code h0 p l e ({ frames := 1, cells := 0, slots := 0, locals := 15 } : Room) s m #[(.int x1), (.int y1), (.int z1)] below meth c s₁ [] 0 0 := ⟨Stand.of_body Bd, Bd.exec, Bd.bytes, hZ, findClass_of_methodNamed Bd.named, by rw [← hh, Bd.state]; rfl⟩
  have N0 := Fr.nil n0
  show Own.Goes p.tables e below (fun s₂ o => ∃ v L, o = .returned v ∧ QrmCbe Z x1 y1 z1 fm h0 n0 v s₂.heap L ∧ FrameEnd s o s₂ L ({ frames := 1, cells := 0, slots := 0, locals := 15 } : Room).cells ({ frames := 1, cells := 0, slots := 0, locals := 15 } : Room).slots) (s₁.setTop (entryFrame m #[(.int x1), (.int y1), (.int z1)] 3))
  rw [show entryFrame m #[(.int x1), (.int y1), (.int z1)] 3 = mkF m 0 #[.val (.int x1), .val (.int y1), .val (.int z1)] [] from by first | rfl | (rcases Own.refc hfm with rfl | ⟨_, rfl⟩ <;> rfl) | (simp [entryFrame, mkF, argsToLocals, Value.category]; done)]
  refine Own.iloadN (q := 1) P0 d42_0 rfl rfl ?_
  refine Own.iloadN (q := 2) P0 d42_1 rfl rfl ?_
  refine Own.iloadN (q := 3) P0 d42_2 rfl rfl ?_
  refine Own.getstatic (q := 6) P0 d42_3 (hw _ (List.mem_of_getElem? (i := 227) rfl)) SF rfl ?_
  intro T21 P21
  refine Own.invStatic (q := 9) (W := 0) (y := (⟨"jdk/internal/util/Preconditions", "checkFromToIndex", "(IIILjava/util/function/BiFunction;)I"⟩ : MethodName)) (argsL := [(.int x1), (.int y1), (.int z1), fm]) (rest := []) P21 d42_6 (hw _ (List.mem_of_getElem? (i := 229) rfl)) (hw _ (List.mem_of_getElem? (i := 230) rfl)) (hw _ (List.mem_of_getElem? (i := 228) rfl)) (hw _ (List.mem_of_getElem? (i := 231) rfl)) (by decide) (backOf (W := 0) (rmCft l Z a0 hw [] x1 y1 z1 fm h0 n0 Z0 hfm b1 b2 b3) P21.2.2.2.1 (hw _ (List.mem_of_getElem? (i := 231) rfl)) (hw _ (List.mem_of_getElem? (i := 228) rfl)) (by decide) (by decide)) rfl rfl (by rw [hml]; rfl) (lenOf (show parseMethodDescriptor "(IIILjava/util/function/BiFunction;)I" = some ⟨[.int, .int, .int, (.object "java/util/function/BiFunction")], some .int⟩ from by decide +kernel) rfl) (by show 2 * 0 + _ ≤ _; exact Nat.le_of_eq rfl) (by decide) (by decide) rfl ?_
  rintro v22 T22 h22 L22 ⟨rfl, N22q, e22⟩ P22
  rw [e22] at P22
  have N22 := Fr.app N0 N22q
  show Own.Goes _ _ _ _ (T22.setTop (mkF m 9 #[.val (.int x1), .val (.int y1), .val (.int z1)] [(.int x1)]))
  refine Own.pop (q := 10) P22 d42_9 rfl rfl ?_
  refine Own.retV (Q := QrmCbe Z x1 y1 z1 fm h0 n0) P22 d42_10 hret hlk (by decide) (by decide) ?_
  exact ⟨rfl, N22, rfl⟩
theorem d46_0 : decode jdk_42_method_151_code 0 = .ok (.aload_n 0, 1) := by decide +kernel
theorem d46_1 : decode jdk_42_method_151_code 1 = .ok (.invokespecial 1, 3) := by decide +kernel
theorem d46_4 : decode jdk_42_method_151_code 4 = .ok (.aload_n 0, 1) := by decide +kernel
theorem d46_5 : decode jdk_42_method_151_code 5 = .ok (.aload_n 1, 1) := by decide +kernel
theorem d46_6 : decode jdk_42_method_151_code 6 = .ok (.putfield 9, 3) := by decide +kernel
theorem d46_9 : decode jdk_42_method_151_code 9 = .ok (.aload_n 0, 1) := by decide +kernel
theorem d46_10 : decode jdk_42_method_151_code 10 = .ok (.iload_n 2, 1) := by decide +kernel
theorem d46_11 : decode jdk_42_method_151_code 11 = .ok (.putfield 15, 3) := by decide +kernel
theorem d46_14 : decode jdk_42_method_151_code 14 = .ok (.return_, 1) := by decide +kernel
theorem pn_46 : plainFor (⟨"java/lang/String", "<init>", "([BB)V"⟩ : MethodName) = true := by first | exact plainFor_of_name (by first | (simp [plainName, overriddenIn]; done) | decide +kernel) | decide +kernel
def QrmSB (Z : State) (a1 : Addr) (a2 : Addr) (u1 : Value) (u2 : Value) (h0 : Heap) (n0 : Nat) (v : Option Value) (h : Heap) (L : List Loc) : Prop := v = none ∧ Fr n0 L ∧ Keep h0 h [a1] ∧ Exa Z h a1 "java/lang/String" ∧ Fld Z h a1 "java/lang/String" "value" "[B" (.ref a2) ∧ Fld Z h a1 "java/lang/String" "coder" "B" (.int 0)
set_option maxRecDepth 65536 in
set_option maxHeartbeats 40000000 in
theorem rmSB (l : Launch) (Z : State) (a0 : Array Value) (hw : ∀ d ∈ tables_1, d.before a0 Z = true) (ws : List Jvm.Cond) (a1 : Addr) (a2 : Addr) (u1 : Value) (u2 : Value) (h0 : Heap) (n0 : Nat) (Z0 : n0 ≤ h0.size) (E_a1 : Exa Z h0 a1 "java/lang/String") (f1 : Fld Z h0 a1 "java/lang/String" "value" "[B" u1) (f2 : Fld Z h0 a1 "java/lang/String" "coder" "B" u2) (g_a1 : n0 ≤ a1) :
    MetFree l (⟨"java/lang/String", "<init>", "([BB)V"⟩ : MethodName) (head1 (Jvm.Cond.code (⟨"java/lang/String", "<init>", "([BB)V"⟩ : MethodName) jdk_42_method_151_code 3 none :: ws) ({ frames := 1, cells := 0, slots := 0, locals := 12 } : Room)) (fun a U => a = #[(.ref a1), (.ref a2), (.int (0 : Int32))] ∧ Z.Warmed39 U.vm ∧ U.heap = h0) (fun _ _ _ _ _ => True) (fun _ U o U' => ∃ v L, o = .returned v ∧ QrmSB Z a1 a2 u1 u2 h0 n0 v U'.heap L ∧ FrameEnd U o U' L ({ frames := 1, cells := 0, slots := 0, locals := 12 } : Room).cells ({ frames := 1, cells := 0, slots := 0, locals := 12 } : Room).slots) := by
  refine MetFree.of_bodySF pn_46 hisR ?_
  intro p e s m args below meth c s₁ Bd hml0 hP hK
  obtain ⟨rfl, hZ, hh⟩ := hP
  have hml : c.maxLocals = 3 := hml0
  have hlk : meth.locks = false := Bd.notSynchronized
  have hret := Bd.returns
  have hnm := (name_of_methodNamed Bd.named Bd.method).1
  have P0 : Own.Wk Z "java/lang/String" jdk_42_method_151_code h0 p l e ({ frames := 1, cells := 0, slots := 0, locals := 12 } : Room) s m #[(.ref a1), (.ref a2), (.int (0 : Int32))] below meth c s₁ [] 0 0 := ⟨Stand.of_body Bd, Bd.exec, Bd.bytes, hZ, findClass_of_methodNamed Bd.named, by rw [← hh, Bd.state]; rfl⟩
  have N0 := Fr.nil n0
  show Own.Goes p.tables e below (fun s₂ o => ∃ v L, o = .returned v ∧ QrmSB Z a1 a2 u1 u2 h0 n0 v s₂.heap L ∧ FrameEnd s o s₂ L ({ frames := 1, cells := 0, slots := 0, locals := 12 } : Room).cells ({ frames := 1, cells := 0, slots := 0, locals := 12 } : Room).slots) (s₁.setTop (entryFrame m #[(.ref a1), (.ref a2), (.int (0 : Int32))] 3))
  rw [show entryFrame m #[(.ref a1), (.ref a2), (.int (0 : Int32))] 3 = mkF m 0 #[.val (.ref a1), .val (.ref a2), .val (.int (0 : Int32))] [] from by first | rfl | (rcases Own.refc hfm with rfl | ⟨_, rfl⟩ <;> rfl) | (simp [entryFrame, mkF, argsToLocals, Value.category]; done)]
  refine Own.aloadN (q := 1) P0 d46_0 rfl rfl rfl ?_
  refine Own.objinit (q := 4) (W := 0) P0 d46_1 (hw _ (List.mem_of_getElem? (i := 18) rfl)) (hw _ (List.mem_of_getElem? (i := 19) rfl)) (hw _ (List.mem_of_getElem? (i := 20) rfl)) (by rw [hml]; rfl) (by decide) (by show 2 * 0 + _ ≤ _; exact Nat.le_of_eq rfl) (by decide) rfl ?_
  intro T21 P21
  refine Own.aloadN (q := 5) P21 d46_4 rfl rfl rfl ?_
  refine Own.aloadN (q := 6) P21 d46_5 rfl rfl rfl ?_
  refine Own.putfield (q := 9) P21 d46_6 (hw _ (List.mem_of_getElem? (i := 27) rfl)) f1 E_a1 (Or.inr ⟨(hw _ (List.mem_of_getElem? (i := 23) rfl)), rfl, hnm⟩) (hw _ (List.mem_of_getElem? (i := 9) rfl)) (ty := (.array .byte)) (by decide) rfl rfl rfl ?_
  intro T22 h22 lc22 hl22 P22 W22
  have F22_value := Fld.same W22 f1
  have F22_coder := f2.other W22 (Or.inr (slot_ne (Or.inr (hw _ (List.mem_of_getElem? (i := 24) rfl))) (Or.inr (hw _ (List.mem_of_getElem? (i := 23) rfl))) (by decide) (t := .byte) (t' := (.array .byte)) (by decide) (by decide)))
  have A22 := E_a1.wr W22
  have N22 := Own.Fr.one N0 hl22 g_a1
  refine Own.aloadN (q := 10) P22 d46_9 rfl rfl rfl ?_
  refine Own.iloadN (q := 11) P22 d46_10 rfl rfl ?_
  refine Own.putfield (q := 14) P22 d46_11 (hw _ (List.mem_of_getElem? (i := 28) rfl)) F22_coder A22 (Or.inr ⟨(hw _ (List.mem_of_getElem? (i := 24) rfl)), rfl, hnm⟩) (hw _ (List.mem_of_getElem? (i := 9) rfl)) (ty := .byte) (by decide) rfl rfl rfl ?_
  intro T23 h23 lc23 hl23 P23 W23
  have F23_value := F22_value.other W23 (Or.inr (slot_ne (Or.inr (hw _ (List.mem_of_getElem? (i := 23) rfl))) (Or.inr (hw _ (List.mem_of_getElem? (i := 24) rfl))) (by decide) (t := (.array .byte)) (t' := .byte) (by decide) (by decide)))
  have F23_coder := Fld.same W23 F22_coder
  have A23 := A22.wr W23
  have N23 := Own.Fr.one N22 hl23 g_a1
  refine Own.retV (Q := QrmSB Z a1 a2 u1 u2 h0 n0) P23 d46_14 hret hlk (by decide) (by decide) ?_
  exact ⟨rfl, N23, (Keep.wr (Keep.wr (Keep.refl h0 _) W22 (Or.inl (by simp))) W23 (Or.inl (by simp))), A23, F23_value, F23_coder⟩
theorem d45_0 : decode jdk_43_method_47_code 0 = .ok (.iload_n 2, 1) := by decide +kernel
theorem d45_1 : decode jdk_43_method_47_code 1 = .ok (.ifCond .ne 6, 3) := by decide +kernel
theorem d45_4 : decode jdk_43_method_47_code 4 = .ok (.ldc 151, 2) := by decide +kernel
theorem d45_6 : decode jdk_43_method_47_code 6 = .ok (.areturn, 1) := by decide +kernel
theorem d45_7 : decode jdk_43_method_47_code 7 = .ok (.new 1, 3) := by decide +kernel
theorem d45_10 : decode jdk_43_method_47_code 10 = .ok (.dup, 1) := by decide +kernel
theorem d45_11 : decode jdk_43_method_47_code 11 = .ok (.aload_n 0, 1) := by decide +kernel
theorem d45_12 : decode jdk_43_method_47_code 12 = .ok (.iload_n 1, 1) := by decide +kernel
theorem d45_13 : decode jdk_43_method_47_code 13 = .ok (.iload_n 1, 1) := by decide +kernel
theorem d45_14 : decode jdk_43_method_47_code 14 = .ok (.iload_n 2, 1) := by decide +kernel
theorem d45_15 : decode jdk_43_method_47_code 15 = .ok (.iadd, 1) := by decide +kernel
theorem d45_16 : decode jdk_43_method_47_code 16 = .ok (.invokestatic 232, 3) := by decide +kernel
theorem d45_19 : decode jdk_43_method_47_code 19 = .ok (.iconst 0, 1) := by decide +kernel
theorem d45_20 : decode jdk_43_method_47_code 20 = .ok (.invokespecial 112, 3) := by decide +kernel
theorem d45_23 : decode jdk_43_method_47_code 23 = .ok (.areturn, 1) := by decide +kernel
theorem pn_45 : plainFor (⟨"java/lang/StringLatin1", "newString", "([BII)Ljava/lang/String;"⟩ : MethodName) = true := by first | exact plainFor_of_name (by first | (simp [plainName, overriddenIn]; done) | decide +kernel) | decide +kernel
def QrmNs (Z : State) (t1 : Addr) (kb : ClassId) (cs : List Int32) (f : Nat) (n : Nat) (h0 : Heap) (n0 : Nat) (v : Option Value) (h : Heap) (L : List Loc) : Prop := ∃ r, v = some (.ref r) ∧ Fr n0 L ∧ Ext h0 h ∧ h0.size ≤ r ∧ Own.Str Z h r ((cs.drop f).take n)
set_option maxRecDepth 65536 in
set_option maxHeartbeats 40000000 in
theorem rmNs (l : Launch) (Z : State) (a0 : Array Value) (hw : ∀ d ∈ tables_1, d.before a0 Z = true) (ws : List Jvm.Cond) (t1 : Addr) (kb : ClassId) (cs : List Int32) (f : Nat) (n : Nat) (h0 : Heap) (n0 : Nat) (Z0 : n0 ≤ h0.size) (A_t : Arv Z h0 t1 kb .byte (Int32.ofNat cs.length) ((cs.map fun c : Int32 => c.toInt8.toInt32).map Value.int) (.int 0)) (hfn : f + n ≤ cs.length) (hn0 : ¬ n = 0) (hn16 : n ≤ 16) (hl : cs.length ≤ 4000) (hp : ∀ c ∈ cs, ¬ c < 0 ∧ ¬ (255 : Int32) < c) (hne : ¬ (f = 0 ∧ n = cs.length)) :
    MetFree l (⟨"java/lang/StringLatin1", "newString", "([BII)Ljava/lang/String;"⟩ : MethodName) (head1 (Jvm.Cond.code (⟨"java/lang/StringLatin1", "newString", "([BII)Ljava/lang/String;"⟩ : MethodName) jdk_43_method_47_code 3 (some (.object "java/lang/String")) :: ws) ({ frames := 3, cells := 2, slots := 20, locals := 50 } : Room)) (fun a U => a = #[(.ref t1), (.int (Int32.ofNat f)), (.int (Int32.ofNat n))] ∧ Z.Warmed39 U.vm ∧ U.heap = h0) (fun _ _ _ _ _ => True) (fun _ U o U' => ∃ v L, o = .returned v ∧ QrmNs Z t1 kb cs f n h0 n0 v U'.heap L ∧ FrameEnd U o U' L ({ frames := 3, cells := 2, slots := 20, locals := 50 } : Room).cells ({ frames := 3, cells := 2, slots := 20, locals := 50 } : Room).slots) := by
  refine MetFree.of_bodySF pn_45 hisR ?_
  intro p e s m args below meth c s₁ Bd hml0 hP hK
  obtain ⟨rfl, hZ, hh⟩ := hP
  have hml : c.maxLocals = 3 := hml0
  have hlk : meth.locks = false := Bd.notSynchronized
  have hret := Bd.returns
  have hnm := (name_of_methodNamed Bd.named Bd.method).1
  have P0 : Own.Wk Z "java/lang/StringLatin1" jdk_43_method_47_code h0 p l e ({ frames := 3, cells := 2, slots := 20, locals := 50 } : Room) s m #[(.ref t1), (.int (Int32.ofNat f)), (.int (Int32.ofNat n))] below meth c s₁ [] 0 0 := ⟨Stand.of_body Bd, Bd.exec, Bd.bytes, hZ, findClass_of_methodNamed Bd.named, by rw [← hh, Bd.state]; rfl⟩
  have N0 := Fr.nil n0
  show Own.Goes p.tables e below (fun s₂ o => ∃ v L, o = .returned v ∧ QrmNs Z t1 kb cs f n h0 n0 v s₂.heap L ∧ FrameEnd s o s₂ L ({ frames := 3, cells := 2, slots := 20, locals := 50 } : Room).cells ({ frames := 3, cells := 2, slots := 20, locals := 50 } : Room).slots) (s₁.setTop (entryFrame m #[(.ref t1), (.int (Int32.ofNat f)), (.int (Int32.ofNat n))] 3))
  rw [show entryFrame m #[(.ref t1), (.int (Int32.ofNat f)), (.int (Int32.ofNat n))] 3 = mkF m 0 #[.val (.ref t1), .val (.int (Int32.ofNat f)), .val (.int (Int32.ofNat n))] [] from by first | rfl | (rcases Own.refc hfm with rfl | ⟨_, rfl⟩ <;> rfl) | (simp [entryFrame, mkF, argsToLocals, Value.category]; done)]
  refine Own.iloadN (q := 1) P0 d45_0 rfl rfl ?_
  refine Own.if_ne (q := 4) (qy := 7) P0 d45_1 (by decide) rfl (fun _ => ?_) (fun q => absurd q (Own.n0_of (by have := hn16; omega) hn0))
  refine Own.newobj (q := 10) P0 d45_7 (hw _ (List.mem_of_getElem? (i := 240) rfl)) (hw _ (List.mem_of_getElem? (i := 9) rfl)) (hw _ (List.mem_of_getElem? (i := 10) rfl)) (by decide) (by decide) rfl ?_
  intro T21 h21 a21 ha21 P21 E21 A21 D21
  have F21_value : Fld Z h21 a21 "java/lang/String" "value" "[B" .null := D21 (Or.inr (hw _ (List.mem_of_getElem? (i := 23) rfl))) (ty := (.array .byte)) (by decide)
  have F21_coder : Fld Z h21 a21 "java/lang/String" "coder" "B" (.int (0 : Int32)) := D21 (Or.inr (hw _ (List.mem_of_getElem? (i := 24) rfl))) (ty := .byte) (by decide)
  refine Own.dup (q := 11) P21 d45_10 rfl rfl ?_
  refine Own.aloadN (q := 12) P21 d45_11 rfl rfl rfl ?_
  refine Own.iloadN (q := 13) P21 d45_12 rfl rfl ?_
  refine Own.iloadN (q := 14) P21 d45_13 rfl rfl ?_
  refine Own.iloadN (q := 15) P21 d45_14 rfl rfl ?_
  refine Own.iadd (q := 16) P21 d45_15  rfl ?_
  rw [show ((Int32.ofNat f) + (Int32.ofNat n)) = (Int32.ofNat (f + n)) from (Int32.ofNat_add f n).symm]
  show Own.Goes _ _ _ _ (T21.setTop (mkF m 16 #[.val (.ref t1), .val (.int (Int32.ofNat f)), .val (.int (Int32.ofNat n))] [(.int (Int32.ofNat (f + n))), (.int (Int32.ofNat f)), (.ref t1), (.ref a21), (.ref a21)]))
  have E0_1_22 : Ext h0 h21 := E21
  refine Own.invStatic (q := 19) (W := 2) (y := (⟨"java/util/Arrays", "copyOfRange", "([BII)[B"⟩ : MethodName)) (argsL := [(.ref t1), (.int (Int32.ofNat f)), (.int (Int32.ofNat (f + n)))]) (rest := [(.ref a21), (.ref a21)]) P21 d45_16 (hw _ (List.mem_of_getElem? (i := 241) rfl)) (hw _ (List.mem_of_getElem? (i := 171) rfl)) (hw _ (List.mem_of_getElem? (i := 172) rfl)) (hw _ (List.mem_of_getElem? (i := 173) rfl)) (by decide) (backOf (W := 2) (rmCr l Z a0 hw [] t1 kb cs.length ((cs.map fun c : Int32 => c.toInt8.toInt32).map Value.int) f n (f + n) h21 n0 (Nat.le_trans Z0 E0_1_22.1) (A_t.ext E0_1_22) (by simp) hfn hl hn16 rfl hne) P21.2.2.2.1 (hw _ (List.mem_of_getElem? (i := 173) rfl)) (hw _ (List.mem_of_getElem? (i := 172) rfl)) (by decide) (by decide)) rfl rfl (by rw [hml]; rfl) (lenOf (show parseMethodDescriptor "([BII)[B" = some ⟨[(.array .byte), .int, .int], some (.array .byte)⟩ from by decide +kernel) rfl) (by show 2 * 0 + _ ≤ _; exact Nat.le_of_eq rfl) (by decide) (by decide) rfl ?_
  rintro v23 T23 h23 L23 ⟨r23, kr23, rfl, N23q, E23, gr23, B23⟩ P23
  have N23 := Fr.app N0 N23q
  show Own.Goes _ _ _ _ (T23.setTop (mkF m 19 #[.val (.ref t1), .val (.int (Int32.ofNat f)), .val (.int (Int32.ofNat n))] [(.ref r23), (.ref a21), (.ref a21)]))
  have B23s : Arv Z h23 r23 kr23 .byte (Int32.ofNat ((cs.drop f).take n).length) ((((cs.drop f).take n).map fun c : Int32 => c.toInt8.toInt32).map Value.int) (.int 0) := by
    rw [Own.sub_len hfn, Own.sub_by]
    exact B23
  refine Own.iconst (q := 20) (v := (0 : Int32)) P23 d45_19 rfl rfl ?_
  have E1_2_24 : Ext h21 h23 := E23
  have E0_2_25 : Ext h0 h23 := (Own.Ext.tr E0_1_22 E23)
  refine Own.invSpecial (q := 23) (W := 1) (y := (⟨"java/lang/String", "<init>", "([BB)V"⟩ : MethodName)) (a := a21) (argsL := [(.ref r23), (.int (0 : Int32))]) (rest := [(.ref a21)]) P23 d45_20 rfl (hw _ (List.mem_of_getElem? (i := 242) rfl)) (hw _ (List.mem_of_getElem? (i := 243) rfl)) (hw _ (List.mem_of_getElem? (i := 244) rfl)) (by decide) (backOf (W := 1) (rmSB l Z a0 hw [] a21 r23 .null (.int (0 : Int32)) h23 n0 (Nat.le_trans Z0 E0_2_25.1) (A21.ext E1_2_24) (F21_value.ext E1_2_24) (F21_coder.ext E1_2_24) (Nat.le_trans Z0 (Nat.le_of_eq ha21.symm))) P23.2.2.2.1 (hw _ (List.mem_of_getElem? (i := 244) rfl)) (hw _ (List.mem_of_getElem? (i := 10) rfl)) (by decide) (by decide)) rfl rfl (by rw [hml]; rfl) (lenOf (show parseMethodDescriptor "([BB)V" = some ⟨[(.array .byte), .byte], none⟩ from by decide +kernel) rfl) (by show 2 * 0 + _ ≤ _; exact Nat.le_of_eq rfl) (by decide) (by decide) rfl ?_
  rintro v26 T26 h26 L26 ⟨rfl, N26q, K26, G26, V26, C26⟩ P26
  have N26 := Fr.app N23 N26q
  show Own.Goes _ _ _ _ (T26.setTop (mkF m 23 #[.val (.ref t1), .val (.int (Int32.ofNat f)), .val (.int (Int32.ofNat n))] [(.ref a21)]))
  have B26 := Arv.keep B23s K26 (ninS (Nat.ne_of_gt (Nat.lt_of_lt_of_le A21.lt gr23)) nin0)
  have St26 : Own.Str Z h26 a21 ((cs.drop f).take n) := ⟨⟨_, _, G26, V26, C26, B26⟩, Own.rng_sub hp f n, by rw [Own.sub_len hfn]; have := hn16; omega⟩
  have E0_3_27 : Ext h0 h26 := (Own.Ext.kp E0_2_25 K26 (allS (Nat.le_of_eq ha21.symm) all0))
  refine Own.retA (Q := QrmNs Z t1 kb cs f n h0 n0) P26 d45_23 hret rfl rfl rfl hlk (by decide) (by decide) ?_
  exact ⟨_, rfl, N26, E0_3_27, (Nat.le_of_eq ha21.symm), St26⟩
theorem d41_0 : decode jdk_42_method_92_code 0 = .ok (.aload_n 0, 1) := by decide +kernel
theorem d41_1 : decode jdk_42_method_92_code 1 = .ok (.invokevirtual 505, 3) := by decide +kernel
theorem d41_4 : decode jdk_42_method_92_code 4 = .ok (.istore_n 3, 1) := by decide +kernel
theorem d41_5 : decode jdk_42_method_92_code 5 = .ok (.iload_n 1, 1) := by decide +kernel
theorem d41_6 : decode jdk_42_method_92_code 6 = .ok (.iload_n 2, 1) := by decide +kernel
theorem d41_7 : decode jdk_42_method_92_code 7 = .ok (.iload_n 3, 1) := by decide +kernel
theorem d41_8 : decode jdk_42_method_92_code 8 = .ok (.invokestatic 521, 3) := by decide +kernel
theorem d41_11 : decode jdk_42_method_92_code 11 = .ok (.iload_n 1, 1) := by decide +kernel
theorem d41_12 : decode jdk_42_method_92_code 12 = .ok (.ifCond .ne 10, 3) := by decide +kernel
theorem d41_15 : decode jdk_42_method_92_code 15 = .ok (.iload_n 2, 1) := by decide +kernel
theorem d41_16 : decode jdk_42_method_92_code 16 = .ok (.iload_n 3, 1) := by decide +kernel
theorem d41_17 : decode jdk_42_method_92_code 17 = .ok (.if_icmp .ne 5, 3) := by decide +kernel
theorem d41_20 : decode jdk_42_method_92_code 20 = .ok (.aload_n 0, 1) := by decide +kernel
theorem d41_21 : decode jdk_42_method_92_code 21 = .ok (.areturn, 1) := by decide +kernel
theorem d41_22 : decode jdk_42_method_92_code 22 = .ok (.iload_n 2, 1) := by decide +kernel
theorem d41_23 : decode jdk_42_method_92_code 23 = .ok (.iload_n 1, 1) := by decide +kernel
theorem d41_24 : decode jdk_42_method_92_code 24 = .ok (.isub, 1) := by decide +kernel
theorem d41_25 : decode jdk_42_method_92_code 25 = .ok (.istore 4, 2) := by decide +kernel
theorem d41_27 : decode jdk_42_method_92_code 27 = .ok (.aload_n 0, 1) := by decide +kernel
theorem d41_28 : decode jdk_42_method_92_code 28 = .ok (.invokevirtual 492, 3) := by decide +kernel
theorem d41_31 : decode jdk_42_method_92_code 31 = .ok (.ifCond .eq 16, 3) := by decide +kernel
theorem d41_34 : decode jdk_42_method_92_code 34 = .ok (.aload_n 0, 1) := by decide +kernel
theorem d41_35 : decode jdk_42_method_92_code 35 = .ok (.getfield 9, 3) := by decide +kernel
theorem d41_38 : decode jdk_42_method_92_code 38 = .ok (.iload_n 1, 1) := by decide +kernel
theorem d41_39 : decode jdk_42_method_92_code 39 = .ok (.iload 4, 2) := by decide +kernel
theorem d41_41 : decode jdk_42_method_92_code 41 = .ok (.invokestatic 685, 3) := by decide +kernel
theorem d41_44 : decode jdk_42_method_92_code 44 = .ok (.goto 13, 3) := by decide +kernel
theorem d41_47 : decode jdk_42_method_92_code 47 = .ok (.aload_n 0, 1) := by decide +kernel
theorem d41_48 : decode jdk_42_method_92_code 48 = .ok (.getfield 9, 3) := by decide +kernel
theorem d41_51 : decode jdk_42_method_92_code 51 = .ok (.iload_n 1, 1) := by decide +kernel
theorem d41_52 : decode jdk_42_method_92_code 52 = .ok (.iload 4, 2) := by decide +kernel
theorem d41_54 : decode jdk_42_method_92_code 54 = .ok (.invokestatic 689, 3) := by decide +kernel
theorem d41_57 : decode jdk_42_method_92_code 57 = .ok (.areturn, 1) := by decide +kernel
theorem pn_41 : plainFor (⟨"java/lang/String", "substring", "(II)Ljava/lang/String;"⟩ : MethodName) = true := by first | exact plainFor_of_name (by first | (simp [plainName, overriddenIn]; done) | decide +kernel) | decide +kernel
def QrmSb2 (Z : State) (a1 : Addr) (cs : List Int32) (f : Nat) (zc : Int32) (fm : Value) (h0 : Heap) (n0 : Nat) (v : Option Value) (h : Heap) (L : List Loc) : Prop := ∃ r, v = some (.ref r) ∧ Fr n0 L ∧ Ext h0 h ∧ Own.Str Z h r (cs.drop f)
set_option maxRecDepth 65536 in
set_option maxHeartbeats 40000000 in
theorem rmSb2 (l : Launch) (Z : State) (a0 : Array Value) (hw : ∀ d ∈ tables_1, d.before a0 Z = true) (ws : List Jvm.Cond) (a1 : Addr) (cs : List Int32) (f : Nat) (zc : Int32) (fm : Value) (h0 : Heap) (n0 : Nat) (Z0 : n0 ≤ h0.size) (SC : Sta Z h0 "java/lang/String" "COMPACT_STRINGS" "Z" (.int zc)) (hzc : ¬ zc = 0) (SF : Sta Z h0 "jdk/internal/util/Preconditions" "SIOOBE_FORMATTER" "Ljava/util/function/BiFunction;" fm) (hfm : fm.isRef = true) (S1 : Own.Str Z h0 a1 cs) (hf : f < cs.length) (hc16 : cs.length ≤ 16) :
    MetFree l (⟨"java/lang/String", "substring", "(II)Ljava/lang/String;"⟩ : MethodName) (head1 (Jvm.Cond.code (⟨"java/lang/String", "substring", "(II)Ljava/lang/String;"⟩ : MethodName) jdk_42_method_92_code 5 (some (.object "java/lang/String")) :: ws) ({ frames := 4, cells := 2, slots := 20, locals := 66 } : Room)) (fun a U => a = #[(.ref a1), (.int (Int32.ofNat f)), (.int (Int32.ofNat cs.length))] ∧ Z.Warmed39 U.vm ∧ U.heap = h0) (fun _ _ _ _ _ => True) (fun _ U o U' => ∃ v L, o = .returned v ∧ QrmSb2 Z a1 cs f zc fm h0 n0 v U'.heap L ∧ FrameEnd U o U' L ({ frames := 4, cells := 2, slots := 20, locals := 66 } : Room).cells ({ frames := 4, cells := 2, slots := 20, locals := 66 } : Room).slots) := by
  refine MetFree.of_bodySF pn_41 hisR ?_
  intro p e s m args below meth c s₁ Bd hml0 hP hK
  obtain ⟨rfl, hZ, hh⟩ := hP
  have hml : c.maxLocals = 5 := hml0
  have hlk : meth.locks = false := Bd.notSynchronized
  have hret := Bd.returns
  have hnm := (name_of_methodNamed Bd.named Bd.method).1
  have P0 : Own.Wk Z "java/lang/String" jdk_42_method_92_code h0 p l e ({ frames := 4, cells := 2, slots := 20, locals := 66 } : Room) s m #[(.ref a1), (.int (Int32.ofNat f)), (.int (Int32.ofNat cs.length))] below meth c s₁ [] 0 0 := ⟨Stand.of_body Bd, Bd.exec, Bd.bytes, hZ, findClass_of_methodNamed Bd.named, by rw [← hh, Bd.state]; rfl⟩
  have N0 := Fr.nil n0
  show Own.Goes p.tables e below (fun s₂ o => ∃ v L, o = .returned v ∧ QrmSb2 Z a1 cs f zc fm h0 n0 v s₂.heap L ∧ FrameEnd s o s₂ L ({ frames := 4, cells := 2, slots := 20, locals := 66 } : Room).cells ({ frames := 4, cells := 2, slots := 20, locals := 66 } : Room).slots) (s₁.setTop (entryFrame m #[(.ref a1), (.int (Int32.ofNat f)), (.int (Int32.ofNat cs.length))] 5))
  rw [show entryFrame m #[(.ref a1), (.int (Int32.ofNat f)), (.int (Int32.ofNat cs.length))] 5 = mkF m 0 #[.val (.ref a1), .val (.int (Int32.ofNat f)), .val (.int (Int32.ofNat cs.length)), .unset, .unset] [] from by first | rfl | (rcases Own.refc hfm with rfl | ⟨_, rfl⟩ <;> rfl) | (simp [entryFrame, mkF, argsToLocals, Value.category]; done)]
  refine Own.aloadN (q := 1) P0 d41_0 rfl rfl rfl ?_
  refine Own.invVirtual (q := 4) (W := 0) (y := (⟨"java/lang/String", "length", "()I"⟩ : MethodName)) (a := a1) (argsL := []) (rest := []) P0 d41_1 (hw _ (List.mem_of_getElem? (i := 66) rfl)) (hw _ (List.mem_of_getElem? (i := 67) rfl)) (hw _ (List.mem_of_getElem? (i := 69) rfl)) (hw _ (List.mem_of_getElem? (i := 68) rfl)) (notFace_of_selects (args := #[]) (mvT P0.2.2.2.1 (hw _ (List.mem_of_getElem? (i := 69) rfl)))) (by decide) (Own.lenB (W := 0) (n0 := n0) P0.2.2.2.1 (fun d hd => hw d (sub_lenW d hd)) (hw _ (List.mem_of_getElem? (i := 9) rfl)) S1 SC hzc (by decide) (by decide)) S1.exa rfl rfl (by rw [hml]; rfl) (lenOf (show parseMethodDescriptor "()I" = some ⟨[], some .int⟩ from by decide +kernel) rfl) (by show 2 * 0 + _ ≤ _; exact Nat.le_of_eq rfl) (by decide) (by decide) rfl ?_
  rintro v21 T21 h21 L21 ⟨rfl, N21q, e21⟩ P21
  rw [e21] at P21
  have N21 := Fr.app N0 N21q
  show Own.Goes _ _ _ _ (T21.setTop (mkF m 4 #[.val (.ref a1), .val (.int (Int32.ofNat f)), .val (.int (Int32.ofNat cs.length)), .unset, .unset] [(.int (Int32.ofNat (cs : List Int32).length))]))
  refine Own.istoreN (q := 5) (L2 := #[.val (.ref a1), .val (.int (Int32.ofNat f)), .val (.int (Int32.ofNat cs.length)), .val (.int (Int32.ofNat (cs : List Int32).length)), .unset]) P21 d41_4 rfl rfl ?_
  refine Own.iloadN (q := 6) P21 d41_5 rfl rfl ?_
  refine Own.iloadN (q := 7) P21 d41_6 rfl rfl ?_
  refine Own.iloadN (q := 8) P21 d41_7 rfl rfl ?_
  refine Own.invStatic (q := 11) (W := 0) (y := (⟨"java/lang/String", "checkBoundsBeginEnd", "(III)V"⟩ : MethodName)) (argsL := [(.int (Int32.ofNat f)), (.int (Int32.ofNat cs.length)), (.int (Int32.ofNat (cs : List Int32).length))]) (rest := []) P21 d41_8 (hw _ (List.mem_of_getElem? (i := 224) rfl)) (hw _ (List.mem_of_getElem? (i := 225) rfl)) (hw _ (List.mem_of_getElem? (i := 10) rfl)) (hw _ (List.mem_of_getElem? (i := 226) rfl)) (by decide) (backOf (W := 0) (rmCbe l Z a0 hw [] (Int32.ofNat f) (Int32.ofNat cs.length) (Int32.ofNat (cs : List Int32).length) fm h0 n0 Z0 SF hfm (Own.nneg (by have := hf; have := hc16; omega)) (by rw [Own.ofNat_lt (by have := hf; have := hc16; omega) (by have := hf; have := hc16; omega)]; have := hf; have := hc16; omega) (by rw [Own.ofNat_lt (by have := hf; have := hc16; omega) (by have := hf; have := hc16; omega)]; exact Nat.lt_irrefl _)) P21.2.2.2.1 (hw _ (List.mem_of_getElem? (i := 226) rfl)) (hw _ (List.mem_of_getElem? (i := 10) rfl)) (by decide) (by decide)) rfl rfl (by rw [hml]; rfl) (lenOf (show parseMethodDescriptor "(III)V" = some ⟨[.int, .int, .int], none⟩ from by decide +kernel) rfl) (by show 2 * 0 + _ ≤ _; exact Nat.le_of_eq rfl) (by decide) (by decide) rfl ?_
  rintro v22 T22 h22 L22 ⟨rfl, N22q, e22⟩ P22
  rw [e22] at P22
  have N22 := Fr.app N21 N22q
  show Own.Goes _ _ _ _ (T22.setTop (mkF m 11 #[.val (.ref a1), .val (.int (Int32.ofNat f)), .val (.int (Int32.ofNat cs.length)), .val (.int (Int32.ofNat (cs : List Int32).length)), .unset] []))
  refine Own.iloadN (q := 12) P22 d41_11 rfl rfl ?_
  refine Own.if_ne (q := 15) (qy := 22) P22 d41_12 (by decide) rfl (fun q12 => ?_) (fun q12 => ?_)
  · refine Own.iloadN (q := 23) P22 d41_22 rfl rfl ?_
    refine Own.iloadN (q := 24) P22 d41_23 rfl rfl ?_
    refine Own.isub (q := 25) P22 d41_24  rfl ?_
    rw [show ((Int32.ofNat cs.length) - (Int32.ofNat f)) = (Int32.ofNat (cs.length - f)) from Own.subE (by have := hf; have := hc16; omega)]
    show Own.Goes _ _ _ _ (T22.setTop (mkF m 25 #[.val (.ref a1), .val (.int (Int32.ofNat f)), .val (.int (Int32.ofNat cs.length)), .val (.int (Int32.ofNat (cs : List Int32).length)), .unset] [(.int (Int32.ofNat (cs.length - f)))]))
    refine Own.istore (q := 27) (L2 := #[.val (.ref a1), .val (.int (Int32.ofNat f)), .val (.int (Int32.ofNat cs.length)), .val (.int (Int32.ofNat (cs : List Int32).length)), .val (.int (Int32.ofNat (cs.length - f)))]) P22 d41_25 rfl rfl ?_
    refine Own.aloadN (q := 28) P22 d41_27 rfl rfl rfl ?_
    obtain ⟨⟨t23, kb23, y23a, y23v, y23c, y23b⟩, -, -⟩ := id S1
    refine Own.invVirtual (q := 31) (W := 0) (y := (⟨"java/lang/String", "isLatin1", "()Z"⟩ : MethodName)) (a := a1) (argsL := []) (rest := []) P22 d41_28 (hw _ (List.mem_of_getElem? (i := 232) rfl)) (hw _ (List.mem_of_getElem? (i := 233) rfl)) (hw _ (List.mem_of_getElem? (i := 235) rfl)) (hw _ (List.mem_of_getElem? (i := 234) rfl)) (notFace_of_selects (args := #[]) (mvT P22.2.2.2.1 (hw _ (List.mem_of_getElem? (i := 235) rfl)))) (by decide) (backOf (W := 0) (rmSil l Z a0 hw [] a1 zc h0 n0 Z0 SC hzc y23c) P22.2.2.2.1 (hw _ (List.mem_of_getElem? (i := 236) rfl)) (hw _ (List.mem_of_getElem? (i := 10) rfl)) (by decide) (by decide)) S1.exa rfl rfl (by rw [hml]; rfl) (lenOf (show parseMethodDescriptor "()Z" = some ⟨[], some .boolean⟩ from by decide +kernel) rfl) (by show 2 * 0 + _ ≤ _; exact Nat.le_of_eq rfl) (by decide) (by decide) rfl ?_
    rintro v24 T24 h24 L24 ⟨rfl, N24q, e24⟩ P24
    rw [e24] at P24
    have N24 := Fr.app N22 N24q
    show Own.Goes _ _ _ _ (T24.setTop (mkF m 31 #[.val (.ref a1), .val (.int (Int32.ofNat f)), .val (.int (Int32.ofNat cs.length)), .val (.int (Int32.ofNat (cs : List Int32).length)), .val (.int (Int32.ofNat (cs.length - f)))] [(.int (1 : Int32))]))
    refine Own.if_eq (q := 34) (qy := 47) P24 d41_31 (by decide) rfl (fun q => absurd q (by decide)) (fun _ => ?_)
    refine Own.aloadN (q := 35) P24 d41_34 rfl rfl rfl ?_
    refine Own.getfield (q := 38) P24 d41_35 (hw _ (List.mem_of_getElem? (i := 27) rfl)) y23v rfl ?_
    intro T25 P25
    refine Own.iloadN (q := 39) P25 d41_38 rfl rfl ?_
    refine Own.iload (q := 41) P25 d41_39 rfl rfl ?_
    refine Own.invStatic (q := 44) (W := 0) (y := (⟨"java/lang/StringLatin1", "newString", "([BII)Ljava/lang/String;"⟩ : MethodName)) (argsL := [(.ref t23), (.int (Int32.ofNat f)), (.int (Int32.ofNat (cs.length - f)))]) (rest := []) P25 d41_41 (hw _ (List.mem_of_getElem? (i := 237) rfl)) (hw _ (List.mem_of_getElem? (i := 238) rfl)) (hw _ (List.mem_of_getElem? (i := 205) rfl)) (hw _ (List.mem_of_getElem? (i := 239) rfl)) (by decide) (backOf (W := 0) (rmNs l Z a0 hw [] t23 kb23 cs f (cs.length - f) h0 n0 Z0 y23b (by have := hf; have := hc16; omega) (by have := hf; have := hc16; omega) (by have := hf; have := hc16; omega) S1.2.2 S1.2.1 (fun q => q12 (by rw [q.1]; rfl))) P25.2.2.2.1 (hw _ (List.mem_of_getElem? (i := 239) rfl)) (hw _ (List.mem_of_getElem? (i := 205) rfl)) (by decide) (by decide)) rfl rfl (by rw [hml]; rfl) (lenOf (show parseMethodDescriptor "([BII)Ljava/lang/String;" = some ⟨[(.array .byte), .int, .int], some (.object "java/lang/String")⟩ from by decide +kernel) rfl) (by show 2 * 0 + _ ≤ _; exact Nat.le_of_eq rfl) (by decide) (by decide) rfl ?_
    rintro v26 T26 h26 L26 ⟨r26, rfl, N26q, E26, gr26, St26⟩ P26
    have N26 := Fr.app N24 N26q
    show Own.Goes _ _ _ _ (T26.setTop (mkF m 44 #[.val (.ref a1), .val (.int (Int32.ofNat f)), .val (.int (Int32.ofNat cs.length)), .val (.int (Int32.ofNat (cs : List Int32).length)), .val (.int (Int32.ofNat (cs.length - f)))] [(.ref r26)]))
    rw [show (cs.drop f).take (cs.length - f) = cs.drop f from List.take_of_length_le (by rw [List.length_drop]; exact Nat.le_refl _)] at St26
    refine Own.goto (q := 57) P26 d41_44 (by decide) ?_
    have E0_1_27 : Ext h0 h26 := E26
    refine Own.retA (Q := QrmSb2 Z a1 cs f zc fm h0 n0) P26 d41_57 hret rfl rfl rfl hlk (by decide) (by decide) ?_
    exact ⟨_, rfl, N26, E0_1_27, St26⟩
  · refine Own.iloadN (q := 16) P22 d41_15 rfl rfl ?_
    refine Own.iloadN (q := 17) P22 d41_16 rfl rfl ?_
    refine Own.icmp_ne (q := 20) (qy := 22) P22 d41_17 (by decide) rfl (fun q => absurd rfl q) (fun _ => ?_)
    refine Own.aloadN (q := 21) P22 d41_20 rfl rfl rfl ?_
    refine Own.retA (Q := QrmSb2 Z a1 cs f zc fm h0 n0) P22 d41_21 hret rfl rfl rfl hlk (by decide) (by decide) ?_
    exact ⟨a1, rfl, N22, (Own.Ext.rf h0), by rw [show f = 0 from Own.z_of (by have := hf; have := hc16; omega) q12, List.drop_zero]; exact S1⟩
theorem d40_0 : decode jdk_42_method_91_code 0 = .ok (.aload_n 0, 1) := by decide +kernel
theorem d40_1 : decode jdk_42_method_91_code 1 = .ok (.iload_n 1, 1) := by decide +kernel
theorem d40_2 : decode jdk_42_method_91_code 2 = .ok (.aload_n 0, 1) := by decide +kernel
theorem d40_3 : decode jdk_42_method_91_code 3 = .ok (.invokevirtual 505, 3) := by decide +kernel
theorem d40_6 : decode jdk_42_method_91_code 6 = .ok (.invokevirtual 681, 3) := by decide +kernel
theorem d40_9 : decode jdk_42_method_91_code 9 = .ok (.areturn, 1) := by decide +kernel
theorem pn_40 : plainFor (⟨"java/lang/String", "substring", "(I)Ljava/lang/String;"⟩ : MethodName) = true := by first | exact plainFor_of_name (by first | (simp [plainName, overriddenIn]; done) | decide +kernel) | decide +kernel
def QrmSb1 (Z : State) (a1 : Addr) (cs : List Int32) (f : Nat) (zc : Int32) (fm : Value) (h0 : Heap) (n0 : Nat) (v : Option Value) (h : Heap) (L : List Loc) : Prop := ∃ r, v = some (.ref r) ∧ Fr n0 L ∧ Ext h0 h ∧ Own.Str Z h r (cs.drop f)
set_option maxRecDepth 65536 in
set_option maxHeartbeats 40000000 in
theorem rmSb1 (l : Launch) (Z : State) (a0 : Array Value) (hw : ∀ d ∈ tables_1, d.before a0 Z = true) (ws : List Jvm.Cond) (a1 : Addr) (cs : List Int32) (f : Nat) (zc : Int32) (fm : Value) (h0 : Heap) (n0 : Nat) (Z0 : n0 ≤ h0.size) (SC : Sta Z h0 "java/lang/String" "COMPACT_STRINGS" "Z" (.int zc)) (hzc : ¬ zc = 0) (SF : Sta Z h0 "jdk/internal/util/Preconditions" "SIOOBE_FORMATTER" "Ljava/util/function/BiFunction;" fm) (hfm : fm.isRef = true) (S1 : Own.Str Z h0 a1 cs) (hf : f < cs.length) (hc16 : cs.length ≤ 16) :
    MetFree l (⟨"java/lang/String", "substring", "(I)Ljava/lang/String;"⟩ : MethodName) (head1 (Jvm.Cond.code (⟨"java/lang/String", "substring", "(I)Ljava/lang/String;"⟩ : MethodName) jdk_42_method_91_code 2 (some (.object "java/lang/String")) :: ws) ({ frames := 5, cells := 2, slots := 20, locals := 82 } : Room)) (fun a U => a = #[(.ref a1), (.int (Int32.ofNat f))] ∧ Z.Warmed39 U.vm ∧ U.heap = h0) (fun _ _ _ _ _ => True) (fun _ U o U' => ∃ v L, o = .returned v ∧ QrmSb1 Z a1 cs f zc fm h0 n0 v U'.heap L ∧ FrameEnd U o U' L ({ frames := 5, cells := 2, slots := 20, locals := 82 } : Room).cells ({ frames := 5, cells := 2, slots := 20, locals := 82 } : Room).slots) := by
  refine MetFree.of_bodySF pn_40 hisR ?_
  intro p e s m args below meth c s₁ Bd hml0 hP hK
  obtain ⟨rfl, hZ, hh⟩ := hP
  have hml : c.maxLocals = 2 := hml0
  have hlk : meth.locks = false := Bd.notSynchronized
  have hret := Bd.returns
  have hnm := (name_of_methodNamed Bd.named Bd.method).1
  have P0 : Own.Wk Z "java/lang/String" jdk_42_method_91_code h0 p l e ({ frames := 5, cells := 2, slots := 20, locals := 82 } : Room) s m #[(.ref a1), (.int (Int32.ofNat f))] below meth c s₁ [] 0 0 := ⟨Stand.of_body Bd, Bd.exec, Bd.bytes, hZ, findClass_of_methodNamed Bd.named, by rw [← hh, Bd.state]; rfl⟩
  have N0 := Fr.nil n0
  show Own.Goes p.tables e below (fun s₂ o => ∃ v L, o = .returned v ∧ QrmSb1 Z a1 cs f zc fm h0 n0 v s₂.heap L ∧ FrameEnd s o s₂ L ({ frames := 5, cells := 2, slots := 20, locals := 82 } : Room).cells ({ frames := 5, cells := 2, slots := 20, locals := 82 } : Room).slots) (s₁.setTop (entryFrame m #[(.ref a1), (.int (Int32.ofNat f))] 2))
  rw [show entryFrame m #[(.ref a1), (.int (Int32.ofNat f))] 2 = mkF m 0 #[.val (.ref a1), .val (.int (Int32.ofNat f))] [] from by first | rfl | (rcases Own.refc hfm with rfl | ⟨_, rfl⟩ <;> rfl) | (simp [entryFrame, mkF, argsToLocals, Value.category]; done)]
  refine Own.aloadN (q := 1) P0 d40_0 rfl rfl rfl ?_
  refine Own.iloadN (q := 2) P0 d40_1 rfl rfl ?_
  refine Own.aloadN (q := 3) P0 d40_2 rfl rfl rfl ?_
  refine Own.invVirtual (q := 6) (W := 2) (y := (⟨"java/lang/String", "length", "()I"⟩ : MethodName)) (a := a1) (argsL := []) (rest := [(.int (Int32.ofNat f)), (.ref a1)]) P0 d40_3 (hw _ (List.mem_of_getElem? (i := 66) rfl)) (hw _ (List.mem_of_getElem? (i := 67) rfl)) (hw _ (List.mem_of_getElem? (i := 69) rfl)) (hw _ (List.mem_of_getElem? (i := 68) rfl)) (notFace_of_selects (args := #[]) (mvT P0.2.2.2.1 (hw _ (List.mem_of_getElem? (i := 69) rfl)))) (by decide) (Own.lenB (W := 2) (n0 := n0) P0.2.2.2.1 (fun d hd => hw d (sub_lenW d hd)) (hw _ (List.mem_of_getElem? (i := 9) rfl)) S1 SC hzc (by decide) (by decide)) S1.exa rfl rfl (by rw [hml]; rfl) (lenOf (show parseMethodDescriptor "()I" = some ⟨[], some .int⟩ from by decide +kernel) rfl) (by show 2 * 0 + _ ≤ _; exact Nat.le_of_eq rfl) (by decide) (by decide) rfl ?_
  rintro v21 T21 h21 L21 ⟨rfl, N21q, e21⟩ P21
  rw [e21] at P21
  have N21 := Fr.app N0 N21q
  show Own.Goes _ _ _ _ (T21.setTop (mkF m 6 #[.val (.ref a1), .val (.int (Int32.ofNat f))] [(.int (Int32.ofNat (cs : List Int32).length)), (.int (Int32.ofNat f)), (.ref a1)]))
  refine Own.invVirtual (q := 9) (W := 0) (y := (⟨"java/lang/String", "substring", "(II)Ljava/lang/String;"⟩ : MethodName)) (a := a1) (argsL := [(.int (Int32.ofNat f)), (.int (Int32.ofNat (cs : List Int32).length))]) (rest := []) P21 d40_6 (hw _ (List.mem_of_getElem? (i := 219) rfl)) (hw _ (List.mem_of_getElem? (i := 220) rfl)) (hw _ (List.mem_of_getElem? (i := 222) rfl)) (hw _ (List.mem_of_getElem? (i := 221) rfl)) (notFace_of_selects (args := #[]) (mvT P21.2.2.2.1 (hw _ (List.mem_of_getElem? (i := 222) rfl)))) (by decide) (backOf (W := 0) (rmSb2 l Z a0 hw [] a1 cs f zc fm h0 n0 Z0 SC hzc SF hfm S1 hf hc16) P21.2.2.2.1 (hw _ (List.mem_of_getElem? (i := 223) rfl)) (hw _ (List.mem_of_getElem? (i := 10) rfl)) (by decide) (by decide)) S1.exa rfl rfl (by rw [hml]; rfl) (lenOf (show parseMethodDescriptor "(II)Ljava/lang/String;" = some ⟨[.int, .int], some (.object "java/lang/String")⟩ from by decide +kernel) rfl) (by show 2 * 0 + _ ≤ _; exact Nat.le_of_eq rfl) (by decide) (by decide) rfl ?_
  rintro v22 T22 h22 L22 ⟨r22, rfl, N22q, E22, St22⟩ P22
  have N22 := Fr.app N21 N22q
  show Own.Goes _ _ _ _ (T22.setTop (mkF m 9 #[.val (.ref a1), .val (.int (Int32.ofNat f))] [(.ref r22)]))
  have E0_1_23 : Ext h0 h22 := E22
  refine Own.retA (Q := QrmSb1 Z a1 cs f zc fm h0 n0) P22 d40_9 hret rfl rfl rfl hlk (by decide) (by decide) ?_
  exact ⟨_, rfl, N22, E0_1_23, St22⟩
theorem d15_0 : decode jdk_48_method_14_code 0 = .ok (.iconst 0, 1) := by decide +kernel
theorem d15_1 : decode jdk_48_method_14_code 1 = .ok (.istore 5, 2) := by decide +kernel
theorem d15_3 : decode jdk_48_method_14_code 3 = .ok (.iload 4, 2) := by decide +kernel
theorem d15_5 : decode jdk_48_method_14_code 5 = .ok (.bipush 7, 2) := by decide +kernel
theorem d15_7 : decode jdk_48_method_14_code 7 = .ok (.if_icmp .le 63, 3) := by decide +kernel
theorem d15_10 : decode jdk_48_method_14_code 10 = .ok (.aload_n 0, 1) := by decide +kernel
theorem d15_11 : decode jdk_48_method_14_code 11 = .ok (.iload_n 1, 1) := by decide +kernel
theorem d15_12 : decode jdk_48_method_14_code 12 = .ok (.baload, 1) := by decide +kernel
theorem d15_13 : decode jdk_48_method_14_code 13 = .ok (.aload_n 2, 1) := by decide +kernel
theorem d15_14 : decode jdk_48_method_14_code 14 = .ok (.iload_n 3, 1) := by decide +kernel
theorem d15_15 : decode jdk_48_method_14_code 15 = .ok (.baload, 1) := by decide +kernel
theorem d15_16 : decode jdk_48_method_14_code 16 = .ok (.if_icmp .eq 5, 3) := by decide +kernel
theorem d15_19 : decode jdk_48_method_14_code 19 = .ok (.iconst 0, 1) := by decide +kernel
theorem d15_20 : decode jdk_48_method_14_code 20 = .ok (.ireturn, 1) := by decide +kernel
theorem d15_21 : decode jdk_48_method_14_code 21 = .ok (.getstatic 126, 3) := by decide +kernel
theorem d15_24 : decode jdk_48_method_14_code 24 = .ok (.iload_n 1, 1) := by decide +kernel
theorem d15_25 : decode jdk_48_method_14_code 25 = .ok (.iadd, 1) := by decide +kernel
theorem d15_26 : decode jdk_48_method_14_code 26 = .ok (.istore 6, 2) := by decide +kernel
theorem d15_28 : decode jdk_48_method_14_code 28 = .ok (.getstatic 126, 3) := by decide +kernel
theorem d15_31 : decode jdk_48_method_14_code 31 = .ok (.iload_n 3, 1) := by decide +kernel
theorem d15_32 : decode jdk_48_method_14_code 32 = .ok (.iadd, 1) := by decide +kernel
theorem d15_33 : decode jdk_48_method_14_code 33 = .ok (.istore 7, 2) := by decide +kernel
theorem d15_35 : decode jdk_48_method_14_code 35 = .ok (.aload_n 0, 1) := by decide +kernel
theorem d15_36 : decode jdk_48_method_14_code 36 = .ok (.iload 6, 2) := by decide +kernel
theorem d15_38 : decode jdk_48_method_14_code 38 = .ok (.i2l, 1) := by decide +kernel
theorem d15_39 : decode jdk_48_method_14_code 39 = .ok (.aload_n 2, 1) := by decide +kernel
theorem d15_40 : decode jdk_48_method_14_code 40 = .ok (.iload 7, 2) := by decide +kernel
theorem d15_42 : decode jdk_48_method_14_code 42 = .ok (.i2l, 1) := by decide +kernel
theorem d15_43 : decode jdk_48_method_14_code 43 = .ok (.iload 4, 2) := by decide +kernel
theorem d15_45 : decode jdk_48_method_14_code 45 = .ok (.getstatic 129, 3) := by decide +kernel
theorem d15_48 : decode jdk_48_method_14_code 48 = .ok (.invokestatic 122, 3) := by decide +kernel
theorem d15_51 : decode jdk_48_method_14_code 51 = .ok (.istore 5, 2) := by decide +kernel
theorem d15_53 : decode jdk_48_method_14_code 53 = .ok (.iload 5, 2) := by decide +kernel
theorem d15_55 : decode jdk_48_method_14_code 55 = .ok (.ifCond .lt 6, 3) := by decide +kernel
theorem d15_58 : decode jdk_48_method_14_code 58 = .ok (.iload 5, 2) := by decide +kernel
theorem d15_60 : decode jdk_48_method_14_code 60 = .ok (.ireturn, 1) := by decide +kernel
theorem d15_61 : decode jdk_48_method_14_code 61 = .ok (.iload 4, 2) := by decide +kernel
theorem d15_63 : decode jdk_48_method_14_code 63 = .ok (.iload 5, 2) := by decide +kernel
theorem d15_65 : decode jdk_48_method_14_code 65 = .ok (.iconst (-1), 1) := by decide +kernel
theorem d15_66 : decode jdk_48_method_14_code 66 = .ok (.ixor, 1) := by decide +kernel
theorem d15_67 : decode jdk_48_method_14_code 67 = .ok (.isub, 1) := by decide +kernel
theorem d15_68 : decode jdk_48_method_14_code 68 = .ok (.istore 5, 2) := by decide +kernel
theorem d15_70 : decode jdk_48_method_14_code 70 = .ok (.iload 5, 2) := by decide +kernel
theorem d15_72 : decode jdk_48_method_14_code 72 = .ok (.iload 4, 2) := by decide +kernel
theorem d15_74 : decode jdk_48_method_14_code 74 = .ok (.if_icmp .ge 27, 3) := by decide +kernel
theorem d15_77 : decode jdk_48_method_14_code 77 = .ok (.aload_n 0, 1) := by decide +kernel
theorem d15_78 : decode jdk_48_method_14_code 78 = .ok (.iload_n 1, 1) := by decide +kernel
theorem d15_79 : decode jdk_48_method_14_code 79 = .ok (.iload 5, 2) := by decide +kernel
theorem d15_81 : decode jdk_48_method_14_code 81 = .ok (.iadd, 1) := by decide +kernel
theorem d15_82 : decode jdk_48_method_14_code 82 = .ok (.baload, 1) := by decide +kernel
theorem d15_83 : decode jdk_48_method_14_code 83 = .ok (.aload_n 2, 1) := by decide +kernel
theorem d15_84 : decode jdk_48_method_14_code 84 = .ok (.iload_n 3, 1) := by decide +kernel
theorem d15_85 : decode jdk_48_method_14_code 85 = .ok (.iload 5, 2) := by decide +kernel
theorem d15_87 : decode jdk_48_method_14_code 87 = .ok (.iadd, 1) := by decide +kernel
theorem d15_88 : decode jdk_48_method_14_code 88 = .ok (.baload, 1) := by decide +kernel
theorem d15_89 : decode jdk_48_method_14_code 89 = .ok (.if_icmp .eq 6, 3) := by decide +kernel
theorem d15_92 : decode jdk_48_method_14_code 92 = .ok (.iload 5, 2) := by decide +kernel
theorem d15_94 : decode jdk_48_method_14_code 94 = .ok (.ireturn, 1) := by decide +kernel
theorem d15_95 : decode jdk_48_method_14_code 95 = .ok (.iinc 5 1, 3) := by decide +kernel
theorem d15_98 : decode jdk_48_method_14_code 98 = .ok (.goto (-28), 3) := by decide +kernel
theorem d15_101 : decode jdk_48_method_14_code 101 = .ok (.iconst (-1), 1) := by decide +kernel
theorem d15_102 : decode jdk_48_method_14_code 102 = .ok (.ireturn, 1) := by decide +kernel
theorem pn_15 : plainFor (⟨"jdk/internal/util/ArraysSupport", "mismatch", "([BI[BII)I"⟩ : MethodName) = true := by first | exact plainFor_of_name (by first | (simp [plainName, overriddenIn]; done) | decide +kernel) | decide +kernel
def QrmMm (Z : State) (t1 : Addr) (k1 : ClassId) (cs : List Int32) (t2 : Addr) (k2 : ClassId) (ds : List Int32) (f : Nat) (h0 : Heap) (n0 : Nat) (v : Option Value) (h : Heap) (L : List Loc) : Prop := ∃ b, v = some (.int b) ∧ Fr n0 L ∧ h = h0
set_option maxRecDepth 65536 in
set_option maxHeartbeats 40000000 in
theorem rmMm (l : Launch) (Z : State) (a0 : Array Value) (hw : ∀ d ∈ tables_1, d.before a0 Z = true) (ws : List Jvm.Cond) (t1 : Addr) (k1 : ClassId) (cs : List Int32) (t2 : Addr) (k2 : ClassId) (ds : List Int32) (f : Nat) (h0 : Heap) (n0 : Nat) (Z0 : n0 ≤ h0.size) (A1 : Arv Z h0 t1 k1 .byte (Int32.ofNat cs.length) ((cs.map fun c : Int32 => c.toInt8.toInt32).map Value.int) (.int 0)) (A2 : Arv Z h0 t2 k2 .byte (Int32.ofNat ds.length) ((ds.map fun c : Int32 => c.toInt8.toInt32).map Value.int) (.int 0)) (hfn : f + ds.length ≤ cs.length) (hl : cs.length ≤ 4000) (hd7 : ds.length ≤ 7) :
    MetFree l (⟨"jdk/internal/util/ArraysSupport", "mismatch", "([BI[BII)I"⟩ : MethodName) (head1 (Jvm.Cond.code (⟨"jdk/internal/util/ArraysSupport", "mismatch", "([BI[BII)I"⟩ : MethodName) jdk_48_method_14_code 8 (some .int) :: ws) ({ frames := 0, cells := 0, slots := 0, locals := 0 } : Room)) (fun a U => a = #[(.ref t1), (.int (Int32.ofNat f)), (.ref t2), (.int (0 : Int32)), (.int (Int32.ofNat ds.length))] ∧ Z.Warmed39 U.vm ∧ U.heap = h0) (fun _ _ _ _ _ => True) (fun _ U o U' => ∃ v L, o = .returned v ∧ QrmMm Z t1 k1 cs t2 k2 ds f h0 n0 v U'.heap L ∧ FrameEnd U o U' L ({ frames := 0, cells := 0, slots := 0, locals := 0 } : Room).cells ({ frames := 0, cells := 0, slots := 0, locals := 0 } : Room).slots) := by
  refine MetFree.of_bodySF pn_15 hisR ?_
  intro p e s m args below meth c s₁ Bd hml0 hP hK
  obtain ⟨rfl, hZ, hh⟩ := hP
  have hml : c.maxLocals = 8 := hml0
  have hlk : meth.locks = false := Bd.notSynchronized
  have hret := Bd.returns
  have hnm := (name_of_methodNamed Bd.named Bd.method).1
  have P0 : Own.Wk Z "jdk/internal/util/ArraysSupport" jdk_48_method_14_code h0 p l e ({ frames := 0, cells := 0, slots := 0, locals := 0 } : Room) s m #[(.ref t1), (.int (Int32.ofNat f)), (.ref t2), (.int (0 : Int32)), (.int (Int32.ofNat ds.length))] below meth c s₁ [] 0 0 := ⟨Stand.of_body Bd, Bd.exec, Bd.bytes, hZ, findClass_of_methodNamed Bd.named, by rw [← hh, Bd.state]; rfl⟩
  have N0 := Fr.nil n0
  show Own.Goes p.tables e below (fun s₂ o => ∃ v L, o = .returned v ∧ QrmMm Z t1 k1 cs t2 k2 ds f h0 n0 v s₂.heap L ∧ FrameEnd s o s₂ L ({ frames := 0, cells := 0, slots := 0, locals := 0 } : Room).cells ({ frames := 0, cells := 0, slots := 0, locals := 0 } : Room).slots) (s₁.setTop (entryFrame m #[(.ref t1), (.int (Int32.ofNat f)), (.ref t2), (.int (0 : Int32)), (.int (Int32.ofNat ds.length))] 8))
  rw [show entryFrame m #[(.ref t1), (.int (Int32.ofNat f)), (.ref t2), (.int (0 : Int32)), (.int (Int32.ofNat ds.length))] 8 = mkF m 0 #[.val (.ref t1), .val (.int (Int32.ofNat f)), .val (.ref t2), .val (.int (0 : Int32)), .val (.int (Int32.ofNat ds.length)), .unset, .unset, .unset] [] from by first | rfl | (rcases Own.refc hfm with rfl | ⟨_, rfl⟩ <;> rfl) | (simp [entryFrame, mkF, argsToLocals, Value.category]; done)]
  refine Own.iconst (q := 1) (v := (0 : Int32)) P0 d15_0 rfl rfl ?_
  refine Own.istore (q := 3) (L2 := #[.val (.ref t1), .val (.int (Int32.ofNat f)), .val (.ref t2), .val (.int (0 : Int32)), .val (.int (Int32.ofNat ds.length)), .val (.int (0 : Int32)), .unset, .unset]) P0 d15_1 rfl rfl ?_
  refine Own.iload (q := 5) P0 d15_3 rfl rfl ?_
  refine Own.bipush (q := 7) (v := (7 : Int32)) P0 d15_5 rfl rfl ?_
  refine Own.icmp_le (q := 10) (qy := 70) P0 d15_7 (by decide) rfl (fun _ => ?_) (fun q => absurd q (by rw [show (7 : Int32) = Int32.ofNat 7 from rfl, Own.ofNat_lt (by decide) (by have := hfn; have := hl; have := hd7; omega)]; have := hfn; have := hl; have := hd7; omega))
  have loop : ∀ (kk i : Nat), ds.length ≤ i + kk → i ≤ ds.length → ∀ (T21 : State) (lc21 : List Loc), Own.Wk Z "jdk/internal/util/ArraysSupport" jdk_48_method_14_code h0 p l e ({ frames := 0, cells := 0, slots := 0, locals := 0 } : Room) s m #[(.ref t1), (.int (Int32.ofNat f)), (.ref t2), (.int (0 : Int32)), (.int (Int32.ofNat ds.length))] below meth c T21 lc21 0 0 → Fr n0 lc21 → Own.Goes p.tables e below (fun s₂ o => ∃ v L, o = .returned v ∧ QrmMm Z t1 k1 cs t2 k2 ds f h0 n0 v s₂.heap L ∧ FrameEnd s o s₂ L ({ frames := 0, cells := 0, slots := 0, locals := 0 } : Room).cells ({ frames := 0, cells := 0, slots := 0, locals := 0 } : Room).slots) (T21.setTop (mkF m 70 #[.val (.ref t1), .val (.int (Int32.ofNat f)), .val (.ref t2), .val (.int (0 : Int32)), .val (.int (Int32.ofNat ds.length)), .val (.int (Int32.ofNat i)), .unset, .unset] [])) := by
    intro kk
    induction kk with
    | zero =>
      intro i hk hi T21 lc21 P21 N21
      refine Own.iload (q := 72) P21 d15_70 rfl rfl ?_
      refine Own.iload (q := 74) P21 d15_72 rfl rfl ?_
      refine Own.icmp_ge (q := 77) (qy := 101) P21 d15_74 (by decide) rfl (fun _ => ?_) (fun q => absurd q (by rw [Own.ofNat_lt (by have := hd7; omega) (by have := hd7; omega)]; omega))
      refine Own.iconst (q := 102) (v := (-1 : Int32)) P21 d15_101 rfl rfl ?_
      refine Own.retI (Q := QrmMm Z t1 k1 cs t2 k2 ds f h0 n0) P21 d15_102 hret hlk (by decide) (by decide) ?_
      exact ⟨_, rfl, N21, rfl⟩
    | succ kk ih =>
      intro i hk hi T21 lc21 P21 N21
      refine Own.iload (q := 72) P21 d15_70 rfl rfl ?_
      refine Own.iload (q := 74) P21 d15_72 rfl rfl ?_
      refine Own.icmp_ge (q := 77) (qy := 101) P21 d15_74 (by decide) rfl (fun q74 => ?_) (fun q74 => ?_)
      · refine Own.iconst (q := 102) (v := (-1 : Int32)) P21 d15_101 rfl rfl ?_
        refine Own.retI (Q := QrmMm Z t1 k1 cs t2 k2 ds f h0 n0) P21 d15_102 hret hlk (by decide) (by decide) ?_
        exact ⟨_, rfl, N21, rfl⟩
      · have hi2 : i < ds.length := (Own.ofNat_lt (by have := hd7; omega) (by have := hd7; omega)).mp q74
        refine Own.aloadN (q := 78) P21 d15_77 rfl rfl rfl ?_
        refine Own.iloadN (q := 79) P21 d15_78 rfl rfl ?_
        refine Own.iload (q := 81) P21 d15_79 rfl rfl ?_
        refine Own.iadd (q := 82) P21 d15_81  rfl ?_
        rw [show ((Int32.ofNat f) + (Int32.ofNat i)) = Int32.ofNat (f + i) from (Int32.ofNat_add f i).symm]
        refine Own.baload (q := 83) (v := .int (cs.getD (f + i) 0).toInt8.toInt32) P21 d15_82 A1 (Own.nneg (by have := hfn; have := hl; have := hd7; have := hi2; omega)) (by rw [Own.ofNat_lt (by have := hfn; have := hl; have := hd7; have := hi2; omega) (by have := hfn; have := hl; have := hd7; have := hi2; omega)]; have := hfn; have := hl; have := hd7; have := hi2; omega) (by rw [Own.clamp (by have := hfn; have := hl; have := hd7; have := hi2; omega)]; exact Own.by_get cs _) rfl ?_
        refine Own.aloadN (q := 84) P21 d15_83 rfl rfl rfl ?_
        refine Own.iloadN (q := 85) P21 d15_84 rfl rfl ?_
        refine Own.iload (q := 87) P21 d15_85 rfl rfl ?_
        refine Own.iadd (q := 88) P21 d15_87  rfl ?_
        rw [show ((0 : Int32) + (Int32.ofNat i)) = Int32.ofNat i from Int32.zero_add _]
        refine Own.baload (q := 89) (v := .int (ds.getD i 0).toInt8.toInt32) P21 d15_88 A2 (Own.nneg (by have := hfn; have := hl; have := hd7; have := hi2; omega)) (by rw [Own.ofNat_lt (by have := hfn; have := hl; have := hd7; have := hi2; omega) (by have := hfn; have := hl; have := hd7; have := hi2; omega)]; have := hfn; have := hl; have := hd7; have := hi2; omega) (by rw [Own.clamp (by have := hfn; have := hl; have := hd7; have := hi2; omega)]; exact Own.by_get ds _) rfl ?_
        refine Own.icmp_eq (q := 92) (qy := 95) P21 d15_89 (by decide) rfl (fun q89 => ?_) (fun q89 => ?_)
        · refine Own.iinc (q := 98) (v := (1 : Int32)) (L2 := #[.val (.ref t1), .val (.int (Int32.ofNat f)), .val (.ref t2), .val (.int (0 : Int32)), .val (.int (Int32.ofNat ds.length)), .val (.int ((Int32.ofNat i) + (1 : Int32))), .unset, .unset]) P21 d15_95 rfl rfl rfl rfl ?_
          refine Own.goto (q := 70) P21 d15_98 (by decide) ?_
          rw [show (Int32.ofNat i + (1 : Int32)) = Int32.ofNat (i + 1) from (Int32.ofNat_add i 1).symm]
          exact ih (i + 1) (by omega) hi2 _ _ P21 N21
        · refine Own.iload (q := 94) P21 d15_92 rfl rfl ?_
          refine Own.retI (Q := QrmMm Z t1 k1 cs t2 k2 ds f h0 n0) P21 d15_94 hret hlk (by decide) (by decide) ?_
          exact ⟨_, rfl, N21, rfl⟩
  exact loop ds.length 0 (Nat.le_of_eq (Nat.zero_add _).symm) (Nat.zero_le _) _ _ P0 N0
theorem d12_0 : decode jdk_42_method_75_code 0 = .ok (.iload_n 2, 1) := by decide +kernel
theorem d12_1 : decode jdk_42_method_75_code 1 = .ok (.ifCond .lt 16, 3) := by decide +kernel
theorem d12_4 : decode jdk_42_method_75_code 4 = .ok (.iload_n 2, 1) := by decide +kernel
theorem d12_5 : decode jdk_42_method_75_code 5 = .ok (.aload_n 0, 1) := by decide +kernel
theorem d12_6 : decode jdk_42_method_75_code 6 = .ok (.invokevirtual 505, 3) := by decide +kernel
theorem d12_9 : decode jdk_42_method_75_code 9 = .ok (.aload_n 1, 1) := by decide +kernel
theorem d12_10 : decode jdk_42_method_75_code 10 = .ok (.invokevirtual 505, 3) := by decide +kernel
theorem d12_13 : decode jdk_42_method_75_code 13 = .ok (.isub, 1) := by decide +kernel
theorem d12_14 : decode jdk_42_method_75_code 14 = .ok (.if_icmp .le 5, 3) := by decide +kernel
theorem d12_17 : decode jdk_42_method_75_code 17 = .ok (.iconst 0, 1) := by decide +kernel
theorem d12_18 : decode jdk_42_method_75_code 18 = .ok (.ireturn, 1) := by decide +kernel
theorem d12_19 : decode jdk_42_method_75_code 19 = .ok (.aload_n 0, 1) := by decide +kernel
theorem d12_20 : decode jdk_42_method_75_code 20 = .ok (.getfield 9, 3) := by decide +kernel
theorem d12_23 : decode jdk_42_method_75_code 23 = .ok (.astore_n 3, 1) := by decide +kernel
theorem d12_24 : decode jdk_42_method_75_code 24 = .ok (.aload_n 1, 1) := by decide +kernel
theorem d12_25 : decode jdk_42_method_75_code 25 = .ok (.getfield 9, 3) := by decide +kernel
theorem d12_28 : decode jdk_42_method_75_code 28 = .ok (.astore 4, 2) := by decide +kernel
theorem d12_30 : decode jdk_42_method_75_code 30 = .ok (.iconst 0, 1) := by decide +kernel
theorem d12_31 : decode jdk_42_method_75_code 31 = .ok (.istore 5, 2) := by decide +kernel
theorem d12_33 : decode jdk_42_method_75_code 33 = .ok (.aload 4, 2) := by decide +kernel
theorem d12_35 : decode jdk_42_method_75_code 35 = .ok (.arraylength, 1) := by decide +kernel
theorem d12_36 : decode jdk_42_method_75_code 36 = .ok (.istore 6, 2) := by decide +kernel
theorem d12_38 : decode jdk_42_method_75_code 38 = .ok (.aload_n 0, 1) := by decide +kernel
theorem d12_39 : decode jdk_42_method_75_code 39 = .ok (.invokevirtual 335, 3) := by decide +kernel
theorem d12_42 : decode jdk_42_method_75_code 42 = .ok (.istore 7, 2) := by decide +kernel
theorem d12_44 : decode jdk_42_method_75_code 44 = .ok (.iload 7, 2) := by decide +kernel
theorem d12_46 : decode jdk_42_method_75_code 46 = .ok (.aload_n 1, 1) := by decide +kernel
theorem d12_47 : decode jdk_42_method_75_code 47 = .ok (.invokevirtual 335, 3) := by decide +kernel
theorem d12_50 : decode jdk_42_method_75_code 50 = .ok (.if_icmp .ne 32, 3) := by decide +kernel
theorem d12_53 : decode jdk_42_method_75_code 53 = .ok (.iload 7, 2) := by decide +kernel
theorem d12_55 : decode jdk_42_method_75_code 55 = .ok (.iconst 1, 1) := by decide +kernel
theorem d12_56 : decode jdk_42_method_75_code 56 = .ok (.if_icmp .ne 7, 3) := by decide +kernel
theorem d12_59 : decode jdk_42_method_75_code 59 = .ok (.iload_n 2, 1) := by decide +kernel
theorem d12_60 : decode jdk_42_method_75_code 60 = .ok (.iconst 1, 1) := by decide +kernel
theorem d12_61 : decode jdk_42_method_75_code 61 = .ok (.ishl, 1) := by decide +kernel
theorem d12_62 : decode jdk_42_method_75_code 62 = .ok (.istore_n 2, 1) := by decide +kernel
theorem d12_63 : decode jdk_42_method_75_code 63 = .ok (.aload_n 3, 1) := by decide +kernel
theorem d12_64 : decode jdk_42_method_75_code 64 = .ok (.iload_n 2, 1) := by decide +kernel
theorem d12_65 : decode jdk_42_method_75_code 65 = .ok (.aload 4, 2) := by decide +kernel
theorem d12_67 : decode jdk_42_method_75_code 67 = .ok (.iconst 0, 1) := by decide +kernel
theorem d12_68 : decode jdk_42_method_75_code 68 = .ok (.iload 6, 2) := by decide +kernel
theorem d12_70 : decode jdk_42_method_75_code 70 = .ok (.invokestatic 607, 3) := by decide +kernel
theorem d12_73 : decode jdk_42_method_75_code 73 = .ok (.ifCond .ge 7, 3) := by decide +kernel
theorem d12_76 : decode jdk_42_method_75_code 76 = .ok (.iconst 1, 1) := by decide +kernel
theorem d12_77 : decode jdk_42_method_75_code 77 = .ok (.goto 4, 3) := by decide +kernel
theorem d12_80 : decode jdk_42_method_75_code 80 = .ok (.iconst 0, 1) := by decide +kernel
theorem d12_81 : decode jdk_42_method_75_code 81 = .ok (.ireturn, 1) := by decide +kernel
theorem d12_82 : decode jdk_42_method_75_code 82 = .ok (.iload 7, 2) := by decide +kernel
theorem d12_84 : decode jdk_42_method_75_code 84 = .ok (.ifCond .ne 5, 3) := by decide +kernel
theorem d12_87 : decode jdk_42_method_75_code 87 = .ok (.iconst 0, 1) := by decide +kernel
theorem d12_88 : decode jdk_42_method_75_code 88 = .ok (.ireturn, 1) := by decide +kernel
theorem d12_89 : decode jdk_42_method_75_code 89 = .ok (.iload 5, 2) := by decide +kernel
theorem d12_91 : decode jdk_42_method_75_code 91 = .ok (.iload 6, 2) := by decide +kernel
theorem d12_93 : decode jdk_42_method_75_code 93 = .ok (.if_icmp .ge 28, 3) := by decide +kernel
theorem d12_96 : decode jdk_42_method_75_code 96 = .ok (.aload_n 3, 1) := by decide +kernel
theorem d12_97 : decode jdk_42_method_75_code 97 = .ok (.iload_n 2, 1) := by decide +kernel
theorem d12_98 : decode jdk_42_method_75_code 98 = .ok (.iinc 2 1, 3) := by decide +kernel
theorem d12_101 : decode jdk_42_method_75_code 101 = .ok (.invokestatic 360, 3) := by decide +kernel
theorem d12_104 : decode jdk_42_method_75_code 104 = .ok (.aload 4, 2) := by decide +kernel
theorem d12_106 : decode jdk_42_method_75_code 106 = .ok (.iload 5, 2) := by decide +kernel
theorem d12_108 : decode jdk_42_method_75_code 108 = .ok (.iinc 5 1, 3) := by decide +kernel
theorem d12_111 : decode jdk_42_method_75_code 111 = .ok (.baload, 1) := by decide +kernel
theorem d12_112 : decode jdk_42_method_75_code 112 = .ok (.sipush 255, 3) := by decide +kernel
theorem d12_115 : decode jdk_42_method_75_code 115 = .ok (.iand, 1) := by decide +kernel
theorem d12_116 : decode jdk_42_method_75_code 116 = .ok (.if_icmp .eq (-27), 3) := by decide +kernel
theorem d12_119 : decode jdk_42_method_75_code 119 = .ok (.iconst 0, 1) := by decide +kernel
theorem d12_120 : decode jdk_42_method_75_code 120 = .ok (.ireturn, 1) := by decide +kernel
theorem d12_121 : decode jdk_42_method_75_code 121 = .ok (.iconst 1, 1) := by decide +kernel
theorem d12_122 : decode jdk_42_method_75_code 122 = .ok (.ireturn, 1) := by decide +kernel
theorem pn_12 : plainFor (⟨"java/lang/String", "startsWith", "(Ljava/lang/String;I)Z"⟩ : MethodName) = true := by first | exact plainFor_of_name (by first | (simp [plainName, overriddenIn]; done) | decide +kernel) | decide +kernel
def QrmSw (Z : State) (a1 : Addr) (cs : List Int32) (a2 : Addr) (ds : List Int32) (f : Nat) (zc : Int32) (h0 : Heap) (n0 : Nat) (v : Option Value) (h : Heap) (L : List Loc) : Prop := ∃ b, v = some (.int b) ∧ (b = 0 ∨ f + ds.length ≤ cs.length) ∧ Fr n0 L ∧ h = h0
set_option maxRecDepth 65536 in
set_option maxHeartbeats 40000000 in
theorem rmSw (l : Launch) (Z : State) (a0 : Array Value) (hw : ∀ d ∈ tables_1, d.before a0 Z = true) (ws : List Jvm.Cond) (a1 : Addr) (cs : List Int32) (a2 : Addr) (ds : List Int32) (f : Nat) (zc : Int32) (h0 : Heap) (n0 : Nat) (Z0 : n0 ≤ h0.size) (SC : Sta Z h0 "java/lang/String" "COMPACT_STRINGS" "Z" (.int zc)) (hzc : ¬ zc = 0) (S1 : Own.Str Z h0 a1 cs) (S2 : Own.Str Z h0 a2 ds) (hf : f ≤ 4000) (hd7 : ds.length ≤ 7) :
    MetFree l (⟨"java/lang/String", "startsWith", "(Ljava/lang/String;I)Z"⟩ : MethodName) (head1 (Jvm.Cond.code (⟨"java/lang/String", "startsWith", "(Ljava/lang/String;I)Z"⟩ : MethodName) jdk_42_method_75_code 8 (some .boolean) :: ws) ({ frames := 2, cells := 0, slots := 0, locals := 27 } : Room)) (fun a U => a = #[(.ref a1), (.ref a2), (.int (Int32.ofNat f))] ∧ Z.Warmed39 U.vm ∧ U.heap = h0) (fun _ _ _ _ _ => True) (fun _ U o U' => ∃ v L, o = .returned v ∧ QrmSw Z a1 cs a2 ds f zc h0 n0 v U'.heap L ∧ FrameEnd U o U' L ({ frames := 2, cells := 0, slots := 0, locals := 27 } : Room).cells ({ frames := 2, cells := 0, slots := 0, locals := 27 } : Room).slots) := by
  refine MetFree.of_bodySF pn_12 hisR ?_
  intro p e s m args below meth c s₁ Bd hml0 hP hK
  obtain ⟨rfl, hZ, hh⟩ := hP
  have hml : c.maxLocals = 8 := hml0
  have hlk : meth.locks = false := Bd.notSynchronized
  have hret := Bd.returns
  have hnm := (name_of_methodNamed Bd.named Bd.method).1
  have P0 : Own.Wk Z "java/lang/String" jdk_42_method_75_code h0 p l e ({ frames := 2, cells := 0, slots := 0, locals := 27 } : Room) s m #[(.ref a1), (.ref a2), (.int (Int32.ofNat f))] below meth c s₁ [] 0 0 := ⟨Stand.of_body Bd, Bd.exec, Bd.bytes, hZ, findClass_of_methodNamed Bd.named, by rw [← hh, Bd.state]; rfl⟩
  have N0 := Fr.nil n0
  show Own.Goes p.tables e below (fun s₂ o => ∃ v L, o = .returned v ∧ QrmSw Z a1 cs a2 ds f zc h0 n0 v s₂.heap L ∧ FrameEnd s o s₂ L ({ frames := 2, cells := 0, slots := 0, locals := 27 } : Room).cells ({ frames := 2, cells := 0, slots := 0, locals := 27 } : Room).slots) (s₁.setTop (entryFrame m #[(.ref a1), (.ref a2), (.int (Int32.ofNat f))] 8))
  rw [show entryFrame m #[(.ref a1), (.ref a2), (.int (Int32.ofNat f))] 8 = mkF m 0 #[.val (.ref a1), .val (.ref a2), .val (.int (Int32.ofNat f)), .unset, .unset, .unset, .unset, .unset] [] from by first | rfl | (rcases Own.refc hfm with rfl | ⟨_, rfl⟩ <;> rfl) | (simp [entryFrame, mkF, argsToLocals, Value.category]; done)]
  refine Own.iloadN (q := 1) P0 d12_0 rfl rfl ?_
  refine Own.if_lt (q := 4) (qy := 17) P0 d12_1 (by decide) rfl (fun q => absurd q (Own.nneg hf)) (fun _ => ?_)
  refine Own.iloadN (q := 5) P0 d12_4 rfl rfl ?_
  refine Own.aloadN (q := 6) P0 d12_5 rfl rfl rfl ?_
  refine Own.invVirtual (q := 9) (W := 1) (y := (⟨"java/lang/String", "length", "()I"⟩ : MethodName)) (a := a1) (argsL := []) (rest := [(.int (Int32.ofNat f))]) P0 d12_6 (hw _ (List.mem_of_getElem? (i := 66) rfl)) (hw _ (List.mem_of_getElem? (i := 67) rfl)) (hw _ (List.mem_of_getElem? (i := 69) rfl)) (hw _ (List.mem_of_getElem? (i := 68) rfl)) (notFace_of_selects (args := #[]) (mvT P0.2.2.2.1 (hw _ (List.mem_of_getElem? (i := 69) rfl)))) (by decide) (Own.lenB (W := 1) (n0 := n0) P0.2.2.2.1 (fun d hd => hw d (sub_lenW d hd)) (hw _ (List.mem_of_getElem? (i := 9) rfl)) S1 SC hzc (by decide) (by decide)) S1.exa rfl rfl (by rw [hml]; rfl) (lenOf (show parseMethodDescriptor "()I" = some ⟨[], some .int⟩ from by decide +kernel) rfl) (by show 2 * 0 + _ ≤ _; exact Nat.le_of_eq rfl) (by decide) (by decide) rfl ?_
  rintro v21 T21 h21 L21 ⟨rfl, N21q, e21⟩ P21
  rw [e21] at P21
  have N21 := Fr.app N0 N21q
  show Own.Goes _ _ _ _ (T21.setTop (mkF m 9 #[.val (.ref a1), .val (.ref a2), .val (.int (Int32.ofNat f)), .unset, .unset, .unset, .unset, .unset] [(.int (Int32.ofNat (cs : List Int32).length)), (.int (Int32.ofNat f))]))
  refine Own.aloadN (q := 10) P21 d12_9 rfl rfl rfl ?_
  refine Own.invVirtual (q := 13) (W := 2) (y := (⟨"java/lang/String", "length", "()I"⟩ : MethodName)) (a := a2) (argsL := []) (rest := [(.int (Int32.ofNat (cs : List Int32).length)), (.int (Int32.ofNat f))]) P21 d12_10 (hw _ (List.mem_of_getElem? (i := 66) rfl)) (hw _ (List.mem_of_getElem? (i := 67) rfl)) (hw _ (List.mem_of_getElem? (i := 69) rfl)) (hw _ (List.mem_of_getElem? (i := 68) rfl)) (notFace_of_selects (args := #[]) (mvT P21.2.2.2.1 (hw _ (List.mem_of_getElem? (i := 69) rfl)))) (by decide) (Own.lenB (W := 2) (n0 := n0) P21.2.2.2.1 (fun d hd => hw d (sub_lenW d hd)) (hw _ (List.mem_of_getElem? (i := 9) rfl)) S2 SC hzc (by decide) (by decide)) S2.exa rfl rfl (by rw [hml]; rfl) (lenOf (show parseMethodDescriptor "()I" = some ⟨[], some .int⟩ from by decide +kernel) rfl) (by show 2 * 0 + _ ≤ _; exact Nat.le_of_eq rfl) (by decide) (by decide) rfl ?_
  rintro v22 T22 h22 L22 ⟨rfl, N22q, e22⟩ P22
  rw [e22] at P22
  have N22 := Fr.app N21 N22q
  show Own.Goes _ _ _ _ (T22.setTop (mkF m 13 #[.val (.ref a1), .val (.ref a2), .val (.int (Int32.ofNat f)), .unset, .unset, .unset, .unset, .unset] [(.int (Int32.ofNat (ds : List Int32).length)), (.int (Int32.ofNat (cs : List Int32).length)), (.int (Int32.ofNat f))]))
  refine Own.isub (q := 14) P22 d12_13  rfl ?_
  refine Own.icmp_le (q := 17) (qy := 19) P22 d12_14 (by decide) rfl (fun q14 => ?_) (fun q14 => ?_)
  · have hfn : f + ds.length ≤ cs.length := Own.sw_ge hf S1.2.2 S2.2.2 q14
    refine Own.aloadN (q := 20) P22 d12_19 rfl rfl rfl ?_
    obtain ⟨⟨t23, kb23, y23a, y23v, y23c, y23b⟩, -, -⟩ := id S1
    refine Own.getfield (q := 23) P22 d12_20 (hw _ (List.mem_of_getElem? (i := 27) rfl)) y23v rfl ?_
    intro T24 P24
    refine Own.astoreN (q := 24) (L2 := #[.val (.ref a1), .val (.ref a2), .val (.int (Int32.ofNat f)), .val (.ref t23), .unset, .unset, .unset, .unset]) P24 d12_23 rfl rfl rfl ?_
    refine Own.aloadN (q := 25) P24 d12_24 rfl rfl rfl ?_
    obtain ⟨⟨t25, kb25, y25a, y25v, y25c, y25b⟩, -, -⟩ := id S2
    refine Own.getfield (q := 28) P24 d12_25 (hw _ (List.mem_of_getElem? (i := 27) rfl)) y25v rfl ?_
    intro T26 P26
    refine Own.astore (q := 30) (L2 := #[.val (.ref a1), .val (.ref a2), .val (.int (Int32.ofNat f)), .val (.ref t23), .val (.ref t25), .unset, .unset, .unset]) P26 d12_28 rfl rfl rfl ?_
    refine Own.iconst (q := 31) (v := (0 : Int32)) P26 d12_30 rfl rfl ?_
    refine Own.istore (q := 33) (L2 := #[.val (.ref a1), .val (.ref a2), .val (.int (Int32.ofNat f)), .val (.ref t23), .val (.ref t25), .val (.int (0 : Int32)), .unset, .unset]) P26 d12_31 rfl rfl ?_
    refine Own.aload (q := 35) P26 d12_33 rfl rfl rfl ?_
    refine Own.arraylength (q := 36) P26 d12_35 y25b rfl ?_
    refine Own.istore (q := 38) (L2 := #[.val (.ref a1), .val (.ref a2), .val (.int (Int32.ofNat f)), .val (.ref t23), .val (.ref t25), .val (.int (0 : Int32)), .val (.int (Int32.ofNat (ds : List Int32).length)), .unset]) P26 d12_36 rfl rfl ?_
    refine Own.aloadN (q := 39) P26 d12_38 rfl rfl rfl ?_
    refine Own.invVirtual (q := 42) (W := 0) (y := (⟨"java/lang/String", "coder", "()B"⟩ : MethodName)) (a := a1) (argsL := []) (rest := []) P26 d12_39 (hw _ (List.mem_of_getElem? (i := 71) rfl)) (hw _ (List.mem_of_getElem? (i := 72) rfl)) (hw _ (List.mem_of_getElem? (i := 74) rfl)) (hw _ (List.mem_of_getElem? (i := 73) rfl)) (notFace_of_selects (args := #[]) (mvT P26.2.2.2.1 (hw _ (List.mem_of_getElem? (i := 74) rfl)))) (by decide) (backOf (W := 0) (rmCod l Z a0 hw [] a1 zc h0 n0 Z0 SC hzc y23c) P26.2.2.2.1 (hw _ (List.mem_of_getElem? (i := 75) rfl)) (hw _ (List.mem_of_getElem? (i := 10) rfl)) (by decide) (by decide)) S1.exa rfl rfl (by rw [hml]; rfl) (lenOf (show parseMethodDescriptor "()B" = some ⟨[], some .byte⟩ from by decide +kernel) rfl) (by show 2 * 0 + _ ≤ _; exact Nat.le_of_eq rfl) (by decide) (by decide) rfl ?_
    rintro v27 T27 h27 L27 ⟨rfl, N27q, e27⟩ P27
    rw [e27] at P27
    have N27 := Fr.app N22 N27q
    show Own.Goes _ _ _ _ (T27.setTop (mkF m 42 #[.val (.ref a1), .val (.ref a2), .val (.int (Int32.ofNat f)), .val (.ref t23), .val (.ref t25), .val (.int (0 : Int32)), .val (.int (Int32.ofNat (ds : List Int32).length)), .unset] [(.int (0 : Int32))]))
    refine Own.istore (q := 44) (L2 := #[.val (.ref a1), .val (.ref a2), .val (.int (Int32.ofNat f)), .val (.ref t23), .val (.ref t25), .val (.int (0 : Int32)), .val (.int (Int32.ofNat (ds : List Int32).length)), .val (.int (0 : Int32))]) P27 d12_42 rfl rfl ?_
    refine Own.iload (q := 46) P27 d12_44 rfl rfl ?_
    refine Own.aloadN (q := 47) P27 d12_46 rfl rfl rfl ?_
    refine Own.invVirtual (q := 50) (W := 1) (y := (⟨"java/lang/String", "coder", "()B"⟩ : MethodName)) (a := a2) (argsL := []) (rest := [(.int (0 : Int32))]) P27 d12_47 (hw _ (List.mem_of_getElem? (i := 71) rfl)) (hw _ (List.mem_of_getElem? (i := 72) rfl)) (hw _ (List.mem_of_getElem? (i := 74) rfl)) (hw _ (List.mem_of_getElem? (i := 73) rfl)) (notFace_of_selects (args := #[]) (mvT P27.2.2.2.1 (hw _ (List.mem_of_getElem? (i := 74) rfl)))) (by decide) (backOf (W := 1) (rmCod l Z a0 hw [] a2 zc h0 n0 Z0 SC hzc y25c) P27.2.2.2.1 (hw _ (List.mem_of_getElem? (i := 75) rfl)) (hw _ (List.mem_of_getElem? (i := 10) rfl)) (by decide) (by decide)) S2.exa rfl rfl (by rw [hml]; rfl) (lenOf (show parseMethodDescriptor "()B" = some ⟨[], some .byte⟩ from by decide +kernel) rfl) (by show 2 * 0 + _ ≤ _; exact Nat.le_of_eq rfl) (by decide) (by decide) rfl ?_
    rintro v28 T28 h28 L28 ⟨rfl, N28q, e28⟩ P28
    rw [e28] at P28
    have N28 := Fr.app N27 N28q
    show Own.Goes _ _ _ _ (T28.setTop (mkF m 50 #[.val (.ref a1), .val (.ref a2), .val (.int (Int32.ofNat f)), .val (.ref t23), .val (.ref t25), .val (.int (0 : Int32)), .val (.int (Int32.ofNat (ds : List Int32).length)), .val (.int (0 : Int32))] [(.int (0 : Int32)), (.int (0 : Int32))]))
    refine Own.icmp_ne (q := 53) (qy := 82) P28 d12_50 (by decide) rfl (fun q => absurd rfl q) (fun _ => ?_)
    refine Own.iload (q := 55) P28 d12_53 rfl rfl ?_
    refine Own.iconst (q := 56) (v := (1 : Int32)) P28 d12_55 rfl rfl ?_
    refine Own.icmp_ne (q := 59) (qy := 63) P28 d12_56 (by decide) rfl (fun _ => ?_) (fun q => absurd q (by decide))
    refine Own.aloadN (q := 64) P28 d12_63 rfl rfl rfl ?_
    refine Own.iloadN (q := 65) P28 d12_64 rfl rfl ?_
    refine Own.aload (q := 67) P28 d12_65 rfl rfl rfl ?_
    refine Own.iconst (q := 68) (v := (0 : Int32)) P28 d12_67 rfl rfl ?_
    refine Own.iload (q := 70) P28 d12_68 rfl rfl ?_
    refine Own.invStatic (q := 73) (W := 0) (y := (⟨"jdk/internal/util/ArraysSupport", "mismatch", "([BI[BII)I"⟩ : MethodName)) (argsL := [(.ref t23), (.int (Int32.ofNat f)), (.ref t25), (.int (0 : Int32)), (.int (Int32.ofNat (ds : List Int32).length))]) (rest := []) P28 d12_70 (hw _ (List.mem_of_getElem? (i := 76) rfl)) (hw _ (List.mem_of_getElem? (i := 77) rfl)) (hw _ (List.mem_of_getElem? (i := 78) rfl)) (hw _ (List.mem_of_getElem? (i := 79) rfl)) (by decide) (backOf (W := 0) (rmMm l Z a0 hw [] t23 kb23 cs t25 kb25 ds f h0 n0 Z0 y23b y25b hfn S1.2.2 hd7) P28.2.2.2.1 (hw _ (List.mem_of_getElem? (i := 79) rfl)) (hw _ (List.mem_of_getElem? (i := 78) rfl)) (by decide) (by decide)) rfl rfl (by rw [hml]; rfl) (lenOf (show parseMethodDescriptor "([BI[BII)I" = some ⟨[(.array .byte), .int, (.array .byte), .int, .int], some .int⟩ from by decide +kernel) rfl) (by show 2 * 0 + _ ≤ _; exact Nat.le_of_eq rfl) (by decide) (by decide) rfl ?_
    rintro v29 T29 h29 L29 ⟨b29, rfl, N29q, e29⟩ P29
    rw [e29] at P29
    have N29 := Fr.app N28 N29q
    show Own.Goes _ _ _ _ (T29.setTop (mkF m 73 #[.val (.ref a1), .val (.ref a2), .val (.int (Int32.ofNat f)), .val (.ref t23), .val (.ref t25), .val (.int (0 : Int32)), .val (.int (Int32.ofNat (ds : List Int32).length)), .val (.int (0 : Int32))] [(.int b29)]))
    refine Own.if_ge (q := 76) (qy := 80) P29 d12_73 (by decide) rfl (fun q73 => ?_) (fun q73 => ?_)
    · refine Own.iconst (q := 81) (v := (0 : Int32)) P29 d12_80 rfl rfl ?_
      refine Own.retZ (Q := QrmSw Z a1 cs a2 ds f zc h0 n0) P29 d12_81 hret (by simp) hlk (by decide) (by decide) ?_
      exact ⟨_, rfl, Or.inl rfl, N29, rfl⟩
    · refine Own.iconst (q := 77) (v := (1 : Int32)) P29 d12_76 rfl rfl ?_
      refine Own.goto (q := 81) P29 d12_77 (by decide) ?_
      refine Own.retZ (Q := QrmSw Z a1 cs a2 ds f zc h0 n0) P29 d12_81 hret (by simp) hlk (by decide) (by decide) ?_
      exact ⟨_, rfl, Or.inr hfn, N29, rfl⟩
  · refine Own.iconst (q := 18) (v := (0 : Int32)) P22 d12_17 rfl rfl ?_
    refine Own.retZ (Q := QrmSw Z a1 cs a2 ds f zc h0 n0) P22 d12_18 hret (by simp) hlk (by decide) (by decide) ?_
    exact ⟨_, rfl, Or.inl rfl, N22, rfl⟩
theorem d11_0 : decode jdk_42_method_76_code 0 = .ok (.aload_n 0, 1) := by decide +kernel
theorem d11_1 : decode jdk_42_method_76_code 1 = .ok (.aload_n 1, 1) := by decide +kernel
theorem d11_2 : decode jdk_42_method_76_code 2 = .ok (.iconst 0, 1) := by decide +kernel
theorem d11_3 : decode jdk_42_method_76_code 3 = .ok (.invokevirtual 624, 3) := by decide +kernel
theorem d11_6 : decode jdk_42_method_76_code 6 = .ok (.ireturn, 1) := by decide +kernel
theorem pn_11 : plainFor (⟨"java/lang/String", "startsWith", "(Ljava/lang/String;)Z"⟩ : MethodName) = true := by first | exact plainFor_of_name (by first | (simp [plainName, overriddenIn]; done) | decide +kernel) | decide +kernel
def QrmSw1 (Z : State) (a1 : Addr) (cs : List Int32) (a2 : Addr) (ds : List Int32) (zc : Int32) (h0 : Heap) (n0 : Nat) (v : Option Value) (h : Heap) (L : List Loc) : Prop := ∃ b, v = some (.int b) ∧ Fr n0 L ∧ h = h0
set_option maxRecDepth 65536 in
set_option maxHeartbeats 40000000 in
theorem rmSw1 (l : Launch) (Z : State) (a0 : Array Value) (hw : ∀ d ∈ tables_1, d.before a0 Z = true) (ws : List Jvm.Cond) (a1 : Addr) (cs : List Int32) (a2 : Addr) (ds : List Int32) (zc : Int32) (h0 : Heap) (n0 : Nat) (Z0 : n0 ≤ h0.size) (SC : Sta Z h0 "java/lang/String" "COMPACT_STRINGS" "Z" (.int zc)) (hzc : ¬ zc = 0) (S1 : Own.Str Z h0 a1 cs) (S2 : Own.Str Z h0 a2 ds) (hd7 : ds.length ≤ 7) :
    MetFree l (⟨"java/lang/String", "startsWith", "(Ljava/lang/String;)Z"⟩ : MethodName) (head1 (Jvm.Cond.code (⟨"java/lang/String", "startsWith", "(Ljava/lang/String;)Z"⟩ : MethodName) jdk_42_method_76_code 2 (some .boolean) :: ws) ({ frames := 3, cells := 0, slots := 0, locals := 46 } : Room)) (fun a U => a = #[(.ref a1), (.ref a2)] ∧ Z.Warmed39 U.vm ∧ U.heap = h0) (fun _ _ _ _ _ => True) (fun _ U o U' => ∃ v L, o = .returned v ∧ QrmSw1 Z a1 cs a2 ds zc h0 n0 v U'.heap L ∧ FrameEnd U o U' L ({ frames := 3, cells := 0, slots := 0, locals := 46 } : Room).cells ({ frames := 3, cells := 0, slots := 0, locals := 46 } : Room).slots) := by
  refine MetFree.of_bodySF pn_11 hisR ?_
  intro p e s m args below meth c s₁ Bd hml0 hP hK
  obtain ⟨rfl, hZ, hh⟩ := hP
  have hml : c.maxLocals = 2 := hml0
  have hlk : meth.locks = false := Bd.notSynchronized
  have hret := Bd.returns
  have hnm := (name_of_methodNamed Bd.named Bd.method).1
  have P0 : Own.Wk Z "java/lang/String" jdk_42_method_76_code h0 p l e ({ frames := 3, cells := 0, slots := 0, locals := 46 } : Room) s m #[(.ref a1), (.ref a2)] below meth c s₁ [] 0 0 := ⟨Stand.of_body Bd, Bd.exec, Bd.bytes, hZ, findClass_of_methodNamed Bd.named, by rw [← hh, Bd.state]; rfl⟩
  have N0 := Fr.nil n0
  show Own.Goes p.tables e below (fun s₂ o => ∃ v L, o = .returned v ∧ QrmSw1 Z a1 cs a2 ds zc h0 n0 v s₂.heap L ∧ FrameEnd s o s₂ L ({ frames := 3, cells := 0, slots := 0, locals := 46 } : Room).cells ({ frames := 3, cells := 0, slots := 0, locals := 46 } : Room).slots) (s₁.setTop (entryFrame m #[(.ref a1), (.ref a2)] 2))
  rw [show entryFrame m #[(.ref a1), (.ref a2)] 2 = mkF m 0 #[.val (.ref a1), .val (.ref a2)] [] from by first | rfl | (rcases Own.refc hfm with rfl | ⟨_, rfl⟩ <;> rfl) | (simp [entryFrame, mkF, argsToLocals, Value.category]; done)]
  refine Own.aloadN (q := 1) P0 d11_0 rfl rfl rfl ?_
  refine Own.aloadN (q := 2) P0 d11_1 rfl rfl rfl ?_
  refine Own.iconst (q := 3) (v := (0 : Int32)) P0 d11_2 rfl rfl ?_
  refine Own.invVirtual (q := 6) (W := 0) (y := (⟨"java/lang/String", "startsWith", "(Ljava/lang/String;I)Z"⟩ : MethodName)) (a := a1) (argsL := [(.ref a2), (.int (0 : Int32))]) (rest := []) P0 d11_3 (hw _ (List.mem_of_getElem? (i := 61) rfl)) (hw _ (List.mem_of_getElem? (i := 62) rfl)) (hw _ (List.mem_of_getElem? (i := 64) rfl)) (hw _ (List.mem_of_getElem? (i := 63) rfl)) (notFace_of_selects (args := #[]) (mvT P0.2.2.2.1 (hw _ (List.mem_of_getElem? (i := 64) rfl)))) (by decide) (backOf (W := 0) (rmSw l Z a0 hw [] a1 cs a2 ds 0 zc h0 n0 Z0 SC hzc S1 S2 (by decide) hd7) P0.2.2.2.1 (hw _ (List.mem_of_getElem? (i := 65) rfl)) (hw _ (List.mem_of_getElem? (i := 10) rfl)) (by decide) (by decide)) S1.exa rfl rfl (by rw [hml]; rfl) (lenOf (show parseMethodDescriptor "(Ljava/lang/String;I)Z" = some ⟨[(.object "java/lang/String"), .int], some .boolean⟩ from by decide +kernel) rfl) (by show 2 * 0 + _ ≤ _; exact Nat.le_of_eq rfl) (by decide) (by decide) rfl ?_
  rintro v21 T21 h21 L21 ⟨b21, rfl, hb21, N21q, e21⟩ P21
  rw [e21] at P21
  have N21 := Fr.app N0 N21q
  show Own.Goes _ _ _ _ (T21.setTop (mkF m 6 #[.val (.ref a1), .val (.ref a2)] [(.int b21)]))
  refine Own.retZ (Q := QrmSw1 Z a1 cs a2 ds zc h0 n0) P21 d11_6 hret (by simp) hlk (by decide) (by decide) ?_
  exact ⟨_, rfl, N21, rfl⟩
theorem d10_0 : decode jdk_31_method_10_code 0 = .ok (.aload_n 0, 1) := by decide +kernel
theorem d10_1 : decode jdk_31_method_10_code 1 = .ok (.ifnonnull 11, 3) := by decide +kernel
theorem d10_4 : decode jdk_31_method_10_code 4 = .ok (.new 84, 3) := by decide +kernel
theorem d10_7 : decode jdk_31_method_10_code 7 = .ok (.dup, 1) := by decide +kernel
theorem d10_8 : decode jdk_31_method_10_code 8 = .ok (.invokespecial 86, 3) := by decide +kernel
theorem d10_11 : decode jdk_31_method_10_code 11 = .ok (.athrow, 1) := by decide +kernel
theorem d10_12 : decode jdk_31_method_10_code 12 = .ok (.aload_n 0, 1) := by decide +kernel
theorem d10_13 : decode jdk_31_method_10_code 13 = .ok (.areturn, 1) := by decide +kernel
theorem pn_10 : plainFor (⟨"java/util/Objects", "requireNonNull", "(Ljava/lang/Object;)Ljava/lang/Object;"⟩ : MethodName) = true := by first | exact plainFor_of_name (by first | (simp [plainName, overriddenIn]; done) | decide +kernel) | decide +kernel
def QrmRnn (Z : State) (a1 : Addr) (h0 : Heap) (n0 : Nat) (v : Option Value) (h : Heap) (L : List Loc) : Prop := v = some (.ref a1) ∧ Fr n0 L ∧ h = h0
set_option maxRecDepth 65536 in
set_option maxHeartbeats 40000000 in
theorem rmRnn (l : Launch) (Z : State) (a0 : Array Value) (hw : ∀ d ∈ tables_1, d.before a0 Z = true) (ws : List Jvm.Cond) (a1 : Addr) (h0 : Heap) (n0 : Nat) (Z0 : n0 ≤ h0.size)  :
    MetFree l (⟨"java/util/Objects", "requireNonNull", "(Ljava/lang/Object;)Ljava/lang/Object;"⟩ : MethodName) (head1 (Jvm.Cond.code (⟨"java/util/Objects", "requireNonNull", "(Ljava/lang/Object;)Ljava/lang/Object;"⟩ : MethodName) jdk_31_method_10_code 1 (some (.object "java/lang/Object")) :: ws) ({ frames := 0, cells := 0, slots := 0, locals := 0 } : Room)) (fun a U => a = #[(.ref a1)] ∧ Z.Warmed39 U.vm ∧ U.heap = h0) (fun _ _ _ _ _ => True) (fun _ U o U' => ∃ v L, o = .returned v ∧ QrmRnn Z a1 h0 n0 v U'.heap L ∧ FrameEnd U o U' L ({ frames := 0, cells := 0, slots := 0, locals := 0 } : Room).cells ({ frames := 0, cells := 0, slots := 0, locals := 0 } : Room).slots) := by
  refine MetFree.of_bodySF pn_10 hisR ?_
  intro p e s m args below meth c s₁ Bd hml0 hP hK
  obtain ⟨rfl, hZ, hh⟩ := hP
  have hml : c.maxLocals = 1 := hml0
  have hlk : meth.locks = false := Bd.notSynchronized
  have hret := Bd.returns
  have hnm := (name_of_methodNamed Bd.named Bd.method).1
  have P0 : Own.Wk Z "java/util/Objects" jdk_31_method_10_code h0 p l e ({ frames := 0, cells := 0, slots := 0, locals := 0 } : Room) s m #[(.ref a1)] below meth c s₁ [] 0 0 := ⟨Stand.of_body Bd, Bd.exec, Bd.bytes, hZ, findClass_of_methodNamed Bd.named, by rw [← hh, Bd.state]; rfl⟩
  have N0 := Fr.nil n0
  show Own.Goes p.tables e below (fun s₂ o => ∃ v L, o = .returned v ∧ QrmRnn Z a1 h0 n0 v s₂.heap L ∧ FrameEnd s o s₂ L ({ frames := 0, cells := 0, slots := 0, locals := 0 } : Room).cells ({ frames := 0, cells := 0, slots := 0, locals := 0 } : Room).slots) (s₁.setTop (entryFrame m #[(.ref a1)] 1))
  rw [show entryFrame m #[(.ref a1)] 1 = mkF m 0 #[.val (.ref a1)] [] from by first | rfl | (rcases Own.refc hfm with rfl | ⟨_, rfl⟩ <;> rfl) | (simp [entryFrame, mkF, argsToLocals, Value.category]; done)]
  refine Own.aloadN (q := 1) P0 d10_0 rfl rfl rfl ?_
  refine Own.nonnullY (q := 12) P0 d10_1 (by decide) ?_
  refine Own.aloadN (q := 13) P0 d10_12 rfl rfl rfl ?_
  refine Own.retA (Q := QrmRnn Z a1 h0 n0) P0 d10_13 hret rfl rfl rfl hlk (by decide) (by decide) ?_
  exact ⟨rfl, N0, rfl⟩
theorem d9_0 : decode prog_32_method_1_code 0 = .ok (.aload_n 0, 1) := by decide +kernel
theorem d9_1 : decode prog_32_method_1_code 1 = .ok (.invokespecial 1, 3) := by decide +kernel
theorem d9_4 : decode prog_32_method_1_code 4 = .ok (.aload_n 0, 1) := by decide +kernel
theorem d9_5 : decode prog_32_method_1_code 5 = .ok (.aload_n 1, 1) := by decide +kernel
theorem d9_6 : decode prog_32_method_1_code 6 = .ok (.invokestatic 7, 3) := by decide +kernel
theorem d9_9 : decode prog_32_method_1_code 9 = .ok (.checkcast 13, 3) := by decide +kernel
theorem d9_12 : decode prog_32_method_1_code 12 = .ok (.putfield 15, 3) := by decide +kernel
theorem d9_15 : decode prog_32_method_1_code 15 = .ok (.aload_n 0, 1) := by decide +kernel
theorem d9_16 : decode prog_32_method_1_code 16 = .ok (.aload_n 2, 1) := by decide +kernel
theorem d9_17 : decode prog_32_method_1_code 17 = .ok (.invokestatic 7, 3) := by decide +kernel
theorem d9_20 : decode prog_32_method_1_code 20 = .ok (.checkcast 13, 3) := by decide +kernel
theorem d9_23 : decode prog_32_method_1_code 23 = .ok (.putfield 21, 3) := by decide +kernel
theorem d9_26 : decode prog_32_method_1_code 26 = .ok (.aload_n 2, 1) := by decide +kernel
theorem d9_27 : decode prog_32_method_1_code 27 = .ok (.aload_n 1, 1) := by decide +kernel
theorem d9_28 : decode prog_32_method_1_code 28 = .ok (.invokevirtual 24, 3) := by decide +kernel
theorem d9_31 : decode prog_32_method_1_code 31 = .ok (.ifCond .eq 20, 3) := by decide +kernel
theorem d9_34 : decode prog_32_method_1_code 34 = .ok (.aload_n 2, 1) := by decide +kernel
theorem d9_35 : decode prog_32_method_1_code 35 = .ok (.ldc 28, 2) := by decide +kernel
theorem d9_37 : decode prog_32_method_1_code 37 = .ok (.aload_n 1, 1) := by decide +kernel
theorem d9_38 : decode prog_32_method_1_code 38 = .ok (.invokevirtual 30, 3) := by decide +kernel
theorem d9_41 : decode prog_32_method_1_code 41 = .ok (.invokevirtual 34, 3) := by decide +kernel
theorem d9_44 : decode prog_32_method_1_code 44 = .ok (.ifCond .eq 7, 3) := by decide +kernel
theorem d9_47 : decode prog_32_method_1_code 47 = .ok (.iconst 1, 1) := by decide +kernel
theorem d9_48 : decode prog_32_method_1_code 48 = .ok (.goto 4, 3) := by decide +kernel
theorem d9_51 : decode prog_32_method_1_code 51 = .ok (.iconst 0, 1) := by decide +kernel
theorem d9_52 : decode prog_32_method_1_code 52 = .ok (.istore_n 3, 1) := by decide +kernel
theorem d9_53 : decode prog_32_method_1_code 53 = .ok (.aload_n 0, 1) := by decide +kernel
theorem d9_54 : decode prog_32_method_1_code 54 = .ok (.new 37, 3) := by decide +kernel
theorem d9_57 : decode prog_32_method_1_code 57 = .ok (.dup, 1) := by decide +kernel
theorem d9_58 : decode prog_32_method_1_code 58 = .ok (.invokespecial 39, 3) := by decide +kernel
theorem d9_61 : decode prog_32_method_1_code 61 = .ok (.aload_n 1, 1) := by decide +kernel
theorem d9_62 : decode prog_32_method_1_code 62 = .ok (.invokevirtual 40, 3) := by decide +kernel
theorem d9_65 : decode prog_32_method_1_code 65 = .ok (.ldc 44, 2) := by decide +kernel
theorem d9_67 : decode prog_32_method_1_code 67 = .ok (.invokevirtual 40, 3) := by decide +kernel
theorem d9_70 : decode prog_32_method_1_code 70 = .ok (.iload_n 3, 1) := by decide +kernel
theorem d9_71 : decode prog_32_method_1_code 71 = .ok (.ifCond .eq 14, 3) := by decide +kernel
theorem d9_74 : decode prog_32_method_1_code 74 = .ok (.aload_n 2, 1) := by decide +kernel
theorem d9_75 : decode prog_32_method_1_code 75 = .ok (.aload_n 1, 1) := by decide +kernel
theorem d9_76 : decode prog_32_method_1_code 76 = .ok (.invokevirtual 30, 3) := by decide +kernel
theorem d9_79 : decode prog_32_method_1_code 79 = .ok (.invokevirtual 46, 3) := by decide +kernel
theorem d9_82 : decode prog_32_method_1_code 82 = .ok (.goto 4, 3) := by decide +kernel
theorem d9_85 : decode prog_32_method_1_code 85 = .ok (.aload_n 2, 1) := by decide +kernel
theorem d9_86 : decode prog_32_method_1_code 86 = .ok (.invokevirtual 40, 3) := by decide +kernel
theorem d9_89 : decode prog_32_method_1_code 89 = .ok (.invokevirtual 50, 3) := by decide +kernel
theorem d9_92 : decode prog_32_method_1_code 92 = .ok (.putfield 54, 3) := by decide +kernel
theorem d9_95 : decode prog_32_method_1_code 95 = .ok (.return_, 1) := by decide +kernel
theorem pn_9 : plainFor (⟨"lifestack/model/ComponentName", "<init>", "(Ljava/lang/String;Ljava/lang/String;)V"⟩ : MethodName) = true := by first | exact plainFor_of_name (by first | (simp [plainName, overriddenIn]; done) | decide +kernel) | decide +kernel
def QrmCN (Z : State) (a1 : Addr) (a2 : Addr) (a3 : Addr) (c2 : List Int32) (c3 : List Int32) (u0 : Value) (u1 : Value) (u2 : Value) (zc : Int32) (fm : Value) (h0 : Heap) (n0 : Nat) (v : Option Value) (h : Heap) (L : List Loc) : Prop := ∃ r cw, v = none ∧ Fr n0 L ∧ Keep h0 h [a1] ∧ Exa Z h a1 "lifestack/model/ComponentName" ∧ Fld Z h a1 "lifestack/model/ComponentName" "packageName" "Ljava/lang/String;" (.ref a2) ∧ Fld Z h a1 "lifestack/model/ComponentName" "className" "Ljava/lang/String;" (.ref a3) ∧ Fld Z h a1 "lifestack/model/ComponentName" "written" "Ljava/lang/String;" (.ref r) ∧ Own.Str Z h r cw
set_option maxRecDepth 65536 in
set_option maxHeartbeats 40000000 in
theorem rmCN (l : Launch) (Z : State) (a0 : Array Value) (hw : ∀ d ∈ tables_1, d.before a0 Z = true) (ws : List Jvm.Cond) (a1 : Addr) (a2 : Addr) (a3 : Addr) (c2 : List Int32) (c3 : List Int32) (u0 : Value) (u1 : Value) (u2 : Value) (zc : Int32) (fm : Value) (h0 : Heap) (n0 : Nat) (Z0 : n0 ≤ h0.size) (SC : Sta Z h0 "java/lang/String" "COMPACT_STRINGS" "Z" (.int zc)) (hzc : ¬ zc = 0) (SF : Sta Z h0 "jdk/internal/util/Preconditions" "SIOOBE_FORMATTER" "Ljava/util/function/BiFunction;" fm) (hfm : fm.isRef = true) (E_a1 : Exa Z h0 a1 "lifestack/model/ComponentName") (f0 : Fld Z h0 a1 "lifestack/model/ComponentName" "packageName" "Ljava/lang/String;" u0) (f1 : Fld Z h0 a1 "lifestack/model/ComponentName" "className" "Ljava/lang/String;" u1) (f2 : Fld Z h0 a1 "lifestack/model/ComponentName" "written" "Ljava/lang/String;" u2) (g_a1 : n0 ≤ a1) (S2 : Own.Str Z h0 a2 c2) (S3 : Own.Str Z h0 a3 c3) (hl2 : c2.length ≤ 3) (hl3 : c3.length ≤ 3) :
    MetFree l (⟨"lifestack/model/ComponentName", "<init>", "(Ljava/lang/String;Ljava/lang/String;)V"⟩ : MethodName) (head1 (Jvm.Cond.code (⟨"lifestack/model/ComponentName", "<init>", "(Ljava/lang/String;Ljava/lang/String;)V"⟩ : MethodName) prog_32_method_1_code 4 none :: ws) ({ frames := 6, cells := 16, slots := 160, locals := 110 } : Room)) (fun a U => a = #[(.ref a1), (.ref a2), (.ref a3)] ∧ Z.Warmed39 U.vm ∧ U.heap = h0 ∧ CHv Z EL U.vm h0 ∧ ∀ x ∈ ([] : List Addr), Safe Z EL U.vm h0 x) (fun _ _ _ _ _ => True) (fun _ U o U' => ∃ v L, o = .returned v ∧ QrmCN Z a1 a2 a3 c2 c3 u0 u1 u2 zc fm h0 n0 v U'.heap L ∧ CHr Z EL U.vm U.heap U'.vm U'.heap ∧ ReturnedEndW U o U' L ({ frames := 6, cells := 16, slots := 160, locals := 110 } : Room).cells ({ frames := 6, cells := 16, slots := 160, locals := 110 } : Room).slots) := by
  refine MetFree.of_bodySF pn_9 hisR ?_
  intro p e s m args below meth c s₁ Bd hml0 hP hK
  obtain ⟨rfl, hZ, hh, hCH, hSf⟩ := hP
  have hml : c.maxLocals = 4 := hml0
  have hlk : meth.locks = false := Bd.notSynchronized
  have hret := Bd.returns
  have hnm := (name_of_methodNamed Bd.named Bd.method).1
  have P0 : Own.Wk Z "lifestack/model/ComponentName" prog_32_method_1_code h0 p l e ({ frames := 6, cells := 16, slots := 160, locals := 110 } : Room) (s.setVm s.vm) m #[(.ref a1), (.ref a2), (.ref a3)] below meth c s₁ [] 0 0 := ⟨Stand.of_body Bd, Bd.exec, Bd.bytes, hZ, findClass_of_methodNamed Bd.named, by rw [← hh, Bd.state]; rfl⟩
  have H0 : Own.Hd Z EL s s.vm h0 h0 := Own.Hd.start hCH
  have N0 := Fr.nil n0
  show Own.Goes p.tables e below (fun s₂ o => ∃ v L, o = .returned v ∧ QrmCN Z a1 a2 a3 c2 c3 u0 u1 u2 zc fm h0 n0 v s₂.heap L ∧ CHr Z EL s.vm s.heap s₂.vm s₂.heap ∧ ReturnedEndW s o s₂ L ({ frames := 6, cells := 16, slots := 160, locals := 110 } : Room).cells ({ frames := 6, cells := 16, slots := 160, locals := 110 } : Room).slots) (s₁.setTop (entryFrame m #[(.ref a1), (.ref a2), (.ref a3)] 4))
  rw [show entryFrame m #[(.ref a1), (.ref a2), (.ref a3)] 4 = mkF m 0 #[.val (.ref a1), .val (.ref a2), .val (.ref a3), .unset] [] from by first | rfl | (rcases Own.refc hfm with rfl | ⟨_, rfl⟩ <;> rfl) | (simp [entryFrame, mkF, argsToLocals, Value.category]; done)]
  refine Own.aloadN (q := 1) P0 d9_0 rfl rfl rfl ?_
  refine Own.objinit (q := 4) (W := 0) P0 d9_1 (hw _ (List.mem_of_getElem? (i := 46) rfl)) (hw _ (List.mem_of_getElem? (i := 19) rfl)) (hw _ (List.mem_of_getElem? (i := 20) rfl)) (by rw [hml]; rfl) (by decide) (by show 2 * 0 + _ ≤ _; exact Nat.le_of_eq rfl) (by decide) rfl ?_
  intro T21 P21
  refine Own.aloadN (q := 5) P21 d9_4 rfl rfl rfl ?_
  refine Own.aloadN (q := 6) P21 d9_5 rfl rfl rfl ?_
  refine Own.invStatic (q := 9) (W := 1) (y := (⟨"java/util/Objects", "requireNonNull", "(Ljava/lang/Object;)Ljava/lang/Object;"⟩ : MethodName)) (argsL := [(.ref a2)]) (rest := [(.ref a1)]) P21 d9_6 (hw _ (List.mem_of_getElem? (i := 47) rfl)) (hw _ (List.mem_of_getElem? (i := 48) rfl)) (hw _ (List.mem_of_getElem? (i := 49) rfl)) (hw _ (List.mem_of_getElem? (i := 50) rfl)) (by decide) (backOf (W := 1) (rmRnn l Z a0 hw [] a2 h0 n0 Z0 ) P21.2.2.2.1 (hw _ (List.mem_of_getElem? (i := 50) rfl)) (hw _ (List.mem_of_getElem? (i := 49) rfl)) (by decide) (by decide)) rfl rfl (by rw [hml]; rfl) (lenOf (show parseMethodDescriptor "(Ljava/lang/Object;)Ljava/lang/Object;" = some ⟨[(.object "java/lang/Object")], some (.object "java/lang/Object")⟩ from by decide +kernel) rfl) (by show 2 * 0 + _ ≤ _; exact Nat.le_of_eq rfl) (by decide) (by decide) rfl ?_
  rintro v22 T22 h22 L22 ⟨rfl, N22q, e22⟩ P22
  rw [e22] at P22
  have N22 := Fr.app N0 N22q
  show Own.Goes _ _ _ _ (T22.setTop (mkF m 9 #[.val (.ref a1), .val (.ref a2), .val (.ref a3), .unset] [(.ref a2), (.ref a1)]))
  refine Own.castTo (q := 12) P22 d9_9 (hw _ (List.mem_of_getElem? (i := 51) rfl)) (Ins.self S2.exa) rfl ?_
  intro T23 P23
  refine Own.putfield (q := 15) P23 d9_12 (hw _ (List.mem_of_getElem? (i := 52) rfl)) f0 E_a1 (Or.inr ⟨(hw _ (List.mem_of_getElem? (i := 53) rfl)), rfl, hnm⟩) (hw _ (List.mem_of_getElem? (i := 1) rfl)) (ty := (.object "java/lang/String")) (by decide) rfl rfl rfl ?_
  intro T24 h24 lc24 hl24 P24 W24
  have F24_packageName := Fld.same W24 f0
  have F24_className := f1.other W24 (Or.inr (slot_ne (Or.inr (hw _ (List.mem_of_getElem? (i := 55) rfl))) (Or.inr (hw _ (List.mem_of_getElem? (i := 53) rfl))) (by decide) (t := (.object "java/lang/String")) (t' := (.object "java/lang/String")) (by decide) (by decide)))
  have F24_written := f2.other W24 (Or.inr (slot_ne (Or.inr (hw _ (List.mem_of_getElem? (i := 186) rfl))) (Or.inr (hw _ (List.mem_of_getElem? (i := 53) rfl))) (by decide) (t := (.object "java/lang/String")) (t' := (.object "java/lang/String")) (by decide) (by decide)))
  have A24 := E_a1.wr W24
  have N24 := Own.Fr.one N22 hl24 g_a1
  refine Own.aloadN (q := 16) P24 d9_15 rfl rfl rfl ?_
  refine Own.aloadN (q := 17) P24 d9_16 rfl rfl rfl ?_
  have Z1_25 : n0 ≤ h24.size := by rw [W24.size]; exact Z0
  refine Own.invStatic (q := 20) (W := 1) (y := (⟨"java/util/Objects", "requireNonNull", "(Ljava/lang/Object;)Ljava/lang/Object;"⟩ : MethodName)) (argsL := [(.ref a3)]) (rest := [(.ref a1)]) P24 d9_17 (hw _ (List.mem_of_getElem? (i := 47) rfl)) (hw _ (List.mem_of_getElem? (i := 48) rfl)) (hw _ (List.mem_of_getElem? (i := 49) rfl)) (hw _ (List.mem_of_getElem? (i := 50) rfl)) (by decide) (backOf (W := 1) (rmRnn l Z a0 hw [] a3 h24 n0 Z1_25 ) P24.2.2.2.1 (hw _ (List.mem_of_getElem? (i := 50) rfl)) (hw _ (List.mem_of_getElem? (i := 49) rfl)) (by decide) (by decide)) rfl rfl (by rw [hml]; rfl) (lenOf (show parseMethodDescriptor "(Ljava/lang/Object;)Ljava/lang/Object;" = some ⟨[(.object "java/lang/Object")], some (.object "java/lang/Object")⟩ from by decide +kernel) rfl) (by show 2 * 0 + _ ≤ _; exact Nat.le_of_eq rfl) (by decide) (by decide) rfl ?_
  rintro v26 T26 h26 L26 ⟨rfl, N26q, e26⟩ P26
  rw [e26] at P26
  have N26 := Fr.app N24 N26q
  show Own.Goes _ _ _ _ (T26.setTop (mkF m 20 #[.val (.ref a1), .val (.ref a2), .val (.ref a3), .unset] [(.ref a3), (.ref a1)]))
  have qf27 := (Own.Str.kp1 S3 (Keep.of_wr W24) E_a1 (by decide) (hw _ (List.mem_of_getElem? (i := 1) rfl)))
  refine Own.castTo (q := 23) P26 d9_20 (hw _ (List.mem_of_getElem? (i := 51) rfl)) (Ins.self qf27.exa) rfl ?_
  intro T28 P28
  refine Own.putfield (q := 26) P28 d9_23 (hw _ (List.mem_of_getElem? (i := 54) rfl)) F24_className A24 (Or.inr ⟨(hw _ (List.mem_of_getElem? (i := 55) rfl)), rfl, hnm⟩) (hw _ (List.mem_of_getElem? (i := 1) rfl)) (ty := (.object "java/lang/String")) (by decide) rfl rfl rfl ?_
  intro T29 h29 lc29 hl29 P29 W29
  have F29_packageName := F24_packageName.other W29 (Or.inr (slot_ne (Or.inr (hw _ (List.mem_of_getElem? (i := 53) rfl))) (Or.inr (hw _ (List.mem_of_getElem? (i := 55) rfl))) (by decide) (t := (.object "java/lang/String")) (t' := (.object "java/lang/String")) (by decide) (by decide)))
  have F29_className := Fld.same W29 F24_className
  have F29_written := F24_written.other W29 (Or.inr (slot_ne (Or.inr (hw _ (List.mem_of_getElem? (i := 186) rfl))) (Or.inr (hw _ (List.mem_of_getElem? (i := 55) rfl))) (by decide) (t := (.object "java/lang/String")) (t' := (.object "java/lang/String")) (by decide) (by decide)))
  have A29 := A24.wr W29
  have N29 := Own.Fr.one N26 hl29 g_a1
  refine Own.aloadN (q := 27) P29 d9_26 rfl rfl rfl ?_
  refine Own.aloadN (q := 28) P29 d9_27 rfl rfl rfl ?_
  have qf30 := (Sta.wr W24 SC)
  have qf31 := (Sta.wr W29 qf30)
  have qf32 := (Own.Str.kp1 qf27 (Keep.of_wr W29) A24 (by decide) (hw _ (List.mem_of_getElem? (i := 1) rfl)))
  have qf33 := (Own.Str.kp1 S2 (Keep.of_wr W24) E_a1 (by decide) (hw _ (List.mem_of_getElem? (i := 1) rfl)))
  have qf34 := (Own.Str.kp1 qf33 (Keep.of_wr W29) A24 (by decide) (hw _ (List.mem_of_getElem? (i := 1) rfl)))
  have Z2_35 : n0 ≤ h29.size := by rw [W29.size]; exact Z1_25
  refine Own.invVirtual (q := 31) (W := 0) (y := (⟨"java/lang/String", "startsWith", "(Ljava/lang/String;)Z"⟩ : MethodName)) (a := a3) (argsL := [(.ref a2)]) (rest := []) P29 d9_28 (hw _ (List.mem_of_getElem? (i := 56) rfl)) (hw _ (List.mem_of_getElem? (i := 57) rfl)) (hw _ (List.mem_of_getElem? (i := 59) rfl)) (hw _ (List.mem_of_getElem? (i := 58) rfl)) (notFace_of_selects (args := #[]) (mvT P29.2.2.2.1 (hw _ (List.mem_of_getElem? (i := 59) rfl)))) (by decide) (backOf (W := 0) (rmSw1 l Z a0 hw [] a3 c3 a2 c2 zc h29 n0 Z2_35 qf31 hzc qf32 qf34 (by have := hl2; have := hl3; omega)) P29.2.2.2.1 (hw _ (List.mem_of_getElem? (i := 60) rfl)) (hw _ (List.mem_of_getElem? (i := 10) rfl)) (by decide) (by decide)) qf32.exa rfl rfl (by rw [hml]; rfl) (lenOf (show parseMethodDescriptor "(Ljava/lang/String;)Z" = some ⟨[(.object "java/lang/String")], some .boolean⟩ from by decide +kernel) rfl) (by show 2 * 0 + _ ≤ _; exact Nat.le_of_eq rfl) (by decide) (by decide) rfl ?_
  rintro v36 T36 h36 L36 ⟨b36, rfl, N36q, e36⟩ P36
  rw [e36] at P36
  have N36 := Fr.app N29 N36q
  show Own.Goes _ _ _ _ (T36.setTop (mkF m 31 #[.val (.ref a1), .val (.ref a2), .val (.ref a3), .unset] [(.int b36)]))
  refine Own.if_eq (q := 34) (qy := 51) P36 d9_31 (by decide) rfl (fun q31 => ?_) (fun q31 => ?_)
  · refine Own.iconst (q := 52) (v := (0 : Int32)) P36 d9_51 rfl rfl ?_
    refine Own.istoreN (q := 53) (L2 := #[.val (.ref a1), .val (.ref a2), .val (.ref a3), .val (.int (0 : Int32))]) P36 d9_52 rfl rfl ?_
    refine Own.aloadN (q := 54) P36 d9_53 rfl rfl rfl ?_
    refine Own.newobj (q := 57) P36 d9_54 (hw _ (List.mem_of_getElem? (i := 83) rfl)) (hw _ (List.mem_of_getElem? (i := 84) rfl)) (hw _ (List.mem_of_getElem? (i := 85) rfl)) (by decide) (by decide) rfl ?_
    intro T37 h37 a37 ha37 P37 E37 A37 D37
    have F37_value : Fld Z h37 a37 "java/lang/AbstractStringBuilder" "value" "[B" .null := D37 (Or.inl (hw _ (List.mem_of_getElem? (i := 98) rfl))) (ty := (.array .byte)) (by decide)
    have F37_coder : Fld Z h37 a37 "java/lang/AbstractStringBuilder" "coder" "B" (.int (0 : Int32)) := D37 (Or.inl (hw _ (List.mem_of_getElem? (i := 100) rfl))) (ty := .byte) (by decide)
    have F37_count : Fld Z h37 a37 "java/lang/AbstractStringBuilder" "count" "I" (.int (0 : Int32)) := D37 (Or.inl (hw _ (List.mem_of_getElem? (i := 113) rfl))) (ty := .int) (by decide)
    refine Own.dup (q := 58) P37 d9_57 rfl rfl ?_
    have E2_3_38 : Ext h29 h37 := E37
    have Z3_39 : n0 ≤ h37.size := Nat.le_trans Z2_35 E37.1
    refine Own.invSpecial (q := 61) (W := 2) (y := (⟨"java/lang/StringBuilder", "<init>", "()V"⟩ : MethodName)) (a := a37) (argsL := []) (rest := [(.ref a37), (.ref a1)]) P37 d9_58 rfl (hw _ (List.mem_of_getElem? (i := 86) rfl)) (hw _ (List.mem_of_getElem? (i := 87) rfl)) (hw _ (List.mem_of_getElem? (i := 88) rfl)) (by decide) (backOf (W := 2) (rmSI l Z a0 hw [] a37 .null (.int (0 : Int32)) zc h37 n0 Z3_39 (qf31.ext E2_3_38) hzc A37 F37_value F37_coder F37_count (Nat.le_trans Z2_35 (Nat.le_of_eq ha37.symm))) P37.2.2.2.1 (hw _ (List.mem_of_getElem? (i := 88) rfl)) (hw _ (List.mem_of_getElem? (i := 85) rfl)) (by decide) (by decide)) rfl rfl (by rw [hml]; rfl) (lenOf (show parseMethodDescriptor "()V" = some ⟨[], none⟩ from by decide +kernel) rfl) (by show 2 * 0 + _ ≤ _; exact Nat.le_of_eq rfl) (by decide) (by decide) rfl ?_
    rintro v40 T40 h40 L40 ⟨rfl, N40q, K40, t40, kb40, gt40, X40, V40, C40, n40, A40⟩ P40
    have N40 := Fr.app N36 N40q
    show Own.Goes _ _ _ _ (T40.setTop (mkF m 61 #[.val (.ref a1), .val (.ref a2), .val (.ref a3), .val (.int (0 : Int32))] [(.ref a37), (.ref a1)]))
    refine Own.aloadN (q := 62) P40 d9_61 rfl rfl rfl ?_
    have E2_4_41 : Ext h29 h40 := (Own.Ext.kp E2_3_38 K40 (allS (Nat.le_of_eq ha37.symm) all0))
    have hS42 : (([] : List Int32)).length + (c2 : List Int32).length ≤ 16 := by have := hl2; have := hl3; simp; omega
    have Z4_43 : n0 ≤ h40.size := Nat.le_trans Z3_39 K40.1
    refine Own.invVirtual (q := 65) (W := 1) (y := (⟨"java/lang/StringBuilder", "append", "(Ljava/lang/String;)Ljava/lang/StringBuilder;"⟩ : MethodName)) (a := a37) (argsL := [(.ref a2)]) (rest := [(.ref a1)]) P40 d9_62 (hw _ (List.mem_of_getElem? (i := 101) rfl)) (hw _ (List.mem_of_getElem? (i := 102) rfl)) (hw _ (List.mem_of_getElem? (i := 104) rfl)) (hw _ (List.mem_of_getElem? (i := 103) rfl)) (notFace_of_selects (args := #[]) (mvT P40.2.2.2.1 (hw _ (List.mem_of_getElem? (i := 104) rfl)))) (by decide) (backOf (W := 1) (rmSap l Z a0 hw [] a37 t40 kb40 ([] : List Int32) a2 c2 zc h40 n0 Z4_43 (qf31.ext E2_4_41) hzc X40 V40 C40 n40 A40 (qf34.ext E2_4_41) hS42 (Nat.le_trans Z2_35 (Nat.le_of_eq ha37.symm)) (Nat.le_trans Z3_39 gt40)) P40.2.2.2.1 (hw _ (List.mem_of_getElem? (i := 105) rfl)) (hw _ (List.mem_of_getElem? (i := 85) rfl)) (by decide) (by decide)) X40 rfl rfl (by rw [hml]; rfl) (lenOf (show parseMethodDescriptor "(Ljava/lang/String;)Ljava/lang/StringBuilder;" = some ⟨[(.object "java/lang/String")], some (.object "java/lang/StringBuilder")⟩ from by decide +kernel) rfl) (by show 2 * 0 + _ ≤ _; exact Nat.le_of_eq rfl) (by decide) (by decide) rfl ?_
    rintro v44 T44 h44 L44 ⟨rfl, N44q, K44, E44a, V44, C44, n44, A44⟩ P44
    have N44 := Fr.app N40 N44q
    show Own.Goes _ _ _ _ (T44.setTop (mkF m 65 #[.val (.ref a1), .val (.ref a2), .val (.ref a3), .val (.int (0 : Int32))] [(.ref a37), (.ref a1)]))
    have Hd45 := (Own.Hd.wr H0 W24 (Safe.exa P44.2.2.2.1.alike E_a1 (by decide) (by decide)))
    have Hd46 := (Own.Hd.wr Hd45 W29 (Safe.exa P44.2.2.2.1.alike A24 (by decide) (by decide)))
    have Hd47 := (Hd46.ext E37)
    have Hd48 := (Own.Hd.kp Hd47 K40 (sfS (Safe.exa P44.2.2.2.1.alike A37 (by decide) (by decide)) sf0))
    have Sf49 := (Safe.keep K40 (sfS (Safe.exa P44.2.2.2.1.alike A37 (by decide) (by decide)) sf0) Hd47.2.1 (Safe.new gt40))
    have Hd50 := (Own.Hd.kp Hd48 K44 (sfS (Safe.exa P44.2.2.2.1.alike X40 (by decide) (by decide)) (sfS Sf49 sf0)))
    refine Own.ldcStr (q := 67) (n := 4) (cs := [(47 : Int32)]) P44 Hd50 d9_65 (hw _ (List.mem_of_getElem? (i := 139) rfl)) (fun a ha => hw a (sub_str a ha)) (ew hw) (by decide) (by decide) (Own.chS (by decide) Own.ch0) (by decide) (by decide) (by decide) (by decide) (by decide) (by decide) (by decide) rfl ?_
    intro T51 vm51 h51 a51 P51 H51 hr51 E51 St51
    have hS52 : ((([] : List Int32) ++ c2)).length + ([(47 : Int32)] : List Int32).length ≤ 16 := by have := hl2; have := hl3; simp; omega
    have E2_5_53 : Ext h29 h44 := (Own.Ext.kp E2_4_41 K44 (allS (Nat.le_of_eq ha37.symm) (allS (Nat.le_trans E2_3_38.1 gt40) all0)))
    have E2_6_54 : Ext h29 h51 := (Own.Ext.tr E2_5_53 E51)
    have E5_6_55 : Ext h44 h51 := E51
    have Z5_56 : n0 ≤ h44.size := Nat.le_trans Z4_43 K44.1
    have Z6_57 : n0 ≤ h51.size := Nat.le_trans Z5_56 E51.1
    refine Own.invVirtual (q := 70) (W := 1) (y := (⟨"java/lang/StringBuilder", "append", "(Ljava/lang/String;)Ljava/lang/StringBuilder;"⟩ : MethodName)) (a := a37) (argsL := [(.ref a51)]) (rest := [(.ref a1)]) P51 d9_67 (hw _ (List.mem_of_getElem? (i := 101) rfl)) (hw _ (List.mem_of_getElem? (i := 102) rfl)) (hw _ (List.mem_of_getElem? (i := 104) rfl)) (hw _ (List.mem_of_getElem? (i := 103) rfl)) (notFace_of_selects (args := #[]) (mvT P51.2.2.2.1 (hw _ (List.mem_of_getElem? (i := 104) rfl)))) (by decide) (backOf (W := 1) (rmSap l Z a0 hw [] a37 t40 kb40 (([] : List Int32) ++ c2) a51 [(47 : Int32)] zc h51 n0 Z6_57 (qf31.ext E2_6_54) hzc (E44a.ext E5_6_55) (V44.ext E5_6_55) (C44.ext E5_6_55) (n44.ext E5_6_55) (A44.ext E5_6_55) St51 hS52 (Nat.le_trans Z2_35 (Nat.le_of_eq ha37.symm)) (Nat.le_trans Z3_39 gt40)) P51.2.2.2.1 (hw _ (List.mem_of_getElem? (i := 105) rfl)) (hw _ (List.mem_of_getElem? (i := 85) rfl)) (by decide) (by decide)) (E44a.ext E5_6_55) rfl rfl (by rw [hml]; rfl) (lenOf (show parseMethodDescriptor "(Ljava/lang/String;)Ljava/lang/StringBuilder;" = some ⟨[(.object "java/lang/String")], some (.object "java/lang/StringBuilder")⟩ from by decide +kernel) rfl) (by show 2 * 0 + _ ≤ _; exact Nat.le_of_eq rfl) (by decide) (by decide) rfl ?_
    rintro v58 T58 h58 L58 ⟨rfl, N58q, K58, E58a, V58, C58, n58, A58⟩ P58
    have N58 := Fr.app N44 N58q
    show Own.Goes _ _ _ _ (T58.setTop (mkF m 70 #[.val (.ref a1), .val (.ref a2), .val (.ref a3), .val (.int (0 : Int32))] [(.ref a37), (.ref a1)]))
    refine Own.iloadN (q := 71) P58 d9_70 rfl rfl ?_
    refine Own.if_eq (q := 74) (qy := 85) P58 d9_71 (by decide) rfl (fun _ => ?_) (fun q => absurd rfl q)
    refine Own.aloadN (q := 86) P58 d9_85 rfl rfl rfl ?_
    have E2_7_59 : Ext h29 h58 := (Own.Ext.kp E2_6_54 K58 (allS (Nat.le_of_eq ha37.symm) (allS (Nat.le_trans E2_3_38.1 gt40) all0)))
    have hS60 : (((([] : List Int32) ++ c2) ++ [(47 : Int32)])).length + (c3 : List Int32).length ≤ 16 := by have := hl2; have := hl3; simp; omega
    have Z7_61 : n0 ≤ h58.size := Nat.le_trans Z6_57 K58.1
    refine Own.invVirtual (q := 89) (W := 1) (y := (⟨"java/lang/StringBuilder", "append", "(Ljava/lang/String;)Ljava/lang/StringBuilder;"⟩ : MethodName)) (a := a37) (argsL := [(.ref a3)]) (rest := [(.ref a1)]) P58 d9_86 (hw _ (List.mem_of_getElem? (i := 101) rfl)) (hw _ (List.mem_of_getElem? (i := 102) rfl)) (hw _ (List.mem_of_getElem? (i := 104) rfl)) (hw _ (List.mem_of_getElem? (i := 103) rfl)) (notFace_of_selects (args := #[]) (mvT P58.2.2.2.1 (hw _ (List.mem_of_getElem? (i := 104) rfl)))) (by decide) (backOf (W := 1) (rmSap l Z a0 hw [] a37 t40 kb40 ((([] : List Int32) ++ c2) ++ [(47 : Int32)]) a3 c3 zc h58 n0 Z7_61 (qf31.ext E2_7_59) hzc E58a V58 C58 n58 A58 (qf32.ext E2_7_59) hS60 (Nat.le_trans Z2_35 (Nat.le_of_eq ha37.symm)) (Nat.le_trans Z3_39 gt40)) P58.2.2.2.1 (hw _ (List.mem_of_getElem? (i := 105) rfl)) (hw _ (List.mem_of_getElem? (i := 85) rfl)) (by decide) (by decide)) E58a rfl rfl (by rw [hml]; rfl) (lenOf (show parseMethodDescriptor "(Ljava/lang/String;)Ljava/lang/StringBuilder;" = some ⟨[(.object "java/lang/String")], some (.object "java/lang/StringBuilder")⟩ from by decide +kernel) rfl) (by show 2 * 0 + _ ≤ _; exact Nat.le_of_eq rfl) (by decide) (by decide) rfl ?_
    rintro v62 T62 h62 L62 ⟨rfl, N62q, K62, E62a, V62, C62, n62, A62⟩ P62
    have N62 := Fr.app N58 N62q
    show Own.Goes _ _ _ _ (T62.setTop (mkF m 89 #[.val (.ref a1), .val (.ref a2), .val (.ref a3), .val (.int (0 : Int32))] [(.ref a37), (.ref a1)]))
    have hT63 : ((((([] : List Int32) ++ c2) ++ [(47 : Int32)]) ++ c3) : List Int32).length ≤ 15 := by have := hl2; have := hl3; simp; omega
    have E2_8_64 : Ext h29 h62 := (Own.Ext.kp E2_7_59 K62 (allS (Nat.le_of_eq ha37.symm) (allS (Nat.le_trans E2_3_38.1 gt40) all0)))
    have Z8_65 : n0 ≤ h62.size := Nat.le_trans Z7_61 K62.1
    refine Own.invVirtual (q := 92) (W := 1) (y := (⟨"java/lang/StringBuilder", "toString", "()Ljava/lang/String;"⟩ : MethodName)) (a := a37) (argsL := []) (rest := [(.ref a1)]) P62 d9_89 (hw _ (List.mem_of_getElem? (i := 140) rfl)) (hw _ (List.mem_of_getElem? (i := 141) rfl)) (hw _ (List.mem_of_getElem? (i := 143) rfl)) (hw _ (List.mem_of_getElem? (i := 142) rfl)) (notFace_of_selects (args := #[]) (mvT P62.2.2.2.1 (hw _ (List.mem_of_getElem? (i := 143) rfl)))) (by decide) (backOf (W := 1) (rmTs l Z a0 hw [] a37 t40 kb40 (((([] : List Int32) ++ c2) ++ [(47 : Int32)]) ++ c3) zc h62 n0 Z8_65 (qf31.ext E2_8_64) hzc E62a V62 C62 n62 A62 hT63 (Own.rng_app (Own.rng_app (Own.rng_app Own.ch0 (qf34.ext E2_4_41).2.1) St51.2.1) (qf32.ext E2_7_59).2.1)) P62.2.2.2.1 (hw _ (List.mem_of_getElem? (i := 144) rfl)) (hw _ (List.mem_of_getElem? (i := 85) rfl)) (by decide) (by decide)) E62a rfl rfl (by rw [hml]; rfl) (lenOf (show parseMethodDescriptor "()Ljava/lang/String;" = some ⟨[], some (.object "java/lang/String")⟩ from by decide +kernel) rfl) (by show 2 * 0 + _ ≤ _; exact Nat.le_of_eq rfl) (by decide) (by decide) rfl ?_
    rintro v66 T66 h66 L66 ⟨r66, rfl, N66q, E66, gr66, St66⟩ P66
    have N66 := Fr.app N62 N66q
    show Own.Goes _ _ _ _ (T66.setTop (mkF m 92 #[.val (.ref a1), .val (.ref a2), .val (.ref a3), .val (.int (0 : Int32))] [(.ref r66), (.ref a1)]))
    have E2_9_67 : Ext h29 h66 := (Own.Ext.tr E2_8_64 E66)
    refine Own.putfield (q := 95) P66 d9_92 (hw _ (List.mem_of_getElem? (i := 185) rfl)) (F29_written.ext E2_9_67) (A29.ext E2_9_67) (Or.inr ⟨(hw _ (List.mem_of_getElem? (i := 186) rfl)), rfl, hnm⟩) (hw _ (List.mem_of_getElem? (i := 1) rfl)) (ty := (.object "java/lang/String")) (by decide) rfl rfl rfl ?_
    intro T68 h68 lc68 hl68 P68 W68
    have F68_packageName := (F29_packageName.ext E2_9_67).other W68 (Or.inr (slot_ne (Or.inr (hw _ (List.mem_of_getElem? (i := 53) rfl))) (Or.inr (hw _ (List.mem_of_getElem? (i := 186) rfl))) (by decide) (t := (.object "java/lang/String")) (t' := (.object "java/lang/String")) (by decide) (by decide)))
    have F68_className := (F29_className.ext E2_9_67).other W68 (Or.inr (slot_ne (Or.inr (hw _ (List.mem_of_getElem? (i := 55) rfl))) (Or.inr (hw _ (List.mem_of_getElem? (i := 186) rfl))) (by decide) (t := (.object "java/lang/String")) (t' := (.object "java/lang/String")) (by decide) (by decide)))
    have F68_written := Fld.same W68 (F29_written.ext E2_9_67)
    have A68 := (A29.ext E2_9_67).wr W68
    have N68 := Own.Fr.one N66 hl68 g_a1
    have sz0_1_69 : h0.size ≤ h24.size := by rw [W24.size]; exact (Nat.le_refl _)
    have sz0_2_70 : h0.size ≤ h29.size := by rw [W29.size]; exact sz0_1_69
    have sz0_3_71 : h0.size ≤ h37.size := Nat.le_trans sz0_2_70 E37.1
    have qf72 := (Own.Str.kp1 St66 (Keep.of_wr W68) (((((((A29.ext E37).keep K40).keep K44).ext E51).keep K58).keep K62).ext E66) (by decide) (hw _ (List.mem_of_getElem? (i := 1) rfl)))
    have Sf73 := (Safe.keep K44 (sfS (Safe.exa P44.2.2.2.1.alike X40 (by decide) (by decide)) (sfS Sf49 sf0)) Hd48.2.1 Sf49)
    have sz4_5_74 : h40.size ≤ h44.size := Nat.le_trans (Nat.le_refl _) K44.1
    have Sf75 := (CHr.safe hr51 (Nat.lt_of_lt_of_le A40.lt sz4_5_74) Sf73)
    have Hd76 := (Own.Hd.kp H51 K58 (sfS (Safe.exa P68.2.2.2.1.alike (E44a.ext E51) (by decide) (by decide)) (sfS Sf75 sf0)))
    have Sf77 := (Safe.keep K58 (sfS (Safe.exa P68.2.2.2.1.alike (E44a.ext E51) (by decide) (by decide)) (sfS Sf75 sf0)) H51.2.1 Sf75)
    have Hd78 := (Own.Hd.kp Hd76 K62 (sfS (Safe.exa P68.2.2.2.1.alike E58a (by decide) (by decide)) (sfS Sf77 sf0)))
    have Hd79 := (Hd78.ext E66)
    have Hd80 := (Own.Hd.wr Hd79 W68 (Safe.exa P68.2.2.2.1.alike (((((((A29.ext E37).keep K40).keep K44).ext E51).keep K58).keep K62).ext E66) (by decide) (by decide)))
    refine Own.retVH (Q := QrmCN Z a1 a2 a3 c2 c3 u0 u1 u2 zc fm h0 n0) P68 hh (ew hw) Hd80 d9_95 hret hlk (by decide) (by decide) ?_
    exact ⟨r66, _, rfl, N68, (Keep.wr (Keep.ext (Keep.trans (Keep.trans (Keep.ext (Keep.trans (Keep.trans (Keep.ext (Keep.wr (Keep.wr (Keep.refl h0 _) W24 (Or.inl (by simp))) W29 (Or.inl (by simp))) E37) K40 (allS (Or.inr (Nat.le_trans sz0_2_70 (Nat.le_of_eq ha37.symm))) all0)) K44 (allS (Or.inr (Nat.le_trans sz0_2_70 (Nat.le_of_eq ha37.symm))) (allS (Or.inr (Nat.le_trans sz0_3_71 gt40)) all0))) E51) K58 (allS (Or.inr (Nat.le_trans sz0_2_70 (Nat.le_of_eq ha37.symm))) (allS (Or.inr (Nat.le_trans sz0_3_71 gt40)) all0))) K62 (allS (Or.inr (Nat.le_trans sz0_2_70 (Nat.le_of_eq ha37.symm))) (allS (Or.inr (Nat.le_trans sz0_3_71 gt40)) all0))) E66) W68 (Or.inl (by simp))), A68, F68_packageName, F68_className, F68_written, qf72⟩
  · refine Own.aloadN (q := 35) P36 d9_34 rfl rfl rfl ?_
    have Hd81 := (Own.Hd.wr H0 W24 (Safe.exa P36.2.2.2.1.alike E_a1 (by decide) (by decide)))
    have Hd82 := (Own.Hd.wr Hd81 W29 (Safe.exa P36.2.2.2.1.alike A24 (by decide) (by decide)))
    refine Own.ldcStr (q := 37) (n := 4) (cs := [(46 : Int32)]) P36 Hd82 d9_35 (hw _ (List.mem_of_getElem? (i := 80) rfl)) (fun a ha => hw a (sub_str a ha)) (ew hw) (by decide) (by decide) (Own.chS (by decide) Own.ch0) (by decide) (by decide) (by decide) (by decide) (by decide) (by decide) (by decide) rfl ?_
    intro T83 vm83 h83 a83 P83 H83 hr83 E83 St83
    refine Own.aloadN (q := 38) P83 d9_37 rfl rfl rfl ?_
    have E2_3_84 : Ext h29 h83 := E83
    refine Own.invVirtual (q := 41) (W := 2) (y := (⟨"java/lang/String", "length", "()I"⟩ : MethodName)) (a := a2) (argsL := []) (rest := [(.ref a83), (.ref a3)]) P83 d9_38 (hw _ (List.mem_of_getElem? (i := 81) rfl)) (hw _ (List.mem_of_getElem? (i := 67) rfl)) (hw _ (List.mem_of_getElem? (i := 69) rfl)) (hw _ (List.mem_of_getElem? (i := 68) rfl)) (notFace_of_selects (args := #[]) (mvT P83.2.2.2.1 (hw _ (List.mem_of_getElem? (i := 69) rfl)))) (by decide) (Own.lenB (W := 2) (n0 := n0) P83.2.2.2.1 (fun d hd => hw d (sub_lenW d hd)) (hw _ (List.mem_of_getElem? (i := 9) rfl)) (qf34.ext E2_3_84) (qf31.ext E2_3_84) hzc (by decide) (by decide)) (qf34.ext E2_3_84).exa rfl rfl (by rw [hml]; rfl) (lenOf (show parseMethodDescriptor "()I" = some ⟨[], some .int⟩ from by decide +kernel) rfl) (by show 2 * 0 + _ ≤ _; exact Nat.le_of_eq rfl) (by decide) (by decide) rfl ?_
    rintro v85 T85 h85 L85 ⟨rfl, N85q, e85⟩ P85
    rw [e85] at P85
    have N85 := Fr.app N36 N85q
    show Own.Goes _ _ _ _ (T85.setTop (mkF m 41 #[.val (.ref a1), .val (.ref a2), .val (.ref a3), .unset] [(.int (Int32.ofNat (c2 : List Int32).length)), (.ref a83), (.ref a3)]))
    have Z3_86 : n0 ≤ h83.size := Nat.le_trans Z2_35 E83.1
    refine Own.invVirtual (q := 44) (W := 0) (y := (⟨"java/lang/String", "startsWith", "(Ljava/lang/String;I)Z"⟩ : MethodName)) (a := a3) (argsL := [(.ref a83), (.int (Int32.ofNat (c2 : List Int32).length))]) (rest := []) P85 d9_41 (hw _ (List.mem_of_getElem? (i := 82) rfl)) (hw _ (List.mem_of_getElem? (i := 62) rfl)) (hw _ (List.mem_of_getElem? (i := 64) rfl)) (hw _ (List.mem_of_getElem? (i := 63) rfl)) (notFace_of_selects (args := #[]) (mvT P85.2.2.2.1 (hw _ (List.mem_of_getElem? (i := 64) rfl)))) (by decide) (backOf (W := 0) (rmSw l Z a0 hw [] a3 c3 a83 [(46 : Int32)] c2.length zc h83 n0 Z3_86 (qf31.ext E2_3_84) hzc (qf32.ext E2_3_84) St83 (by have := hl2; have := hl3; omega) (by decide)) P85.2.2.2.1 (hw _ (List.mem_of_getElem? (i := 65) rfl)) (hw _ (List.mem_of_getElem? (i := 10) rfl)) (by decide) (by decide)) (qf32.ext E2_3_84).exa rfl rfl (by rw [hml]; rfl) (lenOf (show parseMethodDescriptor "(Ljava/lang/String;I)Z" = some ⟨[(.object "java/lang/String"), .int], some .boolean⟩ from by decide +kernel) rfl) (by show 2 * 0 + _ ≤ _; exact Nat.le_of_eq rfl) (by decide) (by decide) rfl ?_
    rintro v87 T87 h87 L87 ⟨b87, rfl, hb87, N87q, e87⟩ P87
    rw [e87] at P87
    have N87 := Fr.app N85 N87q
    show Own.Goes _ _ _ _ (T87.setTop (mkF m 44 #[.val (.ref a1), .val (.ref a2), .val (.ref a3), .unset] [(.int b87)]))
    refine Own.if_eq (q := 47) (qy := 51) P87 d9_44 (by decide) rfl (fun q44 => ?_) (fun q44 => ?_)
    · refine Own.iconst (q := 52) (v := (0 : Int32)) P87 d9_51 rfl rfl ?_
      refine Own.istoreN (q := 53) (L2 := #[.val (.ref a1), .val (.ref a2), .val (.ref a3), .val (.int (0 : Int32))]) P87 d9_52 rfl rfl ?_
      refine Own.aloadN (q := 54) P87 d9_53 rfl rfl rfl ?_
      refine Own.newobj (q := 57) P87 d9_54 (hw _ (List.mem_of_getElem? (i := 83) rfl)) (hw _ (List.mem_of_getElem? (i := 84) rfl)) (hw _ (List.mem_of_getElem? (i := 85) rfl)) (by decide) (by decide) rfl ?_
      intro T88 h88 a88 ha88 P88 E88 A88 D88
      have F88_value : Fld Z h88 a88 "java/lang/AbstractStringBuilder" "value" "[B" .null := D88 (Or.inl (hw _ (List.mem_of_getElem? (i := 98) rfl))) (ty := (.array .byte)) (by decide)
      have F88_coder : Fld Z h88 a88 "java/lang/AbstractStringBuilder" "coder" "B" (.int (0 : Int32)) := D88 (Or.inl (hw _ (List.mem_of_getElem? (i := 100) rfl))) (ty := .byte) (by decide)
      have F88_count : Fld Z h88 a88 "java/lang/AbstractStringBuilder" "count" "I" (.int (0 : Int32)) := D88 (Or.inl (hw _ (List.mem_of_getElem? (i := 113) rfl))) (ty := .int) (by decide)
      refine Own.dup (q := 58) P88 d9_57 rfl rfl ?_
      have E2_4_89 : Ext h29 h88 := (Own.Ext.tr E2_3_84 E88)
      have Z4_90 : n0 ≤ h88.size := Nat.le_trans Z3_86 E88.1
      refine Own.invSpecial (q := 61) (W := 2) (y := (⟨"java/lang/StringBuilder", "<init>", "()V"⟩ : MethodName)) (a := a88) (argsL := []) (rest := [(.ref a88), (.ref a1)]) P88 d9_58 rfl (hw _ (List.mem_of_getElem? (i := 86) rfl)) (hw _ (List.mem_of_getElem? (i := 87) rfl)) (hw _ (List.mem_of_getElem? (i := 88) rfl)) (by decide) (backOf (W := 2) (rmSI l Z a0 hw [] a88 .null (.int (0 : Int32)) zc h88 n0 Z4_90 (qf31.ext E2_4_89) hzc A88 F88_value F88_coder F88_count (Nat.le_trans Z3_86 (Nat.le_of_eq ha88.symm))) P88.2.2.2.1 (hw _ (List.mem_of_getElem? (i := 88) rfl)) (hw _ (List.mem_of_getElem? (i := 85) rfl)) (by decide) (by decide)) rfl rfl (by rw [hml]; rfl) (lenOf (show parseMethodDescriptor "()V" = some ⟨[], none⟩ from by decide +kernel) rfl) (by show 2 * 0 + _ ≤ _; exact Nat.le_of_eq rfl) (by decide) (by decide) rfl ?_
      rintro v91 T91 h91 L91 ⟨rfl, N91q, K91, t91, kb91, gt91, X91, V91, C91, n91, A91⟩ P91
      have N91 := Fr.app N87 N91q
      show Own.Goes _ _ _ _ (T91.setTop (mkF m 61 #[.val (.ref a1), .val (.ref a2), .val (.ref a3), .val (.int (0 : Int32))] [(.ref a88), (.ref a1)]))
      refine Own.aloadN (q := 62) P91 d9_61 rfl rfl rfl ?_
      have E2_5_92 : Ext h29 h91 := (Own.Ext.kp E2_4_89 K91 (allS (Nat.le_trans E2_3_84.1 (Nat.le_of_eq ha88.symm)) all0))
      have hS93 : (([] : List Int32)).length + (c2 : List Int32).length ≤ 16 := by have := hl2; have := hl3; simp; omega
      have Z5_94 : n0 ≤ h91.size := Nat.le_trans Z4_90 K91.1
      refine Own.invVirtual (q := 65) (W := 1) (y := (⟨"java/lang/StringBuilder", "append", "(Ljava/lang/String;)Ljava/lang/StringBuilder;"⟩ : MethodName)) (a := a88) (argsL := [(.ref a2)]) (rest := [(.ref a1)]) P91 d9_62 (hw _ (List.mem_of_getElem? (i := 101) rfl)) (hw _ (List.mem_of_getElem? (i := 102) rfl)) (hw _ (List.mem_of_getElem? (i := 104) rfl)) (hw _ (List.mem_of_getElem? (i := 103) rfl)) (notFace_of_selects (args := #[]) (mvT P91.2.2.2.1 (hw _ (List.mem_of_getElem? (i := 104) rfl)))) (by decide) (backOf (W := 1) (rmSap l Z a0 hw [] a88 t91 kb91 ([] : List Int32) a2 c2 zc h91 n0 Z5_94 (qf31.ext E2_5_92) hzc X91 V91 C91 n91 A91 (qf34.ext E2_5_92) hS93 (Nat.le_trans Z3_86 (Nat.le_of_eq ha88.symm)) (Nat.le_trans Z4_90 gt91)) P91.2.2.2.1 (hw _ (List.mem_of_getElem? (i := 105) rfl)) (hw _ (List.mem_of_getElem? (i := 85) rfl)) (by decide) (by decide)) X91 rfl rfl (by rw [hml]; rfl) (lenOf (show parseMethodDescriptor "(Ljava/lang/String;)Ljava/lang/StringBuilder;" = some ⟨[(.object "java/lang/String")], some (.object "java/lang/StringBuilder")⟩ from by decide +kernel) rfl) (by show 2 * 0 + _ ≤ _; exact Nat.le_of_eq rfl) (by decide) (by decide) rfl ?_
      rintro v95 T95 h95 L95 ⟨rfl, N95q, K95, E95a, V95, C95, n95, A95⟩ P95
      have N95 := Fr.app N91 N95q
      show Own.Goes _ _ _ _ (T95.setTop (mkF m 65 #[.val (.ref a1), .val (.ref a2), .val (.ref a3), .val (.int (0 : Int32))] [(.ref a88), (.ref a1)]))
      have E3_4_96 : Ext h83 h88 := E88
      have E3_5_97 : Ext h83 h91 := (Own.Ext.kp E3_4_96 K91 (allS (Nat.le_of_eq ha88.symm) all0))
      have E3_6_98 : Ext h83 h95 := (Own.Ext.kp E3_5_97 K95 (allS (Nat.le_of_eq ha88.symm) (allS (Nat.le_trans E3_4_96.1 gt91) all0)))
      have Hd99 := (H83.ext E3_6_98)
      refine Own.ldcStr (q := 67) (n := 4) (cs := [(47 : Int32)]) P95 Hd99 d9_65 (hw _ (List.mem_of_getElem? (i := 139) rfl)) (fun a ha => hw a (sub_str a ha)) (ew hw) (by decide) (by decide) (Own.chS (by decide) Own.ch0) (by decide) (by decide) (by decide) (by decide) (by decide) (by decide) (by decide) rfl ?_
      intro T100 vm100 h100 a100 P100 H100 hr100 E100 St100
      have hS101 : ((([] : List Int32) ++ c2)).length + ([(47 : Int32)] : List Int32).length ≤ 16 := by have := hl2; have := hl3; simp; omega
      have E2_6_102 : Ext h29 h95 := (Own.Ext.kp E2_5_92 K95 (allS (Nat.le_trans E2_3_84.1 (Nat.le_of_eq ha88.symm)) (allS (Nat.le_trans E2_4_89.1 gt91) all0)))
      have E2_7_103 : Ext h29 h100 := (Own.Ext.tr E2_6_102 E100)
      have E6_7_104 : Ext h95 h100 := E100
      have Z6_105 : n0 ≤ h95.size := Nat.le_trans Z5_94 K95.1
      have Z7_106 : n0 ≤ h100.size := Nat.le_trans Z6_105 E100.1
      refine Own.invVirtual (q := 70) (W := 1) (y := (⟨"java/lang/StringBuilder", "append", "(Ljava/lang/String;)Ljava/lang/StringBuilder;"⟩ : MethodName)) (a := a88) (argsL := [(.ref a100)]) (rest := [(.ref a1)]) P100 d9_67 (hw _ (List.mem_of_getElem? (i := 101) rfl)) (hw _ (List.mem_of_getElem? (i := 102) rfl)) (hw _ (List.mem_of_getElem? (i := 104) rfl)) (hw _ (List.mem_of_getElem? (i := 103) rfl)) (notFace_of_selects (args := #[]) (mvT P100.2.2.2.1 (hw _ (List.mem_of_getElem? (i := 104) rfl)))) (by decide) (backOf (W := 1) (rmSap l Z a0 hw [] a88 t91 kb91 (([] : List Int32) ++ c2) a100 [(47 : Int32)] zc h100 n0 Z7_106 (qf31.ext E2_7_103) hzc (E95a.ext E6_7_104) (V95.ext E6_7_104) (C95.ext E6_7_104) (n95.ext E6_7_104) (A95.ext E6_7_104) St100 hS101 (Nat.le_trans Z3_86 (Nat.le_of_eq ha88.symm)) (Nat.le_trans Z4_90 gt91)) P100.2.2.2.1 (hw _ (List.mem_of_getElem? (i := 105) rfl)) (hw _ (List.mem_of_getElem? (i := 85) rfl)) (by decide) (by decide)) (E95a.ext E6_7_104) rfl rfl (by rw [hml]; rfl) (lenOf (show parseMethodDescriptor "(Ljava/lang/String;)Ljava/lang/StringBuilder;" = some ⟨[(.object "java/lang/String")], some (.object "java/lang/StringBuilder")⟩ from by decide +kernel) rfl) (by show 2 * 0 + _ ≤ _; exact Nat.le_of_eq rfl) (by decide) (by decide) rfl ?_
      rintro v107 T107 h107 L107 ⟨rfl, N107q, K107, E107a, V107, C107, n107, A107⟩ P107
      have N107 := Fr.app N95 N107q
      show Own.Goes _ _ _ _ (T107.setTop (mkF m 70 #[.val (.ref a1), .val (.ref a2), .val (.ref a3), .val (.int (0 : Int32))] [(.ref a88), (.ref a1)]))
      refine Own.iloadN (q := 71) P107 d9_70 rfl rfl ?_
      refine Own.if_eq (q := 74) (qy := 85) P107 d9_71 (by decide) rfl (fun _ => ?_) (fun q => absurd rfl q)
      refine Own.aloadN (q := 86) P107 d9_85 rfl rfl rfl ?_
      have E2_8_108 : Ext h29 h107 := (Own.Ext.kp E2_7_103 K107 (allS (Nat.le_trans E2_3_84.1 (Nat.le_of_eq ha88.symm)) (allS (Nat.le_trans E2_4_89.1 gt91) all0)))
      have hS109 : (((([] : List Int32) ++ c2) ++ [(47 : Int32)])).length + (c3 : List Int32).length ≤ 16 := by have := hl2; have := hl3; simp; omega
      have Z8_110 : n0 ≤ h107.size := Nat.le_trans Z7_106 K107.1
      refine Own.invVirtual (q := 89) (W := 1) (y := (⟨"java/lang/StringBuilder", "append", "(Ljava/lang/String;)Ljava/lang/StringBuilder;"⟩ : MethodName)) (a := a88) (argsL := [(.ref a3)]) (rest := [(.ref a1)]) P107 d9_86 (hw _ (List.mem_of_getElem? (i := 101) rfl)) (hw _ (List.mem_of_getElem? (i := 102) rfl)) (hw _ (List.mem_of_getElem? (i := 104) rfl)) (hw _ (List.mem_of_getElem? (i := 103) rfl)) (notFace_of_selects (args := #[]) (mvT P107.2.2.2.1 (hw _ (List.mem_of_getElem? (i := 104) rfl)))) (by decide) (backOf (W := 1) (rmSap l Z a0 hw [] a88 t91 kb91 ((([] : List Int32) ++ c2) ++ [(47 : Int32)]) a3 c3 zc h107 n0 Z8_110 (qf31.ext E2_8_108) hzc E107a V107 C107 n107 A107 (qf32.ext E2_8_108) hS109 (Nat.le_trans Z3_86 (Nat.le_of_eq ha88.symm)) (Nat.le_trans Z4_90 gt91)) P107.2.2.2.1 (hw _ (List.mem_of_getElem? (i := 105) rfl)) (hw _ (List.mem_of_getElem? (i := 85) rfl)) (by decide) (by decide)) E107a rfl rfl (by rw [hml]; rfl) (lenOf (show parseMethodDescriptor "(Ljava/lang/String;)Ljava/lang/StringBuilder;" = some ⟨[(.object "java/lang/String")], some (.object "java/lang/StringBuilder")⟩ from by decide +kernel) rfl) (by show 2 * 0 + _ ≤ _; exact Nat.le_of_eq rfl) (by decide) (by decide) rfl ?_
      rintro v111 T111 h111 L111 ⟨rfl, N111q, K111, E111a, V111, C111, n111, A111⟩ P111
      have N111 := Fr.app N107 N111q
      show Own.Goes _ _ _ _ (T111.setTop (mkF m 89 #[.val (.ref a1), .val (.ref a2), .val (.ref a3), .val (.int (0 : Int32))] [(.ref a88), (.ref a1)]))
      have hT112 : ((((([] : List Int32) ++ c2) ++ [(47 : Int32)]) ++ c3) : List Int32).length ≤ 15 := by have := hl2; have := hl3; simp; omega
      have E2_9_113 : Ext h29 h111 := (Own.Ext.kp E2_8_108 K111 (allS (Nat.le_trans E2_3_84.1 (Nat.le_of_eq ha88.symm)) (allS (Nat.le_trans E2_4_89.1 gt91) all0)))
      have Z9_114 : n0 ≤ h111.size := Nat.le_trans Z8_110 K111.1
      refine Own.invVirtual (q := 92) (W := 1) (y := (⟨"java/lang/StringBuilder", "toString", "()Ljava/lang/String;"⟩ : MethodName)) (a := a88) (argsL := []) (rest := [(.ref a1)]) P111 d9_89 (hw _ (List.mem_of_getElem? (i := 140) rfl)) (hw _ (List.mem_of_getElem? (i := 141) rfl)) (hw _ (List.mem_of_getElem? (i := 143) rfl)) (hw _ (List.mem_of_getElem? (i := 142) rfl)) (notFace_of_selects (args := #[]) (mvT P111.2.2.2.1 (hw _ (List.mem_of_getElem? (i := 143) rfl)))) (by decide) (backOf (W := 1) (rmTs l Z a0 hw [] a88 t91 kb91 (((([] : List Int32) ++ c2) ++ [(47 : Int32)]) ++ c3) zc h111 n0 Z9_114 (qf31.ext E2_9_113) hzc E111a V111 C111 n111 A111 hT112 (Own.rng_app (Own.rng_app (Own.rng_app Own.ch0 (qf34.ext E2_5_92).2.1) St100.2.1) (qf32.ext E2_8_108).2.1)) P111.2.2.2.1 (hw _ (List.mem_of_getElem? (i := 144) rfl)) (hw _ (List.mem_of_getElem? (i := 85) rfl)) (by decide) (by decide)) E111a rfl rfl (by rw [hml]; rfl) (lenOf (show parseMethodDescriptor "()Ljava/lang/String;" = some ⟨[], some (.object "java/lang/String")⟩ from by decide +kernel) rfl) (by show 2 * 0 + _ ≤ _; exact Nat.le_of_eq rfl) (by decide) (by decide) rfl ?_
      rintro v115 T115 h115 L115 ⟨r115, rfl, N115q, E115, gr115, St115⟩ P115
      have N115 := Fr.app N111 N115q
      show Own.Goes _ _ _ _ (T115.setTop (mkF m 92 #[.val (.ref a1), .val (.ref a2), .val (.ref a3), .val (.int (0 : Int32))] [(.ref r115), (.ref a1)]))
      have E2_10_116 : Ext h29 h115 := (Own.Ext.tr E2_9_113 E115)
      refine Own.putfield (q := 95) P115 d9_92 (hw _ (List.mem_of_getElem? (i := 185) rfl)) (F29_written.ext E2_10_116) (A29.ext E2_10_116) (Or.inr ⟨(hw _ (List.mem_of_getElem? (i := 186) rfl)), rfl, hnm⟩) (hw _ (List.mem_of_getElem? (i := 1) rfl)) (ty := (.object "java/lang/String")) (by decide) rfl rfl rfl ?_
      intro T117 h117 lc117 hl117 P117 W117
      have F117_packageName := (F29_packageName.ext E2_10_116).other W117 (Or.inr (slot_ne (Or.inr (hw _ (List.mem_of_getElem? (i := 53) rfl))) (Or.inr (hw _ (List.mem_of_getElem? (i := 186) rfl))) (by decide) (t := (.object "java/lang/String")) (t' := (.object "java/lang/String")) (by decide) (by decide)))
      have F117_className := (F29_className.ext E2_10_116).other W117 (Or.inr (slot_ne (Or.inr (hw _ (List.mem_of_getElem? (i := 55) rfl))) (Or.inr (hw _ (List.mem_of_getElem? (i := 186) rfl))) (by decide) (t := (.object "java/lang/String")) (t' := (.object "java/lang/String")) (by decide) (by decide)))
      have F117_written := Fld.same W117 (F29_written.ext E2_10_116)
      have A117 := (A29.ext E2_10_116).wr W117
      have N117 := Own.Fr.one N115 hl117 g_a1
      have sz0_1_118 : h0.size ≤ h24.size := by rw [W24.size]; exact (Nat.le_refl _)
      have sz0_2_119 : h0.size ≤ h29.size := by rw [W29.size]; exact sz0_1_118
      have sz0_3_120 : h0.size ≤ h83.size := Nat.le_trans sz0_2_119 E83.1
      have sz0_4_121 : h0.size ≤ h88.size := Nat.le_trans sz0_3_120 E88.1
      have qf122 := (Own.Str.kp1 St115 (Keep.of_wr W117) ((((((((A29.ext E83).ext E88).keep K91).keep K95).ext E100).keep K107).keep K111).ext E115) (by decide) (hw _ (List.mem_of_getElem? (i := 1) rfl)))
      have Hd123 := (H83.ext E3_4_96)
      have Sf124 := (Safe.keep K91 (sfS (Safe.exa P95.2.2.2.1.alike A88 (by decide) (by decide)) sf0) Hd123.2.1 (Safe.new gt91))
      have Hd125 := (Own.Hd.kp Hd123 K91 (sfS (Safe.exa P95.2.2.2.1.alike A88 (by decide) (by decide)) sf0))
      have Sf126 := (Safe.keep K95 (sfS (Safe.exa P95.2.2.2.1.alike X91 (by decide) (by decide)) (sfS Sf124 sf0)) Hd125.2.1 Sf124)
      have sz5_6_127 : h91.size ≤ h95.size := Nat.le_trans (Nat.le_refl _) K95.1
      have Sf128 := (CHr.safe hr100 (Nat.lt_of_lt_of_le A91.lt sz5_6_127) Sf126)
      have Hd129 := (Own.Hd.kp H100 K107 (sfS (Safe.exa P117.2.2.2.1.alike (E95a.ext E100) (by decide) (by decide)) (sfS Sf128 sf0)))
      have Sf130 := (Safe.keep K107 (sfS (Safe.exa P117.2.2.2.1.alike (E95a.ext E100) (by decide) (by decide)) (sfS Sf128 sf0)) H100.2.1 Sf128)
      have Hd131 := (Own.Hd.kp Hd129 K111 (sfS (Safe.exa P117.2.2.2.1.alike E107a (by decide) (by decide)) (sfS Sf130 sf0)))
      have Hd132 := (Hd131.ext E115)
      have Hd133 := (Own.Hd.wr Hd132 W117 (Safe.exa P117.2.2.2.1.alike ((((((((A29.ext E83).ext E88).keep K91).keep K95).ext E100).keep K107).keep K111).ext E115) (by decide) (by decide)))
      refine Own.retVH (Q := QrmCN Z a1 a2 a3 c2 c3 u0 u1 u2 zc fm h0 n0) P117 hh (ew hw) Hd133 d9_95 hret hlk (by decide) (by decide) ?_
      exact ⟨r115, _, rfl, N117, (Keep.wr (Keep.ext (Keep.trans (Keep.trans (Keep.ext (Keep.trans (Keep.trans (Keep.ext (Keep.ext (Keep.wr (Keep.wr (Keep.refl h0 _) W24 (Or.inl (by simp))) W29 (Or.inl (by simp))) E83) E88) K91 (allS (Or.inr (Nat.le_trans sz0_3_120 (Nat.le_of_eq ha88.symm))) all0)) K95 (allS (Or.inr (Nat.le_trans sz0_3_120 (Nat.le_of_eq ha88.symm))) (allS (Or.inr (Nat.le_trans sz0_4_121 gt91)) all0))) E100) K107 (allS (Or.inr (Nat.le_trans sz0_3_120 (Nat.le_of_eq ha88.symm))) (allS (Or.inr (Nat.le_trans sz0_4_121 gt91)) all0))) K111 (allS (Or.inr (Nat.le_trans sz0_3_120 (Nat.le_of_eq ha88.symm))) (allS (Or.inr (Nat.le_trans sz0_4_121 gt91)) all0))) E115) W117 (Or.inl (by simp))), A117, F117_packageName, F117_className, F117_written, qf122⟩
    · have hlt : c2.length < c3.length := (hb87.resolve_left q44)
      refine Own.iconst (q := 48) (v := (1 : Int32)) P87 d9_47 rfl rfl ?_
      refine Own.goto (q := 52) P87 d9_48 (by decide) ?_
      refine Own.istoreN (q := 53) (L2 := #[.val (.ref a1), .val (.ref a2), .val (.ref a3), .val (.int (1 : Int32))]) P87 d9_52 rfl rfl ?_
      refine Own.aloadN (q := 54) P87 d9_53 rfl rfl rfl ?_
      refine Own.newobj (q := 57) P87 d9_54 (hw _ (List.mem_of_getElem? (i := 83) rfl)) (hw _ (List.mem_of_getElem? (i := 84) rfl)) (hw _ (List.mem_of_getElem? (i := 85) rfl)) (by decide) (by decide) rfl ?_
      intro T134 h134 a134 ha134 P134 E134 A134 D134
      have F134_value : Fld Z h134 a134 "java/lang/AbstractStringBuilder" "value" "[B" .null := D134 (Or.inl (hw _ (List.mem_of_getElem? (i := 98) rfl))) (ty := (.array .byte)) (by decide)
      have F134_coder : Fld Z h134 a134 "java/lang/AbstractStringBuilder" "coder" "B" (.int (0 : Int32)) := D134 (Or.inl (hw _ (List.mem_of_getElem? (i := 100) rfl))) (ty := .byte) (by decide)
      have F134_count : Fld Z h134 a134 "java/lang/AbstractStringBuilder" "count" "I" (.int (0 : Int32)) := D134 (Or.inl (hw _ (List.mem_of_getElem? (i := 113) rfl))) (ty := .int) (by decide)
      refine Own.dup (q := 58) P134 d9_57 rfl rfl ?_
      have E2_4_135 : Ext h29 h134 := (Own.Ext.tr E2_3_84 E134)
      have Z4_136 : n0 ≤ h134.size := Nat.le_trans Z3_86 E134.1
      refine Own.invSpecial (q := 61) (W := 2) (y := (⟨"java/lang/StringBuilder", "<init>", "()V"⟩ : MethodName)) (a := a134) (argsL := []) (rest := [(.ref a134), (.ref a1)]) P134 d9_58 rfl (hw _ (List.mem_of_getElem? (i := 86) rfl)) (hw _ (List.mem_of_getElem? (i := 87) rfl)) (hw _ (List.mem_of_getElem? (i := 88) rfl)) (by decide) (backOf (W := 2) (rmSI l Z a0 hw [] a134 .null (.int (0 : Int32)) zc h134 n0 Z4_136 (qf31.ext E2_4_135) hzc A134 F134_value F134_coder F134_count (Nat.le_trans Z3_86 (Nat.le_of_eq ha134.symm))) P134.2.2.2.1 (hw _ (List.mem_of_getElem? (i := 88) rfl)) (hw _ (List.mem_of_getElem? (i := 85) rfl)) (by decide) (by decide)) rfl rfl (by rw [hml]; rfl) (lenOf (show parseMethodDescriptor "()V" = some ⟨[], none⟩ from by decide +kernel) rfl) (by show 2 * 0 + _ ≤ _; exact Nat.le_of_eq rfl) (by decide) (by decide) rfl ?_
      rintro v137 T137 h137 L137 ⟨rfl, N137q, K137, t137, kb137, gt137, X137, V137, C137, n137, A137⟩ P137
      have N137 := Fr.app N87 N137q
      show Own.Goes _ _ _ _ (T137.setTop (mkF m 61 #[.val (.ref a1), .val (.ref a2), .val (.ref a3), .val (.int (1 : Int32))] [(.ref a134), (.ref a1)]))
      refine Own.aloadN (q := 62) P137 d9_61 rfl rfl rfl ?_
      have E2_5_138 : Ext h29 h137 := (Own.Ext.kp E2_4_135 K137 (allS (Nat.le_trans E2_3_84.1 (Nat.le_of_eq ha134.symm)) all0))
      have hS139 : (([] : List Int32)).length + (c2 : List Int32).length ≤ 16 := by have := hl2; have := hl3; simp; omega
      have Z5_140 : n0 ≤ h137.size := Nat.le_trans Z4_136 K137.1
      refine Own.invVirtual (q := 65) (W := 1) (y := (⟨"java/lang/StringBuilder", "append", "(Ljava/lang/String;)Ljava/lang/StringBuilder;"⟩ : MethodName)) (a := a134) (argsL := [(.ref a2)]) (rest := [(.ref a1)]) P137 d9_62 (hw _ (List.mem_of_getElem? (i := 101) rfl)) (hw _ (List.mem_of_getElem? (i := 102) rfl)) (hw _ (List.mem_of_getElem? (i := 104) rfl)) (hw _ (List.mem_of_getElem? (i := 103) rfl)) (notFace_of_selects (args := #[]) (mvT P137.2.2.2.1 (hw _ (List.mem_of_getElem? (i := 104) rfl)))) (by decide) (backOf (W := 1) (rmSap l Z a0 hw [] a134 t137 kb137 ([] : List Int32) a2 c2 zc h137 n0 Z5_140 (qf31.ext E2_5_138) hzc X137 V137 C137 n137 A137 (qf34.ext E2_5_138) hS139 (Nat.le_trans Z3_86 (Nat.le_of_eq ha134.symm)) (Nat.le_trans Z4_136 gt137)) P137.2.2.2.1 (hw _ (List.mem_of_getElem? (i := 105) rfl)) (hw _ (List.mem_of_getElem? (i := 85) rfl)) (by decide) (by decide)) X137 rfl rfl (by rw [hml]; rfl) (lenOf (show parseMethodDescriptor "(Ljava/lang/String;)Ljava/lang/StringBuilder;" = some ⟨[(.object "java/lang/String")], some (.object "java/lang/StringBuilder")⟩ from by decide +kernel) rfl) (by show 2 * 0 + _ ≤ _; exact Nat.le_of_eq rfl) (by decide) (by decide) rfl ?_
      rintro v141 T141 h141 L141 ⟨rfl, N141q, K141, E141a, V141, C141, n141, A141⟩ P141
      have N141 := Fr.app N137 N141q
      show Own.Goes _ _ _ _ (T141.setTop (mkF m 65 #[.val (.ref a1), .val (.ref a2), .val (.ref a3), .val (.int (1 : Int32))] [(.ref a134), (.ref a1)]))
      have E3_4_142 : Ext h83 h134 := E134
      have E3_5_143 : Ext h83 h137 := (Own.Ext.kp E3_4_142 K137 (allS (Nat.le_of_eq ha134.symm) all0))
      have E3_6_144 : Ext h83 h141 := (Own.Ext.kp E3_5_143 K141 (allS (Nat.le_of_eq ha134.symm) (allS (Nat.le_trans E3_4_142.1 gt137) all0)))
      have Hd145 := (H83.ext E3_6_144)
      refine Own.ldcStr (q := 67) (n := 4) (cs := [(47 : Int32)]) P141 Hd145 d9_65 (hw _ (List.mem_of_getElem? (i := 139) rfl)) (fun a ha => hw a (sub_str a ha)) (ew hw) (by decide) (by decide) (Own.chS (by decide) Own.ch0) (by decide) (by decide) (by decide) (by decide) (by decide) (by decide) (by decide) rfl ?_
      intro T146 vm146 h146 a146 P146 H146 hr146 E146 St146
      have hS147 : ((([] : List Int32) ++ c2)).length + ([(47 : Int32)] : List Int32).length ≤ 16 := by have := hl2; have := hl3; simp; omega
      have E2_6_148 : Ext h29 h141 := (Own.Ext.kp E2_5_138 K141 (allS (Nat.le_trans E2_3_84.1 (Nat.le_of_eq ha134.symm)) (allS (Nat.le_trans E2_4_135.1 gt137) all0)))
      have E2_7_149 : Ext h29 h146 := (Own.Ext.tr E2_6_148 E146)
      have E6_7_150 : Ext h141 h146 := E146
      have Z6_151 : n0 ≤ h141.size := Nat.le_trans Z5_140 K141.1
      have Z7_152 : n0 ≤ h146.size := Nat.le_trans Z6_151 E146.1
      refine Own.invVirtual (q := 70) (W := 1) (y := (⟨"java/lang/StringBuilder", "append", "(Ljava/lang/String;)Ljava/lang/StringBuilder;"⟩ : MethodName)) (a := a134) (argsL := [(.ref a146)]) (rest := [(.ref a1)]) P146 d9_67 (hw _ (List.mem_of_getElem? (i := 101) rfl)) (hw _ (List.mem_of_getElem? (i := 102) rfl)) (hw _ (List.mem_of_getElem? (i := 104) rfl)) (hw _ (List.mem_of_getElem? (i := 103) rfl)) (notFace_of_selects (args := #[]) (mvT P146.2.2.2.1 (hw _ (List.mem_of_getElem? (i := 104) rfl)))) (by decide) (backOf (W := 1) (rmSap l Z a0 hw [] a134 t137 kb137 (([] : List Int32) ++ c2) a146 [(47 : Int32)] zc h146 n0 Z7_152 (qf31.ext E2_7_149) hzc (E141a.ext E6_7_150) (V141.ext E6_7_150) (C141.ext E6_7_150) (n141.ext E6_7_150) (A141.ext E6_7_150) St146 hS147 (Nat.le_trans Z3_86 (Nat.le_of_eq ha134.symm)) (Nat.le_trans Z4_136 gt137)) P146.2.2.2.1 (hw _ (List.mem_of_getElem? (i := 105) rfl)) (hw _ (List.mem_of_getElem? (i := 85) rfl)) (by decide) (by decide)) (E141a.ext E6_7_150) rfl rfl (by rw [hml]; rfl) (lenOf (show parseMethodDescriptor "(Ljava/lang/String;)Ljava/lang/StringBuilder;" = some ⟨[(.object "java/lang/String")], some (.object "java/lang/StringBuilder")⟩ from by decide +kernel) rfl) (by show 2 * 0 + _ ≤ _; exact Nat.le_of_eq rfl) (by decide) (by decide) rfl ?_
      rintro v153 T153 h153 L153 ⟨rfl, N153q, K153, E153a, V153, C153, n153, A153⟩ P153
      have N153 := Fr.app N141 N153q
      show Own.Goes _ _ _ _ (T153.setTop (mkF m 70 #[.val (.ref a1), .val (.ref a2), .val (.ref a3), .val (.int (1 : Int32))] [(.ref a134), (.ref a1)]))
      refine Own.iloadN (q := 71) P153 d9_70 rfl rfl ?_
      refine Own.if_eq (q := 74) (qy := 85) P153 d9_71 (by decide) rfl (fun q => absurd q (by decide)) (fun _ => ?_)
      refine Own.aloadN (q := 75) P153 d9_74 rfl rfl rfl ?_
      refine Own.aloadN (q := 76) P153 d9_75 rfl rfl rfl ?_
      have E2_8_154 : Ext h29 h153 := (Own.Ext.kp E2_7_149 K153 (allS (Nat.le_trans E2_3_84.1 (Nat.le_of_eq ha134.symm)) (allS (Nat.le_trans E2_4_135.1 gt137) all0)))
      refine Own.invVirtual (q := 79) (W := 3) (y := (⟨"java/lang/String", "length", "()I"⟩ : MethodName)) (a := a2) (argsL := []) (rest := [(.ref a3), (.ref a134), (.ref a1)]) P153 d9_76 (hw _ (List.mem_of_getElem? (i := 81) rfl)) (hw _ (List.mem_of_getElem? (i := 67) rfl)) (hw _ (List.mem_of_getElem? (i := 69) rfl)) (hw _ (List.mem_of_getElem? (i := 68) rfl)) (notFace_of_selects (args := #[]) (mvT P153.2.2.2.1 (hw _ (List.mem_of_getElem? (i := 69) rfl)))) (by decide) (Own.lenB (W := 3) (n0 := n0) P153.2.2.2.1 (fun d hd => hw d (sub_lenW d hd)) (hw _ (List.mem_of_getElem? (i := 9) rfl)) (qf34.ext E2_8_154) (qf31.ext E2_8_154) hzc (by decide) (by decide)) (qf34.ext E2_8_154).exa rfl rfl (by rw [hml]; rfl) (lenOf (show parseMethodDescriptor "()I" = some ⟨[], some .int⟩ from by decide +kernel) rfl) (by show 2 * 0 + _ ≤ _; exact Nat.le_of_eq rfl) (by decide) (by decide) rfl ?_
      rintro v155 T155 h155 L155 ⟨rfl, N155q, e155⟩ P155
      rw [e155] at P155
      have N155 := Fr.app N153 N155q
      show Own.Goes _ _ _ _ (T155.setTop (mkF m 79 #[.val (.ref a1), .val (.ref a2), .val (.ref a3), .val (.int (1 : Int32))] [(.int (Int32.ofNat (c2 : List Int32).length)), (.ref a3), (.ref a134), (.ref a1)]))
      have qf156 := (Sta.wr W24 SF)
      have qf157 := (Sta.wr W29 qf156)
      have qf158 := (qf157.ext E2_8_154)
      have Z8_159 : n0 ≤ h153.size := Nat.le_trans Z7_152 K153.1
      refine Own.invVirtual (q := 82) (W := 2) (y := (⟨"java/lang/String", "substring", "(I)Ljava/lang/String;"⟩ : MethodName)) (a := a3) (argsL := [(.int (Int32.ofNat (c2 : List Int32).length))]) (rest := [(.ref a134), (.ref a1)]) P155 d9_79 (hw _ (List.mem_of_getElem? (i := 214) rfl)) (hw _ (List.mem_of_getElem? (i := 215) rfl)) (hw _ (List.mem_of_getElem? (i := 217) rfl)) (hw _ (List.mem_of_getElem? (i := 216) rfl)) (notFace_of_selects (args := #[]) (mvT P155.2.2.2.1 (hw _ (List.mem_of_getElem? (i := 217) rfl)))) (by decide) (backOf (W := 2) (rmSb1 l Z a0 hw [] a3 c3 c2.length zc fm h153 n0 Z8_159 (qf31.ext E2_8_154) hzc qf158 hfm (qf32.ext E2_8_154) hlt (by have := hl2; have := hl3; omega)) P155.2.2.2.1 (hw _ (List.mem_of_getElem? (i := 218) rfl)) (hw _ (List.mem_of_getElem? (i := 10) rfl)) (by decide) (by decide)) (qf32.ext E2_8_154).exa rfl rfl (by rw [hml]; rfl) (lenOf (show parseMethodDescriptor "(I)Ljava/lang/String;" = some ⟨[.int], some (.object "java/lang/String")⟩ from by decide +kernel) rfl) (by show 2 * 0 + _ ≤ _; exact Nat.le_of_eq rfl) (by decide) (by decide) rfl ?_
      rintro v160 T160 h160 L160 ⟨r160, rfl, N160q, E160, St160⟩ P160
      have N160 := Fr.app N155 N160q
      show Own.Goes _ _ _ _ (T160.setTop (mkF m 82 #[.val (.ref a1), .val (.ref a2), .val (.ref a3), .val (.int (1 : Int32))] [(.ref r160), (.ref a134), (.ref a1)]))
      refine Own.goto (q := 86) P160 d9_82 (by decide) ?_
      have hS161 : (((([] : List Int32) ++ c2) ++ [(47 : Int32)])).length + ((c3.drop c2.length) : List Int32).length ≤ 16 := by have := hl2; have := hl3; simp; omega
      have E2_9_162 : Ext h29 h160 := (Own.Ext.tr E2_8_154 E160)
      have E8_9_163 : Ext h153 h160 := E160
      have Z9_164 : n0 ≤ h160.size := Nat.le_trans Z8_159 E160.1
      refine Own.invVirtual (q := 89) (W := 1) (y := (⟨"java/lang/StringBuilder", "append", "(Ljava/lang/String;)Ljava/lang/StringBuilder;"⟩ : MethodName)) (a := a134) (argsL := [(.ref r160)]) (rest := [(.ref a1)]) P160 d9_86 (hw _ (List.mem_of_getElem? (i := 101) rfl)) (hw _ (List.mem_of_getElem? (i := 102) rfl)) (hw _ (List.mem_of_getElem? (i := 104) rfl)) (hw _ (List.mem_of_getElem? (i := 103) rfl)) (notFace_of_selects (args := #[]) (mvT P160.2.2.2.1 (hw _ (List.mem_of_getElem? (i := 104) rfl)))) (by decide) (backOf (W := 1) (rmSap l Z a0 hw [] a134 t137 kb137 ((([] : List Int32) ++ c2) ++ [(47 : Int32)]) r160 (c3.drop c2.length) zc h160 n0 Z9_164 (qf31.ext E2_9_162) hzc (E153a.ext E8_9_163) (V153.ext E8_9_163) (C153.ext E8_9_163) (n153.ext E8_9_163) (A153.ext E8_9_163) St160 hS161 (Nat.le_trans Z3_86 (Nat.le_of_eq ha134.symm)) (Nat.le_trans Z4_136 gt137)) P160.2.2.2.1 (hw _ (List.mem_of_getElem? (i := 105) rfl)) (hw _ (List.mem_of_getElem? (i := 85) rfl)) (by decide) (by decide)) (E153a.ext E8_9_163) rfl rfl (by rw [hml]; rfl) (lenOf (show parseMethodDescriptor "(Ljava/lang/String;)Ljava/lang/StringBuilder;" = some ⟨[(.object "java/lang/String")], some (.object "java/lang/StringBuilder")⟩ from by decide +kernel) rfl) (by show 2 * 0 + _ ≤ _; exact Nat.le_of_eq rfl) (by decide) (by decide) rfl ?_
      rintro v165 T165 h165 L165 ⟨rfl, N165q, K165, E165a, V165, C165, n165, A165⟩ P165
      have N165 := Fr.app N160 N165q
      show Own.Goes _ _ _ _ (T165.setTop (mkF m 89 #[.val (.ref a1), .val (.ref a2), .val (.ref a3), .val (.int (1 : Int32))] [(.ref a134), (.ref a1)]))
      have hT166 : ((((([] : List Int32) ++ c2) ++ [(47 : Int32)]) ++ (c3.drop c2.length)) : List Int32).length ≤ 15 := by have := hl2; have := hl3; simp; omega
      have E2_10_167 : Ext h29 h165 := (Own.Ext.kp E2_9_162 K165 (allS (Nat.le_trans E2_3_84.1 (Nat.le_of_eq ha134.symm)) (allS (Nat.le_trans E2_4_135.1 gt137) all0)))
      have Z10_168 : n0 ≤ h165.size := Nat.le_trans Z9_164 K165.1
      refine Own.invVirtual (q := 92) (W := 1) (y := (⟨"java/lang/StringBuilder", "toString", "()Ljava/lang/String;"⟩ : MethodName)) (a := a134) (argsL := []) (rest := [(.ref a1)]) P165 d9_89 (hw _ (List.mem_of_getElem? (i := 140) rfl)) (hw _ (List.mem_of_getElem? (i := 141) rfl)) (hw _ (List.mem_of_getElem? (i := 143) rfl)) (hw _ (List.mem_of_getElem? (i := 142) rfl)) (notFace_of_selects (args := #[]) (mvT P165.2.2.2.1 (hw _ (List.mem_of_getElem? (i := 143) rfl)))) (by decide) (backOf (W := 1) (rmTs l Z a0 hw [] a134 t137 kb137 (((([] : List Int32) ++ c2) ++ [(47 : Int32)]) ++ (c3.drop c2.length)) zc h165 n0 Z10_168 (qf31.ext E2_10_167) hzc E165a V165 C165 n165 A165 hT166 (Own.rng_app (Own.rng_app (Own.rng_app Own.ch0 (qf34.ext E2_5_138).2.1) St146.2.1) St160.2.1)) P165.2.2.2.1 (hw _ (List.mem_of_getElem? (i := 144) rfl)) (hw _ (List.mem_of_getElem? (i := 85) rfl)) (by decide) (by decide)) E165a rfl rfl (by rw [hml]; rfl) (lenOf (show parseMethodDescriptor "()Ljava/lang/String;" = some ⟨[], some (.object "java/lang/String")⟩ from by decide +kernel) rfl) (by show 2 * 0 + _ ≤ _; exact Nat.le_of_eq rfl) (by decide) (by decide) rfl ?_
      rintro v169 T169 h169 L169 ⟨r169, rfl, N169q, E169, gr169, St169⟩ P169
      have N169 := Fr.app N165 N169q
      show Own.Goes _ _ _ _ (T169.setTop (mkF m 92 #[.val (.ref a1), .val (.ref a2), .val (.ref a3), .val (.int (1 : Int32))] [(.ref r169), (.ref a1)]))
      have E2_11_170 : Ext h29 h169 := (Own.Ext.tr E2_10_167 E169)
      refine Own.putfield (q := 95) P169 d9_92 (hw _ (List.mem_of_getElem? (i := 185) rfl)) (F29_written.ext E2_11_170) (A29.ext E2_11_170) (Or.inr ⟨(hw _ (List.mem_of_getElem? (i := 186) rfl)), rfl, hnm⟩) (hw _ (List.mem_of_getElem? (i := 1) rfl)) (ty := (.object "java/lang/String")) (by decide) rfl rfl rfl ?_
      intro T171 h171 lc171 hl171 P171 W171
      have F171_packageName := (F29_packageName.ext E2_11_170).other W171 (Or.inr (slot_ne (Or.inr (hw _ (List.mem_of_getElem? (i := 53) rfl))) (Or.inr (hw _ (List.mem_of_getElem? (i := 186) rfl))) (by decide) (t := (.object "java/lang/String")) (t' := (.object "java/lang/String")) (by decide) (by decide)))
      have F171_className := (F29_className.ext E2_11_170).other W171 (Or.inr (slot_ne (Or.inr (hw _ (List.mem_of_getElem? (i := 55) rfl))) (Or.inr (hw _ (List.mem_of_getElem? (i := 186) rfl))) (by decide) (t := (.object "java/lang/String")) (t' := (.object "java/lang/String")) (by decide) (by decide)))
      have F171_written := Fld.same W171 (F29_written.ext E2_11_170)
      have A171 := (A29.ext E2_11_170).wr W171
      have N171 := Own.Fr.one N169 hl171 g_a1
      have sz0_1_172 : h0.size ≤ h24.size := by rw [W24.size]; exact (Nat.le_refl _)
      have sz0_2_173 : h0.size ≤ h29.size := by rw [W29.size]; exact sz0_1_172
      have sz0_3_174 : h0.size ≤ h83.size := Nat.le_trans sz0_2_173 E83.1
      have sz0_4_175 : h0.size ≤ h134.size := Nat.le_trans sz0_3_174 E134.1
      have qf176 := (Own.Str.kp1 St169 (Keep.of_wr W171) (((((((((A29.ext E83).ext E134).keep K137).keep K141).ext E146).keep K153).ext E160).keep K165).ext E169) (by decide) (hw _ (List.mem_of_getElem? (i := 1) rfl)))
      have Hd177 := (H83.ext E3_4_142)
      have Sf178 := (Safe.keep K137 (sfS (Safe.exa P141.2.2.2.1.alike A134 (by decide) (by decide)) sf0) Hd177.2.1 (Safe.new gt137))
      have Hd179 := (Own.Hd.kp Hd177 K137 (sfS (Safe.exa P141.2.2.2.1.alike A134 (by decide) (by decide)) sf0))
      have Sf180 := (Safe.keep K141 (sfS (Safe.exa P141.2.2.2.1.alike X137 (by decide) (by decide)) (sfS Sf178 sf0)) Hd179.2.1 Sf178)
      have sz5_6_181 : h137.size ≤ h141.size := Nat.le_trans (Nat.le_refl _) K141.1
      have Sf182 := (CHr.safe hr146 (Nat.lt_of_lt_of_le A137.lt sz5_6_181) Sf180)
      have Hd183 := (Own.Hd.kp H146 K153 (sfS (Safe.exa P171.2.2.2.1.alike (E141a.ext E146) (by decide) (by decide)) (sfS Sf182 sf0)))
      have Hd184 := (Hd183.ext E160)
      have Sf185 := (Safe.keep K153 (sfS (Safe.exa P171.2.2.2.1.alike (E141a.ext E146) (by decide) (by decide)) (sfS Sf182 sf0)) H146.2.1 Sf182)
      have Sf186 := (Safe.ext E160 Hd183.2.1 Sf185)
      have Hd187 := (Own.Hd.kp Hd184 K165 (sfS (Safe.exa P171.2.2.2.1.alike (E153a.ext E160) (by decide) (by decide)) (sfS Sf186 sf0)))
      have Hd188 := (Hd187.ext E169)
      have Hd189 := (Own.Hd.wr Hd188 W171 (Safe.exa P171.2.2.2.1.alike (((((((((A29.ext E83).ext E134).keep K137).keep K141).ext E146).keep K153).ext E160).keep K165).ext E169) (by decide) (by decide)))
      refine Own.retVH (Q := QrmCN Z a1 a2 a3 c2 c3 u0 u1 u2 zc fm h0 n0) P171 hh (ew hw) Hd189 d9_95 hret hlk (by decide) (by decide) ?_
      exact ⟨r169, _, rfl, N171, (Keep.wr (Keep.ext (Keep.trans (Keep.ext (Keep.trans (Keep.ext (Keep.trans (Keep.trans (Keep.ext (Keep.ext (Keep.wr (Keep.wr (Keep.refl h0 _) W24 (Or.inl (by simp))) W29 (Or.inl (by simp))) E83) E134) K137 (allS (Or.inr (Nat.le_trans sz0_3_174 (Nat.le_of_eq ha134.symm))) all0)) K141 (allS (Or.inr (Nat.le_trans sz0_3_174 (Nat.le_of_eq ha134.symm))) (allS (Or.inr (Nat.le_trans sz0_4_175 gt137)) all0))) E146) K153 (allS (Or.inr (Nat.le_trans sz0_3_174 (Nat.le_of_eq ha134.symm))) (allS (Or.inr (Nat.le_trans sz0_4_175 gt137)) all0))) E160) K165 (allS (Or.inr (Nat.le_trans sz0_3_174 (Nat.le_of_eq ha134.symm))) (allS (Or.inr (Nat.le_trans sz0_4_175 gt137)) all0))) E169) W171 (Or.inl (by simp))), A171, F171_packageName, F171_className, F171_written, qf176⟩
theorem d39_0 : decode prog_32_method_7_code 0 = .ok (.aload_n 0, 1) := by decide +kernel
theorem d39_1 : decode prog_32_method_7_code 1 = .ok (.getfield 54, 3) := by decide +kernel
theorem d39_4 : decode prog_32_method_7_code 4 = .ok (.areturn, 1) := by decide +kernel
theorem pn_39 : plainFor (⟨"lifestack/model/ComponentName", "toString", "()Ljava/lang/String;"⟩ : MethodName) = true := by first | exact plainFor_of_name (by first | (simp [plainName, overriddenIn]; done) | decide +kernel) | decide +kernel
def QrmTg (Z : State) (a1 : Addr) (b1 : Addr) (h0 : Heap) (n0 : Nat) (v : Option Value) (h : Heap) (L : List Loc) : Prop := v = some (.ref b1) ∧ Fr n0 L ∧ h = h0
set_option maxRecDepth 65536 in
set_option maxHeartbeats 40000000 in
theorem rmTg (l : Launch) (Z : State) (a0 : Array Value) (hw : ∀ d ∈ tables_1, d.before a0 Z = true) (ws : List Jvm.Cond) (a1 : Addr) (b1 : Addr) (h0 : Heap) (n0 : Nat) (Z0 : n0 ≤ h0.size) (f1 : Fld Z h0 a1 "lifestack/model/ComponentName" "written" "Ljava/lang/String;" (.ref b1)) :
    MetFree l (⟨"lifestack/model/ComponentName", "toString", "()Ljava/lang/String;"⟩ : MethodName) (head1 (Jvm.Cond.code (⟨"lifestack/model/ComponentName", "toString", "()Ljava/lang/String;"⟩ : MethodName) prog_32_method_7_code 1 (some (.object "java/lang/String")) :: ws) ({ frames := 0, cells := 0, slots := 0, locals := 0 } : Room)) (fun a U => a = #[(.ref a1)] ∧ Z.Warmed39 U.vm ∧ U.heap = h0) (fun _ _ _ _ _ => True) (fun _ U o U' => ∃ v L, o = .returned v ∧ QrmTg Z a1 b1 h0 n0 v U'.heap L ∧ FrameEnd U o U' L ({ frames := 0, cells := 0, slots := 0, locals := 0 } : Room).cells ({ frames := 0, cells := 0, slots := 0, locals := 0 } : Room).slots) := by
  refine MetFree.of_bodySF pn_39 hisR ?_
  intro p e s m args below meth c s₁ Bd hml0 hP hK
  obtain ⟨rfl, hZ, hh⟩ := hP
  have hml : c.maxLocals = 1 := hml0
  have hlk : meth.locks = false := Bd.notSynchronized
  have hret := Bd.returns
  have hnm := (name_of_methodNamed Bd.named Bd.method).1
  have P0 : Own.Wk Z "lifestack/model/ComponentName" prog_32_method_7_code h0 p l e ({ frames := 0, cells := 0, slots := 0, locals := 0 } : Room) s m #[(.ref a1)] below meth c s₁ [] 0 0 := ⟨Stand.of_body Bd, Bd.exec, Bd.bytes, hZ, findClass_of_methodNamed Bd.named, by rw [← hh, Bd.state]; rfl⟩
  have N0 := Fr.nil n0
  show Own.Goes p.tables e below (fun s₂ o => ∃ v L, o = .returned v ∧ QrmTg Z a1 b1 h0 n0 v s₂.heap L ∧ FrameEnd s o s₂ L ({ frames := 0, cells := 0, slots := 0, locals := 0 } : Room).cells ({ frames := 0, cells := 0, slots := 0, locals := 0 } : Room).slots) (s₁.setTop (entryFrame m #[(.ref a1)] 1))
  rw [show entryFrame m #[(.ref a1)] 1 = mkF m 0 #[.val (.ref a1)] [] from by first | rfl | (rcases Own.refc hfm with rfl | ⟨_, rfl⟩ <;> rfl) | (simp [entryFrame, mkF, argsToLocals, Value.category]; done)]
  refine Own.aloadN (q := 1) P0 d39_0 rfl rfl rfl ?_
  refine Own.getfield (q := 4) P0 d39_1 (hw _ (List.mem_of_getElem? (i := 185) rfl)) f1 rfl ?_
  intro T21 P21
  refine Own.retA (Q := QrmTg Z a1 b1 h0 n0) P21 d39_4 hret rfl rfl rfl hlk (by decide) (by decide) ?_
  exact ⟨rfl, N0, rfl⟩
theorem d36_0 : decode prog_32_method_5_code 0 = .ok (.aload_n 1, 1) := by decide +kernel
theorem d36_1 : decode prog_32_method_5_code 1 = .ok (.instanceof 16, 3) := by decide +kernel
theorem d36_4 : decode prog_32_method_5_code 4 = .ok (.ifCond .eq 40, 3) := by decide +kernel
theorem d36_7 : decode prog_32_method_5_code 7 = .ok (.aload_n 1, 1) := by decide +kernel
theorem d36_8 : decode prog_32_method_5_code 8 = .ok (.checkcast 16, 3) := by decide +kernel
theorem d36_11 : decode prog_32_method_5_code 11 = .ok (.astore_n 2, 1) := by decide +kernel
theorem d36_12 : decode prog_32_method_5_code 12 = .ok (.aload_n 0, 1) := by decide +kernel
theorem d36_13 : decode prog_32_method_5_code 13 = .ok (.getfield 15, 3) := by decide +kernel
theorem d36_16 : decode prog_32_method_5_code 16 = .ok (.aload_n 2, 1) := by decide +kernel
theorem d36_17 : decode prog_32_method_5_code 17 = .ok (.getfield 15, 3) := by decide +kernel
theorem d36_20 : decode prog_32_method_5_code 20 = .ok (.invokevirtual 77, 3) := by decide +kernel
theorem d36_23 : decode prog_32_method_5_code 23 = .ok (.ifCond .eq 21, 3) := by decide +kernel
theorem d36_26 : decode prog_32_method_5_code 26 = .ok (.aload_n 0, 1) := by decide +kernel
theorem d36_27 : decode prog_32_method_5_code 27 = .ok (.getfield 21, 3) := by decide +kernel
theorem d36_30 : decode prog_32_method_5_code 30 = .ok (.aload_n 2, 1) := by decide +kernel
theorem d36_31 : decode prog_32_method_5_code 31 = .ok (.getfield 21, 3) := by decide +kernel
theorem d36_34 : decode prog_32_method_5_code 34 = .ok (.invokevirtual 77, 3) := by decide +kernel
theorem d36_37 : decode prog_32_method_5_code 37 = .ok (.ifCond .eq 7, 3) := by decide +kernel
theorem d36_40 : decode prog_32_method_5_code 40 = .ok (.iconst 1, 1) := by decide +kernel
theorem d36_41 : decode prog_32_method_5_code 41 = .ok (.goto 4, 3) := by decide +kernel
theorem d36_44 : decode prog_32_method_5_code 44 = .ok (.iconst 0, 1) := by decide +kernel
theorem d36_45 : decode prog_32_method_5_code 45 = .ok (.ireturn, 1) := by decide +kernel
theorem pn_36 : plainFor (⟨"lifestack/model/ComponentName", "equals", "(Ljava/lang/Object;)Z"⟩ : MethodName) = true := by first | exact plainFor_of_name (by first | (simp [plainName, overriddenIn]; done) | decide +kernel) | decide +kernel
def QrmEq0 (Z : State) (a1 : Addr) (h0 : Heap) (n0 : Nat) (v : Option Value) (h : Heap) (L : List Loc) : Prop := v = some (.int 0) ∧ Fr n0 L ∧ h = h0
set_option maxRecDepth 65536 in
set_option maxHeartbeats 40000000 in
theorem rmEq0 (l : Launch) (Z : State) (a0 : Array Value) (hw : ∀ d ∈ tables_1, d.before a0 Z = true) (ws : List Jvm.Cond) (a1 : Addr) (h0 : Heap) (n0 : Nat) (Z0 : n0 ≤ h0.size)  :
    MetFree l (⟨"lifestack/model/ComponentName", "equals", "(Ljava/lang/Object;)Z"⟩ : MethodName) (head1 (Jvm.Cond.code (⟨"lifestack/model/ComponentName", "equals", "(Ljava/lang/Object;)Z"⟩ : MethodName) prog_32_method_5_code 3 (some .boolean) :: ws) ({ frames := 0, cells := 0, slots := 0, locals := 0 } : Room)) (fun a U => a = #[(.ref a1), .null] ∧ Z.Warmed39 U.vm ∧ U.heap = h0) (fun _ _ _ _ _ => True) (fun _ U o U' => ∃ v L, o = .returned v ∧ QrmEq0 Z a1 h0 n0 v U'.heap L ∧ FrameEnd U o U' L ({ frames := 0, cells := 0, slots := 0, locals := 0 } : Room).cells ({ frames := 0, cells := 0, slots := 0, locals := 0 } : Room).slots) := by
  refine MetFree.of_bodySF pn_36 hisR ?_
  intro p e s m args below meth c s₁ Bd hml0 hP hK
  obtain ⟨rfl, hZ, hh⟩ := hP
  have hml : c.maxLocals = 3 := hml0
  have hlk : meth.locks = false := Bd.notSynchronized
  have hret := Bd.returns
  have hnm := (name_of_methodNamed Bd.named Bd.method).1
  have P0 : Own.Wk Z "lifestack/model/ComponentName" prog_32_method_5_code h0 p l e ({ frames := 0, cells := 0, slots := 0, locals := 0 } : Room) s m #[(.ref a1), .null] below meth c s₁ [] 0 0 := ⟨Stand.of_body Bd, Bd.exec, Bd.bytes, hZ, findClass_of_methodNamed Bd.named, by rw [← hh, Bd.state]; rfl⟩
  have N0 := Fr.nil n0
  show Own.Goes p.tables e below (fun s₂ o => ∃ v L, o = .returned v ∧ QrmEq0 Z a1 h0 n0 v s₂.heap L ∧ FrameEnd s o s₂ L ({ frames := 0, cells := 0, slots := 0, locals := 0 } : Room).cells ({ frames := 0, cells := 0, slots := 0, locals := 0 } : Room).slots) (s₁.setTop (entryFrame m #[(.ref a1), .null] 3))
  rw [show entryFrame m #[(.ref a1), .null] 3 = mkF m 0 #[.val (.ref a1), .val .null, .unset] [] from by first | rfl | (rcases Own.refc hfm with rfl | ⟨_, rfl⟩ <;> rfl) | (simp [entryFrame, mkF, argsToLocals, Value.category]; done)]
  refine Own.aloadN (q := 1) P0 d36_0 rfl rfl rfl ?_
  refine Own.instNull (q := 4) P0 d36_1  rfl ?_
  refine Own.if_eq (q := 7) (qy := 44) P0 d36_4 (by decide) rfl (fun _ => ?_) (fun q => absurd rfl q)
  refine Own.iconst (q := 45) (v := (0 : Int32)) P0 d36_44 rfl rfl ?_
  refine Own.retZ (Q := QrmEq0 Z a1 h0 n0) P0 d36_45 hret (by simp) hlk (by decide) (by decide) ?_
  exact ⟨rfl, N0, rfl⟩

def QrmEq1 (Z : State) (a1 : Addr) (b1 : Addr) (h0 : Heap) (n0 : Nat) (v : Option Value) (h : Heap) (L : List Loc) : Prop := v = some (.int 0) ∧ Fr n0 L ∧ h = h0
set_option maxRecDepth 65536 in
set_option maxHeartbeats 40000000 in
theorem rmEq1 (l : Launch) (Z : State) (a0 : Array Value) (hw : ∀ d ∈ tables_1, d.before a0 Z = true) (ws : List Jvm.Cond) (a1 : Addr) (b1 : Addr) (h0 : Heap) (n0 : Nat) (Z0 : n0 ≤ h0.size) (E_b1 : Exa Z h0 b1 "java/lang/String") :
    MetFree l (⟨"lifestack/model/ComponentName", "equals", "(Ljava/lang/Object;)Z"⟩ : MethodName) (head1 (Jvm.Cond.code (⟨"lifestack/model/ComponentName", "equals", "(Ljava/lang/Object;)Z"⟩ : MethodName) prog_32_method_5_code 3 (some .boolean) :: ws) ({ frames := 0, cells := 0, slots := 0, locals := 0 } : Room)) (fun a U => a = #[(.ref a1), (.ref b1)] ∧ Z.Warmed39 U.vm ∧ U.heap = h0) (fun _ _ _ _ _ => True) (fun _ U o U' => ∃ v L, o = .returned v ∧ QrmEq1 Z a1 b1 h0 n0 v U'.heap L ∧ FrameEnd U o U' L ({ frames := 0, cells := 0, slots := 0, locals := 0 } : Room).cells ({ frames := 0, cells := 0, slots := 0, locals := 0 } : Room).slots) := by
  refine MetFree.of_bodySF pn_36 hisR ?_
  intro p e s m args below meth c s₁ Bd hml0 hP hK
  obtain ⟨rfl, hZ, hh⟩ := hP
  have hml : c.maxLocals = 3 := hml0
  have hlk : meth.locks = false := Bd.notSynchronized
  have hret := Bd.returns
  have hnm := (name_of_methodNamed Bd.named Bd.method).1
  have P0 : Own.Wk Z "lifestack/model/ComponentName" prog_32_method_5_code h0 p l e ({ frames := 0, cells := 0, slots := 0, locals := 0 } : Room) s m #[(.ref a1), (.ref b1)] below meth c s₁ [] 0 0 := ⟨Stand.of_body Bd, Bd.exec, Bd.bytes, hZ, findClass_of_methodNamed Bd.named, by rw [← hh, Bd.state]; rfl⟩
  have N0 := Fr.nil n0
  show Own.Goes p.tables e below (fun s₂ o => ∃ v L, o = .returned v ∧ QrmEq1 Z a1 b1 h0 n0 v s₂.heap L ∧ FrameEnd s o s₂ L ({ frames := 0, cells := 0, slots := 0, locals := 0 } : Room).cells ({ frames := 0, cells := 0, slots := 0, locals := 0 } : Room).slots) (s₁.setTop (entryFrame m #[(.ref a1), (.ref b1)] 3))
  rw [show entryFrame m #[(.ref a1), (.ref b1)] 3 = mkF m 0 #[.val (.ref a1), .val (.ref b1), .unset] [] from by first | rfl | (rcases Own.refc hfm with rfl | ⟨_, rfl⟩ <;> rfl) | (simp [entryFrame, mkF, argsToLocals, Value.category]; done)]
  refine Own.aloadN (q := 1) P0 d36_0 rfl rfl rfl ?_
  refine Own.instNope (q := 4) P0 d36_1 (hw _ (List.mem_of_getElem? (i := 195) rfl)) E_b1 (noCN hw) rfl ?_
  intro T21 P21
  refine Own.if_eq (q := 7) (qy := 44) P21 d36_4 (by decide) rfl (fun _ => ?_) (fun q => absurd rfl q)
  refine Own.iconst (q := 45) (v := (0 : Int32)) P21 d36_44 rfl rfl ?_
  refine Own.retZ (Q := QrmEq1 Z a1 b1 h0 n0) P21 d36_45 hret (by simp) hlk (by decide) (by decide) ?_
  exact ⟨rfl, N0, rfl⟩

def QrmEq2 (Z : State) (a1 : Addr) (b1 : Addr) (t1 : Addr) (i1 : Addr) (t2 : Addr) (i2 : Addr) (ct : List Int32) (ci : List Int32) (dt : List Int32) (di : List Int32) (zc : Int32) (h0 : Heap) (n0 : Nat) (v : Option Value) (h : Heap) (L : List Loc) : Prop := v = some (.int (if ct = dt ∧ ci = di then 1 else 0)) ∧ Fr n0 L ∧ h = h0
set_option maxRecDepth 65536 in
set_option maxHeartbeats 40000000 in
theorem rmEq2 (l : Launch) (Z : State) (a0 : Array Value) (hw : ∀ d ∈ tables_1, d.before a0 Z = true) (ws : List Jvm.Cond) (a1 : Addr) (b1 : Addr) (t1 : Addr) (i1 : Addr) (t2 : Addr) (i2 : Addr) (ct : List Int32) (ci : List Int32) (dt : List Int32) (di : List Int32) (zc : Int32) (h0 : Heap) (n0 : Nat) (Z0 : n0 ≤ h0.size) (SC : Sta Z h0 "java/lang/String" "COMPACT_STRINGS" "Z" (.int zc)) (hzc : ¬ zc = 0) (E_b1 : Exa Z h0 b1 "lifestack/model/ComponentName") (f1 : Fld Z h0 a1 "lifestack/model/ComponentName" "packageName" "Ljava/lang/String;" (.ref t1)) (f2 : Fld Z h0 a1 "lifestack/model/ComponentName" "className" "Ljava/lang/String;" (.ref i1)) (f3 : Fld Z h0 b1 "lifestack/model/ComponentName" "packageName" "Ljava/lang/String;" (.ref t2)) (f4 : Fld Z h0 b1 "lifestack/model/ComponentName" "className" "Ljava/lang/String;" (.ref i2)) (S1 : Own.Str Z h0 t1 ct) (S2 : Own.Str Z h0 i1 ci) (S3 : Own.Str Z h0 t2 dt) (S4 : Own.Str Z h0 i2 di) :
    MetFree l (⟨"lifestack/model/ComponentName", "equals", "(Ljava/lang/Object;)Z"⟩ : MethodName) (head1 (Jvm.Cond.code (⟨"lifestack/model/ComponentName", "equals", "(Ljava/lang/Object;)Z"⟩ : MethodName) prog_32_method_5_code 3 (some .boolean) :: ws) ({ frames := 2, cells := 0, slots := 0, locals := 30 } : Room)) (fun a U => a = #[(.ref a1), (.ref b1)] ∧ Z.Warmed39 U.vm ∧ U.heap = h0) (fun _ _ _ _ _ => True) (fun _ U o U' => ∃ v L, o = .returned v ∧ QrmEq2 Z a1 b1 t1 i1 t2 i2 ct ci dt di zc h0 n0 v U'.heap L ∧ FrameEnd U o U' L ({ frames := 2, cells := 0, slots := 0, locals := 30 } : Room).cells ({ frames := 2, cells := 0, slots := 0, locals := 30 } : Room).slots) := by
  refine MetFree.of_bodySF pn_36 hisR ?_
  intro p e s m args below meth c s₁ Bd hml0 hP hK
  obtain ⟨rfl, hZ, hh⟩ := hP
  have hml : c.maxLocals = 3 := hml0
  have hlk : meth.locks = false := Bd.notSynchronized
  have hret := Bd.returns
  have hnm := (name_of_methodNamed Bd.named Bd.method).1
  have P0 : Own.Wk Z "lifestack/model/ComponentName" prog_32_method_5_code h0 p l e ({ frames := 2, cells := 0, slots := 0, locals := 30 } : Room) s m #[(.ref a1), (.ref b1)] below meth c s₁ [] 0 0 := ⟨Stand.of_body Bd, Bd.exec, Bd.bytes, hZ, findClass_of_methodNamed Bd.named, by rw [← hh, Bd.state]; rfl⟩
  have N0 := Fr.nil n0
  show Own.Goes p.tables e below (fun s₂ o => ∃ v L, o = .returned v ∧ QrmEq2 Z a1 b1 t1 i1 t2 i2 ct ci dt di zc h0 n0 v s₂.heap L ∧ FrameEnd s o s₂ L ({ frames := 2, cells := 0, slots := 0, locals := 30 } : Room).cells ({ frames := 2, cells := 0, slots := 0, locals := 30 } : Room).slots) (s₁.setTop (entryFrame m #[(.ref a1), (.ref b1)] 3))
  rw [show entryFrame m #[(.ref a1), (.ref b1)] 3 = mkF m 0 #[.val (.ref a1), .val (.ref b1), .unset] [] from by first | rfl | (rcases Own.refc hfm with rfl | ⟨_, rfl⟩ <;> rfl) | (simp [entryFrame, mkF, argsToLocals, Value.category]; done)]
  refine Own.aloadN (q := 1) P0 d36_0 rfl rfl rfl ?_
  refine Own.instOf (q := 4) P0 d36_1 (hw _ (List.mem_of_getElem? (i := 195) rfl)) (Ins.self E_b1) rfl ?_
  intro T21 P21
  refine Own.if_eq (q := 7) (qy := 44) P21 d36_4 (by decide) rfl (fun q => absurd q (by decide)) (fun _ => ?_)
  refine Own.aloadN (q := 8) P21 d36_7 rfl rfl rfl ?_
  refine Own.castTo (q := 11) P21 d36_8 (hw _ (List.mem_of_getElem? (i := 195) rfl)) (Ins.self E_b1) rfl ?_
  intro T22 P22
  refine Own.astoreN (q := 12) (L2 := #[.val (.ref a1), .val (.ref b1), .val (.ref b1)]) P22 d36_11 rfl rfl rfl ?_
  refine Own.aloadN (q := 13) P22 d36_12 rfl rfl rfl ?_
  refine Own.getfield (q := 16) P22 d36_13 (hw _ (List.mem_of_getElem? (i := 52) rfl)) f1 rfl ?_
  intro T23 P23
  refine Own.aloadN (q := 17) P23 d36_16 rfl rfl rfl ?_
  refine Own.getfield (q := 20) P23 d36_17 (hw _ (List.mem_of_getElem? (i := 52) rfl)) f3 rfl ?_
  intro T24 P24
  refine Own.invVirtual (q := 23) (W := 0) (y := (⟨"java/lang/String", "equals", "(Ljava/lang/Object;)Z"⟩ : MethodName)) (a := t1) (argsL := [(.ref t2)]) (rest := []) P24 d36_20 (hw _ (List.mem_of_getElem? (i := 197) rfl)) (hw _ (List.mem_of_getElem? (i := 198) rfl)) (hw _ (List.mem_of_getElem? (i := 200) rfl)) (hw _ (List.mem_of_getElem? (i := 199) rfl)) (notFace_of_selects (args := #[]) (mvT P24.2.2.2.1 (hw _ (List.mem_of_getElem? (i := 200) rfl)))) (by decide) (Own.eqB (W := 0) (n0 := n0) P24.2.2.2.1 (fun d hd => hw d (sub_eqW d hd)) (hw _ (List.mem_of_getElem? (i := 9) rfl)) S1 S3 SC hzc (by decide) (by decide)) S1.exa rfl rfl (by rw [hml]; rfl) (lenOf (show parseMethodDescriptor "(Ljava/lang/Object;)Z" = some ⟨[(.object "java/lang/Object")], some .boolean⟩ from by decide +kernel) rfl) (by show 2 * 0 + _ ≤ _; exact Nat.le_of_eq rfl) (by decide) (by decide) rfl ?_
  rintro v25 T25 h25 L25 ⟨rfl, N25q, e25⟩ P25
  rw [e25] at P25
  have N25 := Fr.app N0 N25q
  show Own.Goes _ _ _ _ (T25.setTop (mkF m 23 #[.val (.ref a1), .val (.ref b1), .val (.ref b1)] [(.int (if ct = dt then (1 : Int32) else 0))]))
  refine Own.if_eq (q := 26) (qy := 44) P25 d36_23 (by decide) rfl (fun q21 => ?_) (fun q21 => ?_)
  · have n21 : ¬ ct = dt := fun z => by rw [if_pos z] at q21; exact absurd q21 (by decide)
    refine Own.iconst (q := 45) (v := (0 : Int32)) P25 d36_44 rfl rfl ?_
    refine Own.retZ (Q := QrmEq2 Z a1 b1 t1 i1 t2 i2 ct ci dt di zc h0 n0) P25 d36_45 hret (by simp) hlk (by decide) (by decide) ?_
    exact ⟨by first | (rw [if_neg (fun z => n38 z.2)]; rfl) | (rw [if_neg (fun z => n21 z.1)]; rfl), N25, rfl⟩
  · have y21 : ct = dt := Decidable.of_not_not fun z => q21 (if_neg z)
    refine Own.aloadN (q := 27) P25 d36_26 rfl rfl rfl ?_
    refine Own.getfield (q := 30) P25 d36_27 (hw _ (List.mem_of_getElem? (i := 54) rfl)) f2 rfl ?_
    intro T26 P26
    refine Own.aloadN (q := 31) P26 d36_30 rfl rfl rfl ?_
    refine Own.getfield (q := 34) P26 d36_31 (hw _ (List.mem_of_getElem? (i := 54) rfl)) f4 rfl ?_
    intro T27 P27
    refine Own.invVirtual (q := 37) (W := 0) (y := (⟨"java/lang/String", "equals", "(Ljava/lang/Object;)Z"⟩ : MethodName)) (a := i1) (argsL := [(.ref i2)]) (rest := []) P27 d36_34 (hw _ (List.mem_of_getElem? (i := 197) rfl)) (hw _ (List.mem_of_getElem? (i := 198) rfl)) (hw _ (List.mem_of_getElem? (i := 200) rfl)) (hw _ (List.mem_of_getElem? (i := 199) rfl)) (notFace_of_selects (args := #[]) (mvT P27.2.2.2.1 (hw _ (List.mem_of_getElem? (i := 200) rfl)))) (by decide) (Own.eqB (W := 0) (n0 := n0) P27.2.2.2.1 (fun d hd => hw d (sub_eqW d hd)) (hw _ (List.mem_of_getElem? (i := 9) rfl)) S2 S4 SC hzc (by decide) (by decide)) S2.exa rfl rfl (by rw [hml]; rfl) (lenOf (show parseMethodDescriptor "(Ljava/lang/Object;)Z" = some ⟨[(.object "java/lang/Object")], some .boolean⟩ from by decide +kernel) rfl) (by show 2 * 0 + _ ≤ _; exact Nat.le_of_eq rfl) (by decide) (by decide) rfl ?_
    rintro v28 T28 h28 L28 ⟨rfl, N28q, e28⟩ P28
    rw [e28] at P28
    have N28 := Fr.app N25 N28q
    show Own.Goes _ _ _ _ (T28.setTop (mkF m 37 #[.val (.ref a1), .val (.ref b1), .val (.ref b1)] [(.int (if ci = di then (1 : Int32) else 0))]))
    refine Own.if_eq (q := 40) (qy := 44) P28 d36_37 (by decide) rfl (fun q38 => ?_) (fun q38 => ?_)
    · have n38 : ¬ ci = di := fun z => by rw [if_pos z] at q38; exact absurd q38 (by decide)
      refine Own.iconst (q := 45) (v := (0 : Int32)) P28 d36_44 rfl rfl ?_
      refine Own.retZ (Q := QrmEq2 Z a1 b1 t1 i1 t2 i2 ct ci dt di zc h0 n0) P28 d36_45 hret (by simp) hlk (by decide) (by decide) ?_
      exact ⟨by first | (rw [if_neg (fun z => n38 z.2)]; rfl) | (rw [if_neg (fun z => n21 z.1)]; rfl), N28, rfl⟩
    · have y38 : ci = di := Decidable.of_not_not fun z => q38 (if_neg z)
      refine Own.iconst (q := 41) (v := (1 : Int32)) P28 d36_40 rfl rfl ?_
      refine Own.goto (q := 45) P28 d36_41 (by decide) ?_
      refine Own.retZ (Q := QrmEq2 Z a1 b1 t1 i1 t2 i2 ct ci dt di zc h0 n0) P28 d36_45 hret (by simp) hlk (by decide) (by decide) ?_
      exact ⟨by rw [if_pos ⟨y21, y38⟩]; rfl, N28, rfl⟩
theorem pn_0 : plainFor x = true := by first | exact plainFor_of_name (by first | (simp [plainName, overriddenIn]; done) | decide +kernel) | decide +kernel
def QrmLaw (Z : State) (x0 : Int32) (x1 : Int32) (x2 : Int32) (x3 : Int32) (x4 : Int32) (zc : Int32) (fm : Value) (h0 : Heap) (n0 : Nat) (v : Option Value) (h : Heap) (L : List Loc) : Prop := v = some (.int 1) ∧ Fr n0 L
set_option maxRecDepth 65536 in
set_option maxHeartbeats 40000000 in
theorem rmLaw (l : Launch) (Z : State) (a0 : Array Value) (hw : ∀ d ∈ tables_1, d.before a0 Z = true) (ws : List Jvm.Cond) (x0 : Int32) (x1 : Int32) (x2 : Int32) (x3 : Int32) (x4 : Int32) (zc : Int32) (fm : Value) (h0 : Heap) (n0 : Nat) (Z0 : n0 ≤ h0.size) (SC : Sta Z h0 "java/lang/String" "COMPACT_STRINGS" "Z" (.int zc)) (hzc : ¬ zc = 0) (SF : Sta Z h0 "jdk/internal/util/Preconditions" "SIOOBE_FORMATTER" "Ljava/util/function/BiFunction;" fm) (hfm : fm.isRef = true) :
    MetFree l x (head1 (Jvm.Cond.code x code maxLocals ret :: ws) room_1) (fun a U => a = #[(.int x0), (.int x1), (.int x2), (.int x3), (.int x4)] ∧ Z.Warmed39 U.vm ∧ U.heap = h0 ∧ CHv Z EL U.vm h0 ∧ ∀ x ∈ ([] : List Addr), Safe Z EL U.vm h0 x) (fun _ _ _ _ _ => True) (fun _ U o U' => ∃ v L, o = .returned v ∧ QrmLaw Z x0 x1 x2 x3 x4 zc fm h0 n0 v U'.heap L ∧ CHr Z EL U.vm U.heap U'.vm U'.heap ∧ ReturnedEndW U o U' L room_1.cells room_1.slots) := by
  refine MetFree.of_bodySF pn_0 hisR ?_
  intro p e s m args below meth c s₁ Bd hml0 hP hK
  obtain ⟨rfl, hZ, hh, hCH, hSf⟩ := hP
  have hml : c.maxLocals = 9 := hml0
  have hlk : meth.locks = false := Bd.notSynchronized
  have hret := Bd.returns
  have hnm := (name_of_methodNamed Bd.named Bd.method).1
  have P0 : Own.Wk Z "lifestack/model/ComponentNameEqualsPinLaw" code h0 p l e room_1 (s.setVm s.vm) m #[(.int x0), (.int x1), (.int x2), (.int x3), (.int x4)] below meth c s₁ [] 0 0 := ⟨Stand.of_body Bd, Bd.exec, Bd.bytes, hZ, findClass_of_methodNamed Bd.named, by rw [← hh, Bd.state]; rfl⟩
  have H0 : Own.Hd Z EL s s.vm h0 h0 := Own.Hd.start hCH
  have N0 := Fr.nil n0
  show Own.Goes p.tables e below (fun s₂ o => ∃ v L, o = .returned v ∧ QrmLaw Z x0 x1 x2 x3 x4 zc fm h0 n0 v s₂.heap L ∧ CHr Z EL s.vm s.heap s₂.vm s₂.heap ∧ ReturnedEndW s o s₂ L room_1.cells room_1.slots) (s₁.setTop (entryFrame m #[(.int x0), (.int x1), (.int x2), (.int x3), (.int x4)] maxLocals))
  rw [show entryFrame m #[(.int x0), (.int x1), (.int x2), (.int x3), (.int x4)] maxLocals = mkF m 0 #[.val (.int x0), .val (.int x1), .val (.int x2), .val (.int x3), .val (.int x4), .unset, .unset, .unset, .unset] [] from by first | rfl | (rcases Own.refc hfm with rfl | ⟨_, rfl⟩ <;> rfl) | (simp [entryFrame, mkF, argsToLocals, Value.category, maxLocals]; done)]
  refine Own.newobj (q := 3) P0 at_0 (hw _ (List.mem_of_getElem? (i := 0) rfl)) (hw _ (List.mem_of_getElem? (i := 1) rfl)) (hw _ (List.mem_of_getElem? (i := 2) rfl)) (by decide) (by decide) rfl ?_
  intro T21 h21 a21 ha21 P21 E21 A21 D21
  have F21_packageName : Fld Z h21 a21 "lifestack/model/ComponentName" "packageName" "Ljava/lang/String;" .null := D21 (Or.inr (hw _ (List.mem_of_getElem? (i := 53) rfl))) (ty := (.object "java/lang/String")) (by decide)
  have F21_className : Fld Z h21 a21 "lifestack/model/ComponentName" "className" "Ljava/lang/String;" .null := D21 (Or.inr (hw _ (List.mem_of_getElem? (i := 55) rfl))) (ty := (.object "java/lang/String")) (by decide)
  have F21_written : Fld Z h21 a21 "lifestack/model/ComponentName" "written" "Ljava/lang/String;" .null := D21 (Or.inr (hw _ (List.mem_of_getElem? (i := 186) rfl))) (ty := (.object "java/lang/String")) (by decide)
  refine Own.dup (q := 4) P21 at_3 rfl rfl ?_
  refine Own.iloadN (q := 5) P21 at_4 rfl rfl ?_
  have E0_1_22 : Ext h0 h21 := E21
  have Hd23 := (H0.ext E0_1_22)
  refine Own.invStaticH (q := 8) (W := 2) (y := (⟨"lifestack/model/ComponentNameEqualsPinLaw", "str", "(I)Ljava/lang/String;"⟩ : MethodName)) (argsL := [(.int x0)]) (rest := [(.ref a21), (.ref a21)]) P21 Hd23 at_5 (hw _ (List.mem_of_getElem? (i := 3) rfl)) (hw _ (List.mem_of_getElem? (i := 4) rfl)) (hw _ (List.mem_of_getElem? (i := 5) rfl)) (hw _ (List.mem_of_getElem? (i := 6) rfl)) (by decide) (Own.backH (W := 2) (rmStr l Z a0 hw [] x0 zc h21 n0 (Nat.le_trans Z0 E0_1_22.1) (SC.ext E0_1_22) hzc) P21.2.2.2.1 (hw _ (List.mem_of_getElem? (i := 6) rfl)) (hw _ (List.mem_of_getElem? (i := 5) rfl)) (by decide) (by decide) (ew hw) Hd23.2.1 all0) rfl rfl (by rw [hml]; rfl) (lenOf (show parseMethodDescriptor "(I)Ljava/lang/String;" = some ⟨[.int], some (.object "java/lang/String")⟩ from by decide +kernel) rfl) (by show 2 * 0 + _ ≤ _; exact Nat.le_of_eq rfl) (by decide) (by decide) rfl ?_
  rintro v24 T24 vm24 h24 L24 ⟨r24, rfl, N24q, E24, gr24, St24⟩ P24 H24 hr24
  have N24 := Fr.app N0 N24q
  show Own.Goes _ _ _ _ (T24.setTop (mkF m 8 #[.val (.int x0), .val (.int x1), .val (.int x2), .val (.int x3), .val (.int x4), .unset, .unset, .unset, .unset] [(.ref r24), (.ref a21), (.ref a21)]))
  refine Own.iloadN (q := 9) P24 at_8 rfl rfl ?_
  have E0_2_25 : Ext h0 h24 := (Own.Ext.tr E0_1_22 E24)
  refine Own.invStaticH (q := 12) (W := 3) (y := (⟨"lifestack/model/ComponentNameEqualsPinLaw", "str", "(I)Ljava/lang/String;"⟩ : MethodName)) (argsL := [(.int x1)]) (rest := [(.ref r24), (.ref a21), (.ref a21)]) P24 H24 at_9 (hw _ (List.mem_of_getElem? (i := 3) rfl)) (hw _ (List.mem_of_getElem? (i := 4) rfl)) (hw _ (List.mem_of_getElem? (i := 5) rfl)) (hw _ (List.mem_of_getElem? (i := 6) rfl)) (by decide) (Own.backH (W := 3) (rmStr l Z a0 hw [] x1 zc h24 n0 (Nat.le_trans Z0 E0_2_25.1) (SC.ext E0_2_25) hzc) P24.2.2.2.1 (hw _ (List.mem_of_getElem? (i := 6) rfl)) (hw _ (List.mem_of_getElem? (i := 5) rfl)) (by decide) (by decide) (ew hw) H24.2.1 all0) rfl rfl (by rw [hml]; rfl) (lenOf (show parseMethodDescriptor "(I)Ljava/lang/String;" = some ⟨[.int], some (.object "java/lang/String")⟩ from by decide +kernel) rfl) (by show 2 * 0 + _ ≤ _; exact Nat.le_of_eq rfl) (by decide) (by decide) rfl ?_
  rintro v26 T26 vm26 h26 L26 ⟨r26, rfl, N26q, E26, gr26, St26⟩ P26 H26 hr26
  have N26 := Fr.app N24 N26q
  show Own.Goes _ _ _ _ (T26.setTop (mkF m 12 #[.val (.int x0), .val (.int x1), .val (.int x2), .val (.int x3), .val (.int x4), .unset, .unset, .unset, .unset] [(.ref r26), (.ref r24), (.ref a21), (.ref a21)]))
  have E0_3_27 : Ext h0 h26 := (Own.Ext.tr E0_2_25 E26)
  have E1_2_28 : Ext h21 h24 := E24
  have E1_3_29 : Ext h21 h26 := (Own.Ext.tr E1_2_28 E26)
  have E2_3_30 : Ext h24 h26 := E26
  refine Own.invSpecialH (q := 15) (W := 1) (y := (⟨"lifestack/model/ComponentName", "<init>", "(Ljava/lang/String;Ljava/lang/String;)V"⟩ : MethodName)) (a := a21) (argsL := [(.ref r24), (.ref r26)]) (rest := [(.ref a21)]) P26 H26 at_12 rfl (hw _ (List.mem_of_getElem? (i := 43) rfl)) (hw _ (List.mem_of_getElem? (i := 44) rfl)) (hw _ (List.mem_of_getElem? (i := 45) rfl)) (by decide) (Own.backH (W := 1) (rmCN l Z a0 hw [] a21 r24 r26 (stOf x0) (stOf x1) .null .null .null zc fm h26 n0 (Nat.le_trans Z0 E0_3_27.1) (SC.ext E0_3_27) hzc (SF.ext E0_3_27) hfm (A21.ext E1_3_29) (F21_packageName.ext E1_3_29) (F21_className.ext E1_3_29) (F21_written.ext E1_3_29) (Nat.le_trans Z0 (Nat.le_of_eq ha21.symm)) (St24.ext E2_3_30) St26 (st_len _) (st_len _)) P26.2.2.2.1 (hw _ (List.mem_of_getElem? (i := 45) rfl)) (hw _ (List.mem_of_getElem? (i := 2) rfl)) (by decide) (by decide) (ew hw) H26.2.1 all0) rfl rfl (by rw [hml]; rfl) (lenOf (show parseMethodDescriptor "(Ljava/lang/String;Ljava/lang/String;)V" = some ⟨[(.object "java/lang/String"), (.object "java/lang/String")], none⟩ from by decide +kernel) rfl) (by show 2 * 0 + _ ≤ _; exact Nat.le_of_eq rfl) (by decide) (by decide) rfl ?_
  rintro v31 T31 vm31 h31 L31 ⟨r31, cw31, rfl, N31q, K31, G31, F31a, F31b, F31c, St31⟩ P31 H31 hr31
  have N31 := Fr.app N26 N31q
  show Own.Goes _ _ _ _ (T31.setTop (mkF m 15 #[.val (.int x0), .val (.int x1), .val (.int x2), .val (.int x3), .val (.int x4), .unset, .unset, .unset, .unset] [(.ref a21)]))
  refine Own.astore (q := 17) (L2 := #[.val (.int x0), .val (.int x1), .val (.int x2), .val (.int x3), .val (.int x4), .val (.ref a21), .unset, .unset, .unset]) P31 at_15 rfl rfl rfl ?_
  refine Own.iload (q := 19) P31 at_17 rfl rfl ?_
  refine Own.iconst (q := 20) (v := (3 : Int32)) P31 at_19 rfl rfl ?_
  refine Own.iand (q := 21) P31 at_20  rfl ?_
  refine Own.istore (q := 23) (L2 := #[.val (.int x0), .val (.int x1), .val (.int x2), .val (.int x3), .val (.int x4), .val (.ref a21), .val (.int (x4 &&& (3 : Int32))), .unset, .unset]) P31 at_21 rfl rfl ?_
  refine Own.iload (q := 25) P31 at_23 rfl rfl ?_
  refine Own.if_ne (q := 28) (qy := 98) P31 at_25 (by decide) rfl (fun q25 => ?_) (fun q25 => ?_)
  · refine Own.iload (q := 100) P31 at_98 rfl rfl ?_
    refine Own.iconst (q := 101) (v := (1 : Int32)) P31 at_100 rfl rfl ?_
    refine Own.icmp_ne (q := 104) (qy := 119) P31 at_101 (by decide) rfl (fun q101 => ?_) (fun q101 => ?_)
    · refine Own.iload (q := 121) P31 at_119 rfl rfl ?_
      refine Own.iconst (q := 122) (v := (2 : Int32)) P31 at_121 rfl rfl ?_
      refine Own.icmp_ne (q := 125) (qy := 133) P31 at_122 (by decide) rfl (fun q122 => ?_) (fun q122 => ?_)
      · refine Own.aload (q := 135) P31 at_133 rfl rfl rfl ?_
        have E0_4_32 : Ext h0 h31 := (Own.Ext.kp E0_3_27 K31 (allS (Nat.le_of_eq ha21.symm) all0))
        refine Own.invVirtual (q := 138) (W := 0) (y := (⟨"lifestack/model/ComponentName", "toString", "()Ljava/lang/String;"⟩ : MethodName)) (a := a21) (argsL := []) (rest := []) P31 at_135 (hw _ (List.mem_of_getElem? (i := 207) rfl)) (hw _ (List.mem_of_getElem? (i := 208) rfl)) (hw _ (List.mem_of_getElem? (i := 210) rfl)) (hw _ (List.mem_of_getElem? (i := 209) rfl)) (notFace_of_selects (args := #[]) (mvT P31.2.2.2.1 (hw _ (List.mem_of_getElem? (i := 210) rfl)))) (by decide) (backOf (W := 0) (rmTg l Z a0 hw [] a21 r31 h31 n0 (Nat.le_trans Z0 E0_4_32.1) F31c) P31.2.2.2.1 (hw _ (List.mem_of_getElem? (i := 211) rfl)) (hw _ (List.mem_of_getElem? (i := 2) rfl)) (by decide) (by decide)) G31 rfl rfl (by rw [hml]; rfl) (lenOf (show parseMethodDescriptor "()Ljava/lang/String;" = some ⟨[], some (.object "java/lang/String")⟩ from by decide +kernel) rfl) (by show 2 * 0 + _ ≤ _; exact Nat.le_of_eq rfl) (by decide) (by decide) rfl ?_
        rintro v33 T33 h33 L33 ⟨rfl, N33q, e33⟩ P33
        rw [e33] at P33
        have N33 := Fr.app N31 N33q
        show Own.Goes _ _ _ _ (T33.setTop (mkF m 138 #[.val (.int x0), .val (.int x1), .val (.int x2), .val (.int x3), .val (.int x4), .val (.ref a21), .val (.int (x4 &&& (3 : Int32))), .unset, .unset] [(.ref r31)]))
        refine Own.astore (q := 140) (L2 := #[.val (.int x0), .val (.int x1), .val (.int x2), .val (.int x3), .val (.int x4), .val (.ref a21), .val (.int (x4 &&& (3 : Int32))), .val (.ref r31), .unset]) P33 at_138 rfl rfl rfl ?_
        refine Own.aload (q := 142) P33 at_140 rfl rfl rfl ?_
        refine Own.aload (q := 144) P33 at_142 rfl rfl rfl ?_
        refine Own.invVirtual (q := 147) (W := 0) (y := (⟨"lifestack/model/ComponentName", "equals", "(Ljava/lang/Object;)Z"⟩ : MethodName)) (a := a21) (argsL := [(.ref r31)]) (rest := []) P33 at_144 (hw _ (List.mem_of_getElem? (i := 190) rfl)) (hw _ (List.mem_of_getElem? (i := 191) rfl)) (hw _ (List.mem_of_getElem? (i := 193) rfl)) (hw _ (List.mem_of_getElem? (i := 192) rfl)) (notFace_of_selects (args := #[]) (mvT P33.2.2.2.1 (hw _ (List.mem_of_getElem? (i := 193) rfl)))) (by decide) (backOf (W := 0) (rmEq1 l Z a0 hw [] a21 r31 h31 n0 (Nat.le_trans Z0 E0_4_32.1) St31.exa) P33.2.2.2.1 (hw _ (List.mem_of_getElem? (i := 194) rfl)) (hw _ (List.mem_of_getElem? (i := 2) rfl)) (by decide) (by decide)) G31 rfl rfl (by rw [hml]; rfl) (lenOf (show parseMethodDescriptor "(Ljava/lang/Object;)Z" = some ⟨[(.object "java/lang/Object")], some .boolean⟩ from by decide +kernel) rfl) (by show 2 * 0 + _ ≤ _; exact Nat.le_of_eq rfl) (by decide) (by decide) rfl ?_
        rintro v34 T34 h34 L34 ⟨rfl, N34q, e34⟩ P34
        rw [e34] at P34
        have N34 := Fr.app N33 N34q
        show Own.Goes _ _ _ _ (T34.setTop (mkF m 147 #[.val (.int x0), .val (.int x1), .val (.int x2), .val (.int x3), .val (.int x4), .val (.ref a21), .val (.int (x4 &&& (3 : Int32))), .val (.ref r31), .unset] [(.int (0 : Int32))]))
        refine Own.if_ne (q := 150) (qy := 154) P34 at_147 (by decide) rfl (fun q => absurd rfl q) (fun _ => ?_)
        refine Own.iconst (q := 151) (v := (1 : Int32)) P34 at_150 rfl rfl ?_
        refine Own.goto (q := 155) P34 at_151 (by decide) ?_
        refine Own.retZH (Q := QrmLaw Z x0 x1 x2 x3 x4 zc fm h0 n0) P34 hh (ew hw) H31 at_155 hret (by simp) hlk (by decide) (by decide) ?_
        exact ⟨rfl, N34⟩
      · refine Own.aload (q := 127) P31 at_125 rfl rfl rfl ?_
        refine Own.aload (q := 129) P31 at_127 rfl rfl rfl ?_
        have E0_4_35 : Ext h0 h31 := (Own.Ext.kp E0_3_27 K31 (allS (Nat.le_of_eq ha21.symm) all0))
        have qf36 := (St24.ext E26)
        have qf37 := (Own.Str.kp1 qf36 K31 ((A21.ext E24).ext E26) (by decide) (hw _ (List.mem_of_getElem? (i := 1) rfl)))
        have qf38 := (Own.Str.kp1 St26 K31 ((A21.ext E24).ext E26) (by decide) (hw _ (List.mem_of_getElem? (i := 1) rfl)))
        refine Own.invVirtual (q := 132) (W := 0) (y := (⟨"lifestack/model/ComponentName", "equals", "(Ljava/lang/Object;)Z"⟩ : MethodName)) (a := a21) (argsL := [(.ref a21)]) (rest := []) P31 at_129 (hw _ (List.mem_of_getElem? (i := 190) rfl)) (hw _ (List.mem_of_getElem? (i := 191) rfl)) (hw _ (List.mem_of_getElem? (i := 193) rfl)) (hw _ (List.mem_of_getElem? (i := 192) rfl)) (notFace_of_selects (args := #[]) (mvT P31.2.2.2.1 (hw _ (List.mem_of_getElem? (i := 193) rfl)))) (by decide) (backOf (W := 0) (rmEq2 l Z a0 hw [] a21 a21 r24 r26 r24 r26 (stOf x0) (stOf x1) (stOf x0) (stOf x1) zc h31 n0 (Nat.le_trans Z0 E0_4_35.1) (SC.ext E0_4_35) hzc G31 F31a F31b F31a F31b qf37 qf38 qf37 qf38) P31.2.2.2.1 (hw _ (List.mem_of_getElem? (i := 194) rfl)) (hw _ (List.mem_of_getElem? (i := 2) rfl)) (by decide) (by decide)) G31 rfl rfl (by rw [hml]; rfl) (lenOf (show parseMethodDescriptor "(Ljava/lang/Object;)Z" = some ⟨[(.object "java/lang/Object")], some .boolean⟩ from by decide +kernel) rfl) (by show 2 * 0 + _ ≤ _; exact Nat.le_of_eq rfl) (by decide) (by decide) rfl ?_
        rintro v39 T39 h39 L39 ⟨rfl, N39q, e39⟩ P39
        rw [e39] at P39
        have N39 := Fr.app N31 N39q
        show Own.Goes _ _ _ _ (T39.setTop (mkF m 132 #[.val (.int x0), .val (.int x1), .val (.int x2), .val (.int x3), .val (.int x4), .val (.ref a21), .val (.int (x4 &&& (3 : Int32))), .unset, .unset] [(.int (if (stOf x0) = (stOf x0) ∧ (stOf x1) = (stOf x1) then (1 : Int32) else 0))]))
        refine Own.retZH (Q := QrmLaw Z x0 x1 x2 x3 x4 zc fm h0 n0) P39 hh (ew hw) H31 at_132 hret (by simp) hlk (by decide) (by decide) ?_
        exact ⟨by rw [if_pos ⟨rfl, rfl⟩]; rfl, N39⟩
    · refine Own.aload (q := 106) P31 at_104 rfl rfl rfl ?_
      refine Own.aconst (q := 107) P31 at_106  rfl ?_
      have E0_4_40 : Ext h0 h31 := (Own.Ext.kp E0_3_27 K31 (allS (Nat.le_of_eq ha21.symm) all0))
      refine Own.invVirtual (q := 110) (W := 0) (y := (⟨"lifestack/model/ComponentName", "equals", "(Ljava/lang/Object;)Z"⟩ : MethodName)) (a := a21) (argsL := [.null]) (rest := []) P31 at_107 (hw _ (List.mem_of_getElem? (i := 190) rfl)) (hw _ (List.mem_of_getElem? (i := 191) rfl)) (hw _ (List.mem_of_getElem? (i := 193) rfl)) (hw _ (List.mem_of_getElem? (i := 192) rfl)) (notFace_of_selects (args := #[]) (mvT P31.2.2.2.1 (hw _ (List.mem_of_getElem? (i := 193) rfl)))) (by decide) (backOf (W := 0) (rmEq0 l Z a0 hw [] a21 h31 n0 (Nat.le_trans Z0 E0_4_40.1) ) P31.2.2.2.1 (hw _ (List.mem_of_getElem? (i := 194) rfl)) (hw _ (List.mem_of_getElem? (i := 2) rfl)) (by decide) (by decide)) G31 rfl rfl (by rw [hml]; rfl) (lenOf (show parseMethodDescriptor "(Ljava/lang/Object;)Z" = some ⟨[(.object "java/lang/Object")], some .boolean⟩ from by decide +kernel) rfl) (by show 2 * 0 + _ ≤ _; exact Nat.le_of_eq rfl) (by decide) (by decide) rfl ?_
      rintro v41 T41 h41 L41 ⟨rfl, N41q, e41⟩ P41
      rw [e41] at P41
      have N41 := Fr.app N31 N41q
      show Own.Goes _ _ _ _ (T41.setTop (mkF m 110 #[.val (.int x0), .val (.int x1), .val (.int x2), .val (.int x3), .val (.int x4), .val (.ref a21), .val (.int (x4 &&& (3 : Int32))), .unset, .unset] [(.int (0 : Int32))]))
      refine Own.if_ne (q := 113) (qy := 117) P41 at_110 (by decide) rfl (fun q => absurd rfl q) (fun _ => ?_)
      refine Own.iconst (q := 114) (v := (1 : Int32)) P41 at_113 rfl rfl ?_
      refine Own.goto (q := 118) P41 at_114 (by decide) ?_
      refine Own.retZH (Q := QrmLaw Z x0 x1 x2 x3 x4 zc fm h0 n0) P41 hh (ew hw) H31 at_118 hret (by simp) hlk (by decide) (by decide) ?_
      exact ⟨rfl, N41⟩
  · refine Own.newobj (q := 31) P31 at_28 (hw _ (List.mem_of_getElem? (i := 0) rfl)) (hw _ (List.mem_of_getElem? (i := 1) rfl)) (hw _ (List.mem_of_getElem? (i := 2) rfl)) (by decide) (by decide) rfl ?_
    intro T42 h42 a42 ha42 P42 E42 A42 D42
    have F42_packageName : Fld Z h42 a42 "lifestack/model/ComponentName" "packageName" "Ljava/lang/String;" .null := D42 (Or.inr (hw _ (List.mem_of_getElem? (i := 53) rfl))) (ty := (.object "java/lang/String")) (by decide)
    have F42_className : Fld Z h42 a42 "lifestack/model/ComponentName" "className" "Ljava/lang/String;" .null := D42 (Or.inr (hw _ (List.mem_of_getElem? (i := 55) rfl))) (ty := (.object "java/lang/String")) (by decide)
    have F42_written : Fld Z h42 a42 "lifestack/model/ComponentName" "written" "Ljava/lang/String;" .null := D42 (Or.inr (hw _ (List.mem_of_getElem? (i := 186) rfl))) (ty := (.object "java/lang/String")) (by decide)
    refine Own.dup (q := 32) P42 at_31 rfl rfl ?_
    refine Own.iloadN (q := 33) P42 at_32 rfl rfl ?_
    have E0_4_43 : Ext h0 h31 := (Own.Ext.kp E0_3_27 K31 (allS (Nat.le_of_eq ha21.symm) all0))
    have E0_5_44 : Ext h0 h42 := (Own.Ext.tr E0_4_43 E42)
    have E4_5_45 : Ext h31 h42 := E42
    have Hd46 := (H31.ext E4_5_45)
    refine Own.invStaticH (q := 36) (W := 2) (y := (⟨"lifestack/model/ComponentNameEqualsPinLaw", "str", "(I)Ljava/lang/String;"⟩ : MethodName)) (argsL := [(.int x2)]) (rest := [(.ref a42), (.ref a42)]) P42 Hd46 at_33 (hw _ (List.mem_of_getElem? (i := 3) rfl)) (hw _ (List.mem_of_getElem? (i := 4) rfl)) (hw _ (List.mem_of_getElem? (i := 5) rfl)) (hw _ (List.mem_of_getElem? (i := 6) rfl)) (by decide) (Own.backH (W := 2) (rmStr l Z a0 hw [] x2 zc h42 n0 (Nat.le_trans Z0 E0_5_44.1) (SC.ext E0_5_44) hzc) P42.2.2.2.1 (hw _ (List.mem_of_getElem? (i := 6) rfl)) (hw _ (List.mem_of_getElem? (i := 5) rfl)) (by decide) (by decide) (ew hw) Hd46.2.1 all0) rfl rfl (by rw [hml]; rfl) (lenOf (show parseMethodDescriptor "(I)Ljava/lang/String;" = some ⟨[.int], some (.object "java/lang/String")⟩ from by decide +kernel) rfl) (by show 2 * 0 + _ ≤ _; exact Nat.le_of_eq rfl) (by decide) (by decide) rfl ?_
    rintro v47 T47 vm47 h47 L47 ⟨r47, rfl, N47q, E47, gr47, St47⟩ P47 H47 hr47
    have N47 := Fr.app N31 N47q
    show Own.Goes _ _ _ _ (T47.setTop (mkF m 36 #[.val (.int x0), .val (.int x1), .val (.int x2), .val (.int x3), .val (.int x4), .val (.ref a21), .val (.int (x4 &&& (3 : Int32))), .unset, .unset] [(.ref r47), (.ref a42), (.ref a42)]))
    refine Own.iloadN (q := 37) P47 at_36 rfl rfl ?_
    have E0_6_48 : Ext h0 h47 := (Own.Ext.tr E0_5_44 E47)
    refine Own.invStaticH (q := 40) (W := 3) (y := (⟨"lifestack/model/ComponentNameEqualsPinLaw", "str", "(I)Ljava/lang/String;"⟩ : MethodName)) (argsL := [(.int x3)]) (rest := [(.ref r47), (.ref a42), (.ref a42)]) P47 H47 at_37 (hw _ (List.mem_of_getElem? (i := 3) rfl)) (hw _ (List.mem_of_getElem? (i := 4) rfl)) (hw _ (List.mem_of_getElem? (i := 5) rfl)) (hw _ (List.mem_of_getElem? (i := 6) rfl)) (by decide) (Own.backH (W := 3) (rmStr l Z a0 hw [] x3 zc h47 n0 (Nat.le_trans Z0 E0_6_48.1) (SC.ext E0_6_48) hzc) P47.2.2.2.1 (hw _ (List.mem_of_getElem? (i := 6) rfl)) (hw _ (List.mem_of_getElem? (i := 5) rfl)) (by decide) (by decide) (ew hw) H47.2.1 all0) rfl rfl (by rw [hml]; rfl) (lenOf (show parseMethodDescriptor "(I)Ljava/lang/String;" = some ⟨[.int], some (.object "java/lang/String")⟩ from by decide +kernel) rfl) (by show 2 * 0 + _ ≤ _; exact Nat.le_of_eq rfl) (by decide) (by decide) rfl ?_
    rintro v49 T49 vm49 h49 L49 ⟨r49, rfl, N49q, E49, gr49, St49⟩ P49 H49 hr49
    have N49 := Fr.app N47 N49q
    show Own.Goes _ _ _ _ (T49.setTop (mkF m 40 #[.val (.int x0), .val (.int x1), .val (.int x2), .val (.int x3), .val (.int x4), .val (.ref a21), .val (.int (x4 &&& (3 : Int32))), .unset, .unset] [(.ref r49), (.ref r47), (.ref a42), (.ref a42)]))
    have E0_7_50 : Ext h0 h49 := (Own.Ext.tr E0_6_48 E49)
    have E5_6_51 : Ext h42 h47 := E47
    have E5_7_52 : Ext h42 h49 := (Own.Ext.tr E5_6_51 E49)
    have E6_7_53 : Ext h47 h49 := E49
    refine Own.invSpecialH (q := 43) (W := 1) (y := (⟨"lifestack/model/ComponentName", "<init>", "(Ljava/lang/String;Ljava/lang/String;)V"⟩ : MethodName)) (a := a42) (argsL := [(.ref r47), (.ref r49)]) (rest := [(.ref a42)]) P49 H49 at_40 rfl (hw _ (List.mem_of_getElem? (i := 43) rfl)) (hw _ (List.mem_of_getElem? (i := 44) rfl)) (hw _ (List.mem_of_getElem? (i := 45) rfl)) (by decide) (Own.backH (W := 1) (rmCN l Z a0 hw [] a42 r47 r49 (stOf x2) (stOf x3) .null .null .null zc fm h49 n0 (Nat.le_trans Z0 E0_7_50.1) (SC.ext E0_7_50) hzc (SF.ext E0_7_50) hfm (A42.ext E5_7_52) (F42_packageName.ext E5_7_52) (F42_className.ext E5_7_52) (F42_written.ext E5_7_52) (Nat.le_trans Z0 (Nat.le_trans E0_4_43.1 (Nat.le_of_eq ha42.symm))) (St47.ext E6_7_53) St49 (st_len _) (st_len _)) P49.2.2.2.1 (hw _ (List.mem_of_getElem? (i := 45) rfl)) (hw _ (List.mem_of_getElem? (i := 2) rfl)) (by decide) (by decide) (ew hw) H49.2.1 all0) rfl rfl (by rw [hml]; rfl) (lenOf (show parseMethodDescriptor "(Ljava/lang/String;Ljava/lang/String;)V" = some ⟨[(.object "java/lang/String"), (.object "java/lang/String")], none⟩ from by decide +kernel) rfl) (by show 2 * 0 + _ ≤ _; exact Nat.le_of_eq rfl) (by decide) (by decide) rfl ?_
    rintro v54 T54 vm54 h54 L54 ⟨r54, cw54, rfl, N54q, K54, G54, F54a, F54b, F54c, St54⟩ P54 H54 hr54
    have N54 := Fr.app N49 N54q
    show Own.Goes _ _ _ _ (T54.setTop (mkF m 43 #[.val (.int x0), .val (.int x1), .val (.int x2), .val (.int x3), .val (.int x4), .val (.ref a21), .val (.int (x4 &&& (3 : Int32))), .unset, .unset] [(.ref a42)]))
    refine Own.astore (q := 45) (L2 := #[.val (.int x0), .val (.int x1), .val (.int x2), .val (.int x3), .val (.int x4), .val (.ref a21), .val (.int (x4 &&& (3 : Int32))), .val (.ref a42), .unset]) P54 at_43 rfl rfl rfl ?_
    refine Own.iloadN (q := 46) P54 at_45 rfl rfl ?_
    refine Own.iloadN (q := 47) P54 at_46 rfl rfl ?_
    have E0_8_55 : Ext h0 h54 := (Own.Ext.kp E0_7_50 K54 (allS (Nat.le_trans E0_4_43.1 (Nat.le_of_eq ha42.symm)) all0))
    refine Own.invStatic (q := 50) (W := 0) (y := (⟨"lifestack/model/ComponentNameEqualsPinLaw", "same", "(II)Z"⟩ : MethodName)) (argsL := [(.int x0), (.int x2)]) (rest := []) P54 at_47 (hw _ (List.mem_of_getElem? (i := 187) rfl)) (hw _ (List.mem_of_getElem? (i := 188) rfl)) (hw _ (List.mem_of_getElem? (i := 5) rfl)) (hw _ (List.mem_of_getElem? (i := 189) rfl)) (by decide) (backOf (W := 0) (rmSame l Z a0 hw [] x0 x2 h54 n0 (Nat.le_trans Z0 E0_8_55.1) ) P54.2.2.2.1 (hw _ (List.mem_of_getElem? (i := 189) rfl)) (hw _ (List.mem_of_getElem? (i := 5) rfl)) (by decide) (by decide)) rfl rfl (by rw [hml]; rfl) (lenOf (show parseMethodDescriptor "(II)Z" = some ⟨[.int, .int], some .boolean⟩ from by decide +kernel) rfl) (by show 2 * 0 + _ ≤ _; exact Nat.le_of_eq rfl) (by decide) (by decide) rfl ?_
    rintro v56 T56 h56 L56 ⟨rfl, N56q, e56⟩ P56
    rw [e56] at P56
    have N56 := Fr.app N54 N56q
    show Own.Goes _ _ _ _ (T56.setTop (mkF m 50 #[.val (.int x0), .val (.int x1), .val (.int x2), .val (.int x3), .val (.int x4), .val (.ref a21), .val (.int (x4 &&& (3 : Int32))), .val (.ref a42), .unset] [(.int (if stOf x0 = stOf x2 then (1 : Int32) else 0))]))
    refine Own.if_eq (q := 53) (qy := 65) P56 at_50 (by decide) rfl (fun qa => ?_) (fun qa => ?_)
    · have nqa : ¬ (stOf x0 = stOf x2) := fun z => by rw [if_pos z] at qa; exact absurd qa (by decide)
      refine Own.iconst (q := 66) (v := (0 : Int32)) P56 at_65 rfl rfl ?_
      refine Own.istore (q := 68) (L2 := #[.val (.int x0), .val (.int x1), .val (.int x2), .val (.int x3), .val (.int x4), .val (.ref a21), .val (.int (x4 &&& (3 : Int32))), .val (.ref a42), .val (.int (0 : Int32))]) P56 at_66 rfl rfl ?_
      refine Own.aload (q := 70) P56 at_68 rfl rfl rfl ?_
      refine Own.aload (q := 72) P56 at_70 rfl rfl rfl ?_
      have E4_6_57 : Ext h31 h47 := (Own.Ext.tr E4_5_45 E47)
      have E4_7_58 : Ext h31 h49 := (Own.Ext.tr E4_6_57 E49)
      have E4_8_59 : Ext h31 h54 := (Own.Ext.kp E4_7_58 K54 (allS (Nat.le_of_eq ha42.symm) all0))
      have qf60 := (St24.ext E26)
      have qf61 := (Own.Str.kp1 qf60 K31 ((A21.ext E24).ext E26) (by decide) (hw _ (List.mem_of_getElem? (i := 1) rfl)))
      have qf62 := (qf61.ext E4_8_59)
      have qf63 := (Own.Str.kp1 St26 K31 ((A21.ext E24).ext E26) (by decide) (hw _ (List.mem_of_getElem? (i := 1) rfl)))
      have qf64 := (qf63.ext E4_8_59)
      have qf65 := (St47.ext E49)
      have qf66 := (Own.Str.kp1 qf65 K54 ((A42.ext E47).ext E49) (by decide) (hw _ (List.mem_of_getElem? (i := 1) rfl)))
      have qf67 := (Own.Str.kp1 St49 K54 ((A42.ext E47).ext E49) (by decide) (hw _ (List.mem_of_getElem? (i := 1) rfl)))
      refine Own.invVirtual (q := 75) (W := 0) (y := (⟨"lifestack/model/ComponentName", "equals", "(Ljava/lang/Object;)Z"⟩ : MethodName)) (a := a21) (argsL := [(.ref a42)]) (rest := []) P56 at_72 (hw _ (List.mem_of_getElem? (i := 190) rfl)) (hw _ (List.mem_of_getElem? (i := 191) rfl)) (hw _ (List.mem_of_getElem? (i := 193) rfl)) (hw _ (List.mem_of_getElem? (i := 192) rfl)) (notFace_of_selects (args := #[]) (mvT P56.2.2.2.1 (hw _ (List.mem_of_getElem? (i := 193) rfl)))) (by decide) (backOf (W := 0) (rmEq2 l Z a0 hw [] a21 a42 r24 r26 r47 r49 (stOf x0) (stOf x1) (stOf x2) (stOf x3) zc h54 n0 (Nat.le_trans Z0 E0_8_55.1) (SC.ext E0_8_55) hzc G54 (F31a.ext E4_8_59) (F31b.ext E4_8_59) F54a F54b qf62 qf64 qf66 qf67) P56.2.2.2.1 (hw _ (List.mem_of_getElem? (i := 194) rfl)) (hw _ (List.mem_of_getElem? (i := 2) rfl)) (by decide) (by decide)) (G31.ext E4_8_59) rfl rfl (by rw [hml]; rfl) (lenOf (show parseMethodDescriptor "(Ljava/lang/Object;)Z" = some ⟨[(.object "java/lang/Object")], some .boolean⟩ from by decide +kernel) rfl) (by show 2 * 0 + _ ≤ _; exact Nat.le_of_eq rfl) (by decide) (by decide) rfl ?_
      rintro v68 T68 h68 L68 ⟨rfl, N68q, e68⟩ P68
      rw [e68] at P68
      have N68 := Fr.app N56 N68q
      show Own.Goes _ _ _ _ (T68.setTop (mkF m 75 #[.val (.int x0), .val (.int x1), .val (.int x2), .val (.int x3), .val (.int x4), .val (.ref a21), .val (.int (x4 &&& (3 : Int32))), .val (.ref a42), .val (.int (0 : Int32))] [(.int (if (stOf x0) = (stOf x2) ∧ (stOf x1) = (stOf x3) then (1 : Int32) else 0))]))
      refine Own.iload (q := 77) P68 at_75 rfl rfl ?_
      refine Own.icmp_ne (q := 80) (qy := 96) P68 at_77 (by decide) rfl (fun q => absurd (if_neg (fun z => nqa z.1)) q) (fun _ => ?_)
      refine Own.aload (q := 82) P68 at_80 rfl rfl rfl ?_
      refine Own.aload (q := 84) P68 at_82 rfl rfl rfl ?_
      refine Own.invVirtual (q := 87) (W := 0) (y := (⟨"lifestack/model/ComponentName", "equals", "(Ljava/lang/Object;)Z"⟩ : MethodName)) (a := a42) (argsL := [(.ref a21)]) (rest := []) P68 at_84 (hw _ (List.mem_of_getElem? (i := 190) rfl)) (hw _ (List.mem_of_getElem? (i := 191) rfl)) (hw _ (List.mem_of_getElem? (i := 193) rfl)) (hw _ (List.mem_of_getElem? (i := 192) rfl)) (notFace_of_selects (args := #[]) (mvT P68.2.2.2.1 (hw _ (List.mem_of_getElem? (i := 193) rfl)))) (by decide) (backOf (W := 0) (rmEq2 l Z a0 hw [] a42 a21 r47 r49 r24 r26 (stOf x2) (stOf x3) (stOf x0) (stOf x1) zc h54 n0 (Nat.le_trans Z0 E0_8_55.1) (SC.ext E0_8_55) hzc (G31.ext E4_8_59) F54a F54b (F31a.ext E4_8_59) (F31b.ext E4_8_59) qf66 qf67 qf62 qf64) P68.2.2.2.1 (hw _ (List.mem_of_getElem? (i := 194) rfl)) (hw _ (List.mem_of_getElem? (i := 2) rfl)) (by decide) (by decide)) G54 rfl rfl (by rw [hml]; rfl) (lenOf (show parseMethodDescriptor "(Ljava/lang/Object;)Z" = some ⟨[(.object "java/lang/Object")], some .boolean⟩ from by decide +kernel) rfl) (by show 2 * 0 + _ ≤ _; exact Nat.le_of_eq rfl) (by decide) (by decide) rfl ?_
      rintro v69 T69 h69 L69 ⟨rfl, N69q, e69⟩ P69
      rw [e69] at P69
      have N69 := Fr.app N68 N69q
      show Own.Goes _ _ _ _ (T69.setTop (mkF m 87 #[.val (.int x0), .val (.int x1), .val (.int x2), .val (.int x3), .val (.int x4), .val (.ref a21), .val (.int (x4 &&& (3 : Int32))), .val (.ref a42), .val (.int (0 : Int32))] [(.int (if (stOf x2) = (stOf x0) ∧ (stOf x3) = (stOf x1) then (1 : Int32) else 0))]))
      refine Own.iload (q := 89) P69 at_87 rfl rfl ?_
      refine Own.icmp_ne (q := 92) (qy := 96) P69 at_89 (by decide) rfl (fun q => absurd (if_neg (fun z => nqa z.1.symm)) q) (fun _ => ?_)
      refine Own.iconst (q := 93) (v := (1 : Int32)) P69 at_92 rfl rfl ?_
      refine Own.goto (q := 97) P69 at_93 (by decide) ?_
      refine Own.retZH (Q := QrmLaw Z x0 x1 x2 x3 x4 zc fm h0 n0) P69 hh (ew hw) H54 at_97 hret (by simp) hlk (by decide) (by decide) ?_
      exact ⟨rfl, N69⟩
    · have yqa : stOf x0 = stOf x2 := Decidable.of_not_not fun z => qa (if_neg z)
      refine Own.iloadN (q := 54) P56 at_53 rfl rfl ?_
      refine Own.iloadN (q := 55) P56 at_54 rfl rfl ?_
      refine Own.invStatic (q := 58) (W := 0) (y := (⟨"lifestack/model/ComponentNameEqualsPinLaw", "same", "(II)Z"⟩ : MethodName)) (argsL := [(.int x1), (.int x3)]) (rest := []) P56 at_55 (hw _ (List.mem_of_getElem? (i := 187) rfl)) (hw _ (List.mem_of_getElem? (i := 188) rfl)) (hw _ (List.mem_of_getElem? (i := 5) rfl)) (hw _ (List.mem_of_getElem? (i := 189) rfl)) (by decide) (backOf (W := 0) (rmSame l Z a0 hw [] x1 x3 h54 n0 (Nat.le_trans Z0 E0_8_55.1) ) P56.2.2.2.1 (hw _ (List.mem_of_getElem? (i := 189) rfl)) (hw _ (List.mem_of_getElem? (i := 5) rfl)) (by decide) (by decide)) rfl rfl (by rw [hml]; rfl) (lenOf (show parseMethodDescriptor "(II)Z" = some ⟨[.int, .int], some .boolean⟩ from by decide +kernel) rfl) (by show 2 * 0 + _ ≤ _; exact Nat.le_of_eq rfl) (by decide) (by decide) rfl ?_
      rintro v70 T70 h70 L70 ⟨rfl, N70q, e70⟩ P70
      rw [e70] at P70
      have N70 := Fr.app N56 N70q
      show Own.Goes _ _ _ _ (T70.setTop (mkF m 58 #[.val (.int x0), .val (.int x1), .val (.int x2), .val (.int x3), .val (.int x4), .val (.ref a21), .val (.int (x4 &&& (3 : Int32))), .val (.ref a42), .unset] [(.int (if stOf x1 = stOf x3 then (1 : Int32) else 0))]))
      refine Own.if_eq (q := 61) (qy := 65) P70 at_58 (by decide) rfl (fun qb => ?_) (fun qb => ?_)
      · have nqb : ¬ (stOf x1 = stOf x3) := fun z => by rw [if_pos z] at qb; exact absurd qb (by decide)
        refine Own.iconst (q := 66) (v := (0 : Int32)) P70 at_65 rfl rfl ?_
        refine Own.istore (q := 68) (L2 := #[.val (.int x0), .val (.int x1), .val (.int x2), .val (.int x3), .val (.int x4), .val (.ref a21), .val (.int (x4 &&& (3 : Int32))), .val (.ref a42), .val (.int (0 : Int32))]) P70 at_66 rfl rfl ?_
        refine Own.aload (q := 70) P70 at_68 rfl rfl rfl ?_
        refine Own.aload (q := 72) P70 at_70 rfl rfl rfl ?_
        have E4_6_71 : Ext h31 h47 := (Own.Ext.tr E4_5_45 E47)
        have E4_7_72 : Ext h31 h49 := (Own.Ext.tr E4_6_71 E49)
        have E4_8_73 : Ext h31 h54 := (Own.Ext.kp E4_7_72 K54 (allS (Nat.le_of_eq ha42.symm) all0))
        have qf74 := (St24.ext E26)
        have qf75 := (Own.Str.kp1 qf74 K31 ((A21.ext E24).ext E26) (by decide) (hw _ (List.mem_of_getElem? (i := 1) rfl)))
        have qf76 := (qf75.ext E4_8_73)
        have qf77 := (Own.Str.kp1 St26 K31 ((A21.ext E24).ext E26) (by decide) (hw _ (List.mem_of_getElem? (i := 1) rfl)))
        have qf78 := (qf77.ext E4_8_73)
        have qf79 := (St47.ext E49)
        have qf80 := (Own.Str.kp1 qf79 K54 ((A42.ext E47).ext E49) (by decide) (hw _ (List.mem_of_getElem? (i := 1) rfl)))
        have qf81 := (Own.Str.kp1 St49 K54 ((A42.ext E47).ext E49) (by decide) (hw _ (List.mem_of_getElem? (i := 1) rfl)))
        refine Own.invVirtual (q := 75) (W := 0) (y := (⟨"lifestack/model/ComponentName", "equals", "(Ljava/lang/Object;)Z"⟩ : MethodName)) (a := a21) (argsL := [(.ref a42)]) (rest := []) P70 at_72 (hw _ (List.mem_of_getElem? (i := 190) rfl)) (hw _ (List.mem_of_getElem? (i := 191) rfl)) (hw _ (List.mem_of_getElem? (i := 193) rfl)) (hw _ (List.mem_of_getElem? (i := 192) rfl)) (notFace_of_selects (args := #[]) (mvT P70.2.2.2.1 (hw _ (List.mem_of_getElem? (i := 193) rfl)))) (by decide) (backOf (W := 0) (rmEq2 l Z a0 hw [] a21 a42 r24 r26 r47 r49 (stOf x0) (stOf x1) (stOf x2) (stOf x3) zc h54 n0 (Nat.le_trans Z0 E0_8_55.1) (SC.ext E0_8_55) hzc G54 (F31a.ext E4_8_73) (F31b.ext E4_8_73) F54a F54b qf76 qf78 qf80 qf81) P70.2.2.2.1 (hw _ (List.mem_of_getElem? (i := 194) rfl)) (hw _ (List.mem_of_getElem? (i := 2) rfl)) (by decide) (by decide)) (G31.ext E4_8_73) rfl rfl (by rw [hml]; rfl) (lenOf (show parseMethodDescriptor "(Ljava/lang/Object;)Z" = some ⟨[(.object "java/lang/Object")], some .boolean⟩ from by decide +kernel) rfl) (by show 2 * 0 + _ ≤ _; exact Nat.le_of_eq rfl) (by decide) (by decide) rfl ?_
        rintro v82 T82 h82 L82 ⟨rfl, N82q, e82⟩ P82
        rw [e82] at P82
        have N82 := Fr.app N70 N82q
        show Own.Goes _ _ _ _ (T82.setTop (mkF m 75 #[.val (.int x0), .val (.int x1), .val (.int x2), .val (.int x3), .val (.int x4), .val (.ref a21), .val (.int (x4 &&& (3 : Int32))), .val (.ref a42), .val (.int (0 : Int32))] [(.int (if (stOf x0) = (stOf x2) ∧ (stOf x1) = (stOf x3) then (1 : Int32) else 0))]))
        refine Own.iload (q := 77) P82 at_75 rfl rfl ?_
        refine Own.icmp_ne (q := 80) (qy := 96) P82 at_77 (by decide) rfl (fun q => absurd (if_neg (fun z => nqb z.2)) q) (fun _ => ?_)
        refine Own.aload (q := 82) P82 at_80 rfl rfl rfl ?_
        refine Own.aload (q := 84) P82 at_82 rfl rfl rfl ?_
        refine Own.invVirtual (q := 87) (W := 0) (y := (⟨"lifestack/model/ComponentName", "equals", "(Ljava/lang/Object;)Z"⟩ : MethodName)) (a := a42) (argsL := [(.ref a21)]) (rest := []) P82 at_84 (hw _ (List.mem_of_getElem? (i := 190) rfl)) (hw _ (List.mem_of_getElem? (i := 191) rfl)) (hw _ (List.mem_of_getElem? (i := 193) rfl)) (hw _ (List.mem_of_getElem? (i := 192) rfl)) (notFace_of_selects (args := #[]) (mvT P82.2.2.2.1 (hw _ (List.mem_of_getElem? (i := 193) rfl)))) (by decide) (backOf (W := 0) (rmEq2 l Z a0 hw [] a42 a21 r47 r49 r24 r26 (stOf x2) (stOf x3) (stOf x0) (stOf x1) zc h54 n0 (Nat.le_trans Z0 E0_8_55.1) (SC.ext E0_8_55) hzc (G31.ext E4_8_73) F54a F54b (F31a.ext E4_8_73) (F31b.ext E4_8_73) qf80 qf81 qf76 qf78) P82.2.2.2.1 (hw _ (List.mem_of_getElem? (i := 194) rfl)) (hw _ (List.mem_of_getElem? (i := 2) rfl)) (by decide) (by decide)) G54 rfl rfl (by rw [hml]; rfl) (lenOf (show parseMethodDescriptor "(Ljava/lang/Object;)Z" = some ⟨[(.object "java/lang/Object")], some .boolean⟩ from by decide +kernel) rfl) (by show 2 * 0 + _ ≤ _; exact Nat.le_of_eq rfl) (by decide) (by decide) rfl ?_
        rintro v83 T83 h83 L83 ⟨rfl, N83q, e83⟩ P83
        rw [e83] at P83
        have N83 := Fr.app N82 N83q
        show Own.Goes _ _ _ _ (T83.setTop (mkF m 87 #[.val (.int x0), .val (.int x1), .val (.int x2), .val (.int x3), .val (.int x4), .val (.ref a21), .val (.int (x4 &&& (3 : Int32))), .val (.ref a42), .val (.int (0 : Int32))] [(.int (if (stOf x2) = (stOf x0) ∧ (stOf x3) = (stOf x1) then (1 : Int32) else 0))]))
        refine Own.iload (q := 89) P83 at_87 rfl rfl ?_
        refine Own.icmp_ne (q := 92) (qy := 96) P83 at_89 (by decide) rfl (fun q => absurd (if_neg (fun z => nqb z.2.symm)) q) (fun _ => ?_)
        refine Own.iconst (q := 93) (v := (1 : Int32)) P83 at_92 rfl rfl ?_
        refine Own.goto (q := 97) P83 at_93 (by decide) ?_
        refine Own.retZH (Q := QrmLaw Z x0 x1 x2 x3 x4 zc fm h0 n0) P83 hh (ew hw) H54 at_97 hret (by simp) hlk (by decide) (by decide) ?_
        exact ⟨rfl, N83⟩
      · have yqb : stOf x1 = stOf x3 := Decidable.of_not_not fun z => qb (if_neg z)
        refine Own.iconst (q := 62) (v := (1 : Int32)) P70 at_61 rfl rfl ?_
        refine Own.goto (q := 66) P70 at_62 (by decide) ?_
        refine Own.istore (q := 68) (L2 := #[.val (.int x0), .val (.int x1), .val (.int x2), .val (.int x3), .val (.int x4), .val (.ref a21), .val (.int (x4 &&& (3 : Int32))), .val (.ref a42), .val (.int (1 : Int32))]) P70 at_66 rfl rfl ?_
        refine Own.aload (q := 70) P70 at_68 rfl rfl rfl ?_
        refine Own.aload (q := 72) P70 at_70 rfl rfl rfl ?_
        have E4_6_84 : Ext h31 h47 := (Own.Ext.tr E4_5_45 E47)
        have E4_7_85 : Ext h31 h49 := (Own.Ext.tr E4_6_84 E49)
        have E4_8_86 : Ext h31 h54 := (Own.Ext.kp E4_7_85 K54 (allS (Nat.le_of_eq ha42.symm) all0))
        have qf87 := (St24.ext E26)
        have qf88 := (Own.Str.kp1 qf87 K31 ((A21.ext E24).ext E26) (by decide) (hw _ (List.mem_of_getElem? (i := 1) rfl)))
        have qf89 := (qf88.ext E4_8_86)
        have qf90 := (Own.Str.kp1 St26 K31 ((A21.ext E24).ext E26) (by decide) (hw _ (List.mem_of_getElem? (i := 1) rfl)))
        have qf91 := (qf90.ext E4_8_86)
        have qf92 := (St47.ext E49)
        have qf93 := (Own.Str.kp1 qf92 K54 ((A42.ext E47).ext E49) (by decide) (hw _ (List.mem_of_getElem? (i := 1) rfl)))
        have qf94 := (Own.Str.kp1 St49 K54 ((A42.ext E47).ext E49) (by decide) (hw _ (List.mem_of_getElem? (i := 1) rfl)))
        refine Own.invVirtual (q := 75) (W := 0) (y := (⟨"lifestack/model/ComponentName", "equals", "(Ljava/lang/Object;)Z"⟩ : MethodName)) (a := a21) (argsL := [(.ref a42)]) (rest := []) P70 at_72 (hw _ (List.mem_of_getElem? (i := 190) rfl)) (hw _ (List.mem_of_getElem? (i := 191) rfl)) (hw _ (List.mem_of_getElem? (i := 193) rfl)) (hw _ (List.mem_of_getElem? (i := 192) rfl)) (notFace_of_selects (args := #[]) (mvT P70.2.2.2.1 (hw _ (List.mem_of_getElem? (i := 193) rfl)))) (by decide) (backOf (W := 0) (rmEq2 l Z a0 hw [] a21 a42 r24 r26 r47 r49 (stOf x0) (stOf x1) (stOf x2) (stOf x3) zc h54 n0 (Nat.le_trans Z0 E0_8_55.1) (SC.ext E0_8_55) hzc G54 (F31a.ext E4_8_86) (F31b.ext E4_8_86) F54a F54b qf89 qf91 qf93 qf94) P70.2.2.2.1 (hw _ (List.mem_of_getElem? (i := 194) rfl)) (hw _ (List.mem_of_getElem? (i := 2) rfl)) (by decide) (by decide)) (G31.ext E4_8_86) rfl rfl (by rw [hml]; rfl) (lenOf (show parseMethodDescriptor "(Ljava/lang/Object;)Z" = some ⟨[(.object "java/lang/Object")], some .boolean⟩ from by decide +kernel) rfl) (by show 2 * 0 + _ ≤ _; exact Nat.le_of_eq rfl) (by decide) (by decide) rfl ?_
        rintro v95 T95 h95 L95 ⟨rfl, N95q, e95⟩ P95
        rw [e95] at P95
        have N95 := Fr.app N70 N95q
        show Own.Goes _ _ _ _ (T95.setTop (mkF m 75 #[.val (.int x0), .val (.int x1), .val (.int x2), .val (.int x3), .val (.int x4), .val (.ref a21), .val (.int (x4 &&& (3 : Int32))), .val (.ref a42), .val (.int (1 : Int32))] [(.int (if (stOf x0) = (stOf x2) ∧ (stOf x1) = (stOf x3) then (1 : Int32) else 0))]))
        refine Own.iload (q := 77) P95 at_75 rfl rfl ?_
        refine Own.icmp_ne (q := 80) (qy := 96) P95 at_77 (by decide) rfl (fun q => absurd (if_pos ⟨yqa, yqb⟩) q) (fun _ => ?_)
        refine Own.aload (q := 82) P95 at_80 rfl rfl rfl ?_
        refine Own.aload (q := 84) P95 at_82 rfl rfl rfl ?_
        refine Own.invVirtual (q := 87) (W := 0) (y := (⟨"lifestack/model/ComponentName", "equals", "(Ljava/lang/Object;)Z"⟩ : MethodName)) (a := a42) (argsL := [(.ref a21)]) (rest := []) P95 at_84 (hw _ (List.mem_of_getElem? (i := 190) rfl)) (hw _ (List.mem_of_getElem? (i := 191) rfl)) (hw _ (List.mem_of_getElem? (i := 193) rfl)) (hw _ (List.mem_of_getElem? (i := 192) rfl)) (notFace_of_selects (args := #[]) (mvT P95.2.2.2.1 (hw _ (List.mem_of_getElem? (i := 193) rfl)))) (by decide) (backOf (W := 0) (rmEq2 l Z a0 hw [] a42 a21 r47 r49 r24 r26 (stOf x2) (stOf x3) (stOf x0) (stOf x1) zc h54 n0 (Nat.le_trans Z0 E0_8_55.1) (SC.ext E0_8_55) hzc (G31.ext E4_8_86) F54a F54b (F31a.ext E4_8_86) (F31b.ext E4_8_86) qf93 qf94 qf89 qf91) P95.2.2.2.1 (hw _ (List.mem_of_getElem? (i := 194) rfl)) (hw _ (List.mem_of_getElem? (i := 2) rfl)) (by decide) (by decide)) G54 rfl rfl (by rw [hml]; rfl) (lenOf (show parseMethodDescriptor "(Ljava/lang/Object;)Z" = some ⟨[(.object "java/lang/Object")], some .boolean⟩ from by decide +kernel) rfl) (by show 2 * 0 + _ ≤ _; exact Nat.le_of_eq rfl) (by decide) (by decide) rfl ?_
        rintro v96 T96 h96 L96 ⟨rfl, N96q, e96⟩ P96
        rw [e96] at P96
        have N96 := Fr.app N95 N96q
        show Own.Goes _ _ _ _ (T96.setTop (mkF m 87 #[.val (.int x0), .val (.int x1), .val (.int x2), .val (.int x3), .val (.int x4), .val (.ref a21), .val (.int (x4 &&& (3 : Int32))), .val (.ref a42), .val (.int (1 : Int32))] [(.int (if (stOf x2) = (stOf x0) ∧ (stOf x3) = (stOf x1) then (1 : Int32) else 0))]))
        refine Own.iload (q := 89) P96 at_87 rfl rfl ?_
        refine Own.icmp_ne (q := 92) (qy := 96) P96 at_89 (by decide) rfl (fun q => absurd (if_pos ⟨yqa.symm, yqb.symm⟩) q) (fun _ => ?_)
        refine Own.iconst (q := 93) (v := (1 : Int32)) P96 at_92 rfl rfl ?_
        refine Own.goto (q := 97) P96 at_93 (by decide) ?_
        refine Own.retZH (Q := QrmLaw Z x0 x1 x2 x3 x4 zc fm h0 n0) P96 hh (ew hw) H54 at_97 hret (by simp) hlk (by decide) (by decide) ?_
        exact ⟨rfl, N96⟩
set_option maxRecDepth 65536 in
set_option maxHeartbeats 40000000 in
theorem comes_1 {Post : Tables → Env → Array Value → State → Outcome → State → Prop} (hpost : ∀ tb e args s v u, (limb_1_1.after args s (.returned v) u = true ∧ limb_1_2.after args s (.returned v) u = true ∧ True) → ReturnedEndW s (.returned v) u (Jvm.fieldLocs frame_1_writes args s ++ Jvm.arrayLocs frame_1_arrays args s ++ Jvm.staticLocs frame_1_statics s) 64 3392 → Post tb e args s (.returned v) u) :
    ArmFor flags0 classFile x code maxLocals ret World_1 tables_1 room_1 Calls_1 rest_1 Pre_1 Post := by
  intro l hfl _ _ p e ha hc hk s m args below hf hA hF happ hP
  obtain ⟨hcalls, hrest, hpre⟩ := hP
  obtain ⟨-, -, -, hnamed, -, -, -, hat⟩ := (Spec.applies_iff hf).mp happ
  obtain ⟨hg, hn⟩ := and_e (Cond.before_iff.mp (show (Jvm.Cond.and given_1 narrow_1).before args s = true from hpre))
  obtain ⟨hg0, hg1⟩ := and_e hg
  obtain ⟨hi1, hg2⟩ := and_e hg1
  obtain ⟨hi2, hg3⟩ := and_e hg2
  obtain ⟨hi3, hg4⟩ := and_e hg3
  obtain ⟨hi4, hg5⟩ := and_e hg4
  obtain ⟨w0, w1, w2, w3, w4, rfl⟩ : ∃ w0 w1 w2 w3 w4 : Value, args = #[w0, w1, w2, w3, w4] := by
    have hs : args.size = 5 := by simpa [Cond.value, given_1] using hg0
    obtain ⟨L⟩ := args
    match L, hs with
    | [w0, w1, w2, w3, w4], _ => exact ⟨w0, w1, w2, w3, w4, rfl⟩
  have hw := fun d (hd : d ∈ tables_1) => atoms_spec (ws := Jvm.Cond.code x code maxLocals ret :: tables_1) hat d (List.mem_cons_of_mem _ hd)
  obtain ⟨hsets, hown0⟩ := atoms_of _ (rest_1_c_eq ▸ (show rest_1_c.before _ s = true from hrest))
  have hfit : Fit s := fun {y c} hc i hi => by
    obtain ⟨ha, rfl⟩ := Array.getElem?_eq_some_iff.mp hc
    have q := List.all_eq_true.mp ((Array.all_eq_true_iff_forall_mem.mp hF) _ (Array.getElem_mem ha)) i (List.mem_range.mpr hi)
    simpa [Array.getElem?_eq_getElem hi] using q
  obtain ⟨i0, ei0⟩ := is_v hi1
  obtain rfl : w0 = (.int i0) := Option.some.inj ei0
  obtain ⟨i1, ei1⟩ := is_v hi2
  obtain rfl : w1 = (.int i1) := Option.some.inj ei1
  obtain ⟨i2, ei2⟩ := is_v hi3
  obtain rfl : w2 = (.int i2) := Option.some.inj ei2
  obtain ⟨i3, ei3⟩ := is_v hi4
  obtain rfl : w3 = (.int i3) := Option.some.inj ei3
  obtain ⟨i4, ei4⟩ := is_v hg5
  obtain rfl : w4 = (.int i4) := Option.some.inj ei4
  have n5 := not_v (Cond.before_iff.mp (hsets _ (List.mem_of_getElem? (i := 2) rfl)))
  obtain ⟨zc, ezc⟩ := is_v (Cond.before_iff.mp (hsets _ (List.mem_of_getElem? (i := 1) rfl)))
  have SC : Sta s s.heap "java/lang/String" "COMPACT_STRINGS" "Z" (.int zc) := Sta.start ezc (Or.inl (hsets _ (List.mem_of_getElem? (i := 0) rfl)))
  have hzc : ¬ (zc = (0 : Int32)) := gotF (Cond.eq_ints ezc (Term.int_eval (0))) n5
  obtain ⟨fm, efm, rfm⟩ := isR_v (Cond.before_iff.mp (hsets _ (List.mem_of_getElem? (i := 8) rfl)))
  have SF : Sta s s.heap "jdk/internal/util/Preconditions" "SIOOBE_FORMATTER" "Ljava/util/function/BiFunction;" fm := Sta.start efm (Or.inl (hsets _ (List.mem_of_getElem? (i := 7) rfl)))

  have hCH : CHv s EL s.vm s.heap := CHv.start (ew hw) (fun p hp => hcalls.1 p hp) (a0 := #[.int i0, .int i1, .int i2, .int i3, .int i4]) (hsets _ (List.mem_of_getElem? (i := 2) rfl)) (hw _ (List.mem_of_getElem? (i := 22) rfl)) (hw _ (List.mem_of_getElem? (i := 9) rfl))
  obtain ⟨n, o, h1, h2, h3, _, L, rfl, ⟨rfl, N⟩, -, hq⟩ := rmLaw l s _ hw tables_1 i0 i1 i2 i3 i4 zc fm s.heap s.heap.size (Nat.le_refl _) SC hzc SF rfm p e ha hc hk s m _ below hf ((Spec.applies_iff_loose hf).mp happ).1 ⟨rfl, State.Warmed39.refl s, rfl, hCH, fun _ q => nomatch q⟩ trivial
  refine ⟨n, _, h1, h2, h3, hpost _ _ _ _ _ _ ⟨Cond.after_iff.mpr rfl, Cond.after_iff.mpr (eq_i res_at (Term.int_eval (1)) rfl), trivial⟩ ⟨hq.1, hq.2.1, hq.2.2.1, (hq.2.2.2.sift fun y hy => Or.inr (N y hy)).mono (by decide) (by decide)⟩⟩
theorem main_1_1 : Claimed_1_1 := comes_1 fun _ _ _ _ _ _ h hF => ⟨h.1, hF⟩
theorem main_1_2 : Claimed_1_2 := comes_1 fun _ _ _ _ _ _ h hF => ⟨h.2.1, hF⟩
end Jvm.Pilot.@@N@@
namespace Jvm.Pilot.@@N@@
open Jvm Jvm.ClassFile Sem Op Lib Jvm.Free Jvm.Stand Jvm.Pilot.@@N@@.Jvm.D
/-! MADE BY PROGRAM (witnessworld.py) out of the Statement's table words and the real class files: 27 classes; the members and pool entries that the words name. The judged class is class 1, her method 4. -/
namespace start1
open Jvm.ClassFile
def u (s : String) : CpInfo := .utf8 (stringToUtf16 s)
/-- a pool by its gaps: so many unusable entries, then the entry; so many at the end -/
def gap : Nat → List CpInfo → List CpInfo
  | 0, r => r
  | n + 1, r => .unusable :: gap n r
def poolList (es : List (Nat × CpInfo)) (last : Nat) : List CpInfo := es.foldr (fun e r => gap e.1 (e.2 :: r)) (gap last [])
def pool (es : List (Nat × CpInfo)) (last : Nat) : Array CpInfo := ⟨poolList es last⟩
def fileOf (pool : Array CpInfo) (this : Nat) (attrs : Array Attribute := #[]) (ms : Array MethodInfo := #[]) (fl : Nat := 33) (sup : Nat := 0) (ifs : Array Nat := #[]) (fds : Array FieldInfo := #[]) : ClassFile where
  minorVersion := 0
  majorVersion := 65
  constantPool := pool
  accessFlags := fl
  thisClass := this
  superClass := sup
  interfaces := ifs
  fields := fds
  methods := ms
  attributes := attrs
def plain (name : String) (sup : Option ClassId) : Class where
  name := name
  kind := .ordinary
  loader := none
  accessFlags := 33
  super := sup
  interfaces := #[]
  cf := none
  fields := #[]
  methods := #[]
  instanceTypes := #[]
  staticTypes := #[]
  resolved := #[]
  callSites := []
  init := .initialized
  statics := none
  mirror := none

def pool0 : Array CpInfo := pool [(5, u "<init>"), (0, u "()V"), (1, .class_ 10), (1, u "java/lang/Object")] 113

def k0c0 : Code := { maxStack := 0, maxLocals := 1, code := object_method_1_code, exceptionTable := #[], attributes := #[] }
def k0m0 : Method := { name := "<init>", desc := "()V", sig := { parameters := [], returnType := none }, accessFlags := 1, code := some k0c0 }
/-- java/lang/Object -/
def k0 : Class := { plain "java/lang/Object" none with
  accessFlags := 33
  interfaces := #[]
  cf := some (fileOf pool0 8 #[] #[{ accessFlags := 1, nameIndex := 5, descriptorIndex := 6, attributes := #[] }] 33 0 #[] #[])
  fields := #[]
  methods := #[k0m0]
  instanceTypes := #[]
  staticTypes := #[]
  resolved := Array.replicate 124 none
  statics := none }

def pool1 : Array CpInfo := pool [(2, .class_ 4), (1, u "java/lang/Object"), (0, u "<init>"), (0, u "()V"), (0, .methodref 8 9), (0, .class_ 10), (0, .nameAndType 11 12), (0, u "lifestack/model/ComponentNameEqualsPinLaw"), (0, u "ch"), (0, u "(I)C"), (0, .class_ 14), (0, u "java/lang/String"), (0, .methodref 13 16), (0, .nameAndType 5 17), (0, u "([C)V"), (0, .class_ 19), (0, u "lifestack/model/ComponentName"), (0, .methodref 8 21), (0, .nameAndType 22 23), (0, u "str"), (0, u "(I)Ljava/lang/String;"), (0, .methodref 18 25), (0, .nameAndType 5 26), (0, u "(Ljava/lang/String;Ljava/lang/String;)V"), (0, .methodref 8 28), (0, .nameAndType 29 30), (0, u "same"), (0, u "(II)Z"), (0, .methodref 18 32), (0, .nameAndType 33 34), (0, u "equals"), (0, u "(Ljava/lang/Object;)Z"), (0, .methodref 18 36), (0, .nameAndType 37 38), (0, u "toString"), (0, u "()Ljava/lang/String;"), (5, u "law"), (0, u "(IIIII)Z")] 2

def k1m0 : Method := { name := "<init>", desc := "()V", sig := { parameters := [], returnType := none }, accessFlags := 1, code := none }
def k1c1 : Code := { maxStack := 2, maxLocals := 2, code := method_2_code, exceptionTable := #[], attributes := #[] }
def k1m1 : Method := { name := "ch", desc := "(I)C", sig := { parameters := [.int], returnType := some .char }, accessFlags := 10, code := some k1c1 }
def k1c2 : Code := { maxStack := 4, maxLocals := 3, code := method_3_code, exceptionTable := #[], attributes := #[] }
def k1m2 : Method := { name := "str", desc := "(I)Ljava/lang/String;", sig := { parameters := [.int], returnType := some (.object "java/lang/String") }, accessFlags := 10, code := some k1c2 }
def k1c3 : Code := { maxStack := 3, maxLocals := 4, code := method_4_code, exceptionTable := #[], attributes := #[] }
def k1m3 : Method := { name := "same", desc := "(II)Z", sig := { parameters := [.int, .int], returnType := some .boolean }, accessFlags := 10, code := some k1c3 }
def k1c4 : Code := { maxStack := 4, maxLocals := 9, code := code, exceptionTable := #[], attributes := #[] }
def k1m4 : Method := { name := "law", desc := "(IIIII)Z", sig := { parameters := [.int, .int, .int, .int, .int], returnType := some .boolean }, accessFlags := 9, code := some k1c4 }
/-- lifestack/model/ComponentNameEqualsPinLaw -/
def k1 : Class := { plain "lifestack/model/ComponentNameEqualsPinLaw" (some 0) with
  accessFlags := 49
  interfaces := #[]
  cf := some (fileOf pool1 8 #[] #[{ accessFlags := 1, nameIndex := 5, descriptorIndex := 6, attributes := #[] }, { accessFlags := 10, nameIndex := 11, descriptorIndex := 12, attributes := #[] }, { accessFlags := 10, nameIndex := 22, descriptorIndex := 23, attributes := #[] }, { accessFlags := 10, nameIndex := 29, descriptorIndex := 30, attributes := #[] }, { accessFlags := 9, nameIndex := 44, descriptorIndex := 45, attributes := #[] }] 49 2 #[] #[])
  fields := #[]
  methods := #[k1m0, k1m1, k1m2, k1m3, k1m4]
  instanceTypes := #[]
  staticTypes := #[]
  resolved := Array.replicate 48 none
  statics := none }

def pool2 : Array CpInfo := pool [(1, .methodref 2 3), (0, .class_ 4), (0, .nameAndType 5 6), (0, u "java/lang/Object"), (0, u "<init>"), (0, u "()V"), (0, .methodref 8 9), (0, .class_ 10), (0, .nameAndType 11 12), (0, u "java/util/Objects"), (0, u "requireNonNull"), (0, u "(Ljava/lang/Object;)Ljava/lang/Object;"), (0, .class_ 14), (0, u "java/lang/String"), (0, .fieldref 16 17), (0, .class_ 18), (0, .nameAndType 19 20), (0, u "lifestack/model/ComponentName"), (0, u "packageName"), (0, u "Ljava/lang/String;"), (0, .fieldref 16 22), (0, .nameAndType 23 20), (0, u "className"), (0, .methodref 13 25), (0, .nameAndType 26 27), (0, u "startsWith"), (0, u "(Ljava/lang/String;)Z"), (0, .string 29), (0, u "."), (0, .methodref 13 31), (0, .nameAndType 32 33), (0, u "length"), (0, u "()I"), (0, .methodref 13 35), (0, .nameAndType 26 36), (0, u "(Ljava/lang/String;I)Z"), (0, .class_ 38), (0, u "java/lang/StringBuilder"), (0, .methodref 37 3), (0, .methodref 37 41), (0, .nameAndType 42 43), (0, u "append"), (0, u "(Ljava/lang/String;)Ljava/lang/StringBuilder;"), (0, .string 45), (0, u "/"), (0, .methodref 13 47), (0, .nameAndType 48 49), (0, u "substring"), (0, u "(I)Ljava/lang/String;"), (0, .methodref 37 51), (0, .nameAndType 52 53), (0, u "toString"), (0, u "()Ljava/lang/String;"), (0, .fieldref 16 55), (0, .nameAndType 56 20), (0, u "written"), (15, u "(Ljava/lang/String;Ljava/lang/String;)V"), (4, .methodref 13 78), (0, .nameAndType 79 80), (0, u "equals"), (0, u "(Ljava/lang/Object;)Z")] 12

def k2c0 : Code := { maxStack := 4, maxLocals := 4, code := prog_32_method_1_code, exceptionTable := #[], attributes := #[] }
def k2m0 : Method := { name := "<init>", desc := "(Ljava/lang/String;Ljava/lang/String;)V", sig := { parameters := [(.object "java/lang/String"), (.object "java/lang/String")], returnType := none }, accessFlags := 1, code := some k2c0 }
def k2c1 : Code := { maxStack := 2, maxLocals := 3, code := prog_32_method_5_code, exceptionTable := #[], attributes := #[] }
def k2m1 : Method := { name := "equals", desc := "(Ljava/lang/Object;)Z", sig := { parameters := [(.object "java/lang/Object")], returnType := some .boolean }, accessFlags := 1, code := some k2c1 }
def k2c2 : Code := { maxStack := 1, maxLocals := 1, code := prog_32_method_7_code, exceptionTable := #[], attributes := #[] }
def k2m2 : Method := { name := "toString", desc := "()Ljava/lang/String;", sig := { parameters := [], returnType := some (.object "java/lang/String") }, accessFlags := 1, code := some k2c2 }
/-- lifestack/model/ComponentName -/
def k2 : Class := { plain "lifestack/model/ComponentName" (some 0) with
  accessFlags := 49
  interfaces := #[]
  cf := some (fileOf pool2 16 #[] #[{ accessFlags := 1, nameIndex := 5, descriptorIndex := 72, attributes := #[] }, { accessFlags := 1, nameIndex := 79, descriptorIndex := 80, attributes := #[] }, { accessFlags := 1, nameIndex := 52, descriptorIndex := 53, attributes := #[] }] 49 2 #[] #[{ accessFlags := 18, nameIndex := 19, descriptorIndex := 20, attributes := #[] }, { accessFlags := 18, nameIndex := 23, descriptorIndex := 20, attributes := #[] }, { accessFlags := 18, nameIndex := 56, descriptorIndex := 20, attributes := #[] }])
  fields := #[{ name := "packageName", type := (.object "java/lang/String"), accessFlags := 18, slot := 0, constantValue := 0 }, { name := "className", type := (.object "java/lang/String"), accessFlags := 18, slot := 1, constantValue := 0 }, { name := "written", type := (.object "java/lang/String"), accessFlags := 18, slot := 2, constantValue := 0 }]
  methods := #[k2m0, k2m1, k2m2]
  instanceTypes := #[(.object "java/lang/String"), (.object "java/lang/String"), (.object "java/lang/String")]
  staticTypes := #[]
  resolved := Array.replicate 93 none
  statics := none }

def pool3 : Array CpInfo := pool [(1, .class_ 2), (0, u "java/io/Serializable"), (0, .class_ 4), (0, u "java/lang/Object")] 2

/-- java/io/Serializable -/
def k3 : Class := { plain "java/io/Serializable" (some 0) with
  accessFlags := 1537
  interfaces := #[]
  cf := some (fileOf pool3 1 #[] #[] 1537 3 #[] #[])
  fields := #[]
  methods := #[]
  instanceTypes := #[]
  staticTypes := #[]
  resolved := Array.replicate 7 none
  statics := none }

def pool4 : Array CpInfo := pool [(1, .class_ 2), (0, u "java/lang/Comparable"), (0, .class_ 4), (0, u "java/lang/Object")] 7

/-- java/lang/Comparable -/
def k4 : Class := { plain "java/lang/Comparable" (some 0) with
  accessFlags := 1537
  interfaces := #[]
  cf := some (fileOf pool4 1 #[] #[] 1537 3 #[] #[])
  fields := #[]
  methods := #[]
  instanceTypes := #[]
  staticTypes := #[]
  resolved := Array.replicate 12 none
  statics := none }

def pool5 : Array CpInfo := pool [(2, .class_ 4), (1, u "java/lang/CharSequence"), (42, .class_ 48), (0, u "java/lang/CharSequence$1CodePointIterator"), (10, .class_ 60), (0, u "java/lang/CharSequence$1CharIterator"), (5, .class_ 67), (0, u "java/lang/Object")] 63

/-- java/lang/CharSequence -/
def k5 : Class := { plain "java/lang/CharSequence" (some 0) with
  accessFlags := 1537
  interfaces := #[]
  cf := some (fileOf pool5 2 #[.nestMembers #[47, 59]] #[] 1537 66 #[] #[])
  fields := #[]
  methods := #[]
  instanceTypes := #[]
  staticTypes := #[]
  resolved := Array.replicate 131 none
  statics := none }

def pool6 : Array CpInfo := pool [(1, .class_ 2), (0, u "java/lang/constant/Constable"), (0, .class_ 4), (0, u "java/lang/Object")] 6

/-- java/lang/constant/Constable -/
def k6 : Class := { plain "java/lang/constant/Constable" (some 0) with
  accessFlags := 1537
  interfaces := #[]
  cf := some (fileOf pool6 1 #[] #[] 1537 3 #[] #[])
  fields := #[]
  methods := #[]
  instanceTypes := #[]
  staticTypes := #[]
  resolved := Array.replicate 11 none
  statics := none }

def pool7 : Array CpInfo := pool [(1, .class_ 2), (0, u "java/lang/constant/ConstantDesc"), (0, .class_ 4), (0, u "java/lang/Object")] 32

/-- java/lang/constant/ConstantDesc -/
def k7 : Class := { plain "java/lang/constant/ConstantDesc" (some 0) with
  accessFlags := 1537
  interfaces := #[]
  cf := some (fileOf pool7 1 #[] #[] 1537 3 #[] #[])
  fields := #[]
  methods := #[]
  instanceTypes := #[]
  staticTypes := #[]
  resolved := Array.replicate 37 none
  statics := none }

def pool8 : Array CpInfo := pool [(1, .methodref 2 3), (0, .class_ 4), (0, .nameAndType 5 6), (0, u "java/lang/Object"), (0, u "<init>"), (0, u "()V"), (0, .string 8), (0, u ""), (0, .fieldref 10 11), (0, .class_ 12), (0, .nameAndType 13 14), (0, u "java/lang/String"), (0, u "value"), (0, u "[B"), (0, .fieldref 10 16), (0, .nameAndType 17 18), (0, u "coder"), (0, u "B"), (2, u "hash"), (0, u "I"), (2, u "hashIsZero"), (0, u "Z"), (0, .methodref 10 28), (0, .nameAndType 5 29), (0, u "([CIILjava/lang/Void;)V"), (8, .fieldref 10 39), (0, .nameAndType 40 26), (0, u "COMPACT_STRINGS"), (1, .class_ 44), (1, u "java/lang/StringUTF16"), (0, u "compress"), (1, .methodref 42 48), (0, .nameAndType 49 50), (0, u "coderFromArrayLen"), (0, u "([BI)B"), (3, .methodref 55 56), (0, .class_ 57), (0, .nameAndType 58 59), (0, u "java/util/Arrays"), (0, u "copyOfRange"), (0, u "([BII)[B"), (47, .class_ 109), (1, u "java/lang/StringLatin1"), (32, u "()Z"), (34, .methodref 42 178), (0, .nameAndType 45 179), (0, u "([CII)[B"), (13, .class_ 195), (1, u "java/lang/System"), (15, u "([BB)V"), (0, .methodref 193 213), (0, .nameAndType 214 215), (0, u "arraycopy"), (0, u "(Ljava/lang/Object;ILjava/lang/Object;II)V"), (118, u "()I"), (0, .methodref 10 336), (0, .nameAndType 17 337), (0, u "()B"), (2, u "()[B"), (35, u "([BI[BII)I"), (112, .methodref 10 490), (0, .nameAndType 5 491), (0, u "(Ljava/lang/AbstractStringBuilder;Ljava/lang/Void;)V"), (0, .methodref 10 493), (0, .nameAndType 494 142), (0, u "isLatin1"), (10, .methodref 10 506), (0, .nameAndType 507 334), (0, u "length"), (5, u "checkFromToIndex"), (7, .methodref 10 522), (0, .nameAndType 523 524), (0, u "checkBoundsBeginEnd"), (0, u "(III)V"), (7, u "getBytes"), (8, .methodref 107 542), (0, .nameAndType 543 544), (0, u "equals"), (0, u "([B[B)Z"), (4, .methodref 550 506), (0, .class_ 551), (0, u "java/lang/AbstractStringBuilder"), (0, .methodref 550 553), (0, .nameAndType 554 340), (0, u "getValue"), (4, .class_ 561), (1, u "jdk/internal/util/ArraysSupport"), (0, u "mismatch"), (10, u "(Ljava/lang/Object;)Z"), (1, .class_ 576), (0, u "java/lang/CharSequence"), (22, u "CASE_INSENSITIVE_ORDER"), (0, u "Ljava/util/Comparator;"), (6, .methodref 559 608), (0, .nameAndType 562 376), (15, .methodref 10 625), (0, .nameAndType 626 627), (0, u "startsWith"), (0, u "(Ljava/lang/String;I)Z"), (53, .methodref 10 682), (0, .nameAndType 683 684), (0, u "substring"), (0, u "(II)Ljava/lang/String;"), (0, .methodref 107 686), (0, .nameAndType 687 688), (0, u "newString"), (0, u "([BII)Ljava/lang/String;"), (132, u "([BIB)V"), (70, u "(I)Ljava/lang/String;"), (117, u "([C)V"), (36, .methodref 550 493), (5, .fieldref 1054 1055), (0, .class_ 1056), (0, .nameAndType 1057 1058), (0, u "jdk/internal/util/Preconditions"), (0, u "SIOOBE_FORMATTER"), (0, u "Ljava/util/function/BiFunction;"), (3, .methodref 1054 1063), (0, .nameAndType 513 1064), (0, u "(IIILjava/util/function/BiFunction;)I"), (36, u "serialPersistentFields"), (0, u "[Ljava/io/ObjectStreamField;"), (0, .class_ 1104), (0, u "java/lang/String$CaseInsensitiveComparator"), (1, .class_ 1107), (0, u "java/io/Serializable"), (0, .class_ 1109), (0, u "java/lang/Comparable"), (0, .class_ 1111), (0, u "java/lang/constant/Constable"), (0, .class_ 1113), (0, u "java/lang/constant/ConstantDesc"), (2, u "serialVersionUID"), (0, u "J"), (3, u "REPL"), (0, u "C"), (2, u "LATIN1"), (1, u "UTF16"), (105, u "(Ljava/lang/StringBuilder;)V"), (23, u "(Ljava/lang/String;)Z")] 193

def k8m0 : Method := { name := "<init>", desc := "()V", sig := { parameters := [], returnType := none }, accessFlags := 1, code := none }
def k8c1 : Code := { maxStack := 5, maxLocals := 2, code := jdk_42_method_3_code, exceptionTable := #[], attributes := #[] }
def k8m1 : Method := { name := "<init>", desc := "([C)V", sig := { parameters := [(.array .char)], returnType := none }, accessFlags := 1, code := some k8c1 }
def k8c2 : Code := { maxStack := 3, maxLocals := 2, code := jdk_42_method_53_code, exceptionTable := #[], attributes := #[] }
def k8m2 : Method := { name := "<init>", desc := "(Ljava/lang/StringBuilder;)V", sig := { parameters := [(.object "java/lang/StringBuilder")], returnType := none }, accessFlags := 1, code := some k8c2 }
def k8c3 : Code := { maxStack := 2, maxLocals := 1, code := jdk_42_method_54_code, exceptionTable := #[], attributes := #[] }
def k8m3 : Method := { name := "length", desc := "()I", sig := { parameters := [], returnType := some .int }, accessFlags := 1, code := some k8c3 }
def k8c4 : Code := { maxStack := 2, maxLocals := 3, code := jdk_42_method_66_code, exceptionTable := #[], attributes := #[] }
def k8m4 : Method := { name := "equals", desc := "(Ljava/lang/Object;)Z", sig := { parameters := [(.object "java/lang/Object")], returnType := some .boolean }, accessFlags := 1, code := some k8c4 }
def k8c5 : Code := { maxStack := 5, maxLocals := 8, code := jdk_42_method_75_code, exceptionTable := #[], attributes := #[] }
def k8m5 : Method := { name := "startsWith", desc := "(Ljava/lang/String;I)Z", sig := { parameters := [(.object "java/lang/String"), .int], returnType := some .boolean }, accessFlags := 1, code := some k8c5 }
def k8c6 : Code := { maxStack := 3, maxLocals := 2, code := jdk_42_method_76_code, exceptionTable := #[], attributes := #[] }
def k8m6 : Method := { name := "startsWith", desc := "(Ljava/lang/String;)Z", sig := { parameters := [(.object "java/lang/String")], returnType := some .boolean }, accessFlags := 1, code := some k8c6 }
def k8c7 : Code := { maxStack := 3, maxLocals := 2, code := jdk_42_method_91_code, exceptionTable := #[], attributes := #[] }
def k8m7 : Method := { name := "substring", desc := "(I)Ljava/lang/String;", sig := { parameters := [.int], returnType := some (.object "java/lang/String") }, accessFlags := 1, code := some k8c7 }
def k8c8 : Code := { maxStack := 3, maxLocals := 5, code := jdk_42_method_92_code, exceptionTable := #[], attributes := #[] }
def k8m8 : Method := { name := "substring", desc := "(II)Ljava/lang/String;", sig := { parameters := [.int, .int], returnType := some (.object "java/lang/String") }, accessFlags := 1, code := some k8c8 }
def k8c9 : Code := { maxStack := 5, maxLocals := 4, code := jdk_42_method_147_code, exceptionTable := #[], attributes := #[] }
def k8m9 : Method := { name := "getBytes", desc := "([BIB)V", sig := { parameters := [(.array .byte), .int, .byte], returnType := none }, accessFlags := 0, code := some k8c9 }
def k8c10 : Code := { maxStack := 4, maxLocals := 6, code := jdk_42_method_149_code, exceptionTable := #[], attributes := #[] }
def k8m10 : Method := { name := "<init>", desc := "([CIILjava/lang/Void;)V", sig := { parameters := [(.array .char), .int, .int, (.object "java/lang/Void")], returnType := none }, accessFlags := 2, code := some k8c10 }
def k8c11 : Code := { maxStack := 5, maxLocals := 5, code := jdk_42_method_150_code, exceptionTable := #[], attributes := #[] }
def k8m11 : Method := { name := "<init>", desc := "(Ljava/lang/AbstractStringBuilder;Ljava/lang/Void;)V", sig := { parameters := [(.object "java/lang/AbstractStringBuilder"), (.object "java/lang/Void")], returnType := none }, accessFlags := 0, code := some k8c11 }
def k8c12 : Code := { maxStack := 2, maxLocals := 3, code := jdk_42_method_151_code, exceptionTable := #[], attributes := #[] }
def k8m12 : Method := { name := "<init>", desc := "([BB)V", sig := { parameters := [(.array .byte), .byte], returnType := none }, accessFlags := 0, code := some k8c12 }
def k8c13 : Code := { maxStack := 1, maxLocals := 1, code := jdk_42_method_152_code, exceptionTable := #[], attributes := #[] }
def k8m13 : Method := { name := "coder", desc := "()B", sig := { parameters := [], returnType := some .byte }, accessFlags := 0, code := some k8c13 }
def k8c14 : Code := { maxStack := 1, maxLocals := 1, code := jdk_42_method_154_code, exceptionTable := #[], attributes := #[] }
def k8m14 : Method := { name := "isLatin1", desc := "()Z", sig := { parameters := [], returnType := some .boolean }, accessFlags := 0, code := some k8c14 }
def k8c15 : Code := { maxStack := 4, maxLocals := 3, code := jdk_42_method_158_code, exceptionTable := #[], attributes := #[] }
def k8m15 : Method := { name := "checkBoundsBeginEnd", desc := "(III)V", sig := { parameters := [.int, .int, .int], returnType := none }, accessFlags := 8, code := some k8c15 }
/-- java/lang/String -/
def k8 : Class := { plain "java/lang/String" (some 0) with
  accessFlags := 49
  interfaces := #[3, 4, 5, 6, 7]
  cf := some (fileOf pool8 10 #[.nestMembers #[1103]] #[{ accessFlags := 1, nameIndex := 5, descriptorIndex := 6, attributes := #[] }, { accessFlags := 1, nameIndex := 5, descriptorIndex := 1010, attributes := #[] }, { accessFlags := 1, nameIndex := 5, descriptorIndex := 1233, attributes := #[] }, { accessFlags := 1, nameIndex := 507, descriptorIndex := 334, attributes := #[] }, { accessFlags := 1, nameIndex := 543, descriptorIndex := 573, attributes := #[] }, { accessFlags := 1, nameIndex := 626, descriptorIndex := 627, attributes := #[] }, { accessFlags := 1, nameIndex := 626, descriptorIndex := 1257, attributes := #[] }, { accessFlags := 1, nameIndex := 683, descriptorIndex := 892, attributes := #[] }, { accessFlags := 1, nameIndex := 683, descriptorIndex := 684, attributes := #[] }, { accessFlags := 0, nameIndex := 532, descriptorIndex := 821, attributes := #[] }, { accessFlags := 2, nameIndex := 5, descriptorIndex := 29, attributes := #[] }, { accessFlags := 0, nameIndex := 5, descriptorIndex := 491, attributes := #[] }, { accessFlags := 0, nameIndex := 5, descriptorIndex := 211, attributes := #[] }, { accessFlags := 0, nameIndex := 17, descriptorIndex := 337, attributes := #[] }, { accessFlags := 0, nameIndex := 494, descriptorIndex := 142, attributes := #[] }, { accessFlags := 8, nameIndex := 523, descriptorIndex := 524, attributes := #[] }] 49 2 #[1106, 1108, 575, 1110, 1112] #[{ accessFlags := 18, nameIndex := 13, descriptorIndex := 14, attributes := #[] }, { accessFlags := 18, nameIndex := 17, descriptorIndex := 18, attributes := #[] }, { accessFlags := 2, nameIndex := 21, descriptorIndex := 22, attributes := #[] }, { accessFlags := 2, nameIndex := 25, descriptorIndex := 26, attributes := #[] }, { accessFlags := 26, nameIndex := 1116, descriptorIndex := 1117, attributes := #[] }, { accessFlags := 24, nameIndex := 40, descriptorIndex := 26, attributes := #[] }, { accessFlags := 26, nameIndex := 1101, descriptorIndex := 1102, attributes := #[] }, { accessFlags := 26, nameIndex := 1121, descriptorIndex := 1122, attributes := #[] }, { accessFlags := 25, nameIndex := 599, descriptorIndex := 600, attributes := #[] }, { accessFlags := 24, nameIndex := 1125, descriptorIndex := 18, attributes := #[] }, { accessFlags := 24, nameIndex := 1127, descriptorIndex := 18, attributes := #[] }])
  fields := #[{ name := "value", type := (.array .byte), accessFlags := 18, slot := 0, constantValue := 0 }, { name := "coder", type := .byte, accessFlags := 18, slot := 1, constantValue := 0 }, { name := "hash", type := .int, accessFlags := 2, slot := 2, constantValue := 0 }, { name := "hashIsZero", type := .boolean, accessFlags := 2, slot := 3, constantValue := 0 }, { name := "serialVersionUID", type := .long, accessFlags := 26, slot := 0, constantValue := 0 }, { name := "COMPACT_STRINGS", type := .boolean, accessFlags := 24, slot := 1, constantValue := 0 }, { name := "serialPersistentFields", type := (.array (.object "java/io/ObjectStreamField")), accessFlags := 26, slot := 2, constantValue := 0 }, { name := "REPL", type := .char, accessFlags := 26, slot := 3, constantValue := 0 }, { name := "CASE_INSENSITIVE_ORDER", type := (.object "java/util/Comparator"), accessFlags := 25, slot := 4, constantValue := 0 }, { name := "LATIN1", type := .byte, accessFlags := 24, slot := 5, constantValue := 0 }, { name := "UTF16", type := .byte, accessFlags := 24, slot := 6, constantValue := 0 }]
  methods := #[k8m0, k8m1, k8m2, k8m3, k8m4, k8m5, k8m6, k8m7, k8m8, k8m9, k8m10, k8m11, k8m12, k8m13, k8m14, k8m15]
  instanceTypes := #[(.array .byte), .byte, .int, .boolean]
  staticTypes := #[.long, .boolean, (.array (.object "java/io/ObjectStreamField")), .char, (.object "java/util/Comparator"), .byte, .byte]
  resolved := Array.replicate 1451 none
  statics := some 0 }

def pool9 : Array CpInfo := pool [(6, .class_ 8), (1, u "java/lang/Object"), (0, u "<init>"), (0, u "()V"), (1, .class_ 14), (1, u "java/lang/StringUTF16"), (31, u "$assertionsDisabled"), (0, u "Z"), (13, u "HI_BYTE_SHIFT"), (0, u "I"), (2, u "LO_BYTE_SHIFT"), (49, .methodref 12 116), (0, .nameAndType 117 118), (0, u "compress"), (0, u "([CI[BII)I"), (3, u "([CII)[B"), (138, u "coderFromArrayLen"), (0, u "([BI)B"), (106, .class_ 371), (1, u "java/lang/StringUTF16$LinesSpliterator"), (58, u "MAX_LENGTH"), (196, .class_ 628), (0, u "java/lang/StringUTF16$CodePointsSpliterator"), (0, .class_ 630), (0, u "java/lang/StringUTF16$CharsSpliterator")] 4

def k9m0 : Method := { name := "<init>", desc := "()V", sig := { parameters := [], returnType := none }, accessFlags := 0, code := none }
def k9c1 : Code := { maxStack := 2, maxLocals := 2, code := jdk_52_method_15_code, exceptionTable := #[], attributes := #[] }
def k9m1 : Method := { name := "coderFromArrayLen", desc := "([BI)B", sig := { parameters := [(.array .byte), .int], returnType := some .byte }, accessFlags := 8, code := some k9c1 }
def k9c2 : Code := { maxStack := 5, maxLocals := 6, code := jdk_52_method_16_code, exceptionTable := #[], attributes := #[] }
def k9m2 : Method := { name := "compress", desc := "([CII)[B", sig := { parameters := [(.array .char), .int, .int], returnType := some (.array .byte) }, accessFlags := 9, code := some k9c2 }
def k9c3 : Code := { maxStack := 3, maxLocals := 7, code := jdk_52_method_21_code, exceptionTable := #[], attributes := #[] }
def k9m3 : Method := { name := "compress", desc := "([CI[BII)I", sig := { parameters := [(.array .char), .int, (.array .byte), .int, .int], returnType := some .int }, accessFlags := 9, code := some k9c3 }
/-- java/lang/StringUTF16 -/
def k9 : Class := { plain "java/lang/StringUTF16" (some 0) with
  accessFlags := 48
  interfaces := #[]
  cf := some (fileOf pool9 12 #[.nestMembers #[627, 629, 369]] #[{ accessFlags := 0, nameIndex := 9, descriptorIndex := 10, attributes := #[] }, { accessFlags := 8, nameIndex := 261, descriptorIndex := 262, attributes := #[] }, { accessFlags := 9, nameIndex := 117, descriptorIndex := 122, attributes := #[] }, { accessFlags := 9, nameIndex := 117, descriptorIndex := 118, attributes := #[] }] 48 6 #[] #[{ accessFlags := 26, nameIndex := 61, descriptorIndex := 62, attributes := #[] }, { accessFlags := 26, nameIndex := 65, descriptorIndex := 62, attributes := #[] }, { accessFlags := 24, nameIndex := 430, descriptorIndex := 62, attributes := #[] }, { accessFlags := 4120, nameIndex := 46, descriptorIndex := 47, attributes := #[] }])
  fields := #[{ name := "HI_BYTE_SHIFT", type := .int, accessFlags := 26, slot := 0, constantValue := 0 }, { name := "LO_BYTE_SHIFT", type := .int, accessFlags := 26, slot := 1, constantValue := 0 }, { name := "MAX_LENGTH", type := .int, accessFlags := 24, slot := 2, constantValue := 0 }, { name := "$assertionsDisabled", type := .boolean, accessFlags := 4120, slot := 3, constantValue := 0 }]
  methods := #[k9m0, k9m1, k9m2, k9m3]
  instanceTypes := #[]
  staticTypes := #[.int, .int, .int, .boolean]
  resolved := Array.replicate 635 none
  statics := none }

def pool10 : Array CpInfo := pool [(2, .class_ 4), (1, u "java/lang/Object"), (0, u "<init>"), (0, u "()V"), (35, .class_ 44), (1, u "java/util/Objects"), (0, u "requireNonNull"), (0, u "(Ljava/lang/Object;)Ljava/lang/Object;")] 137

def k10m0 : Method := { name := "<init>", desc := "()V", sig := { parameters := [], returnType := none }, accessFlags := 2, code := none }
def k10c1 : Code := { maxStack := 2, maxLocals := 1, code := jdk_31_method_10_code, exceptionTable := #[], attributes := #[] }
def k10m1 : Method := { name := "requireNonNull", desc := "(Ljava/lang/Object;)Ljava/lang/Object;", sig := { parameters := [(.object "java/lang/Object")], returnType := some (.object "java/lang/Object") }, accessFlags := 9, code := some k10c1 }
/-- java/util/Objects -/
def k10 : Class := { plain "java/util/Objects" (some 0) with
  accessFlags := 49
  interfaces := #[]
  cf := some (fileOf pool10 42 #[] #[{ accessFlags := 2, nameIndex := 5, descriptorIndex := 6, attributes := #[] }, { accessFlags := 9, nameIndex := 45, descriptorIndex := 46, attributes := #[] }] 49 2 #[] #[])
  fields := #[]
  methods := #[k10m0, k10m1]
  instanceTypes := #[]
  staticTypes := #[]
  resolved := Array.replicate 184 none
  statics := none }

def pool11 : Array CpInfo := pool [(9, u "<init>"), (6, .class_ 18), (1, u "java/lang/Object"), (0, u "()V"), (1, .class_ 23), (1, u "jdk/internal/util/ArraysSupport"), (0, u "LOG2_ARRAY_LONG_INDEX_SCALE"), (0, u "I"), (2, u "U"), (0, u "Ljdk/internal/misc/Unsafe;"), (8, u "BIG_ENDIAN"), (0, u "Z"), (8, u "LOG2_BYTE_BIT_SIZE"), (4, u "LOG2_ARRAY_INT_INDEX_SCALE"), (54, u "JLA"), (0, u "Ljdk/internal/access/JavaLangAccess;"), (11, u "LOG2_ARRAY_BOOLEAN_INDEX_SCALE"), (9, u "LOG2_ARRAY_BYTE_INDEX_SCALE"), (5, u "LOG2_ARRAY_CHAR_INDEX_SCALE"), (5, u "LOG2_ARRAY_SHORT_INDEX_SCALE"), (5, u "mismatch"), (12, u "LOG2_ARRAY_FLOAT_INDEX_SCALE"), (24, u "LOG2_ARRAY_DOUBLE_INDEX_SCALE"), (89, u "T_BOOLEAN"), (2, u "T_CHAR"), (1, u "T_FLOAT"), (1, u "T_DOUBLE"), (1, u "T_BYTE"), (1, u "T_SHORT"), (1, u "T_INT"), (1, u "T_LONG"), (1, u "SOFT_MAX_ARRAY_LENGTH"), (42, u "([BI[BII)I")] 40

def k11m0 : Method := { name := "<init>", desc := "()V", sig := { parameters := [], returnType := none }, accessFlags := 2, code := none }
def k11c1 : Code := { maxStack := 8, maxLocals := 8, code := jdk_48_method_14_code, exceptionTable := #[], attributes := #[] }
def k11m1 : Method := { name := "mismatch", desc := "([BI[BII)I", sig := { parameters := [(.array .byte), .int, (.array .byte), .int, .int], returnType := some .int }, accessFlags := 9, code := some k11c1 }
/-- jdk/internal/util/ArraysSupport -/
def k11 : Class := { plain "jdk/internal/util/ArraysSupport" (some 0) with
  accessFlags := 33
  interfaces := #[]
  cf := some (fileOf pool11 21 #[] #[{ accessFlags := 2, nameIndex := 9, descriptorIndex := 19, attributes := #[] }, { accessFlags := 9, nameIndex := 149, descriptorIndex := 337, attributes := #[] }] 33 16 #[] #[{ accessFlags := 24, nameIndex := 28, descriptorIndex := 29, attributes := #[] }, { accessFlags := 26, nameIndex := 38, descriptorIndex := 39, attributes := #[] }, { accessFlags := 25, nameIndex := 121, descriptorIndex := 25, attributes := #[] }, { accessFlags := 25, nameIndex := 131, descriptorIndex := 25, attributes := #[] }, { accessFlags := 25, nameIndex := 137, descriptorIndex := 25, attributes := #[] }, { accessFlags := 25, nameIndex := 143, descriptorIndex := 25, attributes := #[] }, { accessFlags := 25, nameIndex := 53, descriptorIndex := 25, attributes := #[] }, { accessFlags := 25, nameIndex := 24, descriptorIndex := 25, attributes := #[] }, { accessFlags := 25, nameIndex := 162, descriptorIndex := 25, attributes := #[] }, { accessFlags := 25, nameIndex := 187, descriptorIndex := 25, attributes := #[] }, { accessFlags := 26, nameIndex := 48, descriptorIndex := 25, attributes := #[] }, { accessFlags := 25, nameIndex := 277, descriptorIndex := 25, attributes := #[] }, { accessFlags := 25, nameIndex := 280, descriptorIndex := 25, attributes := #[] }, { accessFlags := 25, nameIndex := 282, descriptorIndex := 25, attributes := #[] }, { accessFlags := 25, nameIndex := 284, descriptorIndex := 25, attributes := #[] }, { accessFlags := 25, nameIndex := 286, descriptorIndex := 25, attributes := #[] }, { accessFlags := 25, nameIndex := 288, descriptorIndex := 25, attributes := #[] }, { accessFlags := 25, nameIndex := 290, descriptorIndex := 25, attributes := #[] }, { accessFlags := 25, nameIndex := 292, descriptorIndex := 25, attributes := #[] }, { accessFlags := 26, nameIndex := 108, descriptorIndex := 109, attributes := #[] }, { accessFlags := 25, nameIndex := 294, descriptorIndex := 25, attributes := #[] }])
  fields := #[{ name := "U", type := (.object "jdk/internal/misc/Unsafe"), accessFlags := 24, slot := 0, constantValue := 0 }, { name := "BIG_ENDIAN", type := .boolean, accessFlags := 26, slot := 1, constantValue := 0 }, { name := "LOG2_ARRAY_BOOLEAN_INDEX_SCALE", type := .int, accessFlags := 25, slot := 2, constantValue := 0 }, { name := "LOG2_ARRAY_BYTE_INDEX_SCALE", type := .int, accessFlags := 25, slot := 3, constantValue := 0 }, { name := "LOG2_ARRAY_CHAR_INDEX_SCALE", type := .int, accessFlags := 25, slot := 4, constantValue := 0 }, { name := "LOG2_ARRAY_SHORT_INDEX_SCALE", type := .int, accessFlags := 25, slot := 5, constantValue := 0 }, { name := "LOG2_ARRAY_INT_INDEX_SCALE", type := .int, accessFlags := 25, slot := 6, constantValue := 0 }, { name := "LOG2_ARRAY_LONG_INDEX_SCALE", type := .int, accessFlags := 25, slot := 7, constantValue := 0 }, { name := "LOG2_ARRAY_FLOAT_INDEX_SCALE", type := .int, accessFlags := 25, slot := 8, constantValue := 0 }, { name := "LOG2_ARRAY_DOUBLE_INDEX_SCALE", type := .int, accessFlags := 25, slot := 9, constantValue := 0 }, { name := "LOG2_BYTE_BIT_SIZE", type := .int, accessFlags := 26, slot := 10, constantValue := 0 }, { name := "T_BOOLEAN", type := .int, accessFlags := 25, slot := 11, constantValue := 0 }, { name := "T_CHAR", type := .int, accessFlags := 25, slot := 12, constantValue := 0 }, { name := "T_FLOAT", type := .int, accessFlags := 25, slot := 13, constantValue := 0 }, { name := "T_DOUBLE", type := .int, accessFlags := 25, slot := 14, constantValue := 0 }, { name := "T_BYTE", type := .int, accessFlags := 25, slot := 15, constantValue := 0 }, { name := "T_SHORT", type := .int, accessFlags := 25, slot := 16, constantValue := 0 }, { name := "T_INT", type := .int, accessFlags := 25, slot := 17, constantValue := 0 }, { name := "T_LONG", type := .int, accessFlags := 25, slot := 18, constantValue := 0 }, { name := "JLA", type := (.object "jdk/internal/access/JavaLangAccess"), accessFlags := 26, slot := 19, constantValue := 0 }, { name := "SOFT_MAX_ARRAY_LENGTH", type := .int, accessFlags := 25, slot := 20, constantValue := 0 }]
  methods := #[k11m0, k11m1]
  instanceTypes := #[]
  staticTypes := #[(.object "jdk/internal/misc/Unsafe"), .boolean, .int, .int, .int, .int, .int, .int, .int, .int, .int, .int, .int, .int, .int, .int, .int, .int, .int, (.object "jdk/internal/access/JavaLangAccess"), .int]
  resolved := Array.replicate 378 none
  statics := none }

def pool12 : Array CpInfo := pool [(1, .class_ 2), (0, u "java/lang/Appendable"), (0, .class_ 4), (0, u "java/lang/Object")] 9

/-- java/lang/Appendable -/
def k12 : Class := { plain "java/lang/Appendable" (some 0) with
  accessFlags := 1537
  interfaces := #[]
  cf := some (fileOf pool12 1 #[] #[] 1537 3 #[] #[])
  fields := #[]
  methods := #[]
  instanceTypes := #[]
  staticTypes := #[]
  resolved := Array.replicate 14 none
  statics := none }

def pool13 : Array CpInfo := pool [(1, .class_ 2), (0, u "java/lang/String"), (0, .methodref 4 5), (0, .class_ 6), (0, .nameAndType 7 8), (0, u "java/lang/Object"), (0, u "<init>"), (0, u "()V"), (1, .class_ 12), (1, u "java/lang/AbstractStringBuilder"), (0, u "EMPTYVALUE"), (0, u "[B"), (0, .fieldref 10 16), (0, .nameAndType 17 14), (0, u "value"), (0, .fieldref 1 19), (0, .nameAndType 20 21), (0, u "COMPACT_STRINGS"), (0, u "Z"), (0, .fieldref 10 23), (0, .nameAndType 24 25), (0, u "coder"), (0, u "B"), (6, .methodref 1 33), (0, .nameAndType 34 35), (0, u "length"), (0, u "()I"), (4, .methodref 1 41), (0, .nameAndType 24 42), (0, u "()B"), (2, u "append"), (0, u "(Ljava/lang/String;)Ljava/lang/AbstractStringBuilder;"), (1, .class_ 49), (0, u "java/lang/CharSequence"), (19, u "(Ljava/lang/String;)V"), (5, u "maybeLatin1"), (3, .fieldref 10 80), (0, .nameAndType 81 82), (0, u "count"), (0, u "I"), (2, u "isLatin1"), (0, u "()Z"), (13, .methodref 10 101), (0, .nameAndType 102 103), (0, u "ensureCapacityInternal"), (0, u "(I)V"), (104, .methodref 10 209), (0, .nameAndType 210 211), (0, u "putStringAt"), (0, u "(ILjava/lang/String;)V"), (5, u "inflateIfNeededFor"), (2, .nameAndType 221 222), (0, u "getBytes"), (0, u "([BIB)V"), (174, .methodref 10 398), (0, .nameAndType 217 69), (0, .methodref 1 220), (3, u "()[B"), (40, .class_ 445), (0, u "java/lang/Appendable"), (106, u "getValue")] 56

def k13m0 : Method := { name := "<init>", desc := "()V", sig := { parameters := [], returnType := none }, accessFlags := 0, code := none }
def k13c1 : Code := { maxStack := 2, maxLocals := 2, code := jdk_68_method_2_code, exceptionTable := #[], attributes := #[] }
def k13m1 : Method := { name := "<init>", desc := "(I)V", sig := { parameters := [.int], returnType := none }, accessFlags := 0, code := some k13c1 }
def k13c2 : Code := { maxStack := 1, maxLocals := 1, code := jdk_68_method_6_code, exceptionTable := #[], attributes := #[] }
def k13m2 : Method := { name := "length", desc := "()I", sig := { parameters := [], returnType := some .int }, accessFlags := 1, code := some k13c2 }
def k13c3 : Code := { maxStack := 4, maxLocals := 3, code := jdk_68_method_9_code, exceptionTable := #[], attributes := #[] }
def k13m3 : Method := { name := "ensureCapacityInternal", desc := "(I)V", sig := { parameters := [.int], returnType := none }, accessFlags := 2, code := some k13c3 }
def k13c4 : Code := { maxStack := 3, maxLocals := 3, code := jdk_68_method_22_code, exceptionTable := #[], attributes := #[] }
def k13m4 : Method := { name := "append", desc := "(Ljava/lang/String;)Ljava/lang/AbstractStringBuilder;", sig := { parameters := [(.object "java/lang/String")], returnType := some (.object "java/lang/AbstractStringBuilder") }, accessFlags := 1, code := some k13c4 }
def k13c5 : Code := { maxStack := 1, maxLocals := 1, code := jdk_68_method_64_code, exceptionTable := #[], attributes := #[] }
def k13m5 : Method := { name := "getValue", desc := "()[B", sig := { parameters := [], returnType := some (.array .byte) }, accessFlags := 16, code := some k13c5 }
def k13c6 : Code := { maxStack := 1, maxLocals := 1, code := jdk_68_method_68_code, exceptionTable := #[], attributes := #[] }
def k13m6 : Method := { name := "isLatin1", desc := "()Z", sig := { parameters := [], returnType := some .boolean }, accessFlags := 16, code := some k13c6 }
def k13c7 : Code := { maxStack := 2, maxLocals := 2, code := jdk_68_method_71_code, exceptionTable := #[], attributes := #[] }
def k13m7 : Method := { name := "inflateIfNeededFor", desc := "(Ljava/lang/String;)V", sig := { parameters := [(.object "java/lang/String")], returnType := none }, accessFlags := 2, code := some k13c7 }
def k13c8 : Code := { maxStack := 4, maxLocals := 3, code := jdk_68_method_73_code, exceptionTable := #[], attributes := #[] }
def k13m8 : Method := { name := "putStringAt", desc := "(ILjava/lang/String;)V", sig := { parameters := [.int, (.object "java/lang/String")], returnType := none }, accessFlags := 2, code := some k13c8 }
/-- java/lang/AbstractStringBuilder -/
def k13 : Class := { plain "java/lang/AbstractStringBuilder" (some 0) with
  accessFlags := 1056
  interfaces := #[12, 5]
  cf := some (fileOf pool13 10 #[] #[{ accessFlags := 0, nameIndex := 7, descriptorIndex := 8, attributes := #[] }, { accessFlags := 0, nameIndex := 7, descriptorIndex := 103, attributes := #[] }, { accessFlags := 1, nameIndex := 34, descriptorIndex := 35, attributes := #[] }, { accessFlags := 2, nameIndex := 102, descriptorIndex := 103, attributes := #[] }, { accessFlags := 1, nameIndex := 45, descriptorIndex := 46, attributes := #[] }, { accessFlags := 16, nameIndex := 552, descriptorIndex := 403, attributes := #[] }, { accessFlags := 16, nameIndex := 85, descriptorIndex := 86, attributes := #[] }, { accessFlags := 2, nameIndex := 217, descriptorIndex := 69, attributes := #[] }, { accessFlags := 2, nameIndex := 210, descriptorIndex := 211, attributes := #[] }] 1056 4 #[444, 48] #[{ accessFlags := 0, nameIndex := 17, descriptorIndex := 14, attributes := #[] }, { accessFlags := 0, nameIndex := 24, descriptorIndex := 25, attributes := #[] }, { accessFlags := 0, nameIndex := 75, descriptorIndex := 21, attributes := #[] }, { accessFlags := 0, nameIndex := 81, descriptorIndex := 82, attributes := #[] }, { accessFlags := 26, nameIndex := 13, descriptorIndex := 14, attributes := #[] }])
  fields := #[{ name := "value", type := (.array .byte), accessFlags := 0, slot := 0, constantValue := 0 }, { name := "coder", type := .byte, accessFlags := 0, slot := 1, constantValue := 0 }, { name := "maybeLatin1", type := .boolean, accessFlags := 0, slot := 2, constantValue := 0 }, { name := "count", type := .int, accessFlags := 0, slot := 3, constantValue := 0 }, { name := "EMPTYVALUE", type := (.array .byte), accessFlags := 26, slot := 0, constantValue := 0 }]
  methods := #[k13m0, k13m1, k13m2, k13m3, k13m4, k13m5, k13m6, k13m7, k13m8]
  instanceTypes := #[(.array .byte), .byte, .boolean, .int]
  staticTypes := #[(.array .byte)]
  resolved := Array.replicate 609 none
  statics := none }

def pool14 : Array CpInfo := pool [(1, .methodref 2 3), (0, .class_ 4), (0, .nameAndType 5 6), (0, u "java/lang/AbstractStringBuilder"), (0, u "<init>"), (0, u "(I)V"), (11, .class_ 20), (1, u "java/lang/String"), (3, .class_ 26), (1, u "java/lang/StringBuilder"), (0, u "append"), (0, u "(Ljava/lang/String;)Ljava/lang/StringBuilder;"), (0, .methodref 2 30), (0, .nameAndType 27 31), (0, u "(Ljava/lang/String;)Ljava/lang/AbstractStringBuilder;"), (105, .methodref 18 138), (0, .nameAndType 5 139), (0, u "(Ljava/lang/StringBuilder;)V"), (5, u "()V"), (10, u "()I"), (186, .methodref 2 344), (0, .nameAndType 345 156), (0, u "length"), (3, .class_ 350), (0, u "java/lang/Appendable"), (0, .class_ 352), (0, u "java/io/Serializable"), (0, .class_ 354), (0, u "java/lang/Comparable"), (0, .class_ 356), (0, u "java/lang/CharSequence"), (0, u "serialVersionUID"), (0, u "J"), (40, u "toString"), (0, u "()Ljava/lang/String;")] 21

def k14c0 : Code := { maxStack := 2, maxLocals := 1, code := jdk_67_method_1_code, exceptionTable := #[], attributes := #[] }
def k14m0 : Method := { name := "<init>", desc := "()V", sig := { parameters := [], returnType := none }, accessFlags := 1, code := some k14c0 }
def k14c1 : Code := { maxStack := 2, maxLocals := 2, code := jdk_67_method_7_code, exceptionTable := #[], attributes := #[] }
def k14m1 : Method := { name := "append", desc := "(Ljava/lang/String;)Ljava/lang/StringBuilder;", sig := { parameters := [(.object "java/lang/String")], returnType := some (.object "java/lang/StringBuilder") }, accessFlags := 1, code := some k14c1 }
def k14c2 : Code := { maxStack := 3, maxLocals := 1, code := jdk_67_method_42_code, exceptionTable := #[], attributes := #[] }
def k14m2 : Method := { name := "toString", desc := "()Ljava/lang/String;", sig := { parameters := [], returnType := some (.object "java/lang/String") }, accessFlags := 1, code := some k14c2 }
def k14c3 : Code := { maxStack := 1, maxLocals := 1, code := jdk_67_method_93_code, exceptionTable := #[], attributes := #[] }
def k14m3 : Method := { name := "length", desc := "()I", sig := { parameters := [], returnType := some .int }, accessFlags := 4161, code := some k14c3 }
/-- java/lang/StringBuilder -/
def k14 : Class := { plain "java/lang/StringBuilder" (some 13) with
  accessFlags := 49
  interfaces := #[12, 3, 4, 5]
  cf := some (fileOf pool14 24 #[] #[{ accessFlags := 1, nameIndex := 5, descriptorIndex := 145, attributes := #[] }, { accessFlags := 1, nameIndex := 27, descriptorIndex := 28, attributes := #[] }, { accessFlags := 1, nameIndex := 399, descriptorIndex := 400, attributes := #[] }, { accessFlags := 4161, nameIndex := 345, descriptorIndex := 156, attributes := #[] }] 49 2 #[349, 351, 353, 355] #[{ accessFlags := 24, nameIndex := 357, descriptorIndex := 358, attributes := #[] }])
  fields := #[{ name := "serialVersionUID", type := .long, accessFlags := 24, slot := 0, constantValue := 0 }]
  methods := #[k14m0, k14m1, k14m2, k14m3]
  instanceTypes := #[(.array .byte), .byte, .boolean, .int]
  staticTypes := #[.long]
  resolved := Array.replicate 422 none
  statics := none }

def pool15 : Array CpInfo := pool [(2, .class_ 4), (1, u "java/lang/Object"), (0, u "<init>"), (0, u "()V"), (1, .class_ 10), (1, u "java/lang/System"), (0, u "allowSecurityManager"), (0, u "I"), (16, u "cons"), (0, u "Ljava/io/Console;"), (77, .class_ 110), (1, u "java/lang/System$CallersHolder"), (43, u "initialErrStream"), (0, u "Ljava/io/PrintStream;"), (19, u "security"), (0, u "Ljava/lang/SecurityManager;"), (31, .class_ 209), (0, u "java/lang/System$1"), (7, u "props"), (0, u "Ljava/util/Properties;"), (2, u "lineSeparator"), (0, u "Ljava/lang/String;"), (96, .class_ 321), (1, u "java/lang/System$LoggerFinder"), (5, .class_ 328), (0, u "java/lang/System$Logger"), (67, u "err"), (2, u "out"), (91, u "notSupportedJnuEncoding"), (15, u "in"), (17, u "initialIn"), (0, u "Ljava/io/InputStream;"), (35, u "bootLayer"), (0, u "Ljava/lang/ModuleLayer;"), (99, .class_ 664), (0, u "java/lang/System$2"), (9, u "NEVER"), (2, u "MAYBE"), (49, u "arraycopy"), (0, u "(Ljava/lang/Object;ILjava/lang/Object;II)V"), (72, .class_ 802), (0, u "java/lang/System$Logger$Level")] 31

def k15m0 : Method := { name := "<init>", desc := "()V", sig := { parameters := [], returnType := none }, accessFlags := 2, code := none }
def k15m1 : Method := { name := "arraycopy", desc := "(Ljava/lang/Object;ILjava/lang/Object;II)V", sig := { parameters := [(.object "java/lang/Object"), .int, (.object "java/lang/Object"), .int, .int], returnType := none }, accessFlags := 265, code := none }
/-- java/lang/System -/
def k15 : Class := { plain "java/lang/System" (some 0) with
  accessFlags := 49
  interfaces := #[]
  cf := some (fileOf pool15 8 #[.nestMembers #[319, 327, 801, 108, 663, 208]] #[{ accessFlags := 2, nameIndex := 5, descriptorIndex := 6, attributes := #[] }, { accessFlags := 265, nameIndex := 727, descriptorIndex := 728, attributes := #[] }] 49 2 #[] #[{ accessFlags := 25, nameIndex := 507, descriptorIndex := 526, attributes := #[] }, { accessFlags := 25, nameIndex := 399, descriptorIndex := 155, attributes := #[] }, { accessFlags := 25, nameIndex := 396, descriptorIndex := 155, attributes := #[] }, { accessFlags := 10, nameIndex := 525, descriptorIndex := 526, attributes := #[] }, { accessFlags := 26, nameIndex := 674, descriptorIndex := 12, attributes := #[] }, { accessFlags := 26, nameIndex := 677, descriptorIndex := 12, attributes := #[] }, { accessFlags := 10, nameIndex := 11, descriptorIndex := 12, attributes := #[] }, { accessFlags := 74, nameIndex := 175, descriptorIndex := 176, attributes := #[] }, { accessFlags := 10, nameIndex := 491, descriptorIndex := 222, attributes := #[] }, { accessFlags := 74, nameIndex := 29, descriptorIndex := 30, attributes := #[] }, { accessFlags := 74, nameIndex := 154, descriptorIndex := 155, attributes := #[] }, { accessFlags := 10, nameIndex := 217, descriptorIndex := 218, attributes := #[] }, { accessFlags := 10, nameIndex := 221, descriptorIndex := 222, attributes := #[] }, { accessFlags := 8, nameIndex := 562, descriptorIndex := 563, attributes := #[] }])
  fields := #[{ name := "in", type := (.object "java/io/InputStream"), accessFlags := 25, slot := 0, constantValue := 0 }, { name := "out", type := (.object "java/io/PrintStream"), accessFlags := 25, slot := 1, constantValue := 0 }, { name := "err", type := (.object "java/io/PrintStream"), accessFlags := 25, slot := 2, constantValue := 0 }, { name := "initialIn", type := (.object "java/io/InputStream"), accessFlags := 10, slot := 3, constantValue := 0 }, { name := "NEVER", type := .int, accessFlags := 26, slot := 4, constantValue := 0 }, { name := "MAYBE", type := .int, accessFlags := 26, slot := 5, constantValue := 0 }, { name := "allowSecurityManager", type := .int, accessFlags := 10, slot := 6, constantValue := 0 }, { name := "security", type := (.object "java/lang/SecurityManager"), accessFlags := 74, slot := 7, constantValue := 0 }, { name := "notSupportedJnuEncoding", type := (.object "java/lang/String"), accessFlags := 10, slot := 8, constantValue := 0 }, { name := "cons", type := (.object "java/io/Console"), accessFlags := 74, slot := 9, constantValue := 0 }, { name := "initialErrStream", type := (.object "java/io/PrintStream"), accessFlags := 74, slot := 10, constantValue := 0 }, { name := "props", type := (.object "java/util/Properties"), accessFlags := 10, slot := 11, constantValue := 0 }, { name := "lineSeparator", type := (.object "java/lang/String"), accessFlags := 10, slot := 12, constantValue := 0 }, { name := "bootLayer", type := (.object "java/lang/ModuleLayer"), accessFlags := 8, slot := 13, constantValue := 0 }]
  methods := #[k15m0, k15m1]
  instanceTypes := #[]
  staticTypes := #[(.object "java/io/InputStream"), (.object "java/io/PrintStream"), (.object "java/io/PrintStream"), (.object "java/io/InputStream"), .int, .int, .int, (.object "java/lang/SecurityManager"), (.object "java/lang/String"), (.object "java/io/Console"), (.object "java/io/PrintStream"), (.object "java/util/Properties"), (.object "java/lang/String"), (.object "java/lang/ModuleLayer")]
  resolved := Array.replicate 834 none
  statics := none }

def pool16 : Array CpInfo := pool [(2, .class_ 4), (1, u "java/lang/Object"), (0, u "<init>"), (0, u "()V"), (7, .class_ 16), (1, u "java/util/Arrays"), (57, .class_ 76), (1, u "java/util/Arrays$NaturalOrder"), (36, .class_ 115), (1, u "java/util/Arrays$LegacyMergeSort"), (1, u "Z"), (21, u "copyOfRange"), (10, .methodref 151 152), (0, .class_ 153), (0, .nameAndType 154 155), (0, u "java/lang/System"), (0, u "arraycopy"), (0, u "(Ljava/lang/Object;ILjava/lang/Object;II)V"), (148, .methodref 305 306), (0, .class_ 307), (0, .nameAndType 308 309), (0, u "java/lang/Math"), (0, u "min"), (0, u "(II)I"), (29, .methodref 14 340), (0, .nameAndType 341 342), (0, u "copyOfRangeByte"), (0, u "([BII)[B"), (0, .methodref 14 344), (0, .nameAndType 345 346), (0, u "checkLength"), (0, u "(II)V"), (28, .class_ 376), (0, u "java/util/Arrays$ArrayList"), (68, u "$assertionsDisabled"), (269, u "MIN_ARRAY_SORT_GRAN"), (0, u "I"), (2, u "INSERTIONSORT_THRESHOLD"), (255, .class_ 976), (0, u "java/util/Arrays$ArrayItr")] 52

def k16m0 : Method := { name := "<init>", desc := "()V", sig := { parameters := [], returnType := none }, accessFlags := 2, code := none }
def k16c1 : Code := { maxStack := 4, maxLocals := 2, code := jdk_65_method_131_code, exceptionTable := #[], attributes := #[] }
def k16m1 : Method := { name := "checkLength", desc := "(II)V", sig := { parameters := [.int, .int], returnType := none }, accessFlags := 10, code := some k16c1 }
def k16c2 : Code := { maxStack := 3, maxLocals := 3, code := jdk_65_method_132_code, exceptionTable := #[], attributes := #[] }
def k16m2 : Method := { name := "copyOfRange", desc := "([BII)[B", sig := { parameters := [(.array .byte), .int, .int], returnType := some (.array .byte) }, accessFlags := 9, code := some k16c2 }
def k16c3 : Code := { maxStack := 6, maxLocals := 5, code := jdk_65_method_133_code, exceptionTable := #[], attributes := #[] }
def k16m3 : Method := { name := "copyOfRangeByte", desc := "([BII)[B", sig := { parameters := [(.array .byte), .int, .int], returnType := some (.array .byte) }, accessFlags := 10, code := some k16c3 }
/-- java/util/Arrays -/
def k16 : Class := { plain "java/util/Arrays" (some 0) with
  accessFlags := 49
  interfaces := #[]
  cf := some (fileOf pool16 14 #[.nestMembers #[975, 375, 113, 74]] #[{ accessFlags := 2, nameIndex := 5, descriptorIndex := 6, attributes := #[] }, { accessFlags := 10, nameIndex := 345, descriptorIndex := 346, attributes := #[] }, { accessFlags := 9, nameIndex := 139, descriptorIndex := 342, attributes := #[] }, { accessFlags := 10, nameIndex := 341, descriptorIndex := 342, attributes := #[] }] 49 2 #[] #[{ accessFlags := 26, nameIndex := 715, descriptorIndex := 716, attributes := #[] }, { accessFlags := 26, nameIndex := 719, descriptorIndex := 716, attributes := #[] }, { accessFlags := 4120, nameIndex := 445, descriptorIndex := 117, attributes := #[] }])
  fields := #[{ name := "MIN_ARRAY_SORT_GRAN", type := .int, accessFlags := 26, slot := 0, constantValue := 0 }, { name := "INSERTIONSORT_THRESHOLD", type := .int, accessFlags := 26, slot := 1, constantValue := 0 }, { name := "$assertionsDisabled", type := .boolean, accessFlags := 4120, slot := 2, constantValue := 0 }]
  methods := #[k16m0, k16m1, k16m2, k16m3]
  instanceTypes := #[]
  staticTypes := #[.int, .int, .boolean]
  resolved := Array.replicate 1029 none
  statics := none }

def pool17 : Array CpInfo := pool [(1, .class_ 2), (0, u "java/lang/Math"), (1, .class_ 6), (1, u "java/lang/Object"), (0, u "<init>"), (0, u "()V"), (89, .class_ 100), (1, u "java/lang/Math$RandomNumberGeneratorHolder"), (71, u "negativeZeroFloatBits"), (0, u "J"), (2, u "negativeZeroDoubleBits"), (24, u "min"), (43, u "$assertionsDisabled"), (0, u "Z"), (88, u "(II)I"), (2, u "twoToTheDoubleScaleDown"), (0, u "D"), (4, u "twoToTheDoubleScaleUp"), (9, u "E"), (3, u "PI"), (2, u "TAU"), (2, u "DEGREES_TO_RADIANS"), (0, u "RADIANS_TO_DEGREES")] 94

def k17m0 : Method := { name := "<init>", desc := "()V", sig := { parameters := [], returnType := none }, accessFlags := 2, code := none }
def k17c1 : Code := { maxStack := 2, maxLocals := 2, code := jdk_29_method_69_code, exceptionTable := #[], attributes := #[] }
def k17m1 : Method := { name := "min", desc := "(II)I", sig := { parameters := [.int, .int], returnType := some .int }, accessFlags := 9, code := some k17c1 }
/-- java/lang/Math -/
def k17 : Class := { plain "java/lang/Math" (some 0) with
  accessFlags := 49
  interfaces := #[]
  cf := some (fileOf pool17 1 #[.nestMembers #[98]] #[{ accessFlags := 2, nameIndex := 7, descriptorIndex := 8, attributes := #[] }, { accessFlags := 9, nameIndex := 201, descriptorIndex := 335, attributes := #[] }] 49 4 #[] #[{ accessFlags := 25, nameIndex := 354, descriptorIndex := 339, attributes := #[] }, { accessFlags := 25, nameIndex := 358, descriptorIndex := 339, attributes := #[] }, { accessFlags := 25, nameIndex := 361, descriptorIndex := 339, attributes := #[] }, { accessFlags := 26, nameIndex := 364, descriptorIndex := 339, attributes := #[] }, { accessFlags := 26, nameIndex := 365, descriptorIndex := 339, attributes := #[] }, { accessFlags := 26, nameIndex := 172, descriptorIndex := 173, attributes := #[] }, { accessFlags := 26, nameIndex := 176, descriptorIndex := 173, attributes := #[] }, { accessFlags := 8, nameIndex := 344, descriptorIndex := 339, attributes := #[] }, { accessFlags := 8, nameIndex := 338, descriptorIndex := 339, attributes := #[] }, { accessFlags := 4120, nameIndex := 245, descriptorIndex := 246, attributes := #[] }])
  fields := #[{ name := "E", type := .double, accessFlags := 25, slot := 0, constantValue := 0 }, { name := "PI", type := .double, accessFlags := 25, slot := 1, constantValue := 0 }, { name := "TAU", type := .double, accessFlags := 25, slot := 2, constantValue := 0 }, { name := "DEGREES_TO_RADIANS", type := .double, accessFlags := 26, slot := 3, constantValue := 0 }, { name := "RADIANS_TO_DEGREES", type := .double, accessFlags := 26, slot := 4, constantValue := 0 }, { name := "negativeZeroFloatBits", type := .long, accessFlags := 26, slot := 5, constantValue := 0 }, { name := "negativeZeroDoubleBits", type := .long, accessFlags := 26, slot := 6, constantValue := 0 }, { name := "twoToTheDoubleScaleUp", type := .double, accessFlags := 8, slot := 7, constantValue := 0 }, { name := "twoToTheDoubleScaleDown", type := .double, accessFlags := 8, slot := 8, constantValue := 0 }, { name := "$assertionsDisabled", type := .boolean, accessFlags := 4120, slot := 9, constantValue := 0 }]
  methods := #[k17m0, k17m1]
  instanceTypes := #[]
  staticTypes := #[.double, .double, .double, .double, .double, .long, .long, .double, .double, .boolean]
  resolved := Array.replicate 460 none
  statics := none }

def pool18 : Array CpInfo := pool [(1, .class_ 2), (0, u "java/lang/String"), (1, .class_ 6), (1, u "java/lang/Object"), (0, u "<init>"), (0, u "()V"), (5, .class_ 16), (1, u "java/lang/StringLatin1"), (95, .methodref 1 113), (0, .nameAndType 7 114), (0, u "([BB)V"), (6, u "$assertionsDisabled"), (0, u "Z"), (8, .class_ 133), (1, u "java/util/Arrays"), (62, u "newString"), (0, u "([BII)Ljava/lang/String;"), (23, .class_ 223), (1, u "java/lang/StringLatin1$LinesSpliterator"), (8, .methodref 131 233), (0, .nameAndType 234 235), (0, u "copyOfRange"), (0, u "([BII)[B"), (45, u "equals"), (0, u "([B[B)Z"), (107, .class_ 391), (0, u "java/lang/StringLatin1$CharsSpliterator")] 3

def k18m0 : Method := { name := "<init>", desc := "()V", sig := { parameters := [], returnType := none }, accessFlags := 0, code := none }
def k18c1 : Code := { maxStack := 3, maxLocals := 3, code := jdk_43_method_13_code, exceptionTable := #[], attributes := #[] }
def k18m1 : Method := { name := "equals", desc := "([B[B)Z", sig := { parameters := [(.array .byte), (.array .byte)], returnType := some .boolean }, accessFlags := 9, code := some k18c1 }
def k18c2 : Code := { maxStack := 6, maxLocals := 3, code := jdk_43_method_47_code, exceptionTable := #[], attributes := #[] }
def k18m2 : Method := { name := "newString", desc := "([BII)Ljava/lang/String;", sig := { parameters := [(.array .byte), .int, .int], returnType := some (.object "java/lang/String") }, accessFlags := 9, code := some k18c2 }
/-- java/lang/StringLatin1 -/
def k18 : Class := { plain "java/lang/StringLatin1" (some 0) with
  accessFlags := 48
  interfaces := #[]
  cf := some (fileOf pool18 14 #[.nestMembers #[390, 221]] #[{ accessFlags := 0, nameIndex := 7, descriptorIndex := 8, attributes := #[] }, { accessFlags := 9, nameIndex := 281, descriptorIndex := 282, attributes := #[] }, { accessFlags := 9, nameIndex := 196, descriptorIndex := 197, attributes := #[] }] 48 4 #[] #[{ accessFlags := 4120, nameIndex := 121, descriptorIndex := 122, attributes := #[] }])
  fields := #[{ name := "$assertionsDisabled", type := .boolean, accessFlags := 4120, slot := 0, constantValue := 0 }]
  methods := #[k18m0, k18m1, k18m2]
  instanceTypes := #[]
  staticTypes := #[.boolean]
  resolved := Array.replicate 395 none
  statics := none }

def pool19 : Array CpInfo := pool [(2, .class_ 4), (1, u "java/lang/Object"), (0, u "<init>"), (0, u "()V"), (17, .class_ 26), (1, u "jdk/internal/util/Preconditions"), (20, u "checkFromToIndex"), (7, .class_ 56), (0, u "jdk/internal/util/Preconditions$4"), (57, .class_ 115), (0, u "jdk/internal/util/Preconditions$1"), (7, u "SIOOBE_FORMATTER"), (0, u "Ljava/util/function/BiFunction;"), (0, .class_ 126), (0, u "jdk/internal/util/Preconditions$2"), (3, u "AIOOBE_FORMATTER"), (0, .class_ 132), (0, u "jdk/internal/util/Preconditions$3"), (3, u "IOOBE_FORMATTER"), (46, u "(IIILjava/util/function/BiFunction;)I")] 10

def k19m0 : Method := { name := "<init>", desc := "()V", sig := { parameters := [], returnType := none }, accessFlags := 1, code := none }
def k19c1 : Code := { maxStack := 4, maxLocals := 4, code := jdk_41_method_12_code, exceptionTable := #[], attributes := #[] }
def k19m1 : Method := { name := "checkFromToIndex", desc := "(IIILjava/util/function/BiFunction;)I", sig := { parameters := [.int, .int, .int, (.object "java/util/function/BiFunction")], returnType := some .int }, accessFlags := 9, code := some k19c1 }
/-- jdk/internal/util/Preconditions -/
def k19 : Class := { plain "jdk/internal/util/Preconditions" (some 0) with
  accessFlags := 33
  interfaces := #[]
  cf := some (fileOf pool19 24 #[.nestMembers #[55, 131, 125, 114]] #[{ accessFlags := 1, nameIndex := 5, descriptorIndex := 6, attributes := #[] }, { accessFlags := 9, nameIndex := 47, descriptorIndex := 183, attributes := #[] }] 33 2 #[] #[{ accessFlags := 25, nameIndex := 123, descriptorIndex := 124, attributes := #[] }, { accessFlags := 25, nameIndex := 130, descriptorIndex := 124, attributes := #[] }, { accessFlags := 25, nameIndex := 136, descriptorIndex := 124, attributes := #[] }])
  fields := #[{ name := "SIOOBE_FORMATTER", type := (.object "java/util/function/BiFunction"), accessFlags := 25, slot := 0, constantValue := 0 }, { name := "AIOOBE_FORMATTER", type := (.object "java/util/function/BiFunction"), accessFlags := 25, slot := 1, constantValue := 0 }, { name := "IOOBE_FORMATTER", type := (.object "java/util/function/BiFunction"), accessFlags := 25, slot := 2, constantValue := 0 }]
  methods := #[k19m0, k19m1]
  instanceTypes := #[]
  staticTypes := #[(.object "java/util/function/BiFunction"), (.object "java/util/function/BiFunction"), (.object "java/util/function/BiFunction")]
  resolved := Array.replicate 194 none
  statics := some 1 }

def pool20 : Array CpInfo := pool [(1, u "java/lang/Cloneable"), (0, .class_ 1), (0, u "java/lang/Object"), (0, .class_ 3)] 3

/-- java/lang/Cloneable -/
def k20 : Class := { plain "java/lang/Cloneable" (some 0) with
  accessFlags := 1537
  interfaces := #[]
  cf := some (fileOf pool20 2 #[] #[] 1537 4 #[] #[])
  fields := #[]
  methods := #[]
  instanceTypes := #[]
  staticTypes := #[]
  resolved := Array.replicate 8 none
  statics := none }

/-- the primitive byte -/
def k21 : Class := { plain "byte" none with kind := .primitive 'B', accessFlags := 0x411 }
/-- [B -/
def k22 : Class := { plain "[B" (some 0) with kind := .array 21 .byte, interfaces := #[20, 3], accessFlags := 1041 }

/-- the primitive char -/
def k23 : Class := { plain "char" none with kind := .primitive 'C', accessFlags := 0x411 }
/-- [C -/
def k24 : Class := { plain "[C" (some 0) with kind := .array 23 .char, interfaces := #[20, 3], accessFlags := 1041 }

/-- the primitive int -/
def k25 : Class := { plain "int" none with kind := .primitive 'I', accessFlags := 0x411 }
/-- [I -/
def k26 : Class := { plain "[I" (some 0) with kind := .array 25 .int, interfaces := #[20, 3], accessFlags := 1041 }

def heap : Heap := #[{ cls := 8, slots := #[.long 0, .int 1, .null, .int 0, .null, .int 0, .int 0], vm := .statics 8 },
  { cls := 19, slots := #[.null, .null, .null], vm := .statics 19 }]
def classes : Array Class := #[k0, k1, k2, k3, k4, k5, k6, k7, k8, k9, k10, k11, k12, k13, k14, k15, k16, k17, k18, k19, k20, k21, k22, k23, k24, k25, k26]
def interned : List (Array UInt16 × Addr) := []
def slotsUsed : Nat := 10
def theMethod : MethodId := ⟨1, 4⟩
def args0 : Array Value := #[.int 5, .int 5, .int 5, .int 5, .int 5]
def aboutOver (below : List Frame) : State where
  vm := { classes := classes, interned := interned.toArray }
  heap := heap
  slotsUsed := slotsUsed
  threads := #[{ frames := .invoking theMethod args0 :: below }]
def below0 : List Frame := [.native { method := ⟨0, 0⟩, args := #[] }]
def about1 : State := aboutOver below0
def p0 : Program := .bare "" "" ""
def e0 : Env := launch0.env 0 0 0
theorem w_frames : about1.frames = Frame.invoking theMethod args0 :: below0 := rfl
set_option maxRecDepth 65536 in
theorem w_args : argsFit about1.vm theMethod args0 = true := by decide +kernel
set_option maxRecDepth 65536 in
theorem w_heap : heapFits about1 = true := by decide +kernel
set_option maxRecDepth 65536 in
theorem w_runnable : about1.curStatus? = some .runnable := by decide +kernel
set_option maxRecDepth 65536 in
theorem w_alone : about1.alone = true := by decide +kernel
set_option maxRecDepth 65536 in
theorem w_named : about1.methodNamed? x = some theMethod := by decide +kernel
set_option maxRecDepth 65536 in
theorem w_hears : about1.hears theMethod below0 = true := by decide +kernel
set_option maxRecDepth 65536 in
theorem w_ripe : about1.ripe theMethod args0 below0 = true := by decide +kernel
theorem w_running : about1.status = .running := rfl
set_option maxRecDepth 65536 in
theorem w_room : about1.hasRoom e0.platform room_1 = true :=
  launch0.hasRoom_least _ room_1 (by decide +kernel) (by decide +kernel) (by decide +kernel) (by decide +kernel) (by decide +kernel) (by decide +kernel)
theorem allAtoms_all (ts : List Jvm.Cond) (a : Array Jvm.Value) (st : Jvm.State) : (allAtoms ts).before a st = ts.all (fun c => c.before a st) := by
  induction ts with
  | nil => rfl
  | cons c t ih =>
    show (Jvm.Cond.and c (allAtoms t)).before a st = _
    rw [Jvm.Cond.before_and, ih, List.all_cons]
def words1 : List Jvm.Cond := Jvm.Cond.code x code maxLocals ret :: tables_1
/-- a 'code' word, met by the world's own term for the bytes: nothing is compared byte by byte -/
theorem code_word {y : MethodName} {bytes : ByteArray} {mx : Nat} {rt : Option FieldType} {a : Array Value} {s : State} {m : MethodId} {meth : Method} {c : Code} (h1 : s.methodNamed? y = some m) (h2 : s.vm.method? m = some meth) (h3 : meth.code = some c) (h4 : c.code = bytes)
    (h5 : (c.maxLocals == mx && c.exceptionTable.isEmpty && decide (c.maxStack ≤ mostOperands) && decide (meth.sig.returnType = rt) && !meth.locks && decide (parseMethodDescriptor y.desc = some meth.sig)) = true) : (Jvm.Cond.code y bytes mx rt).before a s = true := by
  simp only [Bool.and_eq_true, beq_iff_eq, Bool.not_eq_true', decide_eq_true_eq] at h5
  obtain ⟨⟨⟨⟨⟨g1, g2⟩, g3⟩, g4⟩, g5⟩, g6⟩ := h5
  simp [Cond.before, Cond.holds, Cond.value, h1, h2, h3, h4, g1, g2, g3, g4, g5, g6]
def isCode : Jvm.Cond → Bool
  | .code _ _ _ _ => true
  | _ => false
theorem all_split {L : List Jvm.Cond} {P : Jvm.Cond → Bool} (h1 : L.all (fun c => isCode c || P c) = true) (h2 : ∀ c ∈ L.filter isCode, P c = true) : L.all P = true := by
  refine List.all_eq_true.mpr fun c hc => ?_
  have h := List.all_eq_true.mp h1 c hc
  rcases Bool.eq_false_or_eq_true (isCode c) with hi | hi
  · exact h2 c (List.mem_filter.mpr ⟨hc, hi⟩)
  · simpa [hi] using h
set_option maxRecDepth 65536 in
theorem w_c0 : (Jvm.Cond.code x code maxLocals ret).before args0 about1 = true := code_word (m := ⟨1, 4⟩) (meth := k1m4) (c := k1c4) (by decide +kernel) rfl rfl rfl (by decide +kernel)
set_option maxRecDepth 65536 in
theorem w_c1 : (Jvm.Cond.code ({ cls := "lifestack/model/ComponentNameEqualsPinLaw", name := "str", desc := "(I)Ljava/lang/String;" } : Jvm.MethodName) method_3_code (3 : Nat) (Option.some (Jvm.ClassFile.FieldType.object "java/lang/String"))).before args0 about1 = true := code_word (m := ⟨1, 2⟩) (meth := k1m2) (c := k1c2) (by decide +kernel) rfl rfl rfl (by decide +kernel)
set_option maxRecDepth 65536 in
theorem w_c2 : (Jvm.Cond.code ({ cls := "java/lang/String", name := "<init>", desc := "([C)V" } : Jvm.MethodName) jdk_42_method_3_code (2 : Nat) (Option.none : Option Jvm.ClassFile.FieldType)).before args0 about1 = true := code_word (m := ⟨8, 1⟩) (meth := k8m1) (c := k8c1) (by decide +kernel) rfl rfl rfl (by decide +kernel)
set_option maxRecDepth 65536 in
theorem w_c3 : (Jvm.Cond.code ({ cls := "java/lang/String", name := "<init>", desc := "([CIILjava/lang/Void;)V" } : Jvm.MethodName) jdk_42_method_149_code (6 : Nat) (Option.none : Option Jvm.ClassFile.FieldType)).before args0 about1 = true := code_word (m := ⟨8, 10⟩) (meth := k8m10) (c := k8c10) (by decide +kernel) rfl rfl rfl (by decide +kernel)
set_option maxRecDepth 65536 in
theorem w_c4 : (Jvm.Cond.code ({ cls := "java/lang/Object", name := "<init>", desc := "()V" } : Jvm.MethodName) object_method_1_code (1 : Nat) (Option.none : Option Jvm.ClassFile.FieldType)).before args0 about1 = true := code_word (m := ⟨0, 0⟩) (meth := k0m0) (c := k0c0) (by decide +kernel) rfl rfl rfl (by decide +kernel)
set_option maxRecDepth 65536 in
theorem w_c5 : (Jvm.Cond.code ({ cls := "lifestack/model/ComponentNameEqualsPinLaw", name := "ch", desc := "(I)C" } : Jvm.MethodName) method_2_code (2 : Nat) (Option.some Jvm.ClassFile.FieldType.char)).before args0 about1 = true := code_word (m := ⟨1, 1⟩) (meth := k1m1) (c := k1c1) (by decide +kernel) rfl rfl rfl (by decide +kernel)
set_option maxRecDepth 65536 in
theorem w_c6 : (Jvm.Cond.code ({ cls := "java/lang/StringUTF16", name := "compress", desc := "([CII)[B" } : Jvm.MethodName) jdk_52_method_16_code (6 : Nat) (Option.some (Jvm.ClassFile.FieldType.array Jvm.ClassFile.FieldType.byte))).before args0 about1 = true := code_word (m := ⟨9, 2⟩) (meth := k9m2) (c := k9c2) (by decide +kernel) rfl rfl rfl (by decide +kernel)
set_option maxRecDepth 65536 in
theorem w_c7 : (Jvm.Cond.code ({ cls := "java/lang/StringUTF16", name := "compress", desc := "([CI[BII)I" } : Jvm.MethodName) jdk_52_method_21_code (7 : Nat) (Option.some Jvm.ClassFile.FieldType.int)).before args0 about1 = true := code_word (m := ⟨9, 3⟩) (meth := k9m3) (c := k9c3) (by decide +kernel) rfl rfl rfl (by decide +kernel)
set_option maxRecDepth 65536 in
theorem w_c8 : (Jvm.Cond.code ({ cls := "java/lang/StringUTF16", name := "coderFromArrayLen", desc := "([BI)B" } : Jvm.MethodName) jdk_52_method_15_code (2 : Nat) (Option.some Jvm.ClassFile.FieldType.byte)).before args0 about1 = true := code_word (m := ⟨9, 1⟩) (meth := k9m1) (c := k9c1) (by decide +kernel) rfl rfl rfl (by decide +kernel)
set_option maxRecDepth 65536 in
theorem w_c9 : (Jvm.Cond.code ({ cls := "lifestack/model/ComponentName", name := "<init>", desc := "(Ljava/lang/String;Ljava/lang/String;)V" } : Jvm.MethodName) prog_32_method_1_code (4 : Nat) (Option.none : Option Jvm.ClassFile.FieldType)).before args0 about1 = true := code_word (m := ⟨2, 0⟩) (meth := k2m0) (c := k2c0) (by decide +kernel) rfl rfl rfl (by decide +kernel)
set_option maxRecDepth 65536 in
theorem w_c10 : (Jvm.Cond.code ({ cls := "java/util/Objects", name := "requireNonNull", desc := "(Ljava/lang/Object;)Ljava/lang/Object;" } : Jvm.MethodName) jdk_31_method_10_code (1 : Nat) (Option.some (Jvm.ClassFile.FieldType.object "java/lang/Object"))).before args0 about1 = true := code_word (m := ⟨10, 1⟩) (meth := k10m1) (c := k10c1) (by decide +kernel) rfl rfl rfl (by decide +kernel)
set_option maxRecDepth 65536 in
theorem w_c11 : (Jvm.Cond.code ({ cls := "java/lang/String", name := "startsWith", desc := "(Ljava/lang/String;)Z" } : Jvm.MethodName) jdk_42_method_76_code (2 : Nat) (Option.some Jvm.ClassFile.FieldType.boolean)).before args0 about1 = true := code_word (m := ⟨8, 6⟩) (meth := k8m6) (c := k8c6) (by decide +kernel) rfl rfl rfl (by decide +kernel)
set_option maxRecDepth 65536 in
theorem w_c12 : (Jvm.Cond.code ({ cls := "java/lang/String", name := "startsWith", desc := "(Ljava/lang/String;I)Z" } : Jvm.MethodName) jdk_42_method_75_code (8 : Nat) (Option.some Jvm.ClassFile.FieldType.boolean)).before args0 about1 = true := code_word (m := ⟨8, 5⟩) (meth := k8m5) (c := k8c5) (by decide +kernel) rfl rfl rfl (by decide +kernel)
set_option maxRecDepth 65536 in
theorem w_c13 : (Jvm.Cond.code ({ cls := "java/lang/String", name := "length", desc := "()I" } : Jvm.MethodName) jdk_42_method_54_code (1 : Nat) (Option.some Jvm.ClassFile.FieldType.int)).before args0 about1 = true := code_word (m := ⟨8, 3⟩) (meth := k8m3) (c := k8c3) (by decide +kernel) rfl rfl rfl (by decide +kernel)
set_option maxRecDepth 65536 in
theorem w_c14 : (Jvm.Cond.code ({ cls := "java/lang/String", name := "coder", desc := "()B" } : Jvm.MethodName) jdk_42_method_152_code (1 : Nat) (Option.some Jvm.ClassFile.FieldType.byte)).before args0 about1 = true := code_word (m := ⟨8, 13⟩) (meth := k8m13) (c := k8c13) (by decide +kernel) rfl rfl rfl (by decide +kernel)
set_option maxRecDepth 65536 in
theorem w_c15 : (Jvm.Cond.code ({ cls := "jdk/internal/util/ArraysSupport", name := "mismatch", desc := "([BI[BII)I" } : Jvm.MethodName) jdk_48_method_14_code (8 : Nat) (Option.some Jvm.ClassFile.FieldType.int)).before args0 about1 = true := code_word (m := ⟨11, 1⟩) (meth := k11m1) (c := k11c1) (by decide +kernel) rfl rfl rfl (by decide +kernel)
set_option maxRecDepth 65536 in
theorem w_c16 : (Jvm.Cond.code ({ cls := "java/lang/StringBuilder", name := "<init>", desc := "()V" } : Jvm.MethodName) jdk_67_method_1_code (1 : Nat) (Option.none : Option Jvm.ClassFile.FieldType)).before args0 about1 = true := code_word (m := ⟨14, 0⟩) (meth := k14m0) (c := k14c0) (by decide +kernel) rfl rfl rfl (by decide +kernel)
set_option maxRecDepth 65536 in
theorem w_c17 : (Jvm.Cond.code ({ cls := "java/lang/AbstractStringBuilder", name := "<init>", desc := "(I)V" } : Jvm.MethodName) jdk_68_method_2_code (2 : Nat) (Option.none : Option Jvm.ClassFile.FieldType)).before args0 about1 = true := code_word (m := ⟨13, 1⟩) (meth := k13m1) (c := k13c1) (by decide +kernel) rfl rfl rfl (by decide +kernel)
set_option maxRecDepth 65536 in
theorem w_c18 : (Jvm.Cond.code ({ cls := "java/lang/StringBuilder", name := "append", desc := "(Ljava/lang/String;)Ljava/lang/StringBuilder;" } : Jvm.MethodName) jdk_67_method_7_code (2 : Nat) (Option.some (Jvm.ClassFile.FieldType.object "java/lang/StringBuilder"))).before args0 about1 = true := code_word (m := ⟨14, 1⟩) (meth := k14m1) (c := k14c1) (by decide +kernel) rfl rfl rfl (by decide +kernel)
set_option maxRecDepth 65536 in
theorem w_c19 : (Jvm.Cond.code ({ cls := "java/lang/AbstractStringBuilder", name := "append", desc := "(Ljava/lang/String;)Ljava/lang/AbstractStringBuilder;" } : Jvm.MethodName) jdk_68_method_22_code (3 : Nat) (Option.some (Jvm.ClassFile.FieldType.object "java/lang/AbstractStringBuilder"))).before args0 about1 = true := code_word (m := ⟨13, 4⟩) (meth := k13m4) (c := k13c4) (by decide +kernel) rfl rfl rfl (by decide +kernel)
set_option maxRecDepth 65536 in
theorem w_c20 : (Jvm.Cond.code ({ cls := "java/lang/AbstractStringBuilder", name := "ensureCapacityInternal", desc := "(I)V" } : Jvm.MethodName) jdk_68_method_9_code (3 : Nat) (Option.none : Option Jvm.ClassFile.FieldType)).before args0 about1 = true := code_word (m := ⟨13, 3⟩) (meth := k13m3) (c := k13c3) (by decide +kernel) rfl rfl rfl (by decide +kernel)
set_option maxRecDepth 65536 in
theorem w_c21 : (Jvm.Cond.code ({ cls := "java/lang/AbstractStringBuilder", name := "putStringAt", desc := "(ILjava/lang/String;)V" } : Jvm.MethodName) jdk_68_method_73_code (3 : Nat) (Option.none : Option Jvm.ClassFile.FieldType)).before args0 about1 = true := code_word (m := ⟨13, 8⟩) (meth := k13m8) (c := k13c8) (by decide +kernel) rfl rfl rfl (by decide +kernel)
set_option maxRecDepth 65536 in
theorem w_c22 : (Jvm.Cond.code ({ cls := "java/lang/AbstractStringBuilder", name := "inflateIfNeededFor", desc := "(Ljava/lang/String;)V" } : Jvm.MethodName) jdk_68_method_71_code (2 : Nat) (Option.none : Option Jvm.ClassFile.FieldType)).before args0 about1 = true := code_word (m := ⟨13, 7⟩) (meth := k13m7) (c := k13c7) (by decide +kernel) rfl rfl rfl (by decide +kernel)
set_option maxRecDepth 65536 in
theorem w_c23 : (Jvm.Cond.code ({ cls := "java/lang/String", name := "getBytes", desc := "([BIB)V" } : Jvm.MethodName) jdk_42_method_147_code (4 : Nat) (Option.none : Option Jvm.ClassFile.FieldType)).before args0 about1 = true := code_word (m := ⟨8, 9⟩) (meth := k8m9) (c := k8c9) (by decide +kernel) rfl rfl rfl (by decide +kernel)
set_option maxRecDepth 65536 in
theorem w_c24 : (Jvm.Cond.code ({ cls := "java/lang/StringBuilder", name := "toString", desc := "()Ljava/lang/String;" } : Jvm.MethodName) jdk_67_method_42_code (1 : Nat) (Option.some (Jvm.ClassFile.FieldType.object "java/lang/String"))).before args0 about1 = true := code_word (m := ⟨14, 2⟩) (meth := k14m2) (c := k14c2) (by decide +kernel) rfl rfl rfl (by decide +kernel)
set_option maxRecDepth 65536 in
theorem w_c25 : (Jvm.Cond.code ({ cls := "java/lang/String", name := "<init>", desc := "(Ljava/lang/StringBuilder;)V" } : Jvm.MethodName) jdk_42_method_53_code (2 : Nat) (Option.none : Option Jvm.ClassFile.FieldType)).before args0 about1 = true := code_word (m := ⟨8, 2⟩) (meth := k8m2) (c := k8c2) (by decide +kernel) rfl rfl rfl (by decide +kernel)
set_option maxRecDepth 65536 in
theorem w_c26 : (Jvm.Cond.code ({ cls := "java/lang/String", name := "<init>", desc := "(Ljava/lang/AbstractStringBuilder;Ljava/lang/Void;)V" } : Jvm.MethodName) jdk_42_method_150_code (5 : Nat) (Option.none : Option Jvm.ClassFile.FieldType)).before args0 about1 = true := code_word (m := ⟨8, 11⟩) (meth := k8m11) (c := k8c11) (by decide +kernel) rfl rfl rfl (by decide +kernel)
set_option maxRecDepth 65536 in
theorem w_c27 : (Jvm.Cond.code ({ cls := "java/lang/AbstractStringBuilder", name := "getValue", desc := "()[B" } : Jvm.MethodName) jdk_68_method_64_code (1 : Nat) (Option.some (Jvm.ClassFile.FieldType.array Jvm.ClassFile.FieldType.byte))).before args0 about1 = true := code_word (m := ⟨13, 5⟩) (meth := k13m5) (c := k13c5) (by decide +kernel) rfl rfl rfl (by decide +kernel)
set_option maxRecDepth 65536 in
theorem w_c28 : (Jvm.Cond.code ({ cls := "java/lang/StringBuilder", name := "length", desc := "()I" } : Jvm.MethodName) jdk_67_method_93_code (1 : Nat) (Option.some Jvm.ClassFile.FieldType.int)).before args0 about1 = true := code_word (m := ⟨14, 3⟩) (meth := k14m3) (c := k14c3) (by decide +kernel) rfl rfl rfl (by decide +kernel)
set_option maxRecDepth 65536 in
theorem w_c29 : (Jvm.Cond.code ({ cls := "java/lang/AbstractStringBuilder", name := "length", desc := "()I" } : Jvm.MethodName) jdk_68_method_6_code (1 : Nat) (Option.some Jvm.ClassFile.FieldType.int)).before args0 about1 = true := code_word (m := ⟨13, 2⟩) (meth := k13m2) (c := k13c2) (by decide +kernel) rfl rfl rfl (by decide +kernel)
set_option maxRecDepth 65536 in
theorem w_c30 : (Jvm.Cond.code ({ cls := "java/lang/AbstractStringBuilder", name := "isLatin1", desc := "()Z" } : Jvm.MethodName) jdk_68_method_68_code (1 : Nat) (Option.some Jvm.ClassFile.FieldType.boolean)).before args0 about1 = true := code_word (m := ⟨13, 6⟩) (meth := k13m6) (c := k13c6) (by decide +kernel) rfl rfl rfl (by decide +kernel)
set_option maxRecDepth 65536 in
theorem w_c31 : (Jvm.Cond.code ({ cls := "java/util/Arrays", name := "copyOfRange", desc := "([BII)[B" } : Jvm.MethodName) jdk_65_method_132_code (3 : Nat) (Option.some (Jvm.ClassFile.FieldType.array Jvm.ClassFile.FieldType.byte))).before args0 about1 = true := code_word (m := ⟨16, 2⟩) (meth := k16m2) (c := k16c2) (by decide +kernel) rfl rfl rfl (by decide +kernel)
set_option maxRecDepth 65536 in
theorem w_c32 : (Jvm.Cond.code ({ cls := "java/util/Arrays", name := "copyOfRangeByte", desc := "([BII)[B" } : Jvm.MethodName) jdk_65_method_133_code (5 : Nat) (Option.some (Jvm.ClassFile.FieldType.array Jvm.ClassFile.FieldType.byte))).before args0 about1 = true := code_word (m := ⟨16, 3⟩) (meth := k16m3) (c := k16c3) (by decide +kernel) rfl rfl rfl (by decide +kernel)
set_option maxRecDepth 65536 in
theorem w_c33 : (Jvm.Cond.code ({ cls := "java/util/Arrays", name := "checkLength", desc := "(II)V" } : Jvm.MethodName) jdk_65_method_131_code (2 : Nat) (Option.none : Option Jvm.ClassFile.FieldType)).before args0 about1 = true := code_word (m := ⟨16, 1⟩) (meth := k16m1) (c := k16c1) (by decide +kernel) rfl rfl rfl (by decide +kernel)
set_option maxRecDepth 65536 in
theorem w_c34 : (Jvm.Cond.code ({ cls := "java/lang/Math", name := "min", desc := "(II)I" } : Jvm.MethodName) jdk_29_method_69_code (2 : Nat) (Option.some Jvm.ClassFile.FieldType.int)).before args0 about1 = true := code_word (m := ⟨17, 1⟩) (meth := k17m1) (c := k17c1) (by decide +kernel) rfl rfl rfl (by decide +kernel)
set_option maxRecDepth 65536 in
theorem w_c35 : (Jvm.Cond.code ({ cls := "lifestack/model/ComponentNameEqualsPinLaw", name := "same", desc := "(II)Z" } : Jvm.MethodName) method_4_code (4 : Nat) (Option.some Jvm.ClassFile.FieldType.boolean)).before args0 about1 = true := code_word (m := ⟨1, 3⟩) (meth := k1m3) (c := k1c3) (by decide +kernel) rfl rfl rfl (by decide +kernel)
set_option maxRecDepth 65536 in
theorem w_c36 : (Jvm.Cond.code ({ cls := "lifestack/model/ComponentName", name := "equals", desc := "(Ljava/lang/Object;)Z" } : Jvm.MethodName) prog_32_method_5_code (3 : Nat) (Option.some Jvm.ClassFile.FieldType.boolean)).before args0 about1 = true := code_word (m := ⟨2, 1⟩) (meth := k2m1) (c := k2c1) (by decide +kernel) rfl rfl rfl (by decide +kernel)
set_option maxRecDepth 65536 in
theorem w_c37 : (Jvm.Cond.code ({ cls := "java/lang/String", name := "equals", desc := "(Ljava/lang/Object;)Z" } : Jvm.MethodName) jdk_42_method_66_code (3 : Nat) (Option.some Jvm.ClassFile.FieldType.boolean)).before args0 about1 = true := code_word (m := ⟨8, 4⟩) (meth := k8m4) (c := k8c4) (by decide +kernel) rfl rfl rfl (by decide +kernel)
set_option maxRecDepth 65536 in
theorem w_c38 : (Jvm.Cond.code ({ cls := "java/lang/StringLatin1", name := "equals", desc := "([B[B)Z" } : Jvm.MethodName) jdk_43_method_13_code (3 : Nat) (Option.some Jvm.ClassFile.FieldType.boolean)).before args0 about1 = true := code_word (m := ⟨18, 1⟩) (meth := k18m1) (c := k18c1) (by decide +kernel) rfl rfl rfl (by decide +kernel)
set_option maxRecDepth 65536 in
theorem w_c39 : (Jvm.Cond.code ({ cls := "lifestack/model/ComponentName", name := "toString", desc := "()Ljava/lang/String;" } : Jvm.MethodName) prog_32_method_7_code (1 : Nat) (Option.some (Jvm.ClassFile.FieldType.object "java/lang/String"))).before args0 about1 = true := code_word (m := ⟨2, 2⟩) (meth := k2m2) (c := k2c2) (by decide +kernel) rfl rfl rfl (by decide +kernel)
set_option maxRecDepth 65536 in
theorem w_c40 : (Jvm.Cond.code ({ cls := "java/lang/String", name := "substring", desc := "(I)Ljava/lang/String;" } : Jvm.MethodName) jdk_42_method_91_code (2 : Nat) (Option.some (Jvm.ClassFile.FieldType.object "java/lang/String"))).before args0 about1 = true := code_word (m := ⟨8, 7⟩) (meth := k8m7) (c := k8c7) (by decide +kernel) rfl rfl rfl (by decide +kernel)
set_option maxRecDepth 65536 in
theorem w_c41 : (Jvm.Cond.code ({ cls := "java/lang/String", name := "substring", desc := "(II)Ljava/lang/String;" } : Jvm.MethodName) jdk_42_method_92_code (5 : Nat) (Option.some (Jvm.ClassFile.FieldType.object "java/lang/String"))).before args0 about1 = true := code_word (m := ⟨8, 8⟩) (meth := k8m8) (c := k8c8) (by decide +kernel) rfl rfl rfl (by decide +kernel)
set_option maxRecDepth 65536 in
theorem w_c42 : (Jvm.Cond.code ({ cls := "java/lang/String", name := "checkBoundsBeginEnd", desc := "(III)V" } : Jvm.MethodName) jdk_42_method_158_code (3 : Nat) (Option.none : Option Jvm.ClassFile.FieldType)).before args0 about1 = true := code_word (m := ⟨8, 15⟩) (meth := k8m15) (c := k8c15) (by decide +kernel) rfl rfl rfl (by decide +kernel)
set_option maxRecDepth 65536 in
theorem w_c43 : (Jvm.Cond.code ({ cls := "jdk/internal/util/Preconditions", name := "checkFromToIndex", desc := "(IIILjava/util/function/BiFunction;)I" } : Jvm.MethodName) jdk_41_method_12_code (4 : Nat) (Option.some Jvm.ClassFile.FieldType.int)).before args0 about1 = true := code_word (m := ⟨19, 1⟩) (meth := k19m1) (c := k19c1) (by decide +kernel) rfl rfl rfl (by decide +kernel)
set_option maxRecDepth 65536 in
theorem w_c44 : (Jvm.Cond.code ({ cls := "java/lang/String", name := "isLatin1", desc := "()Z" } : Jvm.MethodName) jdk_42_method_154_code (1 : Nat) (Option.some Jvm.ClassFile.FieldType.boolean)).before args0 about1 = true := code_word (m := ⟨8, 14⟩) (meth := k8m14) (c := k8c14) (by decide +kernel) rfl rfl rfl (by decide +kernel)
set_option maxRecDepth 65536 in
theorem w_c45 : (Jvm.Cond.code ({ cls := "java/lang/StringLatin1", name := "newString", desc := "([BII)Ljava/lang/String;" } : Jvm.MethodName) jdk_43_method_47_code (3 : Nat) (Option.some (Jvm.ClassFile.FieldType.object "java/lang/String"))).before args0 about1 = true := code_word (m := ⟨18, 2⟩) (meth := k18m2) (c := k18c2) (by decide +kernel) rfl rfl rfl (by decide +kernel)
set_option maxRecDepth 65536 in
theorem w_c46 : (Jvm.Cond.code ({ cls := "java/lang/String", name := "<init>", desc := "([BB)V" } : Jvm.MethodName) jdk_42_method_151_code (3 : Nat) (Option.none : Option Jvm.ClassFile.FieldType)).before args0 about1 = true := code_word (m := ⟨8, 12⟩) (meth := k8m12) (c := k8c12) (by decide +kernel) rfl rfl rfl (by decide +kernel)
def codes1 : List Jvm.Cond := [Jvm.Cond.code x code maxLocals ret, Jvm.Cond.code ({ cls := "lifestack/model/ComponentNameEqualsPinLaw", name := "str", desc := "(I)Ljava/lang/String;" } : Jvm.MethodName) method_3_code (3 : Nat) (Option.some (Jvm.ClassFile.FieldType.object "java/lang/String")), Jvm.Cond.code ({ cls := "java/lang/String", name := "<init>", desc := "([C)V" } : Jvm.MethodName) jdk_42_method_3_code (2 : Nat) (Option.none : Option Jvm.ClassFile.FieldType), Jvm.Cond.code ({ cls := "java/lang/String", name := "<init>", desc := "([CIILjava/lang/Void;)V" } : Jvm.MethodName) jdk_42_method_149_code (6 : Nat) (Option.none : Option Jvm.ClassFile.FieldType), Jvm.Cond.code ({ cls := "java/lang/Object", name := "<init>", desc := "()V" } : Jvm.MethodName) object_method_1_code (1 : Nat) (Option.none : Option Jvm.ClassFile.FieldType), Jvm.Cond.code ({ cls := "lifestack/model/ComponentNameEqualsPinLaw", name := "ch", desc := "(I)C" } : Jvm.MethodName) method_2_code (2 : Nat) (Option.some Jvm.ClassFile.FieldType.char), Jvm.Cond.code ({ cls := "java/lang/StringUTF16", name := "compress", desc := "([CII)[B" } : Jvm.MethodName) jdk_52_method_16_code (6 : Nat) (Option.some (Jvm.ClassFile.FieldType.array Jvm.ClassFile.FieldType.byte)), Jvm.Cond.code ({ cls := "java/lang/StringUTF16", name := "compress", desc := "([CI[BII)I" } : Jvm.MethodName) jdk_52_method_21_code (7 : Nat) (Option.some Jvm.ClassFile.FieldType.int), Jvm.Cond.code ({ cls := "java/lang/StringUTF16", name := "coderFromArrayLen", desc := "([BI)B" } : Jvm.MethodName) jdk_52_method_15_code (2 : Nat) (Option.some Jvm.ClassFile.FieldType.byte), Jvm.Cond.code ({ cls := "lifestack/model/ComponentName", name := "<init>", desc := "(Ljava/lang/String;Ljava/lang/String;)V" } : Jvm.MethodName) prog_32_method_1_code (4 : Nat) (Option.none : Option Jvm.ClassFile.FieldType), Jvm.Cond.code ({ cls := "java/util/Objects", name := "requireNonNull", desc := "(Ljava/lang/Object;)Ljava/lang/Object;" } : Jvm.MethodName) jdk_31_method_10_code (1 : Nat) (Option.some (Jvm.ClassFile.FieldType.object "java/lang/Object")), Jvm.Cond.code ({ cls := "java/lang/String", name := "startsWith", desc := "(Ljava/lang/String;)Z" } : Jvm.MethodName) jdk_42_method_76_code (2 : Nat) (Option.some Jvm.ClassFile.FieldType.boolean), Jvm.Cond.code ({ cls := "java/lang/String", name := "startsWith", desc := "(Ljava/lang/String;I)Z" } : Jvm.MethodName) jdk_42_method_75_code (8 : Nat) (Option.some Jvm.ClassFile.FieldType.boolean), Jvm.Cond.code ({ cls := "java/lang/String", name := "length", desc := "()I" } : Jvm.MethodName) jdk_42_method_54_code (1 : Nat) (Option.some Jvm.ClassFile.FieldType.int), Jvm.Cond.code ({ cls := "java/lang/String", name := "coder", desc := "()B" } : Jvm.MethodName) jdk_42_method_152_code (1 : Nat) (Option.some Jvm.ClassFile.FieldType.byte), Jvm.Cond.code ({ cls := "jdk/internal/util/ArraysSupport", name := "mismatch", desc := "([BI[BII)I" } : Jvm.MethodName) jdk_48_method_14_code (8 : Nat) (Option.some Jvm.ClassFile.FieldType.int), Jvm.Cond.code ({ cls := "java/lang/StringBuilder", name := "<init>", desc := "()V" } : Jvm.MethodName) jdk_67_method_1_code (1 : Nat) (Option.none : Option Jvm.ClassFile.FieldType), Jvm.Cond.code ({ cls := "java/lang/AbstractStringBuilder", name := "<init>", desc := "(I)V" } : Jvm.MethodName) jdk_68_method_2_code (2 : Nat) (Option.none : Option Jvm.ClassFile.FieldType), Jvm.Cond.code ({ cls := "java/lang/StringBuilder", name := "append", desc := "(Ljava/lang/String;)Ljava/lang/StringBuilder;" } : Jvm.MethodName) jdk_67_method_7_code (2 : Nat) (Option.some (Jvm.ClassFile.FieldType.object "java/lang/StringBuilder")), Jvm.Cond.code ({ cls := "java/lang/AbstractStringBuilder", name := "append", desc := "(Ljava/lang/String;)Ljava/lang/AbstractStringBuilder;" } : Jvm.MethodName) jdk_68_method_22_code (3 : Nat) (Option.some (Jvm.ClassFile.FieldType.object "java/lang/AbstractStringBuilder")), Jvm.Cond.code ({ cls := "java/lang/AbstractStringBuilder", name := "ensureCapacityInternal", desc := "(I)V" } : Jvm.MethodName) jdk_68_method_9_code (3 : Nat) (Option.none : Option Jvm.ClassFile.FieldType), Jvm.Cond.code ({ cls := "java/lang/AbstractStringBuilder", name := "putStringAt", desc := "(ILjava/lang/String;)V" } : Jvm.MethodName) jdk_68_method_73_code (3 : Nat) (Option.none : Option Jvm.ClassFile.FieldType), Jvm.Cond.code ({ cls := "java/lang/AbstractStringBuilder", name := "inflateIfNeededFor", desc := "(Ljava/lang/String;)V" } : Jvm.MethodName) jdk_68_method_71_code (2 : Nat) (Option.none : Option Jvm.ClassFile.FieldType), Jvm.Cond.code ({ cls := "java/lang/String", name := "getBytes", desc := "([BIB)V" } : Jvm.MethodName) jdk_42_method_147_code (4 : Nat) (Option.none : Option Jvm.ClassFile.FieldType), Jvm.Cond.code ({ cls := "java/lang/StringBuilder", name := "toString", desc := "()Ljava/lang/String;" } : Jvm.MethodName) jdk_67_method_42_code (1 : Nat) (Option.some (Jvm.ClassFile.FieldType.object "java/lang/String")), Jvm.Cond.code ({ cls := "java/lang/String", name := "<init>", desc := "(Ljava/lang/StringBuilder;)V" } : Jvm.MethodName) jdk_42_method_53_code (2 : Nat) (Option.none : Option Jvm.ClassFile.FieldType), Jvm.Cond.code ({ cls := "java/lang/String", name := "<init>", desc := "(Ljava/lang/AbstractStringBuilder;Ljava/lang/Void;)V" } : Jvm.MethodName) jdk_42_method_150_code (5 : Nat) (Option.none : Option Jvm.ClassFile.FieldType), Jvm.Cond.code ({ cls := "java/lang/AbstractStringBuilder", name := "getValue", desc := "()[B" } : Jvm.MethodName) jdk_68_method_64_code (1 : Nat) (Option.some (Jvm.ClassFile.FieldType.array Jvm.ClassFile.FieldType.byte)), Jvm.Cond.code ({ cls := "java/lang/StringBuilder", name := "length", desc := "()I" } : Jvm.MethodName) jdk_67_method_93_code (1 : Nat) (Option.some Jvm.ClassFile.FieldType.int), Jvm.Cond.code ({ cls := "java/lang/AbstractStringBuilder", name := "length", desc := "()I" } : Jvm.MethodName) jdk_68_method_6_code (1 : Nat) (Option.some Jvm.ClassFile.FieldType.int), Jvm.Cond.code ({ cls := "java/lang/AbstractStringBuilder", name := "isLatin1", desc := "()Z" } : Jvm.MethodName) jdk_68_method_68_code (1 : Nat) (Option.some Jvm.ClassFile.FieldType.boolean), Jvm.Cond.code ({ cls := "java/util/Arrays", name := "copyOfRange", desc := "([BII)[B" } : Jvm.MethodName) jdk_65_method_132_code (3 : Nat) (Option.some (Jvm.ClassFile.FieldType.array Jvm.ClassFile.FieldType.byte)), Jvm.Cond.code ({ cls := "java/util/Arrays", name := "copyOfRangeByte", desc := "([BII)[B" } : Jvm.MethodName) jdk_65_method_133_code (5 : Nat) (Option.some (Jvm.ClassFile.FieldType.array Jvm.ClassFile.FieldType.byte)), Jvm.Cond.code ({ cls := "java/util/Arrays", name := "checkLength", desc := "(II)V" } : Jvm.MethodName) jdk_65_method_131_code (2 : Nat) (Option.none : Option Jvm.ClassFile.FieldType), Jvm.Cond.code ({ cls := "java/lang/Math", name := "min", desc := "(II)I" } : Jvm.MethodName) jdk_29_method_69_code (2 : Nat) (Option.some Jvm.ClassFile.FieldType.int), Jvm.Cond.code ({ cls := "lifestack/model/ComponentNameEqualsPinLaw", name := "same", desc := "(II)Z" } : Jvm.MethodName) method_4_code (4 : Nat) (Option.some Jvm.ClassFile.FieldType.boolean), Jvm.Cond.code ({ cls := "lifestack/model/ComponentName", name := "equals", desc := "(Ljava/lang/Object;)Z" } : Jvm.MethodName) prog_32_method_5_code (3 : Nat) (Option.some Jvm.ClassFile.FieldType.boolean), Jvm.Cond.code ({ cls := "java/lang/String", name := "equals", desc := "(Ljava/lang/Object;)Z" } : Jvm.MethodName) jdk_42_method_66_code (3 : Nat) (Option.some Jvm.ClassFile.FieldType.boolean), Jvm.Cond.code ({ cls := "java/lang/StringLatin1", name := "equals", desc := "([B[B)Z" } : Jvm.MethodName) jdk_43_method_13_code (3 : Nat) (Option.some Jvm.ClassFile.FieldType.boolean), Jvm.Cond.code ({ cls := "lifestack/model/ComponentName", name := "toString", desc := "()Ljava/lang/String;" } : Jvm.MethodName) prog_32_method_7_code (1 : Nat) (Option.some (Jvm.ClassFile.FieldType.object "java/lang/String")), Jvm.Cond.code ({ cls := "java/lang/String", name := "substring", desc := "(I)Ljava/lang/String;" } : Jvm.MethodName) jdk_42_method_91_code (2 : Nat) (Option.some (Jvm.ClassFile.FieldType.object "java/lang/String")), Jvm.Cond.code ({ cls := "java/lang/String", name := "substring", desc := "(II)Ljava/lang/String;" } : Jvm.MethodName) jdk_42_method_92_code (5 : Nat) (Option.some (Jvm.ClassFile.FieldType.object "java/lang/String")), Jvm.Cond.code ({ cls := "java/lang/String", name := "checkBoundsBeginEnd", desc := "(III)V" } : Jvm.MethodName) jdk_42_method_158_code (3 : Nat) (Option.none : Option Jvm.ClassFile.FieldType), Jvm.Cond.code ({ cls := "jdk/internal/util/Preconditions", name := "checkFromToIndex", desc := "(IIILjava/util/function/BiFunction;)I" } : Jvm.MethodName) jdk_41_method_12_code (4 : Nat) (Option.some Jvm.ClassFile.FieldType.int), Jvm.Cond.code ({ cls := "java/lang/String", name := "isLatin1", desc := "()Z" } : Jvm.MethodName) jdk_42_method_154_code (1 : Nat) (Option.some Jvm.ClassFile.FieldType.boolean), Jvm.Cond.code ({ cls := "java/lang/StringLatin1", name := "newString", desc := "([BII)Ljava/lang/String;" } : Jvm.MethodName) jdk_43_method_47_code (3 : Nat) (Option.some (Jvm.ClassFile.FieldType.object "java/lang/String")), Jvm.Cond.code ({ cls := "java/lang/String", name := "<init>", desc := "([BB)V" } : Jvm.MethodName) jdk_42_method_151_code (3 : Nat) (Option.none : Option Jvm.ClassFile.FieldType)]
set_option maxRecDepth 65536 in
theorem codes_eq : words1.filter isCode = codes1 := rfl
theorem w_codes : ∀ c ∈ words1.filter isCode, c.before args0 about1 = true := by
  rw [codes_eq]
  intro c hc
  simp only [codes1, List.mem_cons, List.not_mem_nil, or_false] at hc
  rcases hc with rfl | rfl | rfl | rfl | rfl | rfl | rfl | rfl | rfl | rfl | rfl | rfl | rfl | rfl | rfl | rfl | rfl | rfl | rfl | rfl | rfl | rfl | rfl | rfl | rfl | rfl | rfl | rfl | rfl | rfl | rfl | rfl | rfl | rfl | rfl | rfl | rfl | rfl | rfl | rfl | rfl | rfl | rfl | rfl | rfl | rfl | rfl
  · exact w_c0
  · exact w_c1
  · exact w_c2
  · exact w_c3
  · exact w_c4
  · exact w_c5
  · exact w_c6
  · exact w_c7
  · exact w_c8
  · exact w_c9
  · exact w_c10
  · exact w_c11
  · exact w_c12
  · exact w_c13
  · exact w_c14
  · exact w_c15
  · exact w_c16
  · exact w_c17
  · exact w_c18
  · exact w_c19
  · exact w_c20
  · exact w_c21
  · exact w_c22
  · exact w_c23
  · exact w_c24
  · exact w_c25
  · exact w_c26
  · exact w_c27
  · exact w_c28
  · exact w_c29
  · exact w_c30
  · exact w_c31
  · exact w_c32
  · exact w_c33
  · exact w_c34
  · exact w_c35
  · exact w_c36
  · exact w_c37
  · exact w_c38
  · exact w_c39
  · exact w_c40
  · exact w_c41
  · exact w_c42
  · exact w_c43
  · exact w_c44
  · exact w_c45
  · exact w_c46
set_option maxRecDepth 65536 in
theorem w_t1 : (words1.take 24).all (fun c => isCode c || c.before args0 about1) = true := by decide +kernel
set_option maxRecDepth 65536 in
theorem w_t2 : ((words1.drop 24).take 24).all (fun c => isCode c || c.before args0 about1) = true := by decide +kernel
set_option maxRecDepth 65536 in
theorem w_t3 : (((words1.drop 24).drop 24).take 24).all (fun c => isCode c || c.before args0 about1) = true := by decide +kernel
set_option maxRecDepth 65536 in
theorem w_t4 : ((((words1.drop 24).drop 24).drop 24).take 24).all (fun c => isCode c || c.before args0 about1) = true := by decide +kernel
set_option maxRecDepth 65536 in
theorem w_t5 : (((((words1.drop 24).drop 24).drop 24).drop 24).take 24).all (fun c => isCode c || c.before args0 about1) = true := by decide +kernel
set_option maxRecDepth 65536 in
theorem w_t6 : ((((((words1.drop 24).drop 24).drop 24).drop 24).drop 24).take 24).all (fun c => isCode c || c.before args0 about1) = true := by decide +kernel
set_option maxRecDepth 65536 in
theorem w_t7 : (((((((words1.drop 24).drop 24).drop 24).drop 24).drop 24).drop 24).take 24).all (fun c => isCode c || c.before args0 about1) = true := by decide +kernel
set_option maxRecDepth 65536 in
theorem w_t8 : ((((((((words1.drop 24).drop 24).drop 24).drop 24).drop 24).drop 24).drop 24).take 24).all (fun c => isCode c || c.before args0 about1) = true := by decide +kernel
set_option maxRecDepth 65536 in
theorem w_t9 : (((((((((words1.drop 24).drop 24).drop 24).drop 24).drop 24).drop 24).drop 24).drop 24).take 24).all (fun c => isCode c || c.before args0 about1) = true := by decide +kernel
set_option maxRecDepth 65536 in
theorem w_t10 : ((((((((((words1.drop 24).drop 24).drop 24).drop 24).drop 24).drop 24).drop 24).drop 24).drop 24).take 24).all (fun c => isCode c || c.before args0 about1) = true := by decide +kernel
set_option maxRecDepth 65536 in
theorem w_t11 : ((((((((((words1.drop 24).drop 24).drop 24).drop 24).drop 24).drop 24).drop 24).drop 24).drop 24).drop 24).all (fun c => isCode c || c.before args0 about1) = true := by decide +kernel
theorem w_tables : (allAtoms (Jvm.Cond.code x code maxLocals ret :: tables_1)).before args0 about1 = true := by
  rw [allAtoms_all]
  show words1.all (fun c => c.before args0 about1) = true
  refine all_split ?_ w_codes
  rw [← List.take_append_drop 24 words1, List.all_append, w_t1, ← List.take_append_drop 24 (words1.drop 24), List.all_append, w_t2, ← List.take_append_drop 24 ((words1.drop 24).drop 24), List.all_append, w_t3, ← List.take_append_drop 24 (((words1.drop 24).drop 24).drop 24), List.all_append, w_t4, ← List.take_append_drop 24 ((((words1.drop 24).drop 24).drop 24).drop 24), List.all_append, w_t5, ← List.take_append_drop 24 (((((words1.drop 24).drop 24).drop 24).drop 24).drop 24), List.all_append, w_t6, ← List.take_append_drop 24 ((((((words1.drop 24).drop 24).drop 24).drop 24).drop 24).drop 24), List.all_append, w_t7, ← List.take_append_drop 24 (((((((words1.drop 24).drop 24).drop 24).drop 24).drop 24).drop 24).drop 24), List.all_append, w_t8, ← List.take_append_drop 24 ((((((((words1.drop 24).drop 24).drop 24).drop 24).drop 24).drop 24).drop 24).drop 24), List.all_append, w_t9, ← List.take_append_drop 24 (((((((((words1.drop 24).drop 24).drop 24).drop 24).drop 24).drop 24).drop 24).drop 24).drop 24), List.all_append, w_t10, w_t11]
  rfl
set_option maxRecDepth 65536 in
theorem w_rest : rest_1_c.before args0 about1 = true := by decide +kernel
set_option maxRecDepth 65536 in
theorem w_case : (Jvm.Cond.and given_1 narrow_1).before args0 about1 = true := by decide +kernel
set_option maxRecDepth 65536 in
theorem w_consts : constsHeld consts_1 about1 := Jvm.Lit.constsHeldB_iff.mp (by decide +kernel)
theorem w_applies : (headSpec (Jvm.Cond.code x code maxLocals ret :: tables_1) room_1).applies x e0.platform about1 = true :=
  (Spec.applies_iff w_frames).mpr ⟨w_running, w_runnable, w_alone, w_named, w_hears, w_ripe, w_room, w_tables⟩
theorem atStart : AtStart classFile x code maxLocals ret World_1 tables_1 room_1 Calls_1 rest_1 Pre_1 launch0 p0 e0 about1 theMethod args0 below0 :=
  ⟨lists_1, trivial, launch0.admits_env _ _ _, launch0.least_env, fairChoices_fair.cas, fairChoices_fair.clock, w_frames, w_args, w_heap, w_applies, ⟨w_consts, trivial⟩, w_rest, w_case⟩
end start1
theorem witness_1 : WitnessClaimed_1 := ⟨start1.p0, start1.e0, start1.about1, start1.theMethod, start1.args0, start1.below0, start1.atStart⟩
end Jvm.Pilot.@@N@@
