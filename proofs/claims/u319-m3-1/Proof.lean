import JvmDerived
import JvmDerived.Pilot.@@N@@Statement
import JvmDerived.Pilot.@@N@@Code
set_option linter.unusedVariables false
set_option linter.unusedSimpArgs false
namespace Jvm.Pilot.@@N@@
namespace Own
open Jvm Jvm.ClassFile Sem Op Lib Jvm.Free Jvm.Stand Jvm.LawKit Jvm.RoadKit Bundle
/-- from the state s the invocation comes to its end, and K holds there -/
def Goes (tb : Tables) (e : Env) (below : List Frame) (K : State → Outcome → Prop) (s : State) : Prop := ∃ s₂ o, Steps tb e below s s₂ ∧ s₂.status = .running ∧ Ended s₂ below o ∧ K s₂ o
theorem Goes.go {tb : Tables} {e : Env} {below : List Frame} {K : State → Outcome → Prop} {s s' : State} (st : ∀ t, Steps tb e below s' t → Steps tb e below s t) (h : Goes tb e below K s') : Goes tb e below K s := by
  obtain ⟨s₂, o, h1, h2⟩ := h
  exact ⟨s₂, o, st _ h1, h2⟩
theorem Goes.tr {tb : Tables} {e : Env} {below : List Frame} {K : State → Outcome → Prop} {s s' : State} (st : Steps tb e below s s') (h : Goes tb e below K s') : Goes tb e below K s := Goes.go (fun _ k => st.trans k) h
/-- where the walk stands, with all that the laws ask beside it -/
def Wk (Z : State) (own : String) (bytes : ByteArray) (h : Heap) (p : Program) (l : Launch) (e : Env) (R : Room) (s : State) (m : MethodId) (args : Array Value) (below : List Frame) (meth : Method) (c : Code) (T : State) (locs : List Loc) (cells slots : Nat) : Prop :=
  Stand p l e R s m args below meth c T locs cells slots ∧ p.tables.exec = Jvm.exec ∧ c.code = bytes ∧ Z.Warmed39 s.vm ∧ s.vm.findClass own = some m.cls ∧ T.heap = h
section Steps
variable {Z : State} {own : String} {bytes : ByteArray} {h : Heap} {p : Program} {l : Launch} {e : Env} {R : Room} {s : State} {m : MethodId} {args : Array Value} {below : List Frame} {meth : Method} {c : Code} {T : State} {locs : List Loc} {cells slots : Nat}
  {K : State → Outcome → Prop} {a0 : Array Value} {pc q : Nat} {Ls : Array Slot} {st : List Value}
theorem iconst {i : Int} {v : Int32} (P : Wk Z own bytes h p l e R s m args below meth c T locs cells slots) (hd : decode bytes pc = .ok (.iconst i, 1)) (hv : Int32.ofInt i = v) (hq : pc + 1 = q) (k : Goes p.tables e below K (T.setTop (mkF m q Ls (.int v :: st)))) : Goes p.tables e below K (T.setTop (mkF m pc Ls (st))) := by
  subst hq
  exact Goes.go (fun _ r => XS.iconst P.1.here P.2.1 rfl (hb P.2.2.1 hd) (hv ▸ r)) k
theorem bipush {i : Int} {v : Int32} (P : Wk Z own bytes h p l e R s m args below meth c T locs cells slots) (hd : decode bytes pc = .ok (.bipush i, 2)) (hv : (Int8.ofInt i).toInt32 = v) (hq : pc + 2 = q) (k : Goes p.tables e below K (T.setTop (mkF m q Ls (.int v :: st)))) : Goes p.tables e below K (T.setTop (mkF m pc Ls (st))) := by
  subst hq
  exact Goes.go (fun _ r => XS.bipush P.1.here P.2.1 rfl (hb P.2.2.1 hd) (hv ▸ r)) k
theorem sipush {i : Int} {v : Int32} (P : Wk Z own bytes h p l e R s m args below meth c T locs cells slots) (hd : decode bytes pc = .ok (.sipush i, 3)) (hv : (Int16.ofInt i).toInt32 = v) (hq : pc + 3 = q) (k : Goes p.tables e below K (T.setTop (mkF m q Ls (.int v :: st)))) : Goes p.tables e below K (T.setTop (mkF m pc Ls (st))) := by
  subst hq
  exact Goes.go (fun _ r => XS.sipush P.1.here P.2.1 rfl (hb P.2.2.1 hd) (hv ▸ r)) k
theorem aconst  (P : Wk Z own bytes h p l e R s m args below meth c T locs cells slots) (hd : decode bytes pc = .ok (.aconst_null, 1))  (hq : pc + 1 = q) (k : Goes p.tables e below K (T.setTop (mkF m q Ls (.null :: st)))) : Goes p.tables e below K (T.setTop (mkF m pc Ls (st))) := by
  subst hq
  exact Goes.go (fun _ r => XS.aconstNull P.1.here P.2.1 rfl (hb P.2.2.1 hd) r) k
theorem iload {k : Nat} {v : Int32} (P : Wk Z own bytes h p l e R s m args below meth c T locs cells slots) (hd : decode bytes pc = .ok (.iload k, 2)) (hl : Ls[k]? = some (.val (.int v))) (hq : pc + 2 = q) (k : Goes p.tables e below K (T.setTop (mkF m q Ls (.int v :: st)))) : Goes p.tables e below K (T.setTop (mkF m pc Ls (st))) := by
  subst hq
  exact Goes.go (fun _ r => XS.iload P.1.here P.2.1 rfl (hb P.2.2.1 hd) hl r) k
theorem iloadN {k : _} {v : Int32} (P : Wk Z own bytes h p l e R s m args below meth c T locs cells slots) (hd : decode bytes pc = .ok (.iload_n k, 1)) (hl : Ls[k.val]? = some (.val (.int v))) (hq : pc + 1 = q) (k : Goes p.tables e below K (T.setTop (mkF m q Ls (.int v :: st)))) : Goes p.tables e below K (T.setTop (mkF m pc Ls (st))) := by
  subst hq
  exact Goes.go (fun _ r => XS.iloadN P.1.here P.2.1 rfl (hb P.2.2.1 hd) hl r) k
theorem aload {k : Nat} {v : Value} (P : Wk Z own bytes h p l e R s m args below meth c T locs cells slots) (hd : decode bytes pc = .ok (.aload k, 2)) (hl : Ls[k]? = some (.val v)) (hv : v.isRef = true) (hq : pc + 2 = q) (k : Goes p.tables e below K (T.setTop (mkF m q Ls (v :: st)))) : Goes p.tables e below K (T.setTop (mkF m pc Ls (st))) := by
  subst hq
  exact Goes.go (fun _ r => XS.aload P.1.here P.2.1 rfl (hb P.2.2.1 hd) hl hv r) k
theorem aloadN {k : _} {v : Value} (P : Wk Z own bytes h p l e R s m args below meth c T locs cells slots) (hd : decode bytes pc = .ok (.aload_n k, 1)) (hl : Ls[k.val]? = some (.val v)) (hv : v.isRef = true) (hq : pc + 1 = q) (k : Goes p.tables e below K (T.setTop (mkF m q Ls (v :: st)))) : Goes p.tables e below K (T.setTop (mkF m pc Ls (st))) := by
  subst hq
  exact Goes.go (fun _ r => XS.aloadN P.1.here P.2.1 rfl (hb P.2.2.1 hd) hl hv r) k
theorem lload {k : Nat} {v : Int64} (P : Wk Z own bytes h p l e R s m args below meth c T locs cells slots) (hd : decode bytes pc = .ok (.lload k, 2)) (hl : Ls[k]? = some (.val (.long v))) (hq : pc + 2 = q) (k : Goes p.tables e below K (T.setTop (mkF m q Ls (.long v :: st)))) : Goes p.tables e below K (T.setTop (mkF m pc Ls (st))) := by
  subst hq
  exact Goes.go (fun _ r => XT.lload P.1.here P.2.1 rfl (hb P.2.2.1 hd) hl r) k
theorem lloadN {k : _} {v : Int64} (P : Wk Z own bytes h p l e R s m args below meth c T locs cells slots) (hd : decode bytes pc = .ok (.lload_n k, 1)) (hl : Ls[k.val]? = some (.val (.long v))) (hq : pc + 1 = q) (k : Goes p.tables e below K (T.setTop (mkF m q Ls (.long v :: st)))) : Goes p.tables e below K (T.setTop (mkF m pc Ls (st))) := by
  subst hq
  exact Goes.go (fun _ r => XT.lloadN P.1.here P.2.1 rfl (hb P.2.2.1 hd) hl r) k
theorem istore {k : Nat} {x : Int32} {L2 : Array Slot} (P : Wk Z own bytes h p l e R s m args below meth c T locs cells slots) (hd : decode bytes pc = .ok (.istore k, 2)) (hl : storeLocals Ls k (.int x) = some L2) (hq : pc + 2 = q) (k : Goes p.tables e below K (T.setTop (mkF m q L2 (st)))) : Goes p.tables e below K (T.setTop (mkF m pc Ls (.int x :: st))) := by
  subst hq
  exact Goes.go (fun _ r => XS.istore P.1.here P.2.1 rfl (hb P.2.2.1 hd) rfl hl r) k
theorem istoreN {k : _} {x : Int32} {L2 : Array Slot} (P : Wk Z own bytes h p l e R s m args below meth c T locs cells slots) (hd : decode bytes pc = .ok (.istore_n k, 1)) (hl : storeLocals Ls k.val (.int x) = some L2) (hq : pc + 1 = q) (k : Goes p.tables e below K (T.setTop (mkF m q L2 (st)))) : Goes p.tables e below K (T.setTop (mkF m pc Ls (.int x :: st))) := by
  subst hq
  exact Goes.go (fun _ r => XS.istoreN P.1.here P.2.1 rfl (hb P.2.2.1 hd) rfl hl r) k
theorem astore {k : Nat} {x : Value} {L2 : Array Slot} (P : Wk Z own bytes h p l e R s m args below meth c T locs cells slots) (hd : decode bytes pc = .ok (.astore k, 2)) (hv : x.isRef = true) (hl : storeLocals Ls k x = some L2) (hq : pc + 2 = q) (k : Goes p.tables e below K (T.setTop (mkF m q L2 (st)))) : Goes p.tables e below K (T.setTop (mkF m pc Ls (x :: st))) := by
  subst hq
  exact Goes.go (fun _ r => XS.astore P.1.here P.2.1 rfl (hb P.2.2.1 hd) rfl hv hl r) k
theorem astoreN {k : _} {x : Value} {L2 : Array Slot} (P : Wk Z own bytes h p l e R s m args below meth c T locs cells slots) (hd : decode bytes pc = .ok (.astore_n k, 1)) (hv : x.isRef = true) (hl : storeLocals Ls k.val x = some L2) (hq : pc + 1 = q) (k : Goes p.tables e below K (T.setTop (mkF m q L2 (st)))) : Goes p.tables e below K (T.setTop (mkF m pc Ls (x :: st))) := by
  subst hq
  exact Goes.go (fun _ r => XS.astoreN P.1.here P.2.1 rfl (hb P.2.2.1 hd) rfl hv hl r) k
theorem iinc {k : Nat} {i : Int} {x v : Int32} {L2 : Array Slot} (P : Wk Z own bytes h p l e R s m args below meth c T locs cells slots) (hd : decode bytes pc = .ok (.iinc k i, 3)) (hl : Ls[k]? = some (.val (.int x))) (hv : Int32.ofInt i = v) (hs : storeLocals Ls k (.int (x + v)) = some L2) (hq : pc + 3 = q) (k : Goes p.tables e below K (T.setTop (mkF m q L2 (st)))) : Goes p.tables e below K (T.setTop (mkF m pc Ls (st))) := by
  subst hq
  exact Goes.go (fun _ r => XS.iinc P.1.here P.2.1 rfl (hb P.2.2.1 hd) hl (hv ▸ hs) r) k
theorem dup {x : Value} (P : Wk Z own bytes h p l e R s m args below meth c T locs cells slots) (hd : decode bytes pc = .ok (.dup, 1)) (hc : x.category = 1) (hq : pc + 1 = q) (k : Goes p.tables e below K (T.setTop (mkF m q Ls (x :: x :: st)))) : Goes p.tables e below K (T.setTop (mkF m pc Ls (x :: st))) := by
  subst hq
  exact Goes.go (fun _ r => XS.dup P.1.here P.2.1 rfl (hb P.2.2.1 hd) rfl hc r) k
theorem pop {x : Value} (P : Wk Z own bytes h p l e R s m args below meth c T locs cells slots) (hd : decode bytes pc = .ok (.pop, 1)) (hc : x.category = 1) (hq : pc + 1 = q) (k : Goes p.tables e below K (T.setTop (mkF m q Ls (st)))) : Goes p.tables e below K (T.setTop (mkF m pc Ls (x :: st))) := by
  subst hq
  exact Goes.go (fun _ r => XT.pop P.1.here P.2.1 rfl (hb P.2.2.1 hd) rfl hc r) k
theorem iadd {x y : Int32} (P : Wk Z own bytes h p l e R s m args below meth c T locs cells slots) (hd : decode bytes pc = .ok (.iadd, 1))  (hq : pc + 1 = q) (k : Goes p.tables e below K (T.setTop (mkF m q Ls (.int (x + y) :: st)))) : Goes p.tables e below K (T.setTop (mkF m pc Ls (.int y :: .int x :: st))) := by
  subst hq
  exact Goes.go (fun _ r => XS.iadd P.1.here P.2.1 rfl (hb P.2.2.1 hd) rfl r) k
theorem isub {x y : Int32} (P : Wk Z own bytes h p l e R s m args below meth c T locs cells slots) (hd : decode bytes pc = .ok (.isub, 1))  (hq : pc + 1 = q) (k : Goes p.tables e below K (T.setTop (mkF m q Ls (.int (x - y) :: st)))) : Goes p.tables e below K (T.setTop (mkF m pc Ls (.int y :: .int x :: st))) := by
  subst hq
  exact Goes.go (fun _ r => XS.isub P.1.here P.2.1 rfl (hb P.2.2.1 hd) rfl r) k
theorem iand {x y : Int32} (P : Wk Z own bytes h p l e R s m args below meth c T locs cells slots) (hd : decode bytes pc = .ok (.iand, 1))  (hq : pc + 1 = q) (k : Goes p.tables e below K (T.setTop (mkF m q Ls (.int (x &&& y) :: st)))) : Goes p.tables e below K (T.setTop (mkF m pc Ls (.int y :: .int x :: st))) := by
  subst hq
  exact Goes.go (fun _ r => XS.iand P.1.here P.2.1 rfl (hb P.2.2.1 hd) rfl r) k
theorem imul {x y : Int32} (P : Wk Z own bytes h p l e R s m args below meth c T locs cells slots) (hd : decode bytes pc = .ok (.imul, 1))  (hq : pc + 1 = q) (k : Goes p.tables e below K (T.setTop (mkF m q Ls (.int (x * y) :: st)))) : Goes p.tables e below K (T.setTop (mkF m pc Ls (.int y :: .int x :: st))) := by
  subst hq
  exact Goes.go (fun _ r => XS.imul P.1.here P.2.1 rfl (hb P.2.2.1 hd) rfl r) k
theorem ixor {x y : Int32} (P : Wk Z own bytes h p l e R s m args below meth c T locs cells slots) (hd : decode bytes pc = .ok (.ixor, 1))  (hq : pc + 1 = q) (k : Goes p.tables e below K (T.setTop (mkF m q Ls (.int (x ^^^ y) :: st)))) : Goes p.tables e below K (T.setTop (mkF m pc Ls (.int y :: .int x :: st))) := by
  subst hq
  exact Goes.go (fun _ r => XT.ixor P.1.here P.2.1 rfl (hb P.2.2.1 hd) rfl r) k
theorem ior {x y : Int32} (P : Wk Z own bytes h p l e R s m args below meth c T locs cells slots) (hd : decode bytes pc = .ok (.ior, 1))  (hq : pc + 1 = q) (k : Goes p.tables e below K (T.setTop (mkF m q Ls (.int (x ||| y) :: st)))) : Goes p.tables e below K (T.setTop (mkF m pc Ls (.int y :: .int x :: st))) := by
  subst hq
  exact Goes.go (fun _ r => XT.ior P.1.here P.2.1 rfl (hb P.2.2.1 hd) rfl r) k
theorem ishl {x y : Int32} (P : Wk Z own bytes h p l e R s m args below meth c T locs cells slots) (hd : decode bytes pc = .ok (.ishl, 1))  (hq : pc + 1 = q) (k : Goes p.tables e below K (T.setTop (mkF m q Ls (.int (x <<< (y &&& 31)) :: st)))) : Goes p.tables e below K (T.setTop (mkF m pc Ls (.int y :: .int x :: st))) := by
  subst hq
  exact Goes.go (fun _ r => XT.ishl P.1.here P.2.1 rfl (hb P.2.2.1 hd) rfl r) k
theorem ishr {x y : Int32} (P : Wk Z own bytes h p l e R s m args below meth c T locs cells slots) (hd : decode bytes pc = .ok (.ishr, 1))  (hq : pc + 1 = q) (k : Goes p.tables e below K (T.setTop (mkF m q Ls (.int (x >>> (y &&& 31)) :: st)))) : Goes p.tables e below K (T.setTop (mkF m pc Ls (.int y :: .int x :: st))) := by
  subst hq
  exact Goes.go (fun _ r => XT.ishr P.1.here P.2.1 rfl (hb P.2.2.1 hd) rfl r) k
theorem iushr {x y : Int32} (P : Wk Z own bytes h p l e R s m args below meth c T locs cells slots) (hd : decode bytes pc = .ok (.iushr, 1))  (hq : pc + 1 = q) (k : Goes p.tables e below K (T.setTop (mkF m q Ls (.int (XT.ushr x y) :: st)))) : Goes p.tables e below K (T.setTop (mkF m pc Ls (.int y :: .int x :: st))) := by
  subst hq
  exact Goes.go (fun _ r => XT.iushr P.1.here P.2.1 rfl (hb P.2.2.1 hd) rfl r) k
theorem irem {x y : Int32} (P : Wk Z own bytes h p l e R s m args below meth c T locs cells slots) (hd : decode bytes pc = .ok (.irem, 1)) (hy : y ≠ 0) (hq : pc + 1 = q) (k : Goes p.tables e below K (T.setTop (mkF m q Ls (.int (x % y) :: st)))) : Goes p.tables e below K (T.setTop (mkF m pc Ls (.int y :: .int x :: st))) := by
  subst hq
  exact Goes.go (fun _ r => iremM P.1 P.2.1 rfl (hb P.2.2.1 hd) rfl hy r) k
theorem idiv {x y : Int32} (P : Wk Z own bytes h p l e R s m args below meth c T locs cells slots) (hd : decode bytes pc = .ok (.idiv, 1)) (hy : y ≠ 0) (hq : pc + 1 = q) (k : Goes p.tables e below K (T.setTop (mkF m q Ls (.int (x / y) :: st)))) : Goes p.tables e below K (T.setTop (mkF m pc Ls (.int y :: .int x :: st))) := by
  subst hq
  exact Goes.go (fun _ r => XS.idiv P.1.here P.2.1 rfl (hb P.2.2.1 hd) rfl hy r) k
theorem i2c {x : Int32} (P : Wk Z own bytes h p l e R s m args below meth c T locs cells slots) (hd : decode bytes pc = .ok (.i2c, 1))  (hq : pc + 1 = q) (k : Goes p.tables e below K (T.setTop (mkF m q Ls (.int x.toUInt32.toUInt16.toUInt32.toInt32 :: st)))) : Goes p.tables e below K (T.setTop (mkF m pc Ls (.int x :: st))) := by
  subst hq
  exact Goes.go (fun _ r => XT.i2c P.1.here P.2.1 rfl (hb P.2.2.1 hd) rfl r) k
theorem i2cV {x v : Int32} (P : Wk Z own bytes h p l e R s m args below meth c T locs cells slots) (hd : decode bytes pc = .ok (.i2c, 1)) (hv : x.toUInt32.toUInt16.toUInt32.toInt32 = v) (hq : pc + 1 = q) (k : Goes p.tables e below K (T.setTop (mkF m q Ls (.int v :: st)))) : Goes p.tables e below K (T.setTop (mkF m pc Ls (.int x :: st))) := by
  subst hq
  exact Goes.go (fun _ r => XT.i2c P.1.here P.2.1 rfl (hb P.2.2.1 hd) rfl (hv ▸ r)) k
theorem i2b {x : Int32} (P : Wk Z own bytes h p l e R s m args below meth c T locs cells slots) (hd : decode bytes pc = .ok (.i2b, 1))  (hq : pc + 1 = q) (k : Goes p.tables e below K (T.setTop (mkF m q Ls (.int x.toInt8.toInt32 :: st)))) : Goes p.tables e below K (T.setTop (mkF m pc Ls (.int x :: st))) := by
  subst hq
  exact Goes.go (fun _ r => XT.i2b P.1.here P.2.1 rfl (hb P.2.2.1 hd) rfl r) k
theorem i2l {x : Int32} (P : Wk Z own bytes h p l e R s m args below meth c T locs cells slots) (hd : decode bytes pc = .ok (.i2l, 1))  (hq : pc + 1 = q) (k : Goes p.tables e below K (T.setTop (mkF m q Ls (.long x.toInt64 :: st)))) : Goes p.tables e below K (T.setTop (mkF m pc Ls (.int x :: st))) := by
  subst hq
  exact Goes.go (fun _ r => XT.i2l P.1.here P.2.1 rfl (hb P.2.2.1 hd) rfl r) k
theorem l2i {x : Int64} (P : Wk Z own bytes h p l e R s m args below meth c T locs cells slots) (hd : decode bytes pc = .ok (.l2i, 1))  (hq : pc + 1 = q) (k : Goes p.tables e below K (T.setTop (mkF m q Ls (.int x.toInt32 :: st)))) : Goes p.tables e below K (T.setTop (mkF m pc Ls (.long x :: st))) := by
  subst hq
  exact Goes.go (fun _ r => XT.l2i P.1.here P.2.1 rfl (hb P.2.2.1 hd) rfl r) k
theorem lushr {x : Int64} {y : Int32} (P : Wk Z own bytes h p l e R s m args below meth c T locs cells slots) (hd : decode bytes pc = .ok (.lushr, 1))  (hq : pc + 1 = q) (k : Goes p.tables e below K (T.setTop (mkF m q Ls (.long (XT.ushrL x y) :: st)))) : Goes p.tables e below K (T.setTop (mkF m pc Ls (.int y :: .long x :: st))) := by
  subst hq
  exact Goes.go (fun _ r => XT.lushr P.1.here P.2.1 rfl (hb P.2.2.1 hd) rfl r) k
theorem land {x y : Int64} (P : Wk Z own bytes h p l e R s m args below meth c T locs cells slots) (hd : decode bytes pc = .ok (.land, 1))  (hq : pc + 1 = q) (k : Goes p.tables e below K (T.setTop (mkF m q Ls (.long (x &&& y) :: st)))) : Goes p.tables e below K (T.setTop (mkF m pc Ls (.long y :: .long x :: st))) := by
  subst hq
  exact Goes.go (fun _ r => XT.land P.1.here P.2.1 rfl (hb P.2.2.1 hd) rfl r) k
theorem lsub {x y : Int64} (P : Wk Z own bytes h p l e R s m args below meth c T locs cells slots) (hd : decode bytes pc = .ok (.lsub, 1))  (hq : pc + 1 = q) (k : Goes p.tables e below K (T.setTop (mkF m q Ls (.long (x - y) :: st)))) : Goes p.tables e below K (T.setTop (mkF m pc Ls (.long y :: .long x :: st))) := by
  subst hq
  exact Goes.go (fun _ r => XT.lsub P.1.here P.2.1 rfl (hb P.2.2.1 hd) rfl r) k
theorem lcmp {x y : Int64} (P : Wk Z own bytes h p l e R s m args below meth c T locs cells slots) (hd : decode bytes pc = .ok (.lcmp, 1))  (hq : pc + 1 = q) (k : Goes p.tables e below K (T.setTop (mkF m q Ls (.int (XT.cmpL x y) :: st)))) : Goes p.tables e below K (T.setTop (mkF m pc Ls (.long y :: .long x :: st))) := by
  subst hq
  exact Goes.go (fun _ r => XT.lcmp P.1.here P.2.1 rfl (hb P.2.2.1 hd) rfl r) k
theorem ldcI {i : Nat} {v : Int32} (P : Wk Z own bytes h p l e R s m args below meth c T locs cells slots) (hd : decode bytes pc = .ok (.ldc i, 2)) (w : (Cond.constant own i v).before a0 Z = true) (hq : pc + 2 = q) (k : Goes p.tables e below K (T.setTop (mkF m q Ls (.int v :: st)))) : Goes p.tables e below K (T.setTop (mkF m pc Ls (st))) := by
  subst hq
  exact Goes.go (fun _ r => Jvm.Stand.ldcI P.1 P.2.1 P.2.2.2.2.1 (mvT P.2.2.2.1 w) rfl (hb P.2.2.1 hd) r) k
theorem ldcJ {i : Nat} {v : Int64} (P : Wk Z own bytes h p l e R s m args below meth c T locs cells slots) (hd : decode bytes pc = .ok (.ldc2_w i, 3)) (w : (Cond.constantLong own i v).before a0 Z = true) (hq : pc + 3 = q) (k : Goes p.tables e below K (T.setTop (mkF m q Ls (.long v :: st)))) : Goes p.tables e below K (T.setTop (mkF m pc Ls (st))) := by
  subst hq
  exact Goes.go (fun _ r => Jvm.Stand.ldc2J P.1 P.2.1 P.2.2.2.2.1 (mvT P.2.2.2.1 w) rfl (hb P.2.2.1 hd) r) k
theorem jmp {o : Int} {n : Nat} (h : (n : Int) + o = (q : Int)) : 0 ≤ (n : Int) + o ∧ ((n : Int) + o).toNat = q := by omega
theorem goto {o : Int} (P : Wk Z own bytes h p l e R s m args below meth c T locs cells slots) (hd : decode bytes pc = .ok (.goto o, 3)) (hq : (pc : Int) + o = (q : Int)) (k : Goes p.tables e below K (T.setTop (mkF m q Ls (st)))) : Goes p.tables e below K (T.setTop (mkF m pc Ls (st))) :=
  Goes.go (fun _ r => XS.goto P.1.here P.2.1 rfl (pc0 := pc) rfl (hb P.2.2.1 hd) (jmp hq).1 (jmp hq).2 r) k
theorem icmp_eq {x y : Int32} {o : Int} {qy : Nat} (P : Wk Z own bytes h p l e R s m args below meth c T locs cells slots) (hd : decode bytes pc = .ok (.if_icmp .eq o, 3)) (hy : (pc : Int) + o = (qy : Int)) (hq : pc + 3 = q) (ky : x = y → Goes p.tables e below K (T.setTop (mkF m qy Ls (st)))) (kn : ¬ x = y → Goes p.tables e below K (T.setTop (mkF m q Ls (st)))) : Goes p.tables e below K (T.setTop (mkF m pc Ls (.int y :: .int x :: st))) := by
  subst hq
  by_cases c0 : x = y
  · exact Goes.go (fun _ r => XS.icmpYes P.1.here P.2.1 rfl (pc0 := pc) rfl (hb P.2.2.1 hd) rfl (XT.ii_eq_t c0) (jmp hy).1 (jmp hy).2 r) (ky c0)
  · exact Goes.go (fun _ r => XS.icmpNo P.1.here P.2.1 rfl (hb P.2.2.1 hd) rfl (XT.ii_eq_f c0) r) (kn c0)
theorem if_eq {x : Int32} {o : Int} {qy : Nat} (P : Wk Z own bytes h p l e R s m args below meth c T locs cells slots) (hd : decode bytes pc = .ok (.ifCond .eq o, 3)) (hy : (pc : Int) + o = (qy : Int)) (hq : pc + 3 = q) (ky : x = 0 → Goes p.tables e below K (T.setTop (mkF m qy Ls (st)))) (kn : ¬ x = 0 → Goes p.tables e below K (T.setTop (mkF m q Ls (st)))) : Goes p.tables e below K (T.setTop (mkF m pc Ls (.int x :: st))) := by
  subst hq
  by_cases c0 : x = 0
  · exact Goes.go (fun _ r => XS.ifYes P.1.here P.2.1 rfl (pc0 := pc) rfl (hb P.2.2.1 hd) rfl (XT.i0_eq_t c0) (jmp hy).1 (jmp hy).2 r) (ky c0)
  · exact Goes.go (fun _ r => XS.ifNo P.1.here P.2.1 rfl (hb P.2.2.1 hd) rfl (XT.i0_eq_f c0) r) (kn c0)
theorem icmp_ne {x y : Int32} {o : Int} {qy : Nat} (P : Wk Z own bytes h p l e R s m args below meth c T locs cells slots) (hd : decode bytes pc = .ok (.if_icmp .ne o, 3)) (hy : (pc : Int) + o = (qy : Int)) (hq : pc + 3 = q) (ky : ¬ x = y → Goes p.tables e below K (T.setTop (mkF m qy Ls (st)))) (kn : x = y → Goes p.tables e below K (T.setTop (mkF m q Ls (st)))) : Goes p.tables e below K (T.setTop (mkF m pc Ls (.int y :: .int x :: st))) := by
  subst hq
  by_cases c0 : x = y
  · exact Goes.go (fun _ r => XS.icmpNo P.1.here P.2.1 rfl (hb P.2.2.1 hd) rfl (XT.ii_ne_f c0) r) (kn c0)
  · exact Goes.go (fun _ r => XS.icmpYes P.1.here P.2.1 rfl (pc0 := pc) rfl (hb P.2.2.1 hd) rfl (XT.ii_ne_t c0) (jmp hy).1 (jmp hy).2 r) (ky c0)
theorem if_ne {x : Int32} {o : Int} {qy : Nat} (P : Wk Z own bytes h p l e R s m args below meth c T locs cells slots) (hd : decode bytes pc = .ok (.ifCond .ne o, 3)) (hy : (pc : Int) + o = (qy : Int)) (hq : pc + 3 = q) (ky : ¬ x = 0 → Goes p.tables e below K (T.setTop (mkF m qy Ls (st)))) (kn : x = 0 → Goes p.tables e below K (T.setTop (mkF m q Ls (st)))) : Goes p.tables e below K (T.setTop (mkF m pc Ls (.int x :: st))) := by
  subst hq
  by_cases c0 : x = 0
  · exact Goes.go (fun _ r => XS.ifNo P.1.here P.2.1 rfl (hb P.2.2.1 hd) rfl (XT.i0_ne_f c0) r) (kn c0)
  · exact Goes.go (fun _ r => XS.ifYes P.1.here P.2.1 rfl (pc0 := pc) rfl (hb P.2.2.1 hd) rfl (XT.i0_ne_t c0) (jmp hy).1 (jmp hy).2 r) (ky c0)
theorem icmp_lt {x y : Int32} {o : Int} {qy : Nat} (P : Wk Z own bytes h p l e R s m args below meth c T locs cells slots) (hd : decode bytes pc = .ok (.if_icmp .lt o, 3)) (hy : (pc : Int) + o = (qy : Int)) (hq : pc + 3 = q) (ky : x < y → Goes p.tables e below K (T.setTop (mkF m qy Ls (st)))) (kn : ¬ x < y → Goes p.tables e below K (T.setTop (mkF m q Ls (st)))) : Goes p.tables e below K (T.setTop (mkF m pc Ls (.int y :: .int x :: st))) := by
  subst hq
  by_cases c0 : x < y
  · exact Goes.go (fun _ r => XS.icmpYes P.1.here P.2.1 rfl (pc0 := pc) rfl (hb P.2.2.1 hd) rfl (XT.ii_lt_t c0) (jmp hy).1 (jmp hy).2 r) (ky c0)
  · exact Goes.go (fun _ r => XS.icmpNo P.1.here P.2.1 rfl (hb P.2.2.1 hd) rfl (XT.ii_lt_f c0) r) (kn c0)
theorem if_lt {x : Int32} {o : Int} {qy : Nat} (P : Wk Z own bytes h p l e R s m args below meth c T locs cells slots) (hd : decode bytes pc = .ok (.ifCond .lt o, 3)) (hy : (pc : Int) + o = (qy : Int)) (hq : pc + 3 = q) (ky : x < 0 → Goes p.tables e below K (T.setTop (mkF m qy Ls (st)))) (kn : ¬ x < 0 → Goes p.tables e below K (T.setTop (mkF m q Ls (st)))) : Goes p.tables e below K (T.setTop (mkF m pc Ls (.int x :: st))) := by
  subst hq
  by_cases c0 : x < 0
  · exact Goes.go (fun _ r => XS.ifYes P.1.here P.2.1 rfl (pc0 := pc) rfl (hb P.2.2.1 hd) rfl (XT.i0_lt_t c0) (jmp hy).1 (jmp hy).2 r) (ky c0)
  · exact Goes.go (fun _ r => XS.ifNo P.1.here P.2.1 rfl (hb P.2.2.1 hd) rfl (XT.i0_lt_f c0) r) (kn c0)
theorem icmp_ge {x y : Int32} {o : Int} {qy : Nat} (P : Wk Z own bytes h p l e R s m args below meth c T locs cells slots) (hd : decode bytes pc = .ok (.if_icmp .ge o, 3)) (hy : (pc : Int) + o = (qy : Int)) (hq : pc + 3 = q) (ky : ¬ x < y → Goes p.tables e below K (T.setTop (mkF m qy Ls (st)))) (kn : x < y → Goes p.tables e below K (T.setTop (mkF m q Ls (st)))) : Goes p.tables e below K (T.setTop (mkF m pc Ls (.int y :: .int x :: st))) := by
  subst hq
  by_cases c0 : x < y
  · exact Goes.go (fun _ r => XS.icmpNo P.1.here P.2.1 rfl (hb P.2.2.1 hd) rfl (XT.ii_ge_f c0) r) (kn c0)
  · exact Goes.go (fun _ r => XS.icmpYes P.1.here P.2.1 rfl (pc0 := pc) rfl (hb P.2.2.1 hd) rfl (XT.ii_ge_t c0) (jmp hy).1 (jmp hy).2 r) (ky c0)
theorem if_ge {x : Int32} {o : Int} {qy : Nat} (P : Wk Z own bytes h p l e R s m args below meth c T locs cells slots) (hd : decode bytes pc = .ok (.ifCond .ge o, 3)) (hy : (pc : Int) + o = (qy : Int)) (hq : pc + 3 = q) (ky : ¬ x < 0 → Goes p.tables e below K (T.setTop (mkF m qy Ls (st)))) (kn : x < 0 → Goes p.tables e below K (T.setTop (mkF m q Ls (st)))) : Goes p.tables e below K (T.setTop (mkF m pc Ls (.int x :: st))) := by
  subst hq
  by_cases c0 : x < 0
  · exact Goes.go (fun _ r => XS.ifNo P.1.here P.2.1 rfl (hb P.2.2.1 hd) rfl (XT.i0_ge_f c0) r) (kn c0)
  · exact Goes.go (fun _ r => XS.ifYes P.1.here P.2.1 rfl (pc0 := pc) rfl (hb P.2.2.1 hd) rfl (XT.i0_ge_t c0) (jmp hy).1 (jmp hy).2 r) (ky c0)
theorem icmp_gt {x y : Int32} {o : Int} {qy : Nat} (P : Wk Z own bytes h p l e R s m args below meth c T locs cells slots) (hd : decode bytes pc = .ok (.if_icmp .gt o, 3)) (hy : (pc : Int) + o = (qy : Int)) (hq : pc + 3 = q) (ky : y < x → Goes p.tables e below K (T.setTop (mkF m qy Ls (st)))) (kn : ¬ y < x → Goes p.tables e below K (T.setTop (mkF m q Ls (st)))) : Goes p.tables e below K (T.setTop (mkF m pc Ls (.int y :: .int x :: st))) := by
  subst hq
  by_cases c0 : y < x
  · exact Goes.go (fun _ r => XS.icmpYes P.1.here P.2.1 rfl (pc0 := pc) rfl (hb P.2.2.1 hd) rfl (XT.ii_gt_t c0) (jmp hy).1 (jmp hy).2 r) (ky c0)
  · exact Goes.go (fun _ r => XS.icmpNo P.1.here P.2.1 rfl (hb P.2.2.1 hd) rfl (XT.ii_gt_f c0) r) (kn c0)
theorem if_gt {x : Int32} {o : Int} {qy : Nat} (P : Wk Z own bytes h p l e R s m args below meth c T locs cells slots) (hd : decode bytes pc = .ok (.ifCond .gt o, 3)) (hy : (pc : Int) + o = (qy : Int)) (hq : pc + 3 = q) (ky : 0 < x → Goes p.tables e below K (T.setTop (mkF m qy Ls (st)))) (kn : ¬ 0 < x → Goes p.tables e below K (T.setTop (mkF m q Ls (st)))) : Goes p.tables e below K (T.setTop (mkF m pc Ls (.int x :: st))) := by
  subst hq
  by_cases c0 : 0 < x
  · exact Goes.go (fun _ r => XS.ifYes P.1.here P.2.1 rfl (pc0 := pc) rfl (hb P.2.2.1 hd) rfl (XT.i0_gt_t c0) (jmp hy).1 (jmp hy).2 r) (ky c0)
  · exact Goes.go (fun _ r => XS.ifNo P.1.here P.2.1 rfl (hb P.2.2.1 hd) rfl (XT.i0_gt_f c0) r) (kn c0)
theorem icmp_le {x y : Int32} {o : Int} {qy : Nat} (P : Wk Z own bytes h p l e R s m args below meth c T locs cells slots) (hd : decode bytes pc = .ok (.if_icmp .le o, 3)) (hy : (pc : Int) + o = (qy : Int)) (hq : pc + 3 = q) (ky : ¬ y < x → Goes p.tables e below K (T.setTop (mkF m qy Ls (st)))) (kn : y < x → Goes p.tables e below K (T.setTop (mkF m q Ls (st)))) : Goes p.tables e below K (T.setTop (mkF m pc Ls (.int y :: .int x :: st))) := by
  subst hq
  by_cases c0 : y < x
  · exact Goes.go (fun _ r => XS.icmpNo P.1.here P.2.1 rfl (hb P.2.2.1 hd) rfl (XT.ii_le_f c0) r) (kn c0)
  · exact Goes.go (fun _ r => XS.icmpYes P.1.here P.2.1 rfl (pc0 := pc) rfl (hb P.2.2.1 hd) rfl (XT.ii_le_t c0) (jmp hy).1 (jmp hy).2 r) (ky c0)
theorem if_le {x : Int32} {o : Int} {qy : Nat} (P : Wk Z own bytes h p l e R s m args below meth c T locs cells slots) (hd : decode bytes pc = .ok (.ifCond .le o, 3)) (hy : (pc : Int) + o = (qy : Int)) (hq : pc + 3 = q) (ky : ¬ 0 < x → Goes p.tables e below K (T.setTop (mkF m qy Ls (st)))) (kn : 0 < x → Goes p.tables e below K (T.setTop (mkF m q Ls (st)))) : Goes p.tables e below K (T.setTop (mkF m pc Ls (.int x :: st))) := by
  subst hq
  by_cases c0 : 0 < x
  · exact Goes.go (fun _ r => XS.ifNo P.1.here P.2.1 rfl (hb P.2.2.1 hd) rfl (XT.i0_le_f c0) r) (kn c0)
  · exact Goes.go (fun _ r => XS.ifYes P.1.here P.2.1 rfl (pc0 := pc) rfl (hb P.2.2.1 hd) rfl (XT.i0_le_t c0) (jmp hy).1 (jmp hy).2 r) (ky c0)
theorem acmp_eq {x y : Value} {o : Int} {qy : Nat} (P : Wk Z own bytes h p l e R s m args below meth c T locs cells slots) (hd : decode bytes pc = .ok (.if_acmp .eq o, 3)) (h1 : x.isRef = true) (h2 : y.isRef = true) (hy : (pc : Int) + o = (qy : Int)) (hq : pc + 3 = q) (ky : x = y → Goes p.tables e below K (T.setTop (mkF m qy Ls (st)))) (kn : ¬ x = y → Goes p.tables e below K (T.setTop (mkF m q Ls (st)))) : Goes p.tables e below K (T.setTop (mkF m pc Ls (y :: x :: st))) := by
  subst hq
  by_cases c0 : x = y
  · exact Goes.go (fun _ r => XT.acmpYes P.1.here P.2.1 rfl (pc0 := pc) rfl (hb P.2.2.1 hd) rfl h1 h2 (XT.aa_eq_t c0) (jmp hy).1 (jmp hy).2 r) (ky c0)
  · exact Goes.go (fun _ r => XT.acmpNo P.1.here P.2.1 rfl (hb P.2.2.1 hd) rfl h1 h2 (XT.aa_eq_f c0) r) (kn c0)
theorem acmp_ne {x y : Value} {o : Int} {qy : Nat} (P : Wk Z own bytes h p l e R s m args below meth c T locs cells slots) (hd : decode bytes pc = .ok (.if_acmp .ne o, 3)) (h1 : x.isRef = true) (h2 : y.isRef = true) (hy : (pc : Int) + o = (qy : Int)) (hq : pc + 3 = q) (ky : ¬ x = y → Goes p.tables e below K (T.setTop (mkF m qy Ls (st)))) (kn : x = y → Goes p.tables e below K (T.setTop (mkF m q Ls (st)))) : Goes p.tables e below K (T.setTop (mkF m pc Ls (y :: x :: st))) := by
  subst hq
  by_cases c0 : x = y
  · exact Goes.go (fun _ r => XT.acmpNo P.1.here P.2.1 rfl (hb P.2.2.1 hd) rfl h1 h2 (XT.aa_ne_f c0) r) (kn c0)
  · exact Goes.go (fun _ r => XT.acmpYes P.1.here P.2.1 rfl (pc0 := pc) rfl (hb P.2.2.1 hd) rfl h1 h2 (XT.aa_ne_t c0) (jmp hy).1 (jmp hy).2 r) (ky c0)
theorem nullY {o : Int} (P : Wk Z own bytes h p l e R s m args below meth c T locs cells slots) (hd : decode bytes pc = .ok (.ifnull o, 3)) (hy : (pc : Int) + o = (q : Int)) (k : Goes p.tables e below K (T.setTop (mkF m q Ls (st)))) : Goes p.tables e below K (T.setTop (mkF m pc Ls (.null :: st))) := Goes.go (fun _ r => XS.ifnullYes P.1.here P.2.1 rfl (pc0 := pc) rfl (hb P.2.2.1 hd) rfl (jmp hy).1 (jmp hy).2 r) k
theorem nullN {o : Int} {b : Addr} (P : Wk Z own bytes h p l e R s m args below meth c T locs cells slots) (hd : decode bytes pc = .ok (.ifnull o, 3)) (hq : pc + 3 = q) (k : Goes p.tables e below K (T.setTop (mkF m q Ls (st)))) : Goes p.tables e below K (T.setTop (mkF m pc Ls (.ref b :: st))) := by
  subst hq
  exact Goes.go (fun _ r => XS.ifnullNo P.1.here P.2.1 rfl (hb P.2.2.1 hd) rfl r) k
theorem nonnullY {o : Int} {b : Addr} (P : Wk Z own bytes h p l e R s m args below meth c T locs cells slots) (hd : decode bytes pc = .ok (.ifnonnull o, 3)) (hy : (pc : Int) + o = (q : Int)) (k : Goes p.tables e below K (T.setTop (mkF m q Ls (st)))) : Goes p.tables e below K (T.setTop (mkF m pc Ls (.ref b :: st))) := Goes.go (fun _ r => XT.ifnonnullYes P.1.here P.2.1 rfl (pc0 := pc) rfl (hb P.2.2.1 hd) rfl (jmp hy).1 (jmp hy).2 r) k
theorem nonnullN {o : Int} (P : Wk Z own bytes h p l e R s m args below meth c T locs cells slots) (hd : decode bytes pc = .ok (.ifnonnull o, 3)) (hq : pc + 3 = q) (k : Goes p.tables e below K (T.setTop (mkF m q Ls (st)))) : Goes p.tables e below K (T.setTop (mkF m pc Ls (.null :: st))) := by
  subst hq
  exact Goes.go (fun _ r => XT.ifnonnullNo P.1.here P.2.1 rfl (hb P.2.2.1 hd) rfl r) k
theorem getfield {O n d : String} {i : Nat} {a : Addr} {v : Value} (P : Wk Z own bytes h p l e R s m args below meth c T locs cells slots) (hd : decode bytes pc = .ok (.getfield i, 3)) (w : (Cond.fieldLink own i O n d).before a0 Z = true) (F : Fld Z h a O n d v) (hq : pc + 3 = q) (k : ∀ T₂, Wk Z own bytes h p l e R s m args below meth c T₂ locs cells slots → Goes p.tables e below K (T₂.setTop (mkF m q Ls (v :: st)))) : Goes p.tables e below K (T.setTop (mkF m pc Ls (.ref a :: st))) := by
  subst hq
  obtain ⟨T₂, X2, e2, st2⟩ := getF P.1 P.2.1 P.2.2.2.1 P.2.2.2.2.1 (host := "") (Or.inl w) Via.refl P.2.2.2.2.2 F (g := mkF m pc Ls (.ref a :: st)) rfl rfl (hb P.2.2.1 hd)
  exact Goes.go st2 (k T₂ ⟨X2, P.2.1, P.2.2.1, P.2.2.2.1, P.2.2.2.2.1, e2⟩)
theorem getstatic {O n d : String} {i : Nat} {v : Value} (P : Wk Z own bytes h p l e R s m args below meth c T locs cells slots) (hd : decode bytes pc = .ok (.getstatic i, 3)) (w : (Cond.fieldLink own i O n d).before a0 Z = true) (F : Sta Z h O n d v) (hq : pc + 3 = q) (k : ∀ T₂, Wk Z own bytes h p l e R s m args below meth c T₂ locs cells slots → Goes p.tables e below K (T₂.setTop (mkF m q Ls (v :: st)))) : Goes p.tables e below K (T.setTop (mkF m pc Ls (st))) := by
  subst hq
  obtain ⟨T₂, X2, e2, st2⟩ := getS P.1 P.2.1 P.2.2.2.1 (host := "") P.2.2.2.2.1 w Via.refl P.2.2.2.2.2 F (g := mkF m pc Ls st) rfl (hb P.2.2.1 hd)
  exact Goes.go st2 (k T₂ ⟨X2, P.2.1, P.2.2.1, P.2.2.2.1, P.2.2.2.2.1, e2⟩)
theorem castTo {C : String} {i : Nat} {a : Addr} (P : Wk Z own bytes h p l e R s m args below meth c T locs cells slots) (hd : decode bytes pc = .ok (.checkcast i, 3)) (w : (Cond.classLink own i C).before a0 Z = true) (F : Ins Z h a C true) (hq : pc + 3 = q) (k : ∀ T₂, Wk Z own bytes h p l e R s m args below meth c T₂ locs cells slots → Goes p.tables e below K (T₂.setTop (mkF m q Ls (.ref a :: st)))) : Goes p.tables e below K (T.setTop (mkF m pc Ls (.ref a :: st))) := by
  subst hq
  obtain ⟨T₂, X2, e2, st2⟩ := castY P.1 P.2.1 P.2.2.2.1 P.2.2.2.2.1 w P.2.2.2.2.2 F (g := mkF m pc Ls (.ref a :: st)) rfl rfl (hb P.2.2.1 hd)
  exact Goes.go st2 (k T₂ ⟨X2, P.2.1, P.2.2.1, P.2.2.2.1, P.2.2.2.2.1, e2⟩)
theorem instOf {C : String} {i : Nat} {a : Addr} (P : Wk Z own bytes h p l e R s m args below meth c T locs cells slots) (hd : decode bytes pc = .ok (.instanceof i, 3)) (w : (Cond.classLink own i C).before a0 Z = true) (F : Ins Z h a C true) (hq : pc + 3 = q) (k : ∀ T₂, Wk Z own bytes h p l e R s m args below meth c T₂ locs cells slots → Goes p.tables e below K (T₂.setTop (mkF m q Ls (.int 1 :: st)))) : Goes p.tables e below K (T.setTop (mkF m pc Ls (.ref a :: st))) := by
  subst hq
  obtain ⟨T₂, X2, e2, st2⟩ := instY P.1 P.2.1 P.2.2.2.1 P.2.2.2.2.1 w P.2.2.2.2.2 F (g := mkF m pc Ls (.ref a :: st)) rfl rfl (hb P.2.2.1 hd)
  exact Goes.go st2 (k T₂ ⟨X2, P.2.1, P.2.2.1, P.2.2.2.1, P.2.2.2.2.1, e2⟩)
theorem caload {a : Addr} {kc : ClassId} {n j : Int32} {vs : List Value} {d v : Value} (P : Wk Z own bytes h p l e R s m args below meth c T locs cells slots) (hd : decode bytes pc = .ok (.caload, 1)) (A : Arv Z h a kc .char n vs d) (h0 : ¬ j < 0) (h1 : j < n) (hv : vs.getD j.toNatClampNeg d = v) (hq : pc + 1 = q) (k : Goes p.tables e below K (T.setTop (mkF m q Ls (v :: st)))) : Goes p.tables e below K (T.setTop (mkF m pc Ls (.int j :: .ref a :: st))) := by
  subst hq
  obtain ⟨cl, Ar, -, S, -, H, -⟩ := A
  have hin := inb_of S ⟨h0, h1⟩
  exact Goes.go (P.1.caload P.2.1 (by rw [P.2.2.2.2.2]; exact Ar.1) (State.isArrayOf_alike P.2.2.2.1.alike Ar.2.1) Ar.2.2 hin (H.at hin hv) (g := mkF m pc Ls (.int j :: .ref a :: st)) rfl rfl (hb P.2.2.1 hd)) k
theorem baload {a : Addr} {kc : ClassId} {n j : Int32} {vs : List Value} {d v : Value} (P : Wk Z own bytes h p l e R s m args below meth c T locs cells slots) (hd : decode bytes pc = .ok (.baload, 1)) (A : Arv Z h a kc .byte n vs d) (h0 : ¬ j < 0) (h1 : j < n) (hv : vs.getD j.toNatClampNeg d = v) (hq : pc + 1 = q) (k : Goes p.tables e below K (T.setTop (mkF m q Ls (v :: st)))) : Goes p.tables e below K (T.setTop (mkF m pc Ls (.int j :: .ref a :: st))) := by
  subst hq
  obtain ⟨cl, Ar, -, S, -, H, -⟩ := A
  have hin := inb_of S ⟨h0, h1⟩
  exact Goes.go (P.1.baloadBytes P.2.1 (by rw [P.2.2.2.2.2]; exact Ar.1) (State.isArrayOf_alike P.2.2.2.1.alike Ar.2.1) Ar.2.2 hin (H.at hin hv) (g := mkF m pc Ls (.int j :: .ref a :: st)) rfl rfl (hb P.2.2.1 hd)) k
theorem aaload {a : Addr} {kc : ClassId} {C : String} {n j : Int32} {vs : List Value} {d v : Value} (P : Wk Z own bytes h p l e R s m args below meth c T locs cells slots) (hd : decode bytes pc = .ok (.aaload, 1)) (A : Arv Z h a kc (.object C) n vs d) (h0 : ¬ j < 0) (h1 : j < n) (hv : vs.getD j.toNatClampNeg d = v) (hq : pc + 1 = q) (k : Goes p.tables e below K (T.setTop (mkF m q Ls (v :: st)))) : Goes p.tables e below K (T.setTop (mkF m pc Ls (.int j :: .ref a :: st))) := by
  subst hq
  obtain ⟨cl, Ar, -, S, -, H, -⟩ := A
  have hin := inb_of S ⟨h0, h1⟩
  exact Goes.go (P.1.aaload P.2.1 (by rw [P.2.2.2.2.2]; exact Ar.1) (State.isArrayOf_alike P.2.2.2.1.alike Ar.2.1) rfl Ar.2.2 hin (H.at hin hv) (g := mkF m pc Ls (.int j :: .ref a :: st)) rfl rfl (hb P.2.2.1 hd)) k
theorem arraylength {a : Addr} {kc : ClassId} {ty : FieldType} {n : Int32} {vs : List Value} {d : Value} (P : Wk Z own bytes h p l e R s m args below meth c T locs cells slots) (hd : decode bytes pc = .ok (.arraylength, 1)) (A : Arv Z h a kc ty n vs d) (hq : pc + 1 = q) (k : Goes p.tables e below K (T.setTop (mkF m q Ls (.int n :: st)))) : Goes p.tables e below K (T.setTop (mkF m pc Ls (.ref a :: st))) := by
  subst hq
  obtain ⟨cl, Ar, -, S, N, H, -⟩ := A
  refine Goes.go (P.1.arraylength P.2.1 (by rw [P.2.2.2.2.2]; exact Ar.1) (State.isArrayOf_alike P.2.2.2.1.alike Ar.2.1) (g := mkF m pc Ls (.ref a :: st)) rfl rfl (hb P.2.2.1 hd)) ?_
  rw [len_of S N]
  exact k
theorem instNull {i : Nat} (P : Wk Z own bytes h p l e R s m args below meth c T locs cells slots) (hd : decode bytes pc = .ok (.instanceof i, 3)) (hq : pc + 3 = q) (k : Goes p.tables e below K (T.setTop (mkF m q Ls (.int 0 :: st)))) : Goes p.tables e below K (T.setTop (mkF m pc Ls (.null :: st))) := by
  subst hq
  exact Goes.go (fun t r => P.1.instanceofNull P.2.1 (g := mkF m pc Ls (.null :: st)) rfl (rest := st) rfl (hb P.2.2.1 hd) t r) k
theorem instNope {C C2 : String} {i : Nat} {a : Addr} (P : Wk Z own bytes h p l e R s m args below meth c T locs cells slots) (hd : decode bytes pc = .ok (.instanceof i, 3)) (w : (Cond.classLink own i C).before a0 Z = true) (E : Exa Z h a C2) (F : ∃ c t, Z.vm.findClass C2 = some c ∧ Z.vm.findClass C = some t ∧ Z.vm.assignable c t = false) (hq : pc + 3 = q) (k : ∀ T₂, Wk Z own bytes h p l e R s m args below meth c T₂ locs cells slots → Goes p.tables e below K (T₂.setTop (mkF m q Ls (.int 0 :: st)))) : Goes p.tables e below K (T.setTop (mkF m pc Ls (.ref a :: st))) := by
  subst hq
  obtain ⟨T₂, X2, e2, st2⟩ := instNo P.1 P.2.1 P.2.2.2.1 P.2.2.2.2.1 w P.2.2.2.2.2 E F (g := mkF m pc Ls (.ref a :: st)) rfl rfl (hb P.2.2.1 hd)
  exact Goes.go st2 (k T₂ ⟨X2, P.2.1, P.2.2.1, P.2.2.2.1, P.2.2.2.2.1, e2⟩)
theorem newobj {C : String} {i n : Nat} (P : Wk Z own bytes h p l e R s m args below meth c T locs cells slots) (hd : decode bytes pc = .ok (.new i, 3)) (w : (Cond.classLink own i C).before a0 Z = true) (wi : (Cond.instantiable C n).before a0 Z = true) (wz : (Cond.initialized C).before a0 Z = true) (hc : cells + 1 ≤ R.cells) (hl : slots + n ≤ R.slots) (hq : pc + 3 = q)
    (k : ∀ T₂ h₂ a, a = h.size → Wk Z own bytes h₂ p l e R s m args below meth c T₂ locs (cells + 1) (slots + n) → Ext h h₂ → Exa Z h₂ a C → (∀ {O nm d : String} {ty : FieldType}, Laid Z a0 C O nm d → parseFieldDescriptor d = some ty → Fld Z h₂ a O nm d (defaultValue ty)) → Goes p.tables e below K (T₂.setTop (mkF m q Ls (.ref a :: st)))) : Goes p.tables e below K (T.setTop (mkF m pc Ls (st))) := by
  subst hq
  obtain ⟨T₂, h₂, X2, e2, E2, A2, D2, -, st2⟩ := newO P.1 P.2.1 P.2.2.2.1 P.2.2.2.2.1 w wi wz P.2.2.2.2.2 (g := mkF m pc Ls st) rfl (hb P.2.2.1 hd) hc hl
  exact Goes.go st2 (k T₂ h₂ h.size rfl ⟨X2, P.2.1, P.2.2.1, P.2.2.2.1, P.2.2.2.2.1, e2⟩ E2 A2 D2)
theorem newarr {aty : ArrayType} {n : Int32} {cap : Nat} (P : Wk Z own bytes h p l e R s m args below meth c T locs cells slots) (hd : decode bytes pc = .ok (.newarray aty, 2)) (w : (Cond.arrayClass (newarray.typeOf aty)).before a0 Z = true) (hn : ¬ n < 0) (hcap : n.toNatClampNeg ≤ cap) (hcb : cap * 8 ≤ 536870912) (hc : cells + 1 ≤ R.cells) (hl : slots + cap ≤ R.slots) (hq : pc + 2 = q)
    (k : ∀ T₂ h₂ a kc, a = h.size → Wk Z own bytes h₂ p l e R s m args below meth c T₂ locs (cells + 1) (slots + cap) → Ext h h₂ → Arv Z h₂ a kc (newarray.typeOf aty) n [] (defaultValue (newarray.typeOf aty)) → Goes p.tables e below K (T₂.setTop (mkF m q Ls (.ref a :: st)))) : Goes p.tables e below K (T.setTop (mkF m pc Ls (.int n :: st))) := by
  subst hq
  obtain ⟨T₂, h₂, kc, X2, e2, E2, A2, st2⟩ := newP P.1 P.2.1 P.2.2.2.1 w P.2.2.2.2.2 (g := mkF m pc Ls (.int n :: st)) rfl (hb P.2.2.1 hd) rfl hn hcap hcb hc hl
  exact Goes.go st2 (k T₂ h₂ h.size kc rfl ⟨X2, P.2.1, P.2.2.1, P.2.2.2.1, P.2.2.2.2.1, e2⟩ E2 (Arv.new A2 hn))
theorem castore {a : Addr} {kc : ClassId} {n j x x2 : Int32} {i : Nat} {vs : List Value} {d : Value} (P : Wk Z own bytes h p l e R s m args below meth c T locs cells slots) (hd : decode bytes pc = .ok (.castore, 1)) (A : Arv Z h a kc .char n vs d) (h0 : ¬ j < 0) (h1 : j < n) (hx2 : nar .char x = x2) (hf : fits .char (.int x2) = true) (hi : j.toNatClampNeg = i) (hi2 : i < vs.length) (hq : pc + 1 = q)
    (k : ∀ T₂ h₂ lc, lc.base = a → Wk Z own bytes h₂ p l e R s m args below meth c T₂ (locs ++ [lc]) cells slots → Wr h h₂ a i (.int x2) → Arv Z h₂ a kc .char n (vs.set i (.int x2)) d → Goes p.tables e below K (T₂.setTop (mkF m q Ls (st)))) : Goes p.tables e below K (T.setTop (mkF m pc Ls (.int x :: .int j :: .ref a :: st))) := by
  subst hq hx2 hi
  obtain ⟨cl, Ar, q1, S, q3, H, G⟩ := A
  have hin := inb_of S ⟨h0, h1⟩
  obtain ⟨T₂, h₂, X2, e2, W2, st2⟩ := stC P.1 P.2.1 P.2.2.2.1 P.2.2.2.2.2 Ar hin (g := mkF m pc Ls (.int x :: .int j :: .ref a :: st)) rfl rfl (hb P.2.2.1 hd)
  exact Goes.go st2 (k T₂ h₂ ⟨a, j.toNatClampNeg⟩ rfl ⟨X2, P.2.1, P.2.2.1, P.2.2.2.1, P.2.2.2.2.1, e2⟩ W2 (Arv.set Ar q1 S q3 H G hf W2 _ rfl hi2))
theorem bastore {a : Addr} {kc : ClassId} {n j x x2 : Int32} {i : Nat} {vs : List Value} {d : Value} (P : Wk Z own bytes h p l e R s m args below meth c T locs cells slots) (hd : decode bytes pc = .ok (.bastore, 1)) (A : Arv Z h a kc .byte n vs d) (h0 : ¬ j < 0) (h1 : j < n) (hx2 : nar .byte x = x2) (hf : fits .byte (.int x2) = true) (hi : j.toNatClampNeg = i) (hi2 : i < vs.length) (hq : pc + 1 = q)
    (k : ∀ T₂ h₂ lc, lc.base = a → Wk Z own bytes h₂ p l e R s m args below meth c T₂ (locs ++ [lc]) cells slots → Wr h h₂ a i (.int x2) → Arv Z h₂ a kc .byte n (vs.set i (.int x2)) d → Goes p.tables e below K (T₂.setTop (mkF m q Ls (st)))) : Goes p.tables e below K (T.setTop (mkF m pc Ls (.int x :: .int j :: .ref a :: st))) := by
  subst hq hx2 hi
  obtain ⟨cl, Ar, q1, S, q3, H, G⟩ := A
  have hin := inb_of S ⟨h0, h1⟩
  obtain ⟨T₂, h₂, X2, e2, W2, st2⟩ := stB P.1 P.2.1 P.2.2.2.1 P.2.2.2.2.2 Ar hin (g := mkF m pc Ls (.int x :: .int j :: .ref a :: st)) rfl rfl (hb P.2.2.1 hd)
  exact Goes.go st2 (k T₂ h₂ ⟨a, j.toNatClampNeg⟩ rfl ⟨X2, P.2.1, P.2.2.1, P.2.2.2.1, P.2.2.2.2.1, e2⟩ W2 (Arv.set Ar q1 S q3 H G hf W2 _ rfl hi2))
theorem putfield {O n d C : String} {i kk : Nat} {ty : FieldType} {a : Addr} {v old : Value} (P : Wk Z own bytes h p l e R s m args below meth c T locs cells slots) (hd : decode bytes pc = .ok (.putfield i, 3)) (w : (Cond.fieldLink own i O n d).before a0 Z = true) (F : Fld Z h a O n d old) (E : Exa Z h a C) (L : (Cond.lays C O n d).before a0 Z = true ∨ ((Cond.laysFinal C O n d).before a0 Z = true ∧ own = O ∧ meth.name = "<init>")) (wi : (Cond.instantiable C kk).before a0 Z = true) (hty : parseFieldDescriptor d = some ty) (hn : narrow ty v = v) (hf : fits ty v = true) (hq : pc + 3 = q)
    (k : ∀ T₂ h₂ lc, lc.base = a → Wk Z own bytes h₂ p l e R s m args below meth c T₂ (locs ++ [lc]) cells slots → Wr h h₂ a (Jvm.RoadKit.slotOf Z O n d) v → Goes p.tables e below K (T₂.setTop (mkF m q Ls (st)))) : Goes p.tables e below K (T.setTop (mkF m pc Ls (v :: .ref a :: st))) := by
  subst hq
  obtain ⟨T₂, h₂, X2, e2, W2, st2⟩ := putF P.1 P.2.1 P.2.2.2.1 P.2.2.2.2.1 (host := "") (Or.inl w) Via.refl P.2.2.2.2.2 F E L wi hty hn hf (g := mkF m pc Ls (v :: .ref a :: st)) rfl rfl (hb P.2.2.1 hd)
  exact Goes.go st2 (k T₂ h₂ ⟨a, Jvm.RoadKit.slotOf Z O n d⟩ rfl ⟨X2, P.2.1, P.2.2.1, P.2.2.2.1, P.2.2.2.2.1, e2⟩ W2)
theorem objinit {i W : Nat} {a : Addr} (P : Wk Z own bytes h p l e R s m args below meth c T locs cells slots) (hd : decode bytes pc = .ok (.invokespecial i, 3)) (w1 : (Cond.methodLink own i Lib.objectInit).before a0 Z = true) (w2 : (Cond.instanceMethod Lib.objectInit).before a0 Z = true) (w3 : (Cond.code Lib.objectInit ⟨#[0xb1]⟩ 1 none).before a0 Z = true) (hz : Ls.size = c.maxLocals) (hf : 1 ≤ R.frames) (hW : 2 * (mkF m pc Ls (.ref a :: st)).monitorRoom + (st.map fun v => v.category).sum ≤ W) (hl : W + 12 ≤ R.locals) (hq : pc + 3 = q) (k : ∀ T₂, Wk Z own bytes h p l e R s m args below meth c T₂ locs cells slots → Goes p.tables e below K (T₂.setTop (mkF m q Ls (st)))) : Goes p.tables e below K (T.setTop (mkF m pc Ls (.ref a :: st))) := by
  subst hq
  obtain ⟨T₂, X2, e2, st2⟩ := initO P.1 P.2.1 P.2.2.2.1 P.2.2.2.2.1 w1 w2 w3 P.2.2.2.2.2 (g := mkF m pc Ls (.ref a :: st)) rfl hz rfl (hb P.2.2.1 hd) hf hW hl
  exact Goes.go st2 (k T₂ ⟨X2, P.2.1, P.2.2.1, P.2.2.2.1, P.2.2.2.2.1, e2⟩)
theorem cloneArr {ad : String} {ty : FieldType} {i W cap : Nat} {a : Addr} {kc : ClassId} {z : Int32} {vs : List Value} {d : Value} (P : Wk Z own bytes h p l e R s m args below meth c T locs cells slots) (hd : decode bytes pc = .ok (.invokevirtual i, 3)) (w1 : (Cond.methodLink own i ⟨ad, "clone", "()Ljava/lang/Object;"⟩).before a0 Z = true) (w2 : (Cond.sameMethod ad "java/lang/Object" "clone" "()Ljava/lang/Object;").before a0 Z = true) (w3 : (Cond.native ⟨"java/lang/Object", "clone", "()Ljava/lang/Object;"⟩).before a0 Z = true) (w4 : (Cond.instanceMethod ⟨"java/lang/Object", "clone", "()Ljava/lang/Object;"⟩).before a0 Z = true) (w5 : (Cond.selects ad ⟨ad, "clone", "()Ljava/lang/Object;"⟩ ⟨"java/lang/Object", "clone", "()Ljava/lang/Object;"⟩).before a0 Z = true) (w6 : (Cond.castable ad "java/lang/Cloneable").before a0 Z = true) (A : Arv Z h a kc ty z vs d) (E : Exa Z h a ad) (hz : Ls.size = c.maxLocals) (hf : 1 ≤ R.frames) (hW : 2 * (mkF m pc Ls (.ref a :: st)).monitorRoom + (st.map fun v => v.category).sum ≤ W) (hl : W + 14 ≤ R.locals) (hcap : z.toNatClampNeg ≤ cap) (hc : cells + 1 ≤ R.cells) (hs : slots + cap ≤ R.slots) (hq : pc + 3 = q)
    (k : ∀ T₂ h₂ r, r = h.size → Wk Z own bytes h₂ p l e R s m args below meth c T₂ locs (cells + 1) (slots + cap) → Ext h h₂ → Arv Z h₂ r kc ty z vs d → Exa Z h₂ r ad → Goes p.tables e below K (T₂.setTop (mkF m q Ls (.ref r :: st)))) : Goes p.tables e below K (T.setTop (mkF m pc Ls (.ref a :: st))) := by
  subst hq
  obtain ⟨T₂, h₂, X2, e2, E2, A2, B2, st2⟩ := cloneH P.1 P.2.1 P.2.2.2.1 P.2.2.2.2.1 w1 w2 w3 w4 w5 w6 P.2.2.2.2.2 (hs := []) A E (g := mkF m pc Ls (.ref a :: st)) rfl hz rfl (hb P.2.2.1 hd) hf hW hl hcap hc hs
  exact Goes.go st2 (k T₂ h₂ h.size rfl ⟨X2, P.2.1, P.2.2.1, P.2.2.2.1, P.2.2.2.2.1, e2⟩ E2 A2 B2)
theorem invStatic {y : MethodName} {cb : ByteArray} {mL : Nat} {ret : Option FieldType} {i W kc ks : Nat} {as' : Array Value} {Q : Option Value → Heap → List Loc → Prop} {argsL rest : List Value} (P : Wk Z own bytes h p l e R s m args below meth c T locs cells slots) (hd : decode bytes pc = .ok (.invokestatic i, 3)) (w1 : (Cond.methodLink own i y).before a0 Z = true) (w2 : (Cond.static y).before a0 Z = true) (w3 : (Cond.initialized y.cls).before a0 Z = true) (w4 : (Cond.code y cb mL ret).before a0 Z = true) (hy : y.cls ≠ "java/lang/invoke/MethodHandle" ∧ y.cls ≠ "java/lang/invoke/VarHandle") (B : Back l R p e below s args y 3 W (fun A a => a = as' ∧ A.U.heap = h ∧ A.cells + kc ≤ R.cells ∧ A.slots + ks ≤ R.slots) (fun A _ v B => ∃ L, Q v B.U.heap L ∧ B.locs = A.locs ++ L ∧ B.cells = A.cells + kc ∧ B.slots = A.slots + ks)) (ha : argsL.toArray = as') (hst : st = argsL.reverse ++ rest) (hz : Ls.size = c.maxLocals) (hlen : ∀ sig, parseMethodDescriptor y.desc = some sig → argsL.length = sig.parameters.length) (hW : 2 * (mkF m pc Ls st).monitorRoom + (rest.map fun v => v.category).sum ≤ W) (hcc : cells + kc ≤ R.cells) (hss : slots + ks ≤ R.slots) (hq : pc + 3 = q) (k : ∀ v T₂ h₂ L, Q v h₂ L → Wk Z own bytes h₂ p l e R s m args below meth c T₂ (locs ++ L) (cells + kc) (slots + ks) → Goes p.tables e below K (T₂.setTop (mkF m q Ls (v.toList ++ rest)))) : Goes p.tables e below K (T.setTop (mkF m pc Ls (st))) := by
  subst hq
  obtain ⟨v, _, ⟨T₂, L₂, c₂, n₂⟩, -, X2, ⟨L, hQ, hl, hc2, hs2⟩, st2⟩ := Jvm.LawKit.callS P.1 P.2.1 (y := y) P.2.2.2.2.1 (mvT P.2.2.2.1 w1) (mvT P.2.2.2.1 w2) (mvT P.2.2.2.1 w3) (mvT P.2.2.2.1 w4) hy B (g := mkF m pc Ls st) rfl hz (argsL := argsL) (rest := rest) hlen hst hW (hb P.2.2.1 hd) (fun _ _ => ⟨ha, P.2.2.2.2.2, hcc, hss⟩)
  dsimp only [Pt.U, Pt.locs, Pt.cells, Pt.slots] at X2 hl hc2 hs2 st2 hQ
  subst hl hc2 hs2
  exact Goes.go st2 (k v T₂ _ L hQ ⟨X2, P.2.1, P.2.2.1, P.2.2.2.1, P.2.2.2.2.1, rfl⟩)
theorem invSpecial {y : MethodName} {cb : ByteArray} {mL : Nat} {i W kc ks : Nat} {as' : Array Value} {Q : Option Value → Heap → List Loc → Prop} {a : Addr} {argsL rest : List Value} (P : Wk Z own bytes h p l e R s m args below meth c T locs cells slots) (hd : decode bytes pc = .ok (.invokespecial i, 3)) (hin : y.name = "<init>") (w1 : (Cond.methodLink own i y).before a0 Z = true) (w2 : (Cond.instanceMethod y).before a0 Z = true) (w4 : (Cond.code y cb mL none).before a0 Z = true) (hy : y.cls ≠ "java/lang/invoke/MethodHandle" ∧ y.cls ≠ "java/lang/invoke/VarHandle") (B : Back l R p e below s args y 3 W (fun A a => a = as' ∧ A.U.heap = h ∧ A.cells + kc ≤ R.cells ∧ A.slots + ks ≤ R.slots) (fun A _ v B => ∃ L, Q v B.U.heap L ∧ B.locs = A.locs ++ L ∧ B.cells = A.cells + kc ∧ B.slots = A.slots + ks)) (ha : (.ref a :: argsL).toArray = as') (hst : st = argsL.reverse ++ .ref a :: rest) (hz : Ls.size = c.maxLocals) (hlen : ∀ sig, parseMethodDescriptor y.desc = some sig → argsL.length = sig.parameters.length) (hW : 2 * (mkF m pc Ls st).monitorRoom + (rest.map fun v => v.category).sum ≤ W) (hcc : cells + kc ≤ R.cells) (hss : slots + ks ≤ R.slots) (hq : pc + 3 = q) (k : ∀ v T₂ h₂ L, Q v h₂ L → Wk Z own bytes h₂ p l e R s m args below meth c T₂ (locs ++ L) (cells + kc) (slots + ks) → Goes p.tables e below K (T₂.setTop (mkF m q Ls (v.toList ++ rest)))) : Goes p.tables e below K (T.setTop (mkF m pc Ls (st))) := by
  subst hq
  obtain ⟨v, _, ⟨T₂, L₂, c₂, n₂⟩, -, X2, ⟨L, hQ, hl, hc2, hs2⟩, st2⟩ := P.1.specialBack P.2.1 (y := y) hin P.2.2.2.2.1 (mvT P.2.2.2.1 w1) (mvT P.2.2.2.1 w2) (mvT P.2.2.2.1 w4) hy B (g := mkF m pc Ls st) rfl hz (Steps.refl _) (a := a) (argsL := argsL) (rest := rest) hlen hst hW (hb P.2.2.1 hd) (fun _ _ => ⟨ha, P.2.2.2.2.2, hcc, hss⟩)
  dsimp only [Pt.U, Pt.locs, Pt.cells, Pt.slots] at X2 hl hc2 hs2 st2 hQ
  subst hl hc2 hs2
  exact Goes.tr st2 (k v T₂ _ L hQ ⟨X2, P.2.1, P.2.2.1, P.2.2.2.1, P.2.2.2.2.1, rfl⟩)
theorem invVirtual {y z : MethodName} {C : String} {i W kc ks : Nat} {as' : Array Value} {Q : Option Value → Heap → List Loc → Prop} {a : Addr} {argsL rest : List Value} (P : Wk Z own bytes h p l e R s m args below meth c T locs cells slots) (hd : decode bytes pc = .ok (.invokevirtual i, 3)) (w1 : (Cond.methodLink own i y).before a0 Z = true) (w2 : (Cond.declares y).before a0 Z = true) (w3 : (Cond.selects C y z).before a0 Z = true) (w4 : (Cond.instanceMethod z).before a0 Z = true) (nf : NotFace s y) (hy : y.cls ≠ "java/lang/invoke/MethodHandle" ∧ y.cls ≠ "java/lang/invoke/VarHandle") (B : Back l R p e below s args z 3 W (fun A a => a = as' ∧ A.U.heap = h ∧ A.cells + kc ≤ R.cells ∧ A.slots + ks ≤ R.slots) (fun A _ v B => ∃ L, Q v B.U.heap L ∧ B.locs = A.locs ++ L ∧ B.cells = A.cells + kc ∧ B.slots = A.slots + ks)) (E : Exa Z h a C) (ha : (.ref a :: argsL).toArray = as') (hst : st = argsL.reverse ++ .ref a :: rest) (hz : Ls.size = c.maxLocals) (hlen : ∀ sig, parseMethodDescriptor y.desc = some sig → argsL.length = sig.parameters.length) (hW : 2 * (mkF m pc Ls st).monitorRoom + (rest.map fun v => v.category).sum ≤ W) (hcc : cells + kc ≤ R.cells) (hss : slots + ks ≤ R.slots) (hq : pc + 3 = q) (k : ∀ v T₂ h₂ L, Q v h₂ L → Wk Z own bytes h₂ p l e R s m args below meth c T₂ (locs ++ L) (cells + kc) (slots + ks) → Goes p.tables e below K (T₂.setTop (mkF m q Ls (v.toList ++ rest)))) : Goes p.tables e below K (T.setTop (mkF m pc Ls (st))) := by
  subst hq
  obtain ⟨cB, kB, r1, -, r3⟩ := isOf P.2.2.2.1 P.2.2.2.2.2 E
  obtain ⟨v, _, ⟨T₂, L₂, c₂, n₂⟩, -, X2, ⟨L, hQ, hl, hc2, hs2⟩, st2⟩ := P.1.virtualBack P.2.1 (y := y) (z := z) P.2.2.2.2.1 (mvT P.2.2.2.1 w1) (mvT P.2.2.2.1 w2) nf (mvT P.2.2.2.1 w3) (mvT P.2.2.2.1 w4) hy B r1 r3 (g := mkF m pc Ls st) rfl hz (Steps.refl _) (argsL := argsL) (rest := rest) hlen hst hW (hb P.2.2.1 hd) (fun _ _ => ⟨ha, P.2.2.2.2.2, hcc, hss⟩)
  dsimp only [Pt.U, Pt.locs, Pt.cells, Pt.slots] at X2 hl hc2 hs2 st2 hQ
  subst hl hc2 hs2
  exact Goes.tr st2 (k v T₂ _ L hQ ⟨X2, P.2.1, P.2.2.1, P.2.2.2.1, P.2.2.2.2.1, rfl⟩)
theorem retV {kc ks : Nat} {Q : Option Value → Heap → List Loc → Prop}  (P : Wk Z own bytes h p l e R s m args below meth c T locs cells slots) (hd : decode bytes pc = .ok (.return_, 1)) (hret : meth.sig.returnType = none) (hlk : meth.locks = false) (hc : cells ≤ kc) (hs : slots ≤ ks) (hQ : Q none h locs) : Goes p.tables e below (fun s₂ o => ∃ v L, o = .returned v ∧ Q v s₂.heap L ∧ FrameEnd s o s₂ L kc ks) (T.setTop (mkF m pc Ls ([]))) := by
  obtain ⟨fs, hr, hrun, hended, hW, hsame⟩ := P.1.leave (v := none) (fun h => by first | rfl | (rw [hret] at h; cases h)) hlk
  exact ⟨_, _, P.1.returnOut P.2.1 hret (hb P.2.2.1 hd) hr, hrun, hended, _, _, rfl, by show Q _ T.heap _; rw [P.2.2.2.2.2]; exact hQ, ⟨_, rfl⟩, hW, hsame.mono hc hs⟩
theorem retZ {kc ks : Nat} {Q : Option Value → Heap → List Loc → Prop} {t : FieldType} {z : Int32} (P : Wk Z own bytes h p l e R s m args below meth c T locs cells slots) (hd : decode bytes pc = .ok (.ireturn, 1)) (hret : meth.sig.returnType = some t) (ht : t = .boolean ∨ t = .byte ∨ t = .char ∨ t = .short) (hlk : meth.locks = false) (hc : cells ≤ kc) (hs : slots ≤ ks) (hQ : Q (some (.int (nar t z))) h locs) : Goes p.tables e below (fun s₂ o => ∃ v L, o = .returned v ∧ Q v s₂.heap L ∧ FrameEnd s o s₂ L kc ks) (T.setTop (mkF m pc Ls (.int z :: st))) := by
  obtain ⟨fs, hr, hrun, hended, hW, hsame⟩ := P.1.leave (v := (some (.int (nar t z)))) (fun h => by first | rfl | (rw [hret] at h; cases h)) hlk
  exact ⟨_, _, retN P.1 P.2.1 hret ht (hb P.2.2.1 hd) hr, hrun, hended, _, _, rfl, by show Q _ T.heap _; rw [P.2.2.2.2.2]; exact hQ, ⟨_, rfl⟩, hW, hsame.mono hc hs⟩
theorem retI {kc ks : Nat} {Q : Option Value → Heap → List Loc → Prop} {z : Int32} (P : Wk Z own bytes h p l e R s m args below meth c T locs cells slots) (hd : decode bytes pc = .ok (.ireturn, 1)) (hret : meth.sig.returnType = some .int) (hlk : meth.locks = false) (hc : cells ≤ kc) (hs : slots ≤ ks) (hQ : Q (some (.int z)) h locs) : Goes p.tables e below (fun s₂ o => ∃ v L, o = .returned v ∧ Q v s₂.heap L ∧ FrameEnd s o s₂ L kc ks) (T.setTop (mkF m pc Ls (.int z :: st))) := by
  obtain ⟨fs, hr, hrun, hended, hW, hsame⟩ := P.1.leave (v := (some (.int z))) (fun h => by first | rfl | (rw [hret] at h; cases h)) hlk
  exact ⟨_, _, retOut P.1 P.2.1 hret rfl (Or.inl ⟨rfl, Or.inl rfl, _, rfl⟩) (hb P.2.2.1 hd) hr, hrun, hended, _, _, rfl, by show Q _ T.heap _; rw [P.2.2.2.2.2]; exact hQ, ⟨_, rfl⟩, hW, hsame.mono hc hs⟩
theorem retA {kc ks : Nat} {Q : Option Value → Heap → List Loc → Prop} {t : FieldType} {v : Value} (P : Wk Z own bytes h p l e R s m args below meth c T locs cells slots) (hd : decode bytes pc = .ok (.areturn, 1)) (hret : meth.sig.returnType = some t) (ht : t.isReference = true) (hv : v.isRef = true) (hn : narrow t v = v) (hlk : meth.locks = false) (hc : cells ≤ kc) (hs : slots ≤ ks) (hQ : Q (some v) h locs) : Goes p.tables e below (fun s₂ o => ∃ v L, o = .returned v ∧ Q v s₂.heap L ∧ FrameEnd s o s₂ L kc ks) (T.setTop (mkF m pc Ls (v :: st))) := by
  obtain ⟨fs, hr, hrun, hended, hW, hsame⟩ := P.1.leave (v := (some v)) (fun h => by first | rfl | (rw [hret] at h; cases h)) hlk
  exact ⟨_, _, retOut P.1 P.2.1 hret hn (Or.inr (Or.inr (Or.inr (Or.inr ⟨rfl, ht, hv⟩)))) (hb P.2.2.1 hd) hr, hrun, hended, _, _, rfl, by show Q _ T.heap _; rw [P.2.2.2.2.2]; exact hQ, ⟨_, rfl⟩, hW, hsame.mono hc hs⟩
theorem Wk.up {c2 s2 : Nat} (P : Wk Z own bytes h p l e R s m args below meth c T locs cells slots) (hc : cells ≤ c2) (hs : slots ≤ s2) : Wk Z own bytes h p l e R s m args below meth c T locs c2 s2 := ⟨P.1.mono hc hs, P.2⟩
end Steps
theorem ltb {i n : Nat} (h : Nat.ble (i + 1) n = true) : i < n := Nat.le_of_ble_eq_true h
theorem leb {i n : Nat} (h : Nat.ble i n = true) : i ≤ n := Nat.le_of_ble_eq_true h
theorem Ext.rf (h : Heap) : Ext h h := ⟨Nat.le_refl _, fun _ _ q => q⟩
theorem Ext.tr {h h' h2 : Heap} (A : Ext h h') (B : Ext h' h2) : Ext h h2 := ⟨Nat.le_trans A.1 B.1, fun a c q => B.2 a c (A.2 a c q)⟩
theorem Ext.wr {h h' h2 : Heap} {a : Addr} {sl : Nat} {v : Value} (A : Ext h h') (W : Wr h' h2 a sl v) (q : h.size ≤ a) : Ext h h2 := ⟨by rw [W.size]; exact A.1, fun b c hb => by
  have hb2 := A.2 b c hb
  obtain ⟨c2, g1, -, -, -, g5, -⟩ := wr_at W hb2
  have hne : b ≠ a := fun e => by subst e; exact absurd (Array.getElem?_eq_some_iff.mp hb).1 (Nat.not_lt.mpr q)
  rw [g1, g5 hne]⟩
theorem Ext.kp {h h' h2 : Heap} {ws : List Addr} (A : Ext h h') (K : Keep h' h2 ws) (q : ∀ x ∈ ws, h.size ≤ x) : Ext h h2 := ⟨Nat.le_trans A.1 K.1, fun b c hb => K.2.1 b c (A.2 b c hb) fun hm => absurd (Array.getElem?_eq_some_iff.mp hb).1 (Nat.not_lt.mpr (q b hm))⟩
theorem Fr.one {k : Nat} {L : List Loc} {lc : Loc} {a : Addr} (N : Fr k L) (e : lc.base = a) (q : k ≤ a) : Fr k (L ++ [lc]) := N.app fun y hy => by cases List.mem_singleton.mp hy; rw [e]; exact q
end Own
end Jvm.Pilot.@@N@@
namespace Jvm.Pilot.@@N@@
namespace Own
open Jvm Jvm.ClassFile Sem Op Lib Jvm.Free Jvm.Stand Jvm.LawKit Jvm.RoadKit Bundle
theorem lo_rng (x : Int32) : ¬ (x &&& 255) < 0 ∧ ¬ (255 : Int32) < (x &&& 255) := by
  have h := c_mask x 255 8 (by decide) (by decide)
  have h0 : (0 : Int32).toInt = 0 := rfl
  have h5 : (255 : Int32).toInt = 255 := rfl
  constructor
  · rw [Int32.lt_iff_toInt_lt, h0, h]; omega
  · rw [Int32.lt_iff_toInt_lt, h5, h]; omega
theorem i2c_id16 {x : Int32} (h : ¬ x < 0 ∧ ¬ (65535 : Int32) < x) : x.toUInt32.toUInt16.toUInt32.toInt32 = x := by
  obtain ⟨g1, g2, g3⟩ := c_i2c x
  have h0 : (0 : Int32).toInt = 0 := rfl
  have h5 : (65535 : Int32).toInt = 65535 := rfl
  obtain ⟨a, b⟩ := h
  rw [Int32.lt_iff_toInt_lt, h0] at a
  rw [Int32.lt_iff_toInt_lt, h5] at b
  exact Int32.toInt_inj.mp (by omega)
theorem up16 {x : Int32} (h : ¬ x < 0 ∧ ¬ (255 : Int32) < x) : ¬ x < 0 ∧ ¬ (65535 : Int32) < x := by
  refine ⟨h.1, fun q => h.2 ?_⟩
  have h5 : (65535 : Int32).toInt = 65535 := rfl
  have h2 : (255 : Int32).toInt = 255 := rfl
  rw [Int32.lt_iff_toInt_lt] at q ⊢
  omega
theorem i2c_id {x : Int32} (h : ¬ x < 0 ∧ ¬ (255 : Int32) < x) : x.toUInt32.toUInt16.toUInt32.toInt32 = x := i2c_id16 (up16 h)
theorem nar_id {x : Int32} (h : ¬ x < 0 ∧ ¬ (255 : Int32) < x) : nar .char x = x := i2c_id h
theorem nar_id16 {x : Int32} (h : ¬ x < 0 ∧ ¬ (65535 : Int32) < x) : nar .char x = x := i2c_id16 h
theorem fits_ch {x : Int32} (h : ¬ x < 0 ∧ ¬ (255 : Int32) < x) : fits .char (.int x) = true := by
  have q := fits_nar_char x
  rwa [nar_id h] at q
theorem nar_b (x : Int32) : nar .byte x.toInt8.toInt32 = x.toInt8.toInt32 := by simp [nar]
theorem fits_b (x : Int32) : fits .byte (.int x.toInt8.toInt32) = true := fits_nar_byte x
theorem ch0 {P : Int32 → Prop} : ∀ c ∈ ([] : List Int32), P c := fun _ q => nomatch q
theorem chS {P : Int32 → Prop} {a : Int32} {cs : List Int32} (h : P a) (r : ∀ c ∈ cs, P c) : ∀ c ∈ a :: cs, P c := fun c q => (List.mem_cons.mp q).elim (fun u => u ▸ h) (r c)
/-- the object at a is a compact String of the chars cs, each 0 to 255 -/
def Str (Z : State) (h : Heap) (a : Addr) (cs : List Int32) : Prop :=
  (∃ t kb, Exa Z h a "java/lang/String" ∧ Fld Z h a "java/lang/String" "value" "[B" (.ref t) ∧ Fld Z h a "java/lang/String" "coder" "B" (.int 0) ∧ Arv Z h t kb .byte (Int32.ofNat cs.length) ((cs.map fun c => c.toInt8.toInt32).map Value.int) (.int 0)) ∧ (∀ c ∈ cs, ¬ c < 0 ∧ ¬ (255 : Int32) < c) ∧ cs.length ≤ 4000
theorem Str.ext {Z : State} {h h' : Heap} {a : Addr} {cs : List Int32} (S : Str Z h a cs) (E : Ext h h') : Str Z h' a cs := by
  obtain ⟨⟨t, kb, s1, s2, s3, s4⟩, r⟩ := S
  exact ⟨⟨t, kb, s1.ext E, s2.ext E, s3.ext E, s4.ext E⟩, r⟩
theorem Str.exa {Z : State} {h : Heap} {a : Addr} {cs : List Int32} (S : Str Z h a cs) : Exa Z h a "java/lang/String" := by obtain ⟨⟨t, kb, s1, -⟩, -⟩ := S; exact s1
theorem Str.kp1 {Z : State} {h h' : Heap} {a x : Addr} {cs : List Int32} {C : String} {a0 : Array Value} {n : Nat} (S : Str Z h a cs) (K : Keep h h' [x]) (E : Exa Z h x C) (hC : C ≠ "java/lang/String") (wi : (Jvm.Cond.instantiable C n).before a0 Z = true) : Str Z h' a cs := by
  obtain ⟨⟨t, kb, s1, s2, s3, s4⟩, r⟩ := S
  have n1 : a ≠ x := fun e => Exa.ne E s1 hC e.symm
  have n2 : t ≠ x := fun e => Exa.neArv E s4 wi e.symm
  exact ⟨⟨t, kb, s1.keep K, s2.keep K (ninS n1 nin0), s3.keep K (ninS n1 nin0), s4.keep K (ninS n2 nin0)⟩, r⟩
theorem Sta_kp1 {Z : State} {h h' : Heap} {x : Addr} {C D n d : String} {v : Value} (S : Sta Z h D n d v) (K : Keep h h' [x]) (E : Exa Z h x C) : Sta Z h' D n d v := by
  obtain ⟨cf, i, k, f, st, cell, t1, t2, t3, t4, t5, t6, t7⟩ := S
  obtain ⟨cx, kx, e1, -, -, e4, -⟩ := E
  have ne : st ≠ x := fun q => by
    subst q
    cases t5.symm.trans e1
    rw [e4] at t6
    cases t6
  exact ⟨cf, i, k, f, st, cell, t1, t2, t3, t4, K.2.1 _ _ t5 (ninS ne nin0), t6, t7⟩
theorem byte_inj {x y : Int32} (hx : ¬ x < 0 ∧ ¬ (255 : Int32) < x) (hy : ¬ y < 0 ∧ ¬ (255 : Int32) < y) (h : x.toInt8.toInt32 = y.toInt8.toInt32) : x = y := by
  obtain ⟨a1, -, -⟩ := c_i2b x
  obtain ⟨b1, -, -⟩ := c_i2b y
  have h0 : (0 : Int32).toInt = 0 := rfl
  have h5 : (255 : Int32).toInt = 255 := rfl
  have e : x.toInt8.toInt32.toInt = y.toInt8.toInt32.toInt := by rw [h]
  obtain ⟨u1, u2⟩ := hx
  obtain ⟨v1, v2⟩ := hy
  rw [Int32.lt_iff_toInt_lt] at u1 u2 v1 v2
  exact Int32.toInt_inj.mp (by omega)
theorem bytes_inj : ∀ {cs ds : List Int32}, (∀ c ∈ cs, ¬ c < 0 ∧ ¬ (255 : Int32) < c) → (∀ c ∈ ds, ¬ c < 0 ∧ ¬ (255 : Int32) < c) → (cs.map fun c => c.toInt8.toInt32) = (ds.map fun c => c.toInt8.toInt32) → cs = ds
  | [], [], _, _, _ => rfl
  | [], _ :: _, _, _, h => by simp at h
  | _ :: _, [], _, _, h => by simp at h
  | c :: cs, d :: ds, hc, hd, h => by
    simp only [List.map_cons, List.cons.injEq] at h
    rw [byte_inj (hc c (by simp)) (hd d (by simp)) h.1, bytes_inj (fun x hx => hc x (by simp [hx])) (fun x hx => hd x (by simp [hx])) h.2]
theorem ofNat_inj {n k : Nat} (hn : n ≤ 4000) (hk : k ≤ 4000) (h : Int32.ofNat n = Int32.ofNat k) : n = k := by
  have a : (Int32.ofNat n).toInt = n := Int32.toInt_ofNat_of_lt (by omega)
  have b : (Int32.ofNat k).toInt = k := Int32.toInt_ofNat_of_lt (by omega)
  rw [h, b] at a
  omega
theorem Str.inj {Z : State} {h : Heap} {a : Addr} {cs ds : List Int32} (S : Str Z h a cs) (T : Str Z h a ds) : cs = ds := by
  obtain ⟨⟨t, kb, -, s2, -, c1, A1, -, z1, -, H1, -⟩, p1, l1⟩ := S
  obtain ⟨⟨u, ku, -, t2, -, c2, A2, -, z2, -, H2, -⟩, p2, l2⟩ := T
  have e : (Value.ref t) = .ref u := Classical.byContradiction fun q => Fld.ne s2 t2 q rfl
  cases e
  cases A1.1.symm.trans A2.1
  have m1 : (Int32.ofNat cs.length).toNatClampNeg = cs.length := by simp only [Int32.toNatClampNeg, Int32.toInt_ofNat_of_lt (show cs.length < 2 ^ 31 by omega)]; rfl
  have m2 : (Int32.ofNat ds.length).toNatClampNeg = ds.length := by simp only [Int32.toNatClampNeg, Int32.toInt_ofNat_of_lt (show ds.length < 2 ^ 31 by omega)]; rfl
  have n1 : cs.length = ds.length := by omega
  refine bytes_inj p1 p2 (List.ext_getElem (by simp [n1]) fun i g1 g2 => ?_)
  have q1 := H1 i (by simp at g1; omega)
  have q2 := H2 i (by simp at g1; omega)
  rw [q1] at q2
  have q3 := Option.some.inj q2
  simp only [List.getD_eq_getElem?_getD] at q3
  simp at g1
  simp [g1, n1 ▸ g1] at q3
  simpa using q3
theorem Str.up {Z : State} {h : Heap} {a : Addr} {cs : List Int32} (S : Str Z h a cs) : ∀ c ∈ cs, ¬ c < 0 ∧ ¬ (65535 : Int32) < c := fun c hc => up16 (S.2.1 c hc)
end Own
end Jvm.Pilot.@@N@@
/- laws to paste: Road.backV (cut by pick.py; bodies as the Statement names them) -/
namespace Jvm.Pilot.@@N@@
namespace StrChars
open Jvm Sem ClassFile Op Lib Jvm.Stand Jvm.Free.XT Jvm.Free.ALB Jvm.Free.JM Jvm.Free
open Jvm.Lib.Cold (StaticIs)
/-- a char array whose places are chars -/
def Ch (a : Addr) (A : Cell) (U : State) : Prop := Arr .char a A U ∧ Typed .char A
theorem Ch.mv {a : Addr} {A : Cell} {U U' : State} (h : Ch a A U) (hal : U.vm.Alike U'.vm) (hh : U'.heap = U.heap) : Ch a A U' := ⟨h.1.mv hal hh, h.2⟩
theorem Ch.keep {a : Addr} {A : Cell} {U U' : State} (h : Ch a A U) (hal : U.vm.Alike U'.vm) (hk : U'.heap[a]? = some A) : Ch a A U' := ⟨h.1.keep hal hk, h.2⟩
/-- what place i of a char[]'s cell holds -/
def cv (A : Cell) (i : Nat) : Int32 := match A.slots[i]? with | some (.int x) => x | _ => 0
theorem Ch.get {a : Addr} {A : Cell} {U : State} (h : Ch a A U) {i : Nat} (hi : i < A.slots.size) : A.slots[i]? = some (.int (cv A i)) := by
  have e := Array.getElem?_eq_getElem hi
  have f := h.2 i _ e
  unfold cv; rw [e]
  generalize A.slots[i] = v at f
  cases v <;> simp [fits] at f ⊢
/-- the byte that i2b leaves of a char -/
def lo8 (x : Int32) : Int32 := x.toInt8.toInt32
theorem fits_lo8 (y : Int32) : fits .byte (.int (lo8 y)) = true := by
  have h1 := y.toInt8.le_toInt
  have h2 := y.toInt8.toInt_lt
  simp only [lo8, fits, Bool.and_eq_true, decide_eq_true_eq, Int32.le_iff_toInt_le, Int8.toInt_toInt32, show (-128 : Int32).toInt = -128 from by decide, show (127 : Int32).toInt = 127 from by decide]
  omega
/-- A' is A but that each place j of lo .. hi - 1 holds f j -/
def Laid (A A' : Cell) (lo hi : Nat) (f : Nat → Value) : Prop := A'.cls = A.cls ∧ A'.vm = A.vm ∧ A'.slots.size = A.slots.size ∧ ∀ i, A'.slots[i]? = if lo ≤ i ∧ i < hi then some (f i) else A.slots[i]?
theorem Laid.zero (A : Cell) (lo : Nat) (f : Nat → Value) : Laid A A lo (lo + 0) f := ⟨rfl, rfl, rfl, fun i => by rw [if_neg (by omega)]⟩
theorem Laid.step {A Ak : Cell} {lo k : Nat} {f : Nat → Value} {v : Value} (h : Laid A Ak lo k f) (hlo : lo ≤ k) (hk : k < Ak.slots.size) (hv : v = f k) : Laid A (Ak.setSlot k v) lo (k + 1) f := by
  refine ⟨h.1, h.2.1, by simpa [Cell.setSlot] using h.2.2.1, fun i => ?_⟩
  by_cases e : k = i
  · subst e; rw [Cell.slots_setSlot_self v hk, if_pos (by omega), hv]
  · rw [Cell.slots_setSlot_ne v e, h.2.2.2 i]
    by_cases q : lo ≤ i ∧ i < k
    · rw [if_pos q, if_pos (by omega)]
    · rw [if_neg q, if_neg (by omega)]
def U16 : String := "java/lang/StringUTF16"
namespace Cmp5
def yN : MethodName := ⟨"java/lang/StringUTF16", "compress", "([CI[BII)I"⟩
abbrev yB : ByteArray := jdk_52_method_21_code
theorem d0 : decode yB 0 = .ok (.iconst 0, 1) := by decide +kernel
theorem d1 : decode yB 1 = .ok (.istore 5, 2) := by decide +kernel
theorem d3 : decode yB 3 = .ok (.iload 5, 2) := by decide +kernel
theorem d5 : decode yB 5 = .ok (.iload 4, 2) := by decide +kernel
theorem d7 : decode yB 7 = .ok (.if_icmp (.ge) 37, 3) := by decide +kernel
theorem d10 : decode yB 10 = .ok (.aload_n 0, 1) := by decide +kernel
theorem d11 : decode yB 11 = .ok (.iload_n 1, 1) := by decide +kernel
theorem d12 : decode yB 12 = .ok (.caload, 1) := by decide +kernel
theorem d13 : decode yB 13 = .ok (.istore 6, 2) := by decide +kernel
theorem d15 : decode yB 15 = .ok (.iload 6, 2) := by decide +kernel
theorem d17 : decode yB 17 = .ok (.sipush 255, 3) := by decide +kernel
theorem d20 : decode yB 20 = .ok (.if_icmp (.le) 6, 3) := by decide +kernel
theorem d26 : decode yB 26 = .ok (.aload_n 2, 1) := by decide +kernel
theorem d27 : decode yB 27 = .ok (.iload_n 3, 1) := by decide +kernel
theorem d28 : decode yB 28 = .ok (.iload 6, 2) := by decide +kernel
theorem d30 : decode yB 30 = .ok (.i2b, 1) := by decide +kernel
theorem d31 : decode yB 31 = .ok (.bastore, 1) := by decide +kernel
theorem d32 : decode yB 32 = .ok (.iinc 1 1, 3) := by decide +kernel
theorem d35 : decode yB 35 = .ok (.iinc 3 1, 3) := by decide +kernel
theorem d38 : decode yB 38 = .ok (.iinc 5 1, 3) := by decide +kernel
theorem d41 : decode yB 41 = .ok (.goto (-38), 3) := by decide +kernel
theorem d44 : decode yB 44 = .ok (.iload 4, 2) := by decide +kernel
theorem d46 : decode yB 46 = .ok (.ireturn, 1) := by decide +kernel
def site : List Cond := []
def tab : Cond := tabOf yN yB 7 (some .int) site
def P (b : Addr) (A : Cell) (d : Addr) (B : Cell) (o q len : Nat) (args : Array Value) (s : State) : Prop := args = #[.ref b, .int (Int32.ofNat o), .ref d, .int (Int32.ofNat q), .int (Int32.ofNat len)] ∧ Ch b A s ∧ Arr .byte d B s ∧ b ≠ d ∧ o + len ≤ A.slots.size ∧ q + len ≤ B.slots.size ∧ ∀ i, i < len → ¬ 255 < cv A (o + i)
def E (b : Addr) (A : Cell) (d : Addr) (B : Cell) (o q len : Nat) (r : Option Value) (s u : State) : Prop := r = some (.int (Int32.ofNat len)) ∧ ∃ B', Put d B' s u ∧ Laid B B' q (q + len) (fun j => Value.int (lo8 (cv A (o + (j - q)))))
/-- no char of the range above 255: len; the places written hold each char's low byte -/
theorem law (l : Launch) (b : Addr) (A : Cell) (d : Addr) (B : Cell) (o q len : Nat) : Law l yN 5 5 0 0 yB 7 (some .int) site (P b A d B o q len) (E b A d B o q len) (copyLocs d q len) 0 0 := by
  refine Law.of_walk (plainFor_of_name (by decide +kernel)) (by decide +kernel) (by decide +kernel) (by decide) (fun _ _ h => by rw [h.1]; rfl) (fun _ U U' hal hh h => ⟨h.1, h.2.1.mv hal hh, h.2.2.1.mv hal hh, h.2.2.2⟩) (fun r U U' V V' h1 hal h2 h => ⟨h.1, h.2.elim fun B' q => ⟨B', q.1.mv h1 h2, q.2⟩⟩) ?_
  intro p e s m args below meth c s₁ X0 hexec hbytes hml hret hlk hnm hown hh0 W hP
  obtain ⟨rfl, hA, hB, hne, l1, l2, hp⟩ := hP
  have c1 : Steps p.tables e below (s₁.setTop (entryFrame m #[.ref b, .int (Int32.ofNat o), .ref d, .int (Int32.ofNat q), .int (Int32.ofNat len)] 7)) (s₁.setTop (mkF m 0 #[.val (.ref b), .val (.int (Int32.ofNat o)), .val (.ref d), .val (.int (Int32.ofNat q)), .val (.int (Int32.ofNat len)), .unset, .unset] [])) := entry rfl
  have hA0 := hA.1.mv X0.warmed.alike hh0
  have hB0 := hB.mv X0.warmed.alike hh0
  have a31 := hA.1.2.2.2
  have c2 : Steps p.tables e below (s₁.setTop (entryFrame m #[.ref b, .int (Int32.ofNat o), .ref d, .int (Int32.ofNat q), .int (Int32.ofNat len)] 7)) (s₁.setTop (mkF m 3 #[.val (.ref b), .val (.int (Int32.ofNat o)), .val (.ref d), .val (.int (Int32.ofNat q)), .val (.int (Int32.ofNat len)), .val (.int 0), .unset] [])) := c1.trans (by
    refine iconstV X0.here hexec rfl 0 (hb hbytes d0) (by decide) ?_
    refine XS.istore X0.here hexec rfl (hb hbytes d1) rfl rfl ?_
    exact Steps.refl _)
  have loop : ∀ (r i : Nat), i + r = len → ∀ (z : Slot), (z = .unset ∨ ∃ w, z = .val w ∧ w.category = 1) → ∀ (Tl : State) (Bk : Cell), Stand p l e { frames := 0, locals := 0, cells := 0, slots := 0 } s m #[.ref b, .int (Int32.ofNat o), .ref d, .int (Int32.ofNat q), .int (Int32.ofNat len)] below meth c Tl ([] ++ copyLocs d q i) 0 0 → Put d Bk s₁ Tl → Laid B Bk q (q + i) (fun j => Value.int (lo8 (cv A (o + (j - q))))) →
      Steps p.tables e below (s₁.setTop (entryFrame m #[.ref b, .int (Int32.ofNat o), .ref d, .int (Int32.ofNat q), .int (Int32.ofNat len)] 7)) (Tl.setTop (mkF m 3 #[.val (.ref b), .val (.int (Int32.ofNat (o + i))), .val (.ref d), .val (.int (Int32.ofNat (q + i))), .val (.int (Int32.ofNat len)), .val (.int (Int32.ofNat i)), z] [])) → ∃ (T' : State) (B' : Cell) (z' : Slot), Stand p l e { frames := 0, locals := 0, cells := 0, slots := 0 } s m #[.ref b, .int (Int32.ofNat o), .ref d, .int (Int32.ofNat q), .int (Int32.ofNat len)] below meth c T' ([] ++ copyLocs d q len) 0 0 ∧ Put d B' s₁ T' ∧ Laid B B' q (q + len) (fun j => Value.int (lo8 (cv A (o + (j - q))))) ∧
      Steps p.tables e below (s₁.setTop (entryFrame m #[.ref b, .int (Int32.ofNat o), .ref d, .int (Int32.ofNat q), .int (Int32.ofNat len)] 7)) (T'.setTop (mkF m 3 #[.val (.ref b), .val (.int (Int32.ofNat (o + len))), .val (.ref d), .val (.int (Int32.ofNat (q + len))), .val (.int (Int32.ofNat len)), .val (.int (Int32.ofNat len)), z'] [])) := by
    intro r
    induction r with
    | zero =>
      intro i hi z hz Tl Bk Xl pl fl cl
      have hil : i = len := by omega
      rw [hil] at Xl fl cl
      exact ⟨Tl, Bk, z, Xl, pl, fl, cl⟩
    | succ r ih =>
      intro i hi z hz Tl Bk Xl pl fl cl
      have all := X0.warmed.alike.symm.trans Xl.warmed.alike
      have hAl := hA0.keep all (pl.other hne hA0.1)
      have hBk := hB0.like all pl.1 fl.1 fl.2.1 fl.2.2.1
      have hlt : q + i < Bk.slots.size := by rw [fl.2.2.1]; omega
      have c3 : Steps p.tables e below (s₁.setTop (entryFrame m #[.ref b, .int (Int32.ofNat o), .ref d, .int (Int32.ofNat q), .int (Int32.ofNat len)] 7)) (Tl.setTop (mkF m 12 #[.val (.ref b), .val (.int (Int32.ofNat (o + i))), .val (.ref d), .val (.int (Int32.ofNat (q + i))), .val (.int (Int32.ofNat len)), .val (.int (Int32.ofNat i)), z] [.int (Int32.ofNat (o + i)), .ref b])) := cl.trans (by
        refine XS.iload Xl.here hexec rfl (hb hbytes d3) rfl ?_
        refine XS.iload Xl.here hexec rfl (hb hbytes d5) rfl ?_
        refine XS.icmpNo Xl.here hexec rfl (hb hbytes d7) rfl (ii_ge_f (lt32 (by omega) (by omega))) ?_
        refine XS.aloadN Xl.here hexec rfl (hb hbytes d10) rfl rfl ?_
        refine XS.iloadN Xl.here hexec rfl (hb hbytes d11) rfl ?_
        exact Steps.refl _)
      have c4 : Steps p.tables e below (s₁.setTop (entryFrame m #[.ref b, .int (Int32.ofNat o), .ref d, .int (Int32.ofNat q), .int (Int32.ofNat len)] 7)) (Tl.setTop (mkF m 13 #[.val (.ref b), .val (.int (Int32.ofNat (o + i))), .val (.ref d), .val (.int (Int32.ofNat (q + i))), .val (.int (Int32.ofNat len)), .val (.int (Int32.ofNat i)), z] [.int (cv A (o + i))])) := c3.trans (by
        refine Xl.aget hexec hAl rfl (hA.get (i := o + i) (by omega)) rfl rfl (hb hbytes d12) ?_
        exact Steps.refl _)
      have c5 : Steps p.tables e below (s₁.setTop (entryFrame m #[.ref b, .int (Int32.ofNat o), .ref d, .int (Int32.ofNat q), .int (Int32.ofNat len)] 7)) (Tl.setTop (mkF m 15 #[.val (.ref b), .val (.int (Int32.ofNat (o + i))), .val (.ref d), .val (.int (Int32.ofNat (q + i))), .val (.int (Int32.ofNat len)), .val (.int (Int32.ofNat i)), .val (.int (cv A (o + i)))] [])) := c4.trans (by
        refine XS.istoreS Xl.here hexec rfl (hb hbytes d13) rfl rfl hz ?_
        exact Steps.refl _)
      have c6 : Steps p.tables e below (s₁.setTop (entryFrame m #[.ref b, .int (Int32.ofNat o), .ref d, .int (Int32.ofNat q), .int (Int32.ofNat len)] 7)) (Tl.setTop (mkF m 31 #[.val (.ref b), .val (.int (Int32.ofNat (o + i))), .val (.ref d), .val (.int (Int32.ofNat (q + i))), .val (.int (Int32.ofNat len)), .val (.int (Int32.ofNat i)), .val (.int (cv A (o + i)))] [.int (lo8 (cv A (o + i))), .int (Int32.ofNat (q + i)), .ref d])) := c5.trans (by
        refine XS.iload Xl.here hexec rfl (hb hbytes d15) rfl ?_
        refine sipushV Xl.here hexec rfl 255 (hb hbytes d17) (by decide) ?_
        refine XS.icmpYes Xl.here hexec rfl (pc0 := 20) rfl (hb hbytes d20) rfl (ii_le_t (hp i (by omega))) (by decide) rfl ?_
        refine XS.aloadN Xl.here hexec rfl (hb hbytes d26) rfl rfl ?_
        refine XS.iloadN Xl.here hexec rfl (hb hbytes d27) rfl ?_
        refine XS.iload Xl.here hexec rfl (hb hbytes d28) rfl ?_
        refine i2b Xl.here hexec rfl (hb hbytes d30) rfl ?_
        exact Steps.refl _)
      obtain ⟨T7, X7, p7, st7⟩ := Xl.aput hexec hBk rfl hlt rfl (fits_lo8 (cv A (o + i))) (g := (mkF m 31 #[.val (.ref b), .val (.int (Int32.ofNat (o + i))), .val (.ref d), .val (.int (Int32.ofNat (q + i))), .val (.int (Int32.ofNat len)), .val (.int (Int32.ofNat i)), .val (.int (cv A (o + i)))] [.int (lo8 (cv A (o + i))), .int (Int32.ofNat (q + i)), .ref d])) rfl (rest := []) rfl (hb hbytes d31)
      have c8 : Steps p.tables e below (s₁.setTop (entryFrame m #[.ref b, .int (Int32.ofNat o), .ref d, .int (Int32.ofNat q), .int (Int32.ofNat len)] 7)) (T7.setTop (mkF m 32 #[.val (.ref b), .val (.int (Int32.ofNat (o + i))), .val (.ref d), .val (.int (Int32.ofNat (q + i))), .val (.int (Int32.ofNat len)), .val (.int (Int32.ofNat i)), .val (.int (cv A (o + i)))] [])) := c6.trans (st7 _ (Steps.refl _))
      have c9 : Steps p.tables e below (s₁.setTop (entryFrame m #[.ref b, .int (Int32.ofNat o), .ref d, .int (Int32.ofNat q), .int (Int32.ofNat len)] 7)) (T7.setTop (mkF m 3 #[.val (.ref b), .val (.int (Int32.ofNat (o + i) + 1)), .val (.ref d), .val (.int (Int32.ofNat (q + i) + 1)), .val (.int (Int32.ofNat len)), .val (.int (Int32.ofNat i + 1)), .val (.int (cv A (o + i)))] [])) := c8.trans (by
        refine iincV X7.here hexec rfl 1 (hb hbytes d32) (by decide) rfl rfl ?_
        refine iincV X7.here hexec rfl 1 (hb hbytes d35) (by decide) rfl rfl ?_
        refine iincV X7.here hexec rfl 1 (hb hbytes d38) (by decide) rfl rfl ?_
        refine XS.goto X7.here hexec rfl (pc0 := 41) rfl (hb hbytes d41) (by decide) rfl ?_
        exact Steps.refl _)
      have c10 : Steps p.tables e below (s₁.setTop (entryFrame m #[.ref b, .int (Int32.ofNat o), .ref d, .int (Int32.ofNat q), .int (Int32.ofNat len)] 7)) (T7.setTop (mkF m 3 #[.val (.ref b), .val (.int (Int32.ofNat (o + (i + 1)))), .val (.ref d), .val (.int (Int32.ofNat (q + (i + 1)))), .val (.int (Int32.ofNat len)), .val (.int (Int32.ofNat (i + 1))), .val (.int (cv A (o + i)))] [])) := by
        have := c9
        rw [succ32, succ32, succ32] at this
        exact this
      exact ih (i + 1) (by omega) _ (Or.inr ⟨_, rfl, rfl⟩) T7 _ (by rw [copyLocs_step, ← List.append_assoc]; exact X7) (pl.trans p7) (fl.step (by omega) hlt (by simp)) c10
  obtain ⟨T9, B9, z9, X9, p9, f9, g9⟩ := loop len 0 (by omega) .unset (Or.inl rfl) s₁ B (by simpa [copyLocs] using X0) ⟨hB0.1, fun _ _ => rfl, rfl⟩ (Laid.zero _ _ _) c2
  have c11 : Steps p.tables e below (s₁.setTop (entryFrame m #[.ref b, .int (Int32.ofNat o), .ref d, .int (Int32.ofNat q), .int (Int32.ofNat len)] 7)) (T9.setTop (mkF m 46 #[.val (.ref b), .val (.int (Int32.ofNat (o + len))), .val (.ref d), .val (.int (Int32.ofNat (q + len))), .val (.int (Int32.ofNat len)), .val (.int (Int32.ofNat len)), z9] [.int (Int32.ofNat len)])) := g9.trans (by
    refine XS.iload X9.here hexec rfl (hb hbytes d3) rfl ?_
    refine XS.iload X9.here hexec rfl (hb hbytes d5) rfl ?_
    refine XS.icmpYes X9.here hexec rfl (pc0 := 7) rfl (hb hbytes d7) rfl (ii_ge_t (nlt32 (by omega) (Nat.le_refl _))) (by decide) rfl ?_
    refine XS.iload X9.here hexec rfl (hb hbytes d44) rfl ?_
    exact Steps.refl _)
  exact ⟨T9, some (.int (Int32.ofNat len)), _, _, _, X9, by simp, rfl, rfl, (fun h => by cases h), ⟨rfl, B9, p9.from hh0, f9⟩, fun fs hl => c11.trans (X9.ireturnOut hexec hret rfl (Or.inl rfl) (hb hbytes d46) hl)⟩
end Cmp5
namespace Cmp3
def yN : MethodName := ⟨"java/lang/StringUTF16", "compress", "([CII)[B"⟩
abbrev yB : ByteArray := jdk_52_method_16_code
theorem d0 : decode yB 0 = .ok (.iload_n 2, 1) := by decide +kernel
theorem d1 : decode yB 1 = .ok (.newarray .byte, 2) := by decide +kernel
theorem d3 : decode yB 3 = .ok (.astore_n 3, 1) := by decide +kernel
theorem d4 : decode yB 4 = .ok (.aload_n 0, 1) := by decide +kernel
theorem d5 : decode yB 5 = .ok (.iload_n 1, 1) := by decide +kernel
theorem d6 : decode yB 6 = .ok (.aload_n 3, 1) := by decide +kernel
theorem d7 : decode yB 7 = .ok (.iconst 0, 1) := by decide +kernel
theorem d8 : decode yB 8 = .ok (.iload_n 2, 1) := by decide +kernel
theorem d9 : decode yB 9 = .ok (.invokestatic 115, 3) := by decide +kernel
theorem d12 : decode yB 12 = .ok (.istore 4, 2) := by decide +kernel
theorem d14 : decode yB 14 = .ok (.iload 4, 2) := by decide +kernel
theorem d16 : decode yB 16 = .ok (.iload_n 2, 1) := by decide +kernel
theorem d17 : decode yB 17 = .ok (.if_icmp (.eq) 40, 3) := by decide +kernel
theorem d57 : decode yB 57 = .ok (.aload_n 3, 1) := by decide +kernel
theorem d58 : decode yB 58 = .ok (.areturn, 1) := by decide +kernel
def site : List Cond := [.arrayClass .byte, Cmp5.tab] ++ staticW U16 115 Cmp5.yN
def tab : Cond := tabOf yN yB 6 (some (.array .byte)) site
def P (b : Addr) (A : Cell) (o len : Nat) (args : Array Value) (s : State) : Prop := args = #[.ref b, .int (Int32.ofNat o), .int (Int32.ofNat len)] ∧ Ch b A s ∧ o + len ≤ A.slots.size ∧ len ≤ 536870912 ∧ ∀ i, i < len → ¬ 255 < cv A (o + i)
def E (b : Addr) (A : Cell) (o len : Nat) (r : Option Value) (s u : State) : Prop := NewArr .byte "[B" len (fun j => .int (lo8 (cv A (o + j)))) r s u ∧ u.heap.size = s.heap.size + 1
/-- no char of the range above 255: a new byte[] of their low bytes -/
theorem law (l : Launch) (b : Addr) (A : Cell) (o len : Nat) : Law l yN 3 3 1 18 yB 6 (some (.array .byte)) site (P b A o len) (E b A o len) [] 1 len := by
  refine Law.of_walk (plainFor_of_name (by decide +kernel)) (by decide +kernel) (by decide +kernel) (by decide) (fun _ _ h => by rw [h.1]; rfl) (fun _ U U' hal hh h => ⟨h.1, h.2.1.mv hal hh, h.2.2⟩) (fun r U U' V V' h1 hal h2 h => ⟨NewArr.mv r U U' V V' h1 hal h2 h.1, by rw [h1, h2]; exact h.2⟩) ?_
  intro p e s m args below meth c s₁ X0 hexec hbytes hml hret hlk hnm hown hh0 W hP
  obtain ⟨rfl, hA, l1, l2, hp⟩ := hP
  have a31 := hA.1.2.2.2
  have c1 : Steps p.tables e below (s₁.setTop (entryFrame m #[.ref b, .int (Int32.ofNat o), .int (Int32.ofNat len)] 6)) (s₁.setTop (mkF m 0 #[.val (.ref b), .val (.int (Int32.ofNat o)), .val (.int (Int32.ofNat len)), .unset, .unset, .unset] [])) := entry rfl
  have c2 : Steps p.tables e below (s₁.setTop (entryFrame m #[.ref b, .int (Int32.ofNat o), .int (Int32.ofNat len)] 6)) (s₁.setTop (mkF m 1 #[.val (.ref b), .val (.int (Int32.ofNat o)), .val (.int (Int32.ofNat len)), .unset, .unset, .unset] [.int (Int32.ofNat len)])) := c1.trans (by
    refine XS.iloadN X0.here hexec rfl (hb hbytes d0) rfl ?_
    exact Steps.refl _)
  obtain ⟨T3, B3, X3, ba3, bs3, bv3, bh3, bf3, st3⟩ := X0.anew hexec (atype := .byte) (wk W (.arrayClass .byte)) rfl (by show len * 1 ≤ _; omega) (by omega) (g := (mkF m 1 #[.val (.ref b), .val (.int (Int32.ofNat o)), .val (.int (Int32.ofNat len)), .unset, .unset, .unset] [.int (Int32.ofNat len)])) rfl (hb hbytes d1) (rest := []) rfl (Nat.le_refl _) (by show 0 + len ≤ len; omega)
  rw [hh0] at ba3 st3
  have kp3 : XT.Kept s T3 := (XT.Kept.of_eq hh0).push bh3
  have hA3 := hA.keep X3.warmed.alike (kp3 _ _ hA.1.1)
  have hne : b ≠ s.heap.size := hA.1.ne
  have c4 : Steps p.tables e below (s₁.setTop (entryFrame m #[.ref b, .int (Int32.ofNat o), .int (Int32.ofNat len)] 6)) (T3.setTop (mkF m 3 #[.val (.ref b), .val (.int (Int32.ofNat o)), .val (.int (Int32.ofNat len)), .unset, .unset, .unset] [.ref s.heap.size])) := c2.trans (st3 _ (Steps.refl _))
  have c5 : Steps p.tables e below (s₁.setTop (entryFrame m #[.ref b, .int (Int32.ofNat o), .int (Int32.ofNat len)] 6)) (T3.setTop (mkF m 9 #[.val (.ref b), .val (.int (Int32.ofNat o)), .val (.int (Int32.ofNat len)), .val (.ref s.heap.size), .unset, .unset] [.int (Int32.ofNat len), .int 0, .ref s.heap.size, .int (Int32.ofNat o), .ref b])) := c4.trans (by
    refine XS.astoreN X3.here hexec rfl (hb hbytes d3) rfl rfl rfl ?_
    refine XS.aloadN X3.here hexec rfl (hb hbytes d4) rfl rfl ?_
    refine XS.iloadN X3.here hexec rfl (hb hbytes d5) rfl ?_
    refine XS.aloadN X3.here hexec rfl (hb hbytes d6) rfl rfl ?_
    refine iconstV X3.here hexec rfl 0 (hb hbytes d7) (by decide) ?_
    refine XS.iloadN X3.here hexec rfl (hb hbytes d8) rfl ?_
    exact Steps.refl _)
  obtain ⟨v6, T6, X6, E6, g6⟩ := X3.callS hexec (Cmp5.law l b A s.heap.size B3 o 0 len) hown (wks W (staticW U16 115 Cmp5.yN)) (wk W Cmp5.tab) (W := 0) (Nat.le_of_ble_eq_true rfl) (Nat.le_of_ble_eq_true rfl) (Nat.le_refl _) (by show 0 + len + 0 ≤ len; omega) (g := (mkF m 9 #[.val (.ref b), .val (.int (Int32.ofNat o)), .val (.int (Int32.ofNat len)), .val (.ref s.heap.size), .unset, .unset] [.int (Int32.ofNat len), .int (Int32.ofNat 0), .ref s.heap.size, .int (Int32.ofNat o), .ref b])) rfl (by rw [hml]; rfl) c5 (argsL := [.ref b, .int (Int32.ofNat o), .ref s.heap.size, .int (Int32.ofNat 0), .int (Int32.ofNat len)]) (rest := []) rfl rfl (by show 2 * 0 + 0 ≤ _; decide) (hb hbytes d9) (⟨rfl, hA3, ba3, hne, l1, by rw [bs3]; simp, hp⟩)
  obtain ⟨rfl, B6, p6, f6⟩ := E6
  have c7 : Steps p.tables e below (s₁.setTop (entryFrame m #[.ref b, .int (Int32.ofNat o), .int (Int32.ofNat len)] 6)) (T6.setTop (mkF m 12 #[.val (.ref b), .val (.int (Int32.ofNat o)), .val (.int (Int32.ofNat len)), .val (.ref s.heap.size), .unset, .unset] [.int (Int32.ofNat len)])) := g6
  have c8 : Steps p.tables e below (s₁.setTop (entryFrame m #[.ref b, .int (Int32.ofNat o), .int (Int32.ofNat len)] 6)) (T6.setTop (mkF m 58 #[.val (.ref b), .val (.int (Int32.ofNat o)), .val (.int (Int32.ofNat len)), .val (.ref s.heap.size), .val (.int (Int32.ofNat len)), .unset] [.ref s.heap.size])) := c7.trans (by
    refine XS.istore X6.here hexec rfl (hb hbytes d12) rfl rfl ?_
    refine XS.iload X6.here hexec rfl (hb hbytes d14) rfl ?_
    refine XS.iloadN X6.here hexec rfl (hb hbytes d16) rfl ?_
    refine XS.icmpYes X6.here hexec rfl (pc0 := 17) rfl (hb hbytes d17) rfl (ii_eq_t rfl) (by decide) rfl ?_
    refine XS.aloadN X6.here hexec rfl (hb hbytes d57) rfl rfl ?_
    exact Steps.refl _)
  have X8 := X6.wide (L' := []) (cells' := 1) (slots' := len) (fun x hx hlt => by
    simp only [List.nil_append, copyLocs, List.mem_map, List.mem_range] at hx
    obtain ⟨i, -, rfl⟩ := hx
    exact absurd hlt (Nat.lt_irrefl _)) (Nat.le_refl _) (by omega)
  exact ⟨T6, some (.ref s.heap.size), _, _, _, X8, rfl, rfl, rfl, (fun h => by cases h), ⟨⟨rfl, B6, ba3.like (X3.warmed.alike.symm.trans X6.warmed.alike) p6.1 f6.1 f6.2.1 f6.2.2.1, f6.2.1.trans bv3, by rw [X6.warmed.alike.findClass, f6.1]; exact bf3, by rw [f6.2.2.1, bs3]; simp, fun j hj => by rw [f6.2.2.2 j, if_pos (by omega)]; rfl, kp3.put p6 (Nat.le_refl _)⟩, by rw [p6.2.2, bh3, hh0]; simp⟩, fun fs hl => c8.trans (X8.areturnOut hexec rfl hret rfl (hb hbytes d58) hl)⟩
end Cmp3
namespace CodL
def yN : MethodName := ⟨"java/lang/StringUTF16", "coderFromArrayLen", "([BI)B"⟩
abbrev yB : ByteArray := jdk_52_method_15_code
theorem d0 : decode yB 0 = .ok (.iload_n 1, 1) := by decide +kernel
theorem d1 : decode yB 1 = .ok (.aload_n 0, 1) := by decide +kernel
theorem d2 : decode yB 2 = .ok (.arraylength, 1) := by decide +kernel
theorem d3 : decode yB 3 = .ok (.isub, 1) := by decide +kernel
theorem d4 : decode yB 4 = .ok (.bipush 31, 2) := by decide +kernel
theorem d6 : decode yB 6 = .ok (.iushr, 1) := by decide +kernel
theorem d7 : decode yB 7 = .ok (.i2b, 1) := by decide +kernel
theorem d8 : decode yB 8 = .ok (.ireturn, 1) := by decide +kernel
def site : List Cond := []
def tab : Cond := tabOf yN yB 2 (some .byte) site
def P (d : Addr) (B : Cell) (args : Array Value) (s : State) : Prop := args = #[.ref d, .int (Int32.ofNat B.slots.size)] ∧ Arr .byte d B s
def E (r : Option Value) (s u : State) : Prop := XT.PureE (some (.int 0)) r s u
/-- an array as long as the number of chars: LATIN1 -/
theorem law (l : Launch) (d : Addr) (B : Cell) : Law l yN 2 2 0 0 yB 2 (some .byte) site (P d B) E [] 0 0 := by
  refine Law.of_walk (plainFor_of_name (by decide +kernel)) (by decide +kernel) (by decide +kernel) (by decide) (fun _ _ h => by rw [h.1]; rfl) (fun _ U U' hal hh h => ⟨h.1, h.2.mv hal hh⟩) (fun r U U' V V' h1 hal h2 h => XT.PureE.mv r U U' V V' h1 hal h2 h) ?_
  intro p e s m args below meth c s₁ X0 hexec hbytes hml hret hlk hnm hown hh0 W hP
  obtain ⟨rfl, hB⟩ := hP
  have hB0 := hB.mv X0.warmed.alike hh0
  have c1 : Steps p.tables e below (s₁.setTop (entryFrame m #[.ref d, .int (Int32.ofNat B.slots.size)] 2)) (s₁.setTop (mkF m 0 #[.val (.ref d), .val (.int (Int32.ofNat B.slots.size))] [])) := entry rfl
  have c2 : Steps p.tables e below (s₁.setTop (entryFrame m #[.ref d, .int (Int32.ofNat B.slots.size)] 2)) (s₁.setTop (mkF m 2 #[.val (.ref d), .val (.int (Int32.ofNat B.slots.size))] [.ref d, .int (Int32.ofNat B.slots.size)])) := c1.trans (by
    refine XS.iloadN X0.here hexec rfl (hb hbytes d0) rfl ?_
    refine XS.aloadN X0.here hexec rfl (hb hbytes d1) rfl rfl ?_
    exact Steps.refl _)
  have c3 : Steps p.tables e below (s₁.setTop (entryFrame m #[.ref d, .int (Int32.ofNat B.slots.size)] 2)) (s₁.setTop (mkF m 8 #[.val (.ref d), .val (.int (Int32.ofNat B.slots.size))] [.int (lo8 (ushr (Int32.ofNat B.slots.size - Int32.ofNat B.slots.size) 31))])) := c2.trans (by
    refine X0.alen hexec hB0 rfl rfl (hb hbytes d2) ?_
    refine XS.isub X0.here hexec rfl (hb hbytes d3) rfl ?_
    refine bipushV X0.here hexec rfl 31 (hb hbytes d4) (by decide) ?_
    refine iushr X0.here hexec rfl (hb hbytes d6) rfl ?_
    refine i2b X0.here hexec rfl (hb hbytes d7) rfl ?_
    exact Steps.refl _)
  have e0 : lo8 (ushr (Int32.ofNat B.slots.size - Int32.ofNat B.slots.size) 31) = 0 := by rw [Int32.sub_self]; decide
  rw [e0] at c3
  exact ⟨s₁, some (.int 0), _, _, _, X0, rfl, rfl, rfl, (fun h => by cases h), ⟨rfl, hh0⟩, fun fs hl => c3.trans (X0.ireturnOut hexec hret rfl (Or.inr (Or.inr (Or.inl rfl))) (hb hbytes d8) hl)⟩
end CodL
/-- the String at a is Latin-1 over a new byte[] (the heap's one new cell): the low bytes of the len chars of A from o on; every cell but a is kept -/
def Got (a : Addr) (D : Cell) (fV fC : Field) (A : Cell) (o len : Nat) (r : Option Value) (s u : State) : Prop := r = none ∧ ∃ D' V : Cell, Blank "java/lang/String" a D' u ∧ Same D D' [fV.slot, fC.slot] ∧ D'.slots[fV.slot]? = some (.ref s.heap.size) ∧ D'.slots[fC.slot]? = some (.int 0) ∧ Arr .byte s.heap.size V u ∧ V.vm = .none ∧ u.vm.findClass "[B" = some V.cls ∧ V.slots.size = len ∧ (∀ j, j < len → V.slots[j]? = some (.int (lo8 (cv A (o + j))))) ∧ (∀ (y : Addr) (c : Cell), y ≠ a → s.heap[y]? = some c → u.heap[y]? = some c) ∧ u.heap.size = s.heap.size + 1
theorem Got.mv {a : Addr} {D A : Cell} {fV fC : Field} {o len : Nat} : ∀ r (U U' V V' : State), U'.heap = U.heap → V.vm.Alike V'.vm → V'.heap = V.heap → Got a D fV fC A o len r U V → Got a D fV fC A o len r U' V' :=
  fun r U U' V V' h1 hal h2 ⟨e0, D', X, a1, a2, a3, a4, a5, a6, a7, a8, a9, a10, a11⟩ => ⟨e0, D', X, a1.mv hal h2, a2, by rw [h1]; exact a3, a4, by rw [h1]; exact a5.mv hal h2, a6, by rw [hal.findClass]; exact a7, a8, a9, by rw [h1, h2]; exact a10, by rw [h1, h2]; exact a11⟩
namespace New4
def yN : MethodName := ⟨"java/lang/String", "<init>", "([CIILjava/lang/Void;)V"⟩
abbrev yB : ByteArray := jdk_42_method_149_code
theorem d0 : decode yB 0 = .ok (.aload_n 0, 1) := by decide +kernel
theorem d1 : decode yB 1 = .ok (.invokespecial 1, 3) := by decide +kernel
theorem d4 : decode yB 4 = .ok (.iload_n 3, 1) := by decide +kernel
theorem d5 : decode yB 5 = .ok (.ifCond (.ne) 22, 3) := by decide +kernel
theorem d27 : decode yB 27 = .ok (.getstatic 38, 3) := by decide +kernel
theorem d30 : decode yB 30 = .ok (.ifCond (.eq) 28, 3) := by decide +kernel
theorem d33 : decode yB 33 = .ok (.aload_n 1, 1) := by decide +kernel
theorem d34 : decode yB 34 = .ok (.iload_n 2, 1) := by decide +kernel
theorem d35 : decode yB 35 = .ok (.iload_n 3, 1) := by decide +kernel
theorem d36 : decode yB 36 = .ok (.invokestatic 177, 3) := by decide +kernel
theorem d39 : decode yB 39 = .ok (.astore 5, 2) := by decide +kernel
theorem d41 : decode yB 41 = .ok (.aload_n 0, 1) := by decide +kernel
theorem d42 : decode yB 42 = .ok (.aload 5, 2) := by decide +kernel
theorem d44 : decode yB 44 = .ok (.iload_n 3, 1) := by decide +kernel
theorem d45 : decode yB 45 = .ok (.invokestatic 47, 3) := by decide +kernel
theorem d48 : decode yB 48 = .ok (.putfield 15, 3) := by decide +kernel
theorem d51 : decode yB 51 = .ok (.aload_n 0, 1) := by decide +kernel
theorem d52 : decode yB 52 = .ok (.aload 5, 2) := by decide +kernel
theorem d54 : decode yB 54 = .ok (.putfield 9, 3) := by decide +kernel
theorem d57 : decode yB 57 = .ok (.return_, 1) := by decide +kernel
def site : List Cond := [.fieldLink "java/lang/String" 38 "java/lang/String" "COMPACT_STRINGS" "Z", Cmp3.tab, CodL.tab, .laysFinal "java/lang/String" "java/lang/String" "value" "[B", .fieldLink "java/lang/String" 9 "java/lang/String" "value" "[B", .laysFinal "java/lang/String" "java/lang/String" "coder" "B", .fieldLink "java/lang/String" 15 "java/lang/String" "coder" "B"] ++ objW "java/lang/String" 1 ++ staticW "java/lang/String" 177 Cmp3.yN ++ staticW "java/lang/String" 47 CodL.yN
def tab : Cond := tabOf yN yB 6 none site
def P (a : Addr) (D : Cell) (fV fC : Field) (b : Addr) (A : Cell) (z : Int32) (o len : Nat) (args : Array Value) (s : State) : Prop := args = #[.ref a, .ref b, .int (Int32.ofNat o), .int (Int32.ofNat len), .null] ∧ Blank "java/lang/String" a D s ∧ Found "java/lang/String" "value" "[B" fV s ∧ Found "java/lang/String" "coder" "B" fC s ∧ Ch b A s ∧ StaticIs s "java/lang/String" "COMPACT_STRINGS" "Z" (.int z) ∧ ¬ z = 0 ∧ 0 < len ∧ o + len ≤ A.slots.size ∧ len ≤ 536870912 ∧ ∀ i, i < len → ¬ 255 < cv A (o + i)
def E (a : Addr) (D : Cell) (fV fC : Field) (A : Cell) (o len : Nat) (r : Option Value) (s u : State) : Prop := Got a D fV fC A o len r s u
/-- len > 0, no char of the range above 255: a Latin-1 String of their low bytes -/
theorem law (l : Launch) (a : Addr) (D : Cell) (fV fC : Field) (b : Addr) (A : Cell) (z : Int32) (o len : Nat) : Law l yN 5 4 2 35 yB 6 none site (P a D fV fC b A z o len) (E a D fV fC A o len) [⟨a, fC.slot⟩, ⟨a, fV.slot⟩] 1 len := by
  refine Law.of_walk (plainFor_of_name (by decide +kernel)) (by decide +kernel) (by decide +kernel) (by decide) (fun _ _ h => by rw [h.1]; rfl) (fun _ U U' hal hh h => ⟨h.1, h.2.1.mv hal hh, h.2.2.1.al hal, h.2.2.2.1.al hal, h.2.2.2.2.1.mv hal hh, h.2.2.2.2.2.1.there hal hh, h.2.2.2.2.2.2⟩) (fun r U U' V V' h1 hal h2 h => Got.mv r U U' V V' h1 hal h2 h) ?_
  intro p e s m args below meth c s₁ X0 hexec hbytes hml hret hlk hnm hown hh0 W hP
  obtain ⟨rfl, hB, f1, f2, hA, s1, hz, l0, l1, l2, hp⟩ := hP
  have a31 := hA.1.2.2.2
  have c1 : Steps p.tables e below (s₁.setTop (entryFrame m #[.ref a, .ref b, .int (Int32.ofNat o), .int (Int32.ofNat len), .null] 6)) (s₁.setTop (mkF m 0 #[.val (.ref a), .val (.ref b), .val (.int (Int32.ofNat o)), .val (.int (Int32.ofNat len)), .val .null, .unset] [])) := entry rfl
  have c2 : Steps p.tables e below (s₁.setTop (entryFrame m #[.ref a, .ref b, .int (Int32.ofNat o), .int (Int32.ofNat len), .null] 6)) (s₁.setTop (mkF m 1 #[.val (.ref a), .val (.ref b), .val (.int (Int32.ofNat o)), .val (.int (Int32.ofNat len)), .val .null, .unset] [.ref a])) := c1.trans (by
    refine XS.aloadN X0.here hexec rfl (hb hbytes d0) rfl rfl ?_
    exact Steps.refl _)
  obtain ⟨T3, X3, q3, st3⟩ := X0.oinit hexec hown (wks W (objW "java/lang/String" 1)) (g := (mkF m 1 #[.val (.ref a), .val (.ref b), .val (.int (Int32.ofNat o)), .val (.int (Int32.ofNat len)), .val .null, .unset] [.ref a])) rfl (by rw [hml]; rfl) (rest := []) rfl (hb hbytes d1) (W := 0) (by show 2 * 0 + 0 ≤ _; decide) (Nat.le_of_ble_eq_true rfl) (Nat.le_of_ble_eq_true rfl)
  have hh3 := q3.trans hh0
  have c4 : Steps p.tables e below (s₁.setTop (entryFrame m #[.ref a, .ref b, .int (Int32.ofNat o), .int (Int32.ofNat len), .null] 6)) (T3.setTop (mkF m 27 #[.val (.ref a), .val (.ref b), .val (.int (Int32.ofNat o)), .val (.int (Int32.ofNat len)), .val .null, .unset] [])) := (c2.trans (st3 _ (Steps.refl _))).trans (by
    refine XS.iloadN X3.here hexec rfl (hb hbytes d4) rfl ?_
    refine XS.ifYes X3.here hexec rfl (pc0 := 5) rfl (hb hbytes d5) rfl (i0_ne_t (nz32 (by omega) l0)) (by decide) rfl ?_
    exact Steps.refl _)
  obtain ⟨T5, X5, q5, st5⟩ := X3.sget hexec hown (wk W (.fieldLink "java/lang/String" 38 "java/lang/String" "COMPACT_STRINGS" "Z")) s1 (fun _ _ h => by rw [hh3]; exact h) (g := (mkF m 27 #[.val (.ref a), .val (.ref b), .val (.int (Int32.ofNat o)), .val (.int (Int32.ofNat len)), .val .null, .unset] [])) rfl (hb hbytes d27)
  have hh5 := q5.trans hh3
  have c6 : Steps p.tables e below (s₁.setTop (entryFrame m #[.ref a, .ref b, .int (Int32.ofNat o), .int (Int32.ofNat len), .null] 6)) (T5.setTop (mkF m 30 #[.val (.ref a), .val (.ref b), .val (.int (Int32.ofNat o)), .val (.int (Int32.ofNat len)), .val .null, .unset] [.int z])) := c4.trans (st5 _ (Steps.refl _))
  have c7 : Steps p.tables e below (s₁.setTop (entryFrame m #[.ref a, .ref b, .int (Int32.ofNat o), .int (Int32.ofNat len), .null] 6)) (T5.setTop (mkF m 36 #[.val (.ref a), .val (.ref b), .val (.int (Int32.ofNat o)), .val (.int (Int32.ofNat len)), .val .null, .unset] [.int (Int32.ofNat len), .int (Int32.ofNat o), .ref b])) := c6.trans (by
    refine XS.ifNo X5.here hexec rfl (hb hbytes d30) rfl (i0_eq_f hz) ?_
    refine XS.aloadN X5.here hexec rfl (hb hbytes d33) rfl rfl ?_
    refine XS.iloadN X5.here hexec rfl (hb hbytes d34) rfl ?_
    refine XS.iloadN X5.here hexec rfl (hb hbytes d35) rfl ?_
    exact Steps.refl _)
  obtain ⟨v8, T8, X8, E8, g8⟩ := X5.callS hexec (Cmp3.law l b A o len) hown (wks W (staticW "java/lang/String" 177 Cmp3.yN)) (wk W Cmp3.tab) (W := 0) (Nat.le_of_ble_eq_true rfl) (Nat.le_of_ble_eq_true rfl) (Nat.le_refl _) (by show 0 + len ≤ len; omega) (g := (mkF m 36 #[.val (.ref a), .val (.ref b), .val (.int (Int32.ofNat o)), .val (.int (Int32.ofNat len)), .val .null, .unset] [.int (Int32.ofNat len), .int (Int32.ofNat o), .ref b])) rfl (by rw [hml]; rfl) c7 (argsL := [.ref b, .int (Int32.ofNat o), .int (Int32.ofNat len)]) (rest := []) rfl rfl (by show 2 * 0 + 0 ≤ _; decide) (hb hbytes d36) (⟨rfl, hA.mv X5.warmed.alike hh5, l1, l2, hp⟩)
  obtain ⟨e8, z8⟩ := E8
  obtain ⟨rfl, N, n1, n2, n3, n4, n5, n6⟩ := NewArr.mv _ T5 s _ _ hh5.symm (Vm.Alike.refl _) rfl e8
  rw [hh5] at z8
  have hB1 := hB.keep X8.warmed.alike (n6 _ _ hB.1)
  have hne : s.heap.size ≠ a := (Nat.ne_of_lt (Array.getElem?_eq_some_iff.mp hB.1).1).symm
  have c9 : Steps p.tables e below (s₁.setTop (entryFrame m #[.ref a, .ref b, .int (Int32.ofNat o), .int (Int32.ofNat len), .null] 6)) (T8.setTop (mkF m 39 #[.val (.ref a), .val (.ref b), .val (.int (Int32.ofNat o)), .val (.int (Int32.ofNat len)), .val .null, .unset] [.ref s.heap.size])) := g8
  have c10 : Steps p.tables e below (s₁.setTop (entryFrame m #[.ref a, .ref b, .int (Int32.ofNat o), .int (Int32.ofNat len), .null] 6)) (T8.setTop (mkF m 45 #[.val (.ref a), .val (.ref b), .val (.int (Int32.ofNat o)), .val (.int (Int32.ofNat len)), .val .null, .val (.ref s.heap.size)] [.int (Int32.ofNat N.slots.size), .ref s.heap.size, .ref a])) := by
    have hc : Steps p.tables e below (s₁.setTop (entryFrame m #[.ref a, .ref b, .int (Int32.ofNat o), .int (Int32.ofNat len), .null] 6)) (T8.setTop (mkF m 45 #[.val (.ref a), .val (.ref b), .val (.int (Int32.ofNat o)), .val (.int (Int32.ofNat len)), .val .null, .val (.ref s.heap.size)] [.int (Int32.ofNat len), .ref s.heap.size, .ref a])) := c9.trans (by
      refine XS.astore X8.here hexec rfl (hb hbytes d39) rfl rfl rfl ?_
      refine XS.aloadN X8.here hexec rfl (hb hbytes d41) rfl rfl ?_
      refine XS.aload X8.here hexec rfl (hb hbytes d42) rfl rfl ?_
      refine XS.iloadN X8.here hexec rfl (hb hbytes d44) rfl ?_
      exact Steps.refl _)
    rw [n4]; exact hc
  obtain ⟨v11, T11, X11, E11, g11⟩ := X8.callS hexec (CodL.law l s.heap.size N) hown (wks W (staticW "java/lang/String" 47 CodL.yN)) (wk W CodL.tab) (W := 1) (Nat.le_of_ble_eq_true rfl) (Nat.le_of_ble_eq_true rfl) (Nat.le_refl _) (by show 0 + len + 0 ≤ len; omega) (g := (mkF m 45 #[.val (.ref a), .val (.ref b), .val (.int (Int32.ofNat o)), .val (.int (Int32.ofNat len)), .val .null, .val (.ref s.heap.size)] [.int (Int32.ofNat N.slots.size), .ref s.heap.size, .ref a])) rfl (by rw [hml]; rfl) c10 (argsL := [.ref s.heap.size, .int (Int32.ofNat N.slots.size)]) (rest := [.ref a]) rfl rfl (by show 2 * 0 + (1 + 0) ≤ _; decide) (hb hbytes d45) (⟨rfl, n1⟩)
  obtain ⟨rfl, q11⟩ := E11
  have hB11 := hB1.mv (X8.warmed.alike.symm.trans X11.warmed.alike) q11
  have c12 : Steps p.tables e below (s₁.setTop (entryFrame m #[.ref a, .ref b, .int (Int32.ofNat o), .int (Int32.ofNat len), .null] 6)) (T11.setTop (mkF m 48 #[.val (.ref a), .val (.ref b), .val (.int (Int32.ofNat o)), .val (.int (Int32.ofNat len)), .val .null, .val (.ref s.heap.size)] [.int 0, .ref a])) := g11
  obtain ⟨T13, X13, p13, bl13, sl13, st13⟩ := X11.finit hexec hown (wk W (.fieldLink "java/lang/String" 15 "java/lang/String" "coder" "B")) (Or.inr ⟨_, (wk W (.laysFinal "java/lang/String" "java/lang/String" "coder" "B"))⟩) (Or.inl ⟨rfl, hnm⟩) f2 (Or.inl rfl) hB11 (t := .byte) (by decide +kernel) rfl (g := (mkF m 48 #[.val (.ref a), .val (.ref b), .val (.int (Int32.ofNat o)), .val (.int (Int32.ofNat len)), .val .null, .val (.ref s.heap.size)] [.int 0, .ref a])) rfl (rest := []) rfl (hb hbytes d48)
  have c14 : Steps p.tables e below (s₁.setTop (entryFrame m #[.ref a, .ref b, .int (Int32.ofNat o), .int (Int32.ofNat len), .null] 6)) (T13.setTop (mkF m 54 #[.val (.ref a), .val (.ref b), .val (.int (Int32.ofNat o)), .val (.int (Int32.ofNat len)), .val .null, .val (.ref s.heap.size)] [.ref s.heap.size, .ref a])) := (c12.trans (st13 _ (Steps.refl _))).trans (by
    refine XS.aloadN X13.here hexec rfl (hb hbytes d51) rfl rfl ?_
    refine XS.aload X13.here hexec rfl (hb hbytes d52) rfl rfl ?_
    exact Steps.refl _)
  obtain ⟨T15, X15, p15, bl15, sl15, st15⟩ := X13.finit hexec hown (wk W (.fieldLink "java/lang/String" 9 "java/lang/String" "value" "[B")) (Or.inr ⟨_, (wk W (.laysFinal "java/lang/String" "java/lang/String" "value" "[B"))⟩) (Or.inl ⟨rfl, hnm⟩) f1 (Or.inl rfl) bl13 (t := (.array .byte)) (by decide +kernel) rfl (g := (mkF m 54 #[.val (.ref a), .val (.ref b), .val (.int (Int32.ofNat o)), .val (.int (Int32.ofNat len)), .val .null, .val (.ref s.heap.size)] [.ref s.heap.size, .ref a])) rfl (rest := []) rfl (hb hbytes d54)
  have c16 : Steps p.tables e below (s₁.setTop (entryFrame m #[.ref a, .ref b, .int (Int32.ofNat o), .int (Int32.ofNat len), .null] 6)) (T15.setTop (mkF m 57 #[.val (.ref a), .val (.ref b), .val (.int (Int32.ofNat o)), .val (.int (Int32.ofNat len)), .val .null, .val (.ref s.heap.size)] [])) := c14.trans (st15 _ (Steps.refl _))
  have ap := apart (Or.inr ⟨_, (wk W (.laysFinal "java/lang/String" "java/lang/String" "value" "[B"))⟩) (Or.inr ⟨_, (wk W (.laysFinal "java/lang/String" "java/lang/String" "coder" "B"))⟩) f1 f2 (t₁ := .array .byte) (t₂ := .byte) (by decide +kernel) (by decide +kernel) (by decide)
  have al := X8.warmed.alike.symm.trans X15.warmed.alike
  have n7 : T11.heap[s.heap.size]? = some N := by rw [q11]; exact n1.1
  exact ⟨T15, none, _, _, _, X15, by simp, rfl, by omega, (fun _ => rfl), ⟨rfl, _, N, bl15, ((Same.refl D _).set _ (by simp)).set _ (by simp), sl15, (Cell.slots_setSlot_ne _ ap).trans sl13, n1.keep al (p15.other hne (p13.other hne n7)), n2, by rw [al.findClass]; exact n3, n4, n5, fun y c h1 h2 => p15.other h1 (p13.other h1 (by rw [q11]; exact n6 y c h2)), by rw [p15.2.2, p13.2.2, q11]; exact z8⟩, fun fs hl => c16.trans (X15.returnOut hexec hret (hb hbytes d57) hl)⟩
end New4
namespace New1
def yN : MethodName := ⟨"java/lang/String", "<init>", "([C)V"⟩
abbrev yB : ByteArray := jdk_42_method_3_code
theorem d0 : decode yB 0 = .ok (.aload_n 0, 1) := by decide +kernel
theorem d1 : decode yB 1 = .ok (.aload_n 1, 1) := by decide +kernel
theorem d2 : decode yB 2 = .ok (.iconst 0, 1) := by decide +kernel
theorem d3 : decode yB 3 = .ok (.aload_n 1, 1) := by decide +kernel
theorem d4 : decode yB 4 = .ok (.arraylength, 1) := by decide +kernel
theorem d5 : decode yB 5 = .ok (.aconst_null, 1) := by decide +kernel
theorem d6 : decode yB 6 = .ok (.invokespecial 27, 3) := by decide +kernel
theorem d9 : decode yB 9 = .ok (.return_, 1) := by decide +kernel
def site : List Cond := [New4.tab] ++ initW "java/lang/String" 27 New4.yN
def tab : Cond := tabOf yN yB 2 none site
def P (a : Addr) (D : Cell) (fV fC : Field) (b : Addr) (A : Cell) (z : Int32) (args : Array Value) (s : State) : Prop := args = #[.ref a, .ref b] ∧ Blank "java/lang/String" a D s ∧ Found "java/lang/String" "value" "[B" fV s ∧ Found "java/lang/String" "coder" "B" fC s ∧ Ch b A s ∧ StaticIs s "java/lang/String" "COMPACT_STRINGS" "Z" (.int z) ∧ ¬ z = 0 ∧ 0 < A.slots.size ∧ A.slots.size ≤ 536870912 ∧ ∀ i, i < A.slots.size → ¬ 255 < cv A i
def E (a : Addr) (D : Cell) (fV fC : Field) (A : Cell) (r : Option Value) (s u : State) : Prop := Got a D fV fC A 0 A.slots.size r s u
/-- new String(chars), not empty, no char above 255: a Latin-1 String of their low bytes -/
theorem law (l : Launch) (a : Addr) (D : Cell) (fV fC : Field) (b : Addr) (A : Cell) (z : Int32) : Law l yN 2 1 3 52 yB 2 none site (P a D fV fC b A z) (E a D fV fC A) [⟨a, fC.slot⟩, ⟨a, fV.slot⟩] 1 A.slots.size := by
  refine Law.of_walk (plainFor_of_name (by decide +kernel)) (by decide +kernel) (by decide +kernel) (by decide) (fun _ _ h => by rw [h.1]; rfl) (fun _ U U' hal hh h => ⟨h.1, h.2.1.mv hal hh, h.2.2.1.al hal, h.2.2.2.1.al hal, h.2.2.2.2.1.mv hal hh, h.2.2.2.2.2.1.there hal hh, h.2.2.2.2.2.2⟩) (fun r U U' V V' h1 hal h2 h => Got.mv r U U' V V' h1 hal h2 h) ?_
  intro p e s m args below meth c s₁ X0 hexec hbytes hml hret hlk hnm hown hh0 W hP
  obtain ⟨rfl, hB, f1, f2, hA, s1, hz, l0, l2, hp⟩ := hP
  have c1 : Steps p.tables e below (s₁.setTop (entryFrame m #[.ref a, .ref b] 2)) (s₁.setTop (mkF m 0 #[.val (.ref a), .val (.ref b)] [])) := entry rfl
  have c2 : Steps p.tables e below (s₁.setTop (entryFrame m #[.ref a, .ref b] 2)) (s₁.setTop (mkF m 6 #[.val (.ref a), .val (.ref b)] [.null, .int (Int32.ofNat A.slots.size), .int 0, .ref b, .ref a])) := c1.trans (by
    refine XS.aloadN X0.here hexec rfl (hb hbytes d0) rfl rfl ?_
    refine XS.aloadN X0.here hexec rfl (hb hbytes d1) rfl rfl ?_
    refine iconstV X0.here hexec rfl 0 (hb hbytes d2) (by decide) ?_
    refine XS.aloadN X0.here hexec rfl (hb hbytes d3) rfl rfl ?_
    refine X0.alen hexec (hA.1.mv X0.warmed.alike hh0) rfl rfl (hb hbytes d4) ?_
    refine XS.aconstNull X0.here hexec rfl (hb hbytes d5) ?_
    exact Steps.refl _)
  obtain ⟨v3, T3, X3, E3, g3⟩ := X0.callN hexec (New4.law l a D fV fC b A z 0 A.slots.size) rfl hown (wks W (initW "java/lang/String" 27 New4.yN)) (W New4.tab (by simp only [site, List.mem_cons, List.mem_append, true_or, or_true])) (W := 0) (Nat.le_of_ble_eq_true rfl) (Nat.le_of_ble_eq_true rfl) (Nat.le_refl _) (by show 0 + A.slots.size ≤ A.slots.size; omega) (g := (mkF m 6 #[.val (.ref a), .val (.ref b)] [.null, .int (Int32.ofNat A.slots.size), .int (Int32.ofNat 0), .ref b, .ref a])) rfl (by rw [hml]; rfl) c2 (argsL := [.ref b, .int (Int32.ofNat 0), .int (Int32.ofNat A.slots.size), .null]) (rest := []) rfl rfl (by show 2 * 0 + 0 ≤ _; decide) (hb hbytes d6) (⟨rfl, hB.mv X0.warmed.alike hh0, f1.al X0.warmed.alike, f2.al X0.warmed.alike, hA.mv X0.warmed.alike hh0, s1.there X0.warmed.alike hh0, hz, l0, by omega, l2, fun i hi => by rw [Nat.zero_add]; exact hp i hi⟩)
  have e0 := Got.mv _ s₁ s _ _ hh0.symm (Vm.Alike.refl _) rfl E3
  obtain rfl := e0.1
  have c4 : Steps p.tables e below (s₁.setTop (entryFrame m #[.ref a, .ref b] 2)) (T3.setTop (mkF m 9 #[.val (.ref a), .val (.ref b)] [])) := g3
  exact ⟨T3, none, _, _, _, X3, by simp, rfl, by omega, (fun _ => rfl), e0, fun fs hl => c4.trans (X3.returnOut hexec hret (hb hbytes d9) hl)⟩
theorem pays {l : Launch} {R : Room} {p : Program} {e : Env} {below : List Frame} {s : State} {sargs : Array Value} {len W : Nat} (a : Addr) (D : Cell) (fV fC : Field) (b : Addr) (A : Cell) (z : Int32) (htab : tab.before sargs s = true) (hfr : 4 ≤ R.frames) (hlo : W + 65 ≤ R.locals) :
    Back l R p e below s sargs yN len W (fun A₁ a₁ => A₁.cells + 1 ≤ R.cells ∧ A₁.slots + A.slots.size ≤ R.slots ∧ P a D fV fC b A z a₁ A₁.U) (fun A₁ _ v₁ B₁ => E a D fV fC A v₁ A₁.U B₁.U ∧ B₁.locs = A₁.locs ++ [⟨a, fC.slot⟩, ⟨a, fV.slot⟩] ∧ B₁.cells = A₁.cells + 1 ∧ B₁.slots = A₁.slots + A.slots.size) :=
  (law l a D fV fC b A z).pays htab hfr (by omega)
end New1
end StrChars
namespace StrChars.Road
open Jvm Sem ClassFile Op Lib Jvm.Stand Jvm.Free Jvm.Free.XT
open Jvm.Lib.Cold (StaticIs)
abbrev ST : String := "java/lang/String"
/-- every table word that New1's law asks, flat -/
abbrev words : List Jvm.Cond := [.code New1.yN New1.yB 2 none, .initialized ST, .methodLink ST 27 New4.yN, .instanceMethod New4.yN,
  .code New4.yN New4.yB 6 none, .fieldLink ST 38 ST "COMPACT_STRINGS" "Z", .laysFinal ST ST "value" "[B", .fieldLink ST 9 ST "value" "[B", .laysFinal ST ST "coder" "B", .fieldLink ST 15 ST "coder" "B",
  .methodLink ST 1 Lib.objectInit, .instanceMethod Lib.objectInit, .code Lib.objectInit ⟨#[0xb1]⟩ 1 none, .methodLink ST 177 Cmp3.yN, .static Cmp3.yN, .methodLink ST 47 CodL.yN, .static CodL.yN,
  .code Cmp3.yN Cmp3.yB 6 (some (.array .byte)), .initialized U16, .arrayClass .byte, .methodLink U16 115 Cmp5.yN, .static Cmp5.yN, .code Cmp5.yN Cmp5.yB 7 (some .int), .code CodL.yN CodL.yB 2 (some .byte)]
theorem tab_of {a : Array Value} {s : State} (h : ∀ w ∈ words, w.before a s = true) : New1.tab.before a s = true := by
  have h5 : Cmp5.tab.before a s = true := unparts (wk h (.code Cmp5.yN Cmp5.yB 7 (some .int))) (wks h (.initialized Cmp5.yN.cls :: Cmp5.site))
  have hc : CodL.tab.before a s = true := unparts (wk h (.code CodL.yN CodL.yB 2 (some .byte))) (wks h (.initialized CodL.yN.cls :: CodL.site))
  have q5 : ∀ w ∈ Cmp5.tab :: words, w.before a s = true := fun w hw => (List.mem_cons.mp hw).elim (fun e => e ▸ h5) (h w)
  have h3 : Cmp3.tab.before a s = true := unparts (wk q5 (.code Cmp3.yN Cmp3.yB 6 (some (.array .byte)))) (wks q5 (.initialized Cmp3.yN.cls :: Cmp3.site))
  have q3 : ∀ w ∈ Cmp3.tab :: CodL.tab :: words, w.before a s = true := fun w hw => (List.mem_cons.mp hw).elim (fun e => e ▸ h3) fun hw => (List.mem_cons.mp hw).elim (fun e => e ▸ hc) (h w)
  have h4 : New4.tab.before a s = true := unparts (wk q3 (.code New4.yN New4.yB 6 none)) (wks q3 (.initialized New4.yN.cls :: New4.site))
  have q4 : ∀ w ∈ New4.tab :: words, w.before a s = true := fun w hw => (List.mem_cons.mp hw).elim (fun e => e ▸ h4) (h w)
  exact unparts (wk q4 (.code New1.yN New1.yB 2 none)) (wks q4 (.initialized New1.yN.cls :: New1.site))
/-- the words ride from the start Z to the walk's own state -/
theorem moved {Z s : State} {a0 args : Array Value} (hZ : Z.Warmed39 s.vm) (hw : ∀ d ∈ words, d.before a0 Z = true) : ∀ d ∈ words, d.before args s = true := fun d hd => by
  have q := hw d hd
  have t : ∀ d ∈ words, d = .arrayClass .byte ∨ (d.onTables && d.keepsFace) = true := by decide +kernel
  rcases t d hd with rfl | t
  · exact RoadKit.mvA hZ q
  · exact RoadKit.mv hZ q t
/-- WHAT COMES BACK, over the tables of the start Z: h the heap at the call, h' behind it -/
def Q (Z : State) (x : Addr) (A : Cell) (h : Heap) (v : Option Value) (h' : Heap) (L : List Loc) : Prop := v = none ∧ (∀ y ∈ L, y.base = x) ∧ RoadKit.Keep h h' [x] ∧ h'.size = h.size + 1 ∧ RoadKit.Exa Z h' x ST ∧ RoadKit.Fld Z h' x ST "value" "[B" (.ref h.size) ∧ RoadKit.Fld Z h' x ST "coder" "B" (.int 0) ∧
  (∃ V : Cell, RoadKit.Arr Z h' h.size V .byte ∧ V.vm = .none ∧ Z.vm.findClass "[B" = some V.cls ∧ V.slots.size = A.slots.size ∧ ∀ j, j < A.slots.size → V.slots[j]? = some (.int (lo8 (cv A j)))) ∧
  ∀ (O n d : String) (w : Value), RoadKit.Fld Z h x O n d w → RoadKit.slotOf Z O n d ≠ RoadKit.slotOf Z ST "value" "[B" → RoadKit.slotOf Z O n d ≠ RoadKit.slotOf Z ST "coder" "B" → RoadKit.Fld Z h' x O n d w
/-- **new String(chars) AT A CALL, IN THE ROAD'S FORM**: for specialBack behind newO: x the fresh String, b the char[] with the cell A -/
theorem back {p : Program} {l : Launch} {e : Env} {R : Room} {s : State} {args : Array Value} {below : List Frame} {len W : Nat} {Z : State} {a0 : Array Value} {h : Heap} (hZ : Z.Warmed39 s.vm) (hw : ∀ d ∈ words, d.before a0 Z = true) {kI : Nat} (wi : (Jvm.Cond.instantiable ST kI).before a0 Z = true)
    {x b : Addr} {A : Cell} {z : Int32} {v0 c0 : Value} (E : RoadKit.Exa Z h x ST) (V : RoadKit.Fld Z h x ST "value" "[B" v0) (C : RoadKit.Fld Z h x ST "coder" "B" c0) (K : RoadKit.Arr Z h b A .char) (hty : Typed .char A) (S : RoadKit.Sta Z h ST "COMPACT_STRINGS" "Z" (.int z)) (hz : ¬ z = 0)
    (l0 : 0 < A.slots.size) (l2 : A.slots.size ≤ 536870912) (hp : ∀ i, i < A.slots.size → ¬ 255 < cv A i) (hfr : 4 ≤ R.frames) (hlo : W + 65 ≤ R.locals) :
    Back l R p e below s args New1.yN len W (fun P a => a = #[.ref x, .ref b] ∧ P.U.heap = h ∧ P.cells + 1 ≤ R.cells ∧ P.slots + A.slots.size ≤ R.slots)
      (fun P _ v B => ∃ L, Q Z x A h v B.U.heap L ∧ B.locs = P.locs ++ L ∧ B.cells = P.cells + 1 ∧ B.slots = P.slots + A.slots.size) := by
  intro m meth c P g ig mk a X hg hsize hdg hW hn hp'
  obtain ⟨rfl, rfl, r1, r2⟩ := hp'
  have al : Z.vm.Alike P.U.vm := hZ.alike.trans X.warmed.alike
  obtain ⟨D, cfV, kV, iV, fV, hD, gV, stV, knV, obV, asV, slV⟩ := id V
  obtain ⟨D', cfC, kC, iC, fC, hD', gC, stC, -, -, asC, slC⟩ := id C
  cases hD.symm.trans hD'
  obtain ⟨D2, kD, e1, e2, e3, e4, e5⟩ := id E
  cases hD.symm.trans e1
  obtain ⟨c2, k2, i1, i2, i3, -⟩ := Cond.instantiable_spec wi
  cases e2.symm.trans i1
  cases e3.symm.trans i2
  obtain ⟨kU, u1, u2⟩ := al.2.2 _ _ e3
  have hB : Blank ST x D P.U := ⟨hD, ⟨knV, fun q hq => by rw [hq] at obV; cases obV⟩, by rw [al.findClass]; exact e2, kU, u1, by rw [u2]; exact i3, by rw [u2]; exact e5 i3⟩
  have F1 : Found ST "value" "[B" fV P.U := ⟨SBG.found_only al ⟨cfV, kV, iV, gV⟩, stV⟩
  have F2 : Found ST "coder" "B" fC P.U := ⟨SBG.found_only al ⟨cfC, kC, iC, gC⟩, stC⟩
  have hA : Ch b A P.U := ⟨⟨K.1, State.isArrayOf_alike al K.2.1, K.2.2, by omega⟩, hty⟩
  have hS : StaticIs P.U ST "COMPACT_STRINGS" "Z" (.int z) := by
    obtain ⟨cfS, iS, kS, fS, st, cS, t1, t2, t3, t4, t5, t6, t7⟩ := S
    exact StaticIs.there (s := { Z with heap := P.U.heap }) ⟨cfS, iS, kS, fS, st, cS, t1, t2, t3, t4, t5, (fun q => by rw [q] at t6; cases t6), t7⟩ al rfl
  obtain ⟨v, B, X', ⟨⟨hv, E', V', q1, q2, q3, q4, q5, q6, q7, q8, q9, q10, q11⟩, hl, hc, hs⟩, st⟩ := New1.pays x D fV fC b A z (tab_of (moved hZ hw)) hfr hlo m meth c P g ig mk _ X hg hsize hdg hW hn ⟨r1, r2, rfl, hB, F1, F2, hA, hS, hz, l0, l2, hp⟩
  have al' : Z.vm.Alike B.U.vm := hZ.alike.trans X'.warmed.alike
  have hsz : E'.slots.size = D.slots.size := by
    obtain ⟨-, -, -, kB, w1, w2, w3⟩ := q1
    obtain ⟨kB', y1, y2⟩ := al'.2.2 _ _ e3
    rw [q2.2.1] at w1
    cases w1.symm.trans y1
    rw [w3, e5 i3, y2]
  refine ⟨v, B, X', ⟨_, ⟨hv, ?_, ⟨by omega, fun y cy hy hn' => q10 y cy (by simpa using hn') hy, fun y cy hy => ?_⟩, q11, ⟨E', _, q1.1, by rw [q2.2.1]; exact e2, by rw [q2.2.1]; exact e3, by rw [q2.1]; exact obV, fun _ => by rw [hsz]; exact e5 i3⟩,
    ⟨E', cfV, kV, iV, fV, q1.1, gV, stV, by rw [q2.1]; exact knV, by rw [q2.1]; exact obV, by rw [q2.2.1]; exact asV, q3⟩, ⟨E', cfC, kC, iC, fC, q1.1, gC, stC, by rw [q2.1]; exact knV, by rw [q2.1]; exact obV, by rw [q2.2.1]; exact asC, q4⟩,
    ⟨V', ⟨q5.1, State.isArrayOf_alike al'.symm q5.2.1, q5.2.2.1⟩, q6, by rw [← al'.findClass]; exact q7, q8, fun j hj => by have := q9 j hj; rwa [Nat.zero_add] at this⟩, fun O n d w F n1 n2 => ?_⟩, hl, hc, hs⟩, st⟩
  · intro y hy
    simp only [List.mem_cons, List.not_mem_nil, or_false] at hy
    rcases hy with rfl | rfl <;> rfl
  · by_cases q : y = x
    · subst q
      cases hD.symm.trans hy
      exact ⟨E', q1.1, q2.2.1, q2.1, hsz⟩
    · exact ⟨cy, q10 y cy q hy, rfl, rfl, rfl⟩
  · obtain ⟨D3, cf, k, i, f, g1, g2, g3, g4, g5, g6, g7⟩ := F
    cases hD.symm.trans g1
    simp only [RoadKit.slotOf, g2, gV, gC, Option.map_some, Option.getD_some] at n1 n2
    exact ⟨E', cf, k, i, f, q1.1, g2, g3, by rw [q2.1]; exact g4, by rw [q2.1]; exact g5, by rw [q2.2.1]; exact g6, by rw [q2.2.2 f.slot (by simp [n1, n2])]; exact g7⟩
end StrChars.Road
namespace StrChars.Road
open Jvm Sem ClassFile Op Lib Jvm.Stand Jvm.Free Jvm.Free.XT
/-- WHAT COMES BACK, the byte[] as a list of values -/
def QA (Z : State) (x : Addr) (zn : Int32) (cs : List Int32) (h : Heap) (v : Option Value) (h' : Heap) (L : List Loc) : Prop := v = none ∧ (∀ y ∈ L, y.base = x) ∧ RoadKit.Keep h h' [x] ∧ h'.size = h.size + 1 ∧ RoadKit.Exa Z h' x ST ∧ RoadKit.Fld Z h' x ST "value" "[B" (.ref h.size) ∧ RoadKit.Fld Z h' x ST "coder" "B" (.int 0) ∧
  (∃ kb, Z.vm.findClass "[B" = some kb ∧ RoadKit.Arv Z h' h.size kb .byte zn (cs.map fun c => .int (lo8 c)) (.int 0)) ∧
  ∀ (O n d : String) (w : Value), RoadKit.Fld Z h x O n d w → RoadKit.slotOf Z O n d ≠ RoadKit.slotOf Z ST "value" "[B" → RoadKit.slotOf Z O n d ≠ RoadKit.slotOf Z ST "coder" "B" → RoadKit.Fld Z h' x O n d w
/-- **new String(chars) AT A CALL, THE ARRAYS AS LISTS**: the char[] at b holds cs, not empty, no char above 255 -/
theorem backArv {p : Program} {l : Launch} {e : Env} {R : Room} {s : State} {args : Array Value} {below : List Frame} {len W : Nat} {Z : State} {a0 : Array Value} {h : Heap} (hZ : Z.Warmed39 s.vm) (hw : ∀ d ∈ words, d.before a0 Z = true) {kI : Nat} (wi : (Jvm.Cond.instantiable ST kI).before a0 Z = true)
    {x b : Addr} {k : ClassId} {zn z : Int32} {cs : List Int32} {dv v0 c0 : Value} (E : RoadKit.Exa Z h x ST) (V : RoadKit.Fld Z h x ST "value" "[B" v0) (C : RoadKit.Fld Z h x ST "coder" "B" c0) (K : RoadKit.Arv Z h b k .char zn (cs.map Value.int) dv) (S : RoadKit.Sta Z h ST "COMPACT_STRINGS" "Z" (.int z)) (hz : ¬ z = 0)
    (hlen : zn.toNatClampNeg = cs.length) (h0 : 0 < cs.length) (hbig : cs.length ≤ 536870912) (hall : ∀ c ∈ cs, ¬ 255 < c) (hfr : 4 ≤ R.frames) (hlo : W + 65 ≤ R.locals) :
    Back l R p e below s args New1.yN len W (fun P a => a = #[.ref x, .ref b] ∧ P.U.heap = h ∧ P.cells + 1 ≤ R.cells ∧ P.slots + cs.length ≤ R.slots)
      (fun P _ v B => ∃ L, QA Z x zn cs h v B.U.heap L ∧ B.locs = P.locs ++ L ∧ B.cells = P.cells + 1 ∧ B.slots = P.slots + cs.length) := by
  obtain ⟨A, K1, K2, K3, K4, K5, K6⟩ := K
  have e : A.slots.size = cs.length := K3.trans hlen
  have hat : ∀ (i : Nat) (hi : i < cs.length), A.slots[i]? = some (.int cs[i]) := fun i hi => by rw [K5 i (by omega)]; simp [List.getD_eq_getElem?_getD, hi]
  have hcv : ∀ (i : Nat) (hi : i < cs.length), cv A i = cs[i] := fun i hi => by unfold cv; rw [hat i hi]
  have hty : Typed .char A := fun i v hv => by
    have hi : i < A.slots.size := (Array.getElem?_eq_some_iff.mp hv).1
    have q := K5 i hi
    rw [hv] at q
    rw [Option.some.inj q]
    exact K6 i hi
  refine Back.mono (back hZ hw wi E V C K1 hty S hz (by omega) (by omega) (fun i hi => by rw [hcv i (by omega)]; exact hall _ (List.getElem_mem _)) hfr hlo) (fun P a hp => ⟨hp.1, hp.2.1, hp.2.2.1, by rw [e]; exact hp.2.2.2⟩) (fun P a v B hp hq => ?_)
  obtain ⟨L, ⟨q1, q2, q3, q4, q5, q6, q7, ⟨V', v1, v2, v3, v4, v5⟩, q9⟩, hl, hc, hs⟩ := hq
  refine ⟨L, ⟨q1, q2, q3, q4, q5, q6, q7, ⟨V'.cls, v3, V', v1, rfl, by rw [v4, e, hlen], K4, fun i hi => ?_, fun i hi => ?_⟩, q9⟩, hl, hc, by rw [hs, e]⟩
  · have hi' : i < cs.length := by omega
    rw [v5 i (by omega), hcv i hi']; simp [List.getD_eq_getElem?_getD, hi']
  · have hi' : i < cs.length := by omega
    simp only [List.getD_eq_getElem?_getD, List.getElem?_map, List.getElem?_eq_getElem hi', Option.map_some, Option.getD_some]
    exact fits_lo8 _
end StrChars.Road
namespace StrChars.Road
open Jvm Sem ClassFile Op Lib Jvm.Stand Jvm.Free Jvm.Free.XT
/-- WHAT COMES BACK, in the writer's own shape -/
def QV (Z : State) (x : Addr) (N : Int32) (bs : List Int32) (h : Heap) (n0 : Nat) (v : Option Value) (h' : Heap) (L : List Loc) : Prop := v = none ∧ RoadKit.Fr n0 L ∧ RoadKit.Keep h h' [x] ∧ RoadKit.Exa Z h' x ST ∧ RoadKit.Fld Z h' x ST "coder" "B" (.int 0) ∧
  ∃ (t : Addr) (kb : ClassId), n0 ≤ t ∧ h.size ≤ t ∧ ¬ t = x ∧ RoadKit.Fld Z h' x ST "value" "[B" (.ref t) ∧ RoadKit.Arv Z h' t kb .byte N (bs.map Value.int) (.int 0)
/-- **new String(chars) AT A CALL, FOR THE WRITER**: a char[] of n known ints, each 0 to 255 -/
theorem backV {p : Program} {l : Launch} {e : Env} {R : Room} {s : State} {args : Array Value} {below : List Frame} {len W : Nat} {Z : State} {a0 : Array Value} {h : Heap} (hZ : Z.Warmed39 s.vm) (hw : ∀ d ∈ words, d.before a0 Z = true) {kI : Nat} (wi : (Jvm.Cond.instantiable ST kI).before a0 Z = true)
    {x b : Addr} {kC : ClassId} {cs bs : List Int32} {d v0 c0 : Value} {z N : Int32} {n n0 : Nat} (hx0 : n0 ≤ x) (hh0 : n0 ≤ h.size) (E : RoadKit.Exa Z h x ST) (V : RoadKit.Fld Z h x ST "value" "[B" v0) (C : RoadKit.Fld Z h x ST "coder" "B" c0) (K : RoadKit.Arv Z h b kC .char N (cs.map Value.int) d) (S : RoadKit.Sta Z h ST "COMPACT_STRINGS" "Z" (.int z)) (hz : ¬ z = 0)
    (hn : cs.length = n) (hN : N = Int32.ofNat n) (l0 : 0 < n) (l2 : n ≤ 4000) (hp : ∀ c ∈ cs, ¬ c < 0 ∧ ¬ (255 : Int32) < c) (hb : bs = cs.map (fun c => c.toInt8.toInt32)) (hfr : 4 ≤ R.frames) (hlo : W + 65 ≤ R.locals) :
    Back l R p e below s args (⟨"java/lang/String", "<init>", "([C)V"⟩ : MethodName) len W (fun P a => a = #[.ref x, .ref b] ∧ P.U.heap = h ∧ P.cells + 1 ≤ R.cells ∧ P.slots + n ≤ R.slots)
      (fun P _ v B => ∃ L, QV Z x N bs h n0 v B.U.heap L ∧ B.locs = P.locs ++ L ∧ B.cells = P.cells + 1 ∧ B.slots = P.slots + n) := by
  subst hn hN hb
  refine Back.mono (backArv hZ hw wi E V C K S hz (n32 (by omega)) l0 (by omega) (fun c hc => (hp c hc).2) hfr hlo) (fun P a hp => hp) (fun P a v B hp hq => ?_)
  obtain ⟨L, ⟨q1, q2, q3, q4, q5, q6, q7, ⟨kb, v1, v2⟩, q9⟩, hl, hc, hs⟩ := hq
  exact ⟨L, ⟨q1, fun y hy => by rw [q2 y hy]; exact hx0, q3, q5, q7, h.size, kb, hh0, Nat.le_refl _, Nat.ne_of_gt E.lt, q6, by rw [List.map_map]; exact v2⟩, hl, hc, hs⟩
end StrChars.Road
end Jvm.Pilot.@@N@@

namespace Jvm.Pilot.@@N@@
namespace Own
open Jvm Jvm.ClassFile Sem Op Lib Jvm.Free Jvm.Stand Jvm.LawKit Jvm.RoadKit Bundle
section StrB
variable {p : Program} {l : Launch} {e : Env} {R : Room} {s : State} {args : Array Value} {below : List Frame} {W : Nat} {Z : State} {a0 : Array Value} {h : Heap} {z : Int32} {kI n0 : Nat}
def QPure (w : Value) (h : Heap) (n0 : Nat) (v : Option Value) (h' : Heap) (L : List Loc) : Prop := v = some w ∧ Fr n0 L ∧ h' = h
def QNew (Z : State) (x : Addr) (cs : List Int32) (h : Heap) (n0 : Nat) (v : Option Value) (h' : Heap) (L : List Loc) : Prop := v = none ∧ Fr n0 L ∧ Keep h h' [x] ∧ Str Z h' x cs
theorem newB (hZ : Z.Warmed39 s.vm) (hw : ∀ d ∈ StrChars.Road.words, d.before a0 Z = true) (wi : (Jvm.Cond.instantiable "java/lang/String" kI).before a0 Z = true) {x b : Addr} {kC : ClassId} {cs : List Int32} {d v0 c0 : Value} {N : Int32} {n : Nat} (hx0 : n0 ≤ x) (hh0 : n0 ≤ h.size) (E : Exa Z h x "java/lang/String") (V : Fld Z h x "java/lang/String" "value" "[B" v0) (C : Fld Z h x "java/lang/String" "coder" "B" c0) (K : Arv Z h b kC .char N (cs.map Value.int) d) (S : Sta Z h "java/lang/String" "COMPACT_STRINGS" "Z" (.int z)) (hz : ¬ z = 0)
    (hn : cs.length = n) (hN : N = Int32.ofNat n) (l0 : 0 < n) (l2 : n ≤ 4000) (hp : ∀ c ∈ cs, ¬ c < 0 ∧ ¬ (255 : Int32) < c) (hfr : 4 ≤ R.frames) (hlo : W + 65 ≤ R.locals) :
    Back l R p e below s args (⟨"java/lang/String", "<init>", "([C)V"⟩ : MethodName) 3 W (fun A a => a = #[.ref x, .ref b] ∧ A.U.heap = h ∧ A.cells + 1 ≤ R.cells ∧ A.slots + n ≤ R.slots)
      (fun A _ v B => ∃ L, QNew Z x cs h n0 v B.U.heap L ∧ B.locs = A.locs ++ L ∧ B.cells = A.cells + 1 ∧ B.slots = A.slots + n) := by
  subst hn hN
  refine Back.mono (StrChars.Road.backV hZ hw wi (cs := cs) (n0 := n0) hx0 hh0 E V C K S hz rfl rfl l0 l2 hp rfl hfr hlo) (fun _ _ q => q) (fun P a v B _ hq => ?_)
  obtain ⟨L, ⟨q1, q2, q3, q4, q5, t, kb, -, -, -, q6, q7⟩, r⟩ := hq
  exact ⟨L, ⟨q1, q2, q3, ⟨t, kb, q4, q6, q5, q7⟩, hp, l2⟩, r⟩
end StrB
end Own
end Jvm.Pilot.@@N@@
namespace Jvm.Pilot.@@N@@
namespace Own
open Jvm Jvm.ClassFile Sem Op Lib Jvm.Free Jvm.Stand Jvm.LawKit Jvm.RoadKit Bundle
section Held
variable {Z : State} {own : String} {bytes : ByteArray} {h h' : Heap} {p : Program} {l : Launch} {e : Env} {R : Room} {s : State} {m : MethodId} {args : Array Value} {below : List Frame} {meth : Method} {c : Code} {T : State} {locs : List Loc} {cells slots : Nat}
  {K : State → Outcome → Prop} {a0 : Array Value} {pc q : Nat} {Ls : Array Slot} {st : List Value} {vm : Vm} {h0 : Heap} {EL : List (String × Nat)}
/-- where a walk that may intern stands: since its start s, with the tables vm -/
def Hd (Z : State) (EL : List (String × Nat)) (s : State) (vm : Vm) (h0 h : Heap) : Prop := (∃ k, s.Since vm k ∧ k ≤ h.size) ∧ CHr Z EL s.vm h0 vm h
theorem Hd.start (H : CHv Z EL s.vm h0) : Hd Z EL s s.vm h0 h0 := ⟨⟨0, (State.WarmedH.refl s).since 0, Nat.zero_le _⟩, CHr.refl H⟩
theorem Hd.ext (H : Hd Z EL s vm h0 h) (E : Ext h h') : Hd Z EL s vm h0 h' := by
  obtain ⟨⟨k, a, b⟩, r⟩ := H
  exact ⟨⟨k, a, Nat.le_trans b E.1⟩, r.trans (CHr.ext E r.1)⟩
theorem Hd.wr {a : Addr} {sl : Nat} {v : Value} (H : Hd Z EL s vm h0 h) (W : Wr h h' a sl v) (S : Safe Z EL vm h a) : Hd Z EL s vm h0 h' := by
  obtain ⟨⟨k, a, b⟩, r⟩ := H
  exact ⟨⟨k, a, by rw [W.size]; exact b⟩, r.trans (CHr.wr W S r.1)⟩
theorem Hd.kp {ws : List Addr} (H : Hd Z EL s vm h0 h) (Kp : Keep h h' ws) (S : ∀ x ∈ ws, Safe Z EL vm h x) : Hd Z EL s vm h0 h' := by
  obtain ⟨⟨k, a, b⟩, r⟩ := H
  exact ⟨⟨k, a, Nat.le_trans b Kp.1⟩, r.trans (CHr.keep Kp S r.1)⟩
theorem backH {y : MethodName} {cb : ByteArray} {maxL : Nat} {ret : Option FieldType} {rm : Room} {len W : Nat} {as' : Array Value} {Q : Option Value → Heap → List Loc → Prop} {sf : List Addr}
    (hM : MetFree l y (head1 [Cond.code y cb maxL ret] rm) (fun a U => a = as' ∧ Z.Warmed39 U.vm ∧ U.heap = h ∧ CHv Z EL U.vm h ∧ ∀ x ∈ sf, Safe Z EL U.vm h x) (fun _ _ _ _ _ => True) (fun _ U o U' => ∃ v L, o = .returned v ∧ Q v U'.heap L ∧ CHr Z EL U.vm U.heap U'.vm U'.heap ∧ ReturnedEndW U o U' L rm.cells rm.slots))
    (hZ : Z.Warmed39 vm) (wc : (Cond.code y cb maxL ret).before a0 Z = true) (wz : (Cond.initialized y.cls).before a0 Z = true) (hf : rm.frames + 1 ≤ R.frames) (hl : W + (maxL + 11) + rm.locals ≤ R.locals) (hEL : EW Z a0 EL) (H : CHv Z EL vm h) (hsf : ∀ x ∈ sf, x < h.size ∧ Safe Z EL vm h x) :
    BackS l R p e below (s.setVm vm) args y len W (fun A a => a = as' ∧ A.U.heap = h ∧ A.cells + rm.cells ≤ R.cells ∧ A.slots + rm.slots ≤ R.slots)
      (fun A _ v B => ∃ L, Q v B.U.heap L ∧ B.locs = A.locs ++ L ∧ B.cells = A.cells + rm.cells ∧ B.slots = A.slots + rm.slots ∧ CHr Z EL vm h B.U.vm B.U.heap) := by
  refine BackS.of_freeW (bytes := cb) (maxL := maxL) (ret := ret) (E := fun _ first o t L k n => k = rm.cells ∧ n = rm.slots ∧ (∃ v, o = .returned v ∧ Q v t.heap L) ∧ CHr Z EL first.vm first.heap t.vm t.heap) hM hf hl ?_ ?_ (fun _ _ _ _ _ _ _ _ _ => trivial) ?_ ?_
  · intro m meth c A a Y hp
    have hU : Z.Warmed39 A.U.vm := wtrans (s := s.setVm vm) hZ Y.warmed
    exact ⟨by show (Cond.and _ .tt).before a A.U = true; rw [Cond.before_and, mv hU wc]; rfl, mv hU wc, mv hU wz, hp.2.2.1, hp.2.2.2⟩
  · intro m meth c A a g mk Y hp
    have q := CHv.at Y hZ hEL H
    exact ⟨hp.1, wtrans (s := s.setVm vm) hZ Y.warmed, hp.2.1, q.1, fun x hx => q.safe (hsf x hx).1 (hsf x hx).2⟩
  · rintro _ _ _ _ ⟨v, L, h1, h2, h3, h4⟩
    exact ⟨L, _, _, h4, rfl, rfl, ⟨v, h1, h2⟩, h3⟩
  · rintro m meth c A a g mk v t L k n Y hp - - ⟨e1, e2, ⟨v', e3, e4⟩, e5⟩
    cases e3
    subst e1 e2
    refine ⟨L, e4, rfl, rfl, rfl, (CHv.at Y hZ hEL H).trans ?_⟩
    rw [← hp.2.1]
    exact e5
theorem ldcStr {i n : Nat} {text : String} {cs : List Int32} (P : Wk Z own bytes h p l e R (s.setVm vm) m args below meth c T locs cells slots) (H : Hd Z EL s vm h0 h) (hd : decode bytes pc = .ok (.ldc i, 2)) (w : (Cond.stringLink own i text).before a0 Z = true) (wS : ∀ a ∈ Bundle.stringAtoms, a.before a0 Z = true) (hEL : EW Z a0 EL) (hmem : (own, i) ∈ EL)
    (ht : (∀ c ∈ text.toList, c.toNat < 256) ∧ text.toList.map (fun c => Value.int (Jvm.Lit.byteI c.toNat.toUInt16)) = (cs.map fun c => c.toInt8.toInt32).map Value.int) (hp : ∀ c ∈ cs, ¬ c < 0 ∧ ¬ (255 : Int32) < c) (hl : cs.length ≤ 4000) (hz : ¬ (Int32.ofNat cs.length) < 0) (hz2 : (Int32.ofNat cs.length).toNatClampNeg = ((cs.map fun c => c.toInt8.toInt32).map Value.int).length)
    (hn : 4 * text.toList.length ≤ n) (hbig : n ≤ 536870912) (hc : cells + 2 ≤ R.cells) (hs : slots + (n + 4) ≤ R.slots) (hq : pc + 2 = q)
    (k : ∀ T₂ vm₂ h₂ a, Wk Z own bytes h₂ p l e R (s.setVm vm₂) m args below meth c T₂ locs (cells + 2) (slots + (n + 4)) → Hd Z EL s vm₂ h0 h₂ → CHr Z EL vm h vm₂ h₂ → Ext h h₂ → Str Z h₂ a cs → Goes p.tables e below K (T₂.setTop (mkF m (q) Ls (.ref a :: st)))) : Goes p.tables e below K (T.setTop (mkF m pc Ls (st))) := by
  subst hq
  obtain ⟨⟨k0, S0, b0⟩, r0⟩ := H
  obtain ⟨a, T₂, h₂, k1, b, kb, X2, e2, E2, S2, b2, hW, hf, g1, g2, g3, g4, -, -, r2, -, -, st2⟩ := ldcCH P.1 P.2.1 P.2.2.2.1 P.2.2.2.2.1 w wS P.2.2.2.2.2 S0 b0 hEL hmem r0.1 ht hz hz2 (g := mkF m pc Ls st) rfl (hb P.2.2.1 hd) hn hbig hc hs
  exact Goes.go st2 (k T₂ T₂.vm h₂ a ⟨X2, P.2.1, P.2.2.1, hW, hf, e2⟩ ⟨⟨k1, S2, b2⟩, r0.trans r2⟩ r2 E2 ⟨⟨b, kb, g1, g3, g2, g4⟩, hp, hl⟩)
theorem invStaticH {y : MethodName} {cb : ByteArray} {mL : Nat} {ret : Option FieldType} {i W kc ks : Nat} {as' : Array Value} {Q : Option Value → Heap → List Loc → Prop} {argsL rest : List Value} (P : Wk Z own bytes h p l e R (s.setVm vm) m args below meth c T locs cells slots) (H : Hd Z EL s vm h0 h) (hd : decode bytes pc = .ok (.invokestatic i, 3)) (w1 : (Cond.methodLink own i y).before a0 Z = true) (w2 : (Cond.static y).before a0 Z = true) (w3 : (Cond.initialized y.cls).before a0 Z = true) (w4 : (Cond.code y cb mL ret).before a0 Z = true) (hy : y.cls ≠ "java/lang/invoke/MethodHandle" ∧ y.cls ≠ "java/lang/invoke/VarHandle") (B : BackS l R p e below (s.setVm vm) args y 3 W (fun A a => a = as' ∧ A.U.heap = h ∧ A.cells + kc ≤ R.cells ∧ A.slots + ks ≤ R.slots) (fun A _ v B => ∃ L, Q v B.U.heap L ∧ B.locs = A.locs ++ L ∧ B.cells = A.cells + kc ∧ B.slots = A.slots + ks ∧ CHr Z EL vm h B.U.vm B.U.heap)) (ha : argsL.toArray = as') (hst : st = argsL.reverse ++ rest) (hz : Ls.size = c.maxLocals) (hlen : ∀ sig, parseMethodDescriptor y.desc = some sig → argsL.length = sig.parameters.length) (hW : 2 * (mkF m pc Ls st).monitorRoom + (rest.map fun v => v.category).sum ≤ W) (hcc : cells + kc ≤ R.cells) (hss : slots + ks ≤ R.slots) (hq : pc + 3 = q) (k : ∀ v T₂ vm₂ h₂ L, Q v h₂ L → Wk Z own bytes h₂ p l e R (s.setVm vm₂) m args below meth c T₂ (locs ++ L) (cells + kc) (slots + ks) → Hd Z EL s vm₂ h0 h₂ → CHr Z EL vm h vm₂ h₂ → Goes p.tables e below K (T₂.setTop (mkF m q Ls (v.toList ++ rest)))) : Goes p.tables e below K (T.setTop (mkF m pc Ls (st))) := by
  subst hq
  obtain ⟨v, _, ⟨T₂, L₂, c₂, n₂⟩, -, X2, S2, b2, ⟨L, hQ, hl, hc2, hs2, r2⟩, st2⟩ := callSS P.1 P.2.1 (y := y) P.2.2.2.2.1 (mvT P.2.2.2.1 w1) (mvT P.2.2.2.1 w2) (mvT P.2.2.2.1 w3) (mvT P.2.2.2.1 w4) hy B (g := mkF m pc Ls st) rfl hz (argsL := argsL) (rest := rest) hlen hst hW (hb P.2.2.1 hd) (fun _ _ => ⟨ha, P.2.2.2.2.2, hcc, hss⟩)
  dsimp only [Pt.U, Pt.locs, Pt.cells, Pt.slots] at X2 hl hc2 hs2 st2 hQ S2 b2 r2
  subst hl hc2 hs2
  obtain ⟨⟨k0, S0, b0⟩, r0⟩ := H
  have hW : Z.Warmed39 T₂.vm := State.Warmed39.trans (t := s.setVm vm) P.2.2.2.1 S2.1
  have hf : (s.setVm T₂.vm).vm.findClass own = some m.cls := by rw [show (s.setVm T₂.vm).vm = T₂.vm from rfl, S2.1.alike.findClass]; exact P.2.2.2.2.1
  have b1 : k0 ≤ T.heap.size := by rw [P.2.2.2.2.2]; exact b0
  exact Goes.tr st2 (k v T₂ T₂.vm _ L hQ ⟨X2, P.2.1, P.2.2.1, hW, hf, rfl⟩ ⟨⟨_, S0.trans S2 (Nat.le_trans b1 b2), Nat.le_refl _⟩, r0.trans r2⟩ r2)
theorem invSpecialH {y : MethodName} {cb : ByteArray} {mL : Nat} {i W kc ks : Nat} {as' : Array Value} {Q : Option Value → Heap → List Loc → Prop} {a : Addr} {argsL rest : List Value} (P : Wk Z own bytes h p l e R (s.setVm vm) m args below meth c T locs cells slots) (H : Hd Z EL s vm h0 h) (hd : decode bytes pc = .ok (.invokespecial i, 3)) (hin : y.name = "<init>") (w1 : (Cond.methodLink own i y).before a0 Z = true) (w2 : (Cond.instanceMethod y).before a0 Z = true) (w4 : (Cond.code y cb mL none).before a0 Z = true) (hy : y.cls ≠ "java/lang/invoke/MethodHandle" ∧ y.cls ≠ "java/lang/invoke/VarHandle") (B : BackS l R p e below (s.setVm vm) args y 3 W (fun A a => a = as' ∧ A.U.heap = h ∧ A.cells + kc ≤ R.cells ∧ A.slots + ks ≤ R.slots) (fun A _ v B => ∃ L, Q v B.U.heap L ∧ B.locs = A.locs ++ L ∧ B.cells = A.cells + kc ∧ B.slots = A.slots + ks ∧ CHr Z EL vm h B.U.vm B.U.heap)) (ha : (.ref a :: argsL).toArray = as') (hst : st = argsL.reverse ++ .ref a :: rest) (hz : Ls.size = c.maxLocals) (hlen : ∀ sig, parseMethodDescriptor y.desc = some sig → argsL.length = sig.parameters.length) (hW : 2 * (mkF m pc Ls st).monitorRoom + (rest.map fun v => v.category).sum ≤ W) (hcc : cells + kc ≤ R.cells) (hss : slots + ks ≤ R.slots) (hq : pc + 3 = q) (k : ∀ v T₂ vm₂ h₂ L, Q v h₂ L → Wk Z own bytes h₂ p l e R (s.setVm vm₂) m args below meth c T₂ (locs ++ L) (cells + kc) (slots + ks) → Hd Z EL s vm₂ h0 h₂ → CHr Z EL vm h vm₂ h₂ → Goes p.tables e below K (T₂.setTop (mkF m q Ls (v.toList ++ rest)))) : Goes p.tables e below K (T.setTop (mkF m pc Ls (st))) := by
  subst hq
  obtain ⟨v, _, ⟨T₂, L₂, c₂, n₂⟩, -, X2, S2, b2, ⟨L, hQ, hl, hc2, hs2, r2⟩, st2⟩ := P.1.specialBackS P.2.1 (y := y) hin P.2.2.2.2.1 (mvT P.2.2.2.1 w1) (mvT P.2.2.2.1 w2) (mvT P.2.2.2.1 w4) hy B (g := mkF m pc Ls st) rfl hz (Steps.refl _) (a := a) (argsL := argsL) (rest := rest) hlen hst hW (hb P.2.2.1 hd) (fun _ _ => ⟨ha, P.2.2.2.2.2, hcc, hss⟩)
  dsimp only [Pt.U, Pt.locs, Pt.cells, Pt.slots] at X2 hl hc2 hs2 st2 hQ S2 b2 r2
  subst hl hc2 hs2
  obtain ⟨⟨k0, S0, b0⟩, r0⟩ := H
  have hW : Z.Warmed39 T₂.vm := State.Warmed39.trans (t := s.setVm vm) P.2.2.2.1 S2.1
  have hf : (s.setVm T₂.vm).vm.findClass own = some m.cls := by rw [show (s.setVm T₂.vm).vm = T₂.vm from rfl, S2.1.alike.findClass]; exact P.2.2.2.2.1
  have b1 : k0 ≤ T.heap.size := by rw [P.2.2.2.2.2]; exact b0
  exact Goes.tr st2 (k v T₂ T₂.vm _ L hQ ⟨X2, P.2.1, P.2.2.1, hW, hf, rfl⟩ ⟨⟨_, S0.trans S2 (Nat.le_trans b1 b2), Nat.le_refl _⟩, r0.trans r2⟩ r2)
theorem invVirtualH {y z : MethodName} {C : String} {i W kc ks : Nat} {as' : Array Value} {Q : Option Value → Heap → List Loc → Prop} {a : Addr} {argsL rest : List Value} (P : Wk Z own bytes h p l e R (s.setVm vm) m args below meth c T locs cells slots) (H : Hd Z EL s vm h0 h) (hd : decode bytes pc = .ok (.invokevirtual i, 3)) (w1 : (Cond.methodLink own i y).before a0 Z = true) (w2 : (Cond.declares y).before a0 Z = true) (w3 : (Cond.selects C y z).before a0 Z = true) (w4 : (Cond.instanceMethod z).before a0 Z = true) (nf : NotFace (s.setVm vm) y) (hy : y.cls ≠ "java/lang/invoke/MethodHandle" ∧ y.cls ≠ "java/lang/invoke/VarHandle") (B : BackS l R p e below (s.setVm vm) args z 3 W (fun A a => a = as' ∧ A.U.heap = h ∧ A.cells + kc ≤ R.cells ∧ A.slots + ks ≤ R.slots) (fun A _ v B => ∃ L, Q v B.U.heap L ∧ B.locs = A.locs ++ L ∧ B.cells = A.cells + kc ∧ B.slots = A.slots + ks ∧ CHr Z EL vm h B.U.vm B.U.heap)) (E : Exa Z h a C) (ha : (.ref a :: argsL).toArray = as') (hst : st = argsL.reverse ++ .ref a :: rest) (hz : Ls.size = c.maxLocals) (hlen : ∀ sig, parseMethodDescriptor y.desc = some sig → argsL.length = sig.parameters.length) (hW : 2 * (mkF m pc Ls st).monitorRoom + (rest.map fun v => v.category).sum ≤ W) (hcc : cells + kc ≤ R.cells) (hss : slots + ks ≤ R.slots) (hq : pc + 3 = q) (k : ∀ v T₂ vm₂ h₂ L, Q v h₂ L → Wk Z own bytes h₂ p l e R (s.setVm vm₂) m args below meth c T₂ (locs ++ L) (cells + kc) (slots + ks) → Hd Z EL s vm₂ h0 h₂ → CHr Z EL vm h vm₂ h₂ → Goes p.tables e below K (T₂.setTop (mkF m q Ls (v.toList ++ rest)))) : Goes p.tables e below K (T.setTop (mkF m pc Ls (st))) := by
  subst hq
  obtain ⟨cB, kB, r1, -, r3⟩ := isOf P.2.2.2.1 P.2.2.2.2.2 E
  obtain ⟨v, _, ⟨T₂, L₂, c₂, n₂⟩, -, X2, S2, b2, ⟨L, hQ, hl, hc2, hs2, r2⟩, st2⟩ := P.1.virtualBackS P.2.1 (y := y) (z := z) P.2.2.2.2.1 (mvT P.2.2.2.1 w1) (mvT P.2.2.2.1 w2) nf (mvT P.2.2.2.1 w3) (mvT P.2.2.2.1 w4) hy B r1 r3 (g := mkF m pc Ls st) rfl hz (Steps.refl _) (argsL := argsL) (rest := rest) hlen hst hW (hb P.2.2.1 hd) (fun _ _ => ⟨ha, P.2.2.2.2.2, hcc, hss⟩)
  dsimp only [Pt.U, Pt.locs, Pt.cells, Pt.slots] at X2 hl hc2 hs2 st2 hQ S2 b2 r2
  subst hl hc2 hs2
  obtain ⟨⟨k0, S0, b0⟩, r0⟩ := H
  have hW : Z.Warmed39 T₂.vm := State.Warmed39.trans (t := s.setVm vm) P.2.2.2.1 S2.1
  have hf : (s.setVm T₂.vm).vm.findClass own = some m.cls := by rw [show (s.setVm T₂.vm).vm = T₂.vm from rfl, S2.1.alike.findClass]; exact P.2.2.2.2.1
  have b1 : k0 ≤ T.heap.size := by rw [P.2.2.2.2.2]; exact b0
  exact Goes.tr st2 (k v T₂ T₂.vm _ L hQ ⟨X2, P.2.1, P.2.2.1, hW, hf, rfl⟩ ⟨⟨_, S0.trans S2 (Nat.le_trans b1 b2), Nat.le_refl _⟩, r0.trans r2⟩ r2)
theorem retVH {kc ks : Nat} {Q : Option Value → Heap → List Loc → Prop}  (P : Wk Z own bytes h p l e R (s.setVm vm) m args below meth c T locs cells slots) (hh : s.heap = h0) (hEL : EW Z a0 EL) (H : Hd Z EL s vm h0 h) (hd : decode bytes pc = .ok (.return_, 1)) (hret : meth.sig.returnType = none) (hlk : meth.locks = false) (hc : cells ≤ kc) (hs : slots ≤ ks) (hQ : Q none h locs) : Goes p.tables e below (fun s₂ o => ∃ v L, o = .returned v ∧ Q v s₂.heap L ∧ CHr Z EL s.vm s.heap s₂.vm s₂.heap ∧ ReturnedEndW s o s₂ L kc ks) (T.setTop (mkF m pc Ls ([]))) := by
  obtain ⟨⟨k0, S0, b0⟩, r0⟩ := H
  obtain ⟨fs, hr, hrun, hended, q1, q2, q3, q4⟩ := P.1.leaveW S0 (by rw [P.2.2.2.2.2]; exact b0) (v := none) (fun h => by first | rfl | (rw [hret] at h; cases h)) hlk
  have r1 := CHv.at P.1 P.2.2.2.1 hEL r0.1
  refine ⟨_, _, P.1.returnOut P.2.1 hret (hb P.2.2.1 hd) hr, hrun, hended, _, _, rfl, by show Q _ T.heap _; rw [P.2.2.2.2.2]; exact hQ, ?_, q1, q2, q3, q4.mono hc hs⟩
  show CHr Z EL s.vm s.heap T.vm T.heap
  rw [P.2.2.2.2.2, hh]
  exact r0.trans r1
theorem retZH {kc ks : Nat} {Q : Option Value → Heap → List Loc → Prop} {t : FieldType} {z : Int32} (P : Wk Z own bytes h p l e R (s.setVm vm) m args below meth c T locs cells slots) (hh : s.heap = h0) (hEL : EW Z a0 EL) (H : Hd Z EL s vm h0 h) (hd : decode bytes pc = .ok (.ireturn, 1)) (hret : meth.sig.returnType = some t) (ht : t = .boolean ∨ t = .byte ∨ t = .char ∨ t = .short) (hlk : meth.locks = false) (hc : cells ≤ kc) (hs : slots ≤ ks) (hQ : Q (some (.int (nar t z))) h locs) : Goes p.tables e below (fun s₂ o => ∃ v L, o = .returned v ∧ Q v s₂.heap L ∧ CHr Z EL s.vm s.heap s₂.vm s₂.heap ∧ ReturnedEndW s o s₂ L kc ks) (T.setTop (mkF m pc Ls (.int z :: st))) := by
  obtain ⟨⟨k0, S0, b0⟩, r0⟩ := H
  obtain ⟨fs, hr, hrun, hended, q1, q2, q3, q4⟩ := P.1.leaveW S0 (by rw [P.2.2.2.2.2]; exact b0) (v := (some (.int (nar t z)))) (fun h => by first | rfl | (rw [hret] at h; cases h)) hlk
  have r1 := CHv.at P.1 P.2.2.2.1 hEL r0.1
  refine ⟨_, _, retN P.1 P.2.1 hret ht (hb P.2.2.1 hd) hr, hrun, hended, _, _, rfl, by show Q _ T.heap _; rw [P.2.2.2.2.2]; exact hQ, ?_, q1, q2, q3, q4.mono hc hs⟩
  show CHr Z EL s.vm s.heap T.vm T.heap
  rw [P.2.2.2.2.2, hh]
  exact r0.trans r1
theorem retIH {kc ks : Nat} {Q : Option Value → Heap → List Loc → Prop} {z : Int32} (P : Wk Z own bytes h p l e R (s.setVm vm) m args below meth c T locs cells slots) (hh : s.heap = h0) (hEL : EW Z a0 EL) (H : Hd Z EL s vm h0 h) (hd : decode bytes pc = .ok (.ireturn, 1)) (hret : meth.sig.returnType = some .int) (hlk : meth.locks = false) (hc : cells ≤ kc) (hs : slots ≤ ks) (hQ : Q (some (.int z)) h locs) : Goes p.tables e below (fun s₂ o => ∃ v L, o = .returned v ∧ Q v s₂.heap L ∧ CHr Z EL s.vm s.heap s₂.vm s₂.heap ∧ ReturnedEndW s o s₂ L kc ks) (T.setTop (mkF m pc Ls (.int z :: st))) := by
  obtain ⟨⟨k0, S0, b0⟩, r0⟩ := H
  obtain ⟨fs, hr, hrun, hended, q1, q2, q3, q4⟩ := P.1.leaveW S0 (by rw [P.2.2.2.2.2]; exact b0) (v := (some (.int z))) (fun h => by first | rfl | (rw [hret] at h; cases h)) hlk
  have r1 := CHv.at P.1 P.2.2.2.1 hEL r0.1
  refine ⟨_, _, retOut P.1 P.2.1 hret rfl (Or.inl ⟨rfl, Or.inl rfl, _, rfl⟩) (hb P.2.2.1 hd) hr, hrun, hended, _, _, rfl, by show Q _ T.heap _; rw [P.2.2.2.2.2]; exact hQ, ?_, q1, q2, q3, q4.mono hc hs⟩
  show CHr Z EL s.vm s.heap T.vm T.heap
  rw [P.2.2.2.2.2, hh]
  exact r0.trans r1
theorem retAH {kc ks : Nat} {Q : Option Value → Heap → List Loc → Prop} {t : FieldType} {v : Value} (P : Wk Z own bytes h p l e R (s.setVm vm) m args below meth c T locs cells slots) (hh : s.heap = h0) (hEL : EW Z a0 EL) (H : Hd Z EL s vm h0 h) (hd : decode bytes pc = .ok (.areturn, 1)) (hret : meth.sig.returnType = some t) (ht : t.isReference = true) (hv : v.isRef = true) (hn : narrow t v = v) (hlk : meth.locks = false) (hc : cells ≤ kc) (hs : slots ≤ ks) (hQ : Q (some v) h locs) : Goes p.tables e below (fun s₂ o => ∃ v L, o = .returned v ∧ Q v s₂.heap L ∧ CHr Z EL s.vm s.heap s₂.vm s₂.heap ∧ ReturnedEndW s o s₂ L kc ks) (T.setTop (mkF m pc Ls (v :: st))) := by
  obtain ⟨⟨k0, S0, b0⟩, r0⟩ := H
  obtain ⟨fs, hr, hrun, hended, q1, q2, q3, q4⟩ := P.1.leaveW S0 (by rw [P.2.2.2.2.2]; exact b0) (v := (some v)) (fun h => by first | rfl | (rw [hret] at h; cases h)) hlk
  have r1 := CHv.at P.1 P.2.2.2.1 hEL r0.1
  refine ⟨_, _, retOut P.1 P.2.1 hret hn (Or.inr (Or.inr (Or.inr (Or.inr ⟨rfl, ht, hv⟩)))) (hb P.2.2.1 hd) hr, hrun, hended, _, _, rfl, by show Q _ T.heap _; rw [P.2.2.2.2.2]; exact hQ, ?_, q1, q2, q3, q4.mono hc hs⟩
  show CHr Z EL s.vm s.heap T.vm T.heap
  rw [P.2.2.2.2.2, hh]
  exact r0.trans r1
end Held
end Own
end Jvm.Pilot.@@N@@
namespace Jvm.Pilot.@@N@@
open Jvm Jvm.ClassFile Sem Op Lib Jvm.Free Jvm.Stand Jvm.LawKit Jvm.RoadKit Bundle Jvm.Pilot.@@N@@.Jvm.D
set_option maxRecDepth 65536 in
theorem sub_backV : ∀ d ∈ StrChars.Road.words, d ∈ tables_1 := by
  intro d hd
  have h : StrChars.Road.words.all (fun d => tables_1.contains d) = true := by decide +kernel
  exact List.contains_iff_mem.mp (List.all_eq_true.mp h d hd)

abbrev EL : List (String × Nat) := [("com/example/restwright/restwright/core/Relationship", 7), ("com/example/restwright/restwright/core/Relationship", 22), ("com/example/restwright/restwright/core/Relationship", 36), ("java/lang/String", 7)]
theorem ew {Z : State} {a0 : Array Value} (hw : ∀ d ∈ tables_1, d.before a0 Z = true) : EW Z a0 EL := (EW.cons (hw _ (List.mem_of_getElem? (i := 42) rfl)) (by decide) (EW.cons (hw _ (List.mem_of_getElem? (i := 45) rfl)) (by decide) (EW.cons (hw _ (List.mem_of_getElem? (i := 32) rfl)) (by decide) (EW.cons (hw _ (List.mem_of_getElem? (i := 18) rfl)) (by decide) EW.nil))))
set_option maxRecDepth 65536 in
theorem sub_str : ∀ d ∈ Bundle.stringAtoms, d ∈ tables_1 := by
  intro d hd
  have h : Bundle.stringAtoms.all (fun d => tables_1.contains d) = true := by decide +kernel
  exact List.contains_iff_mem.mp (List.all_eq_true.mp h d hd)

theorem d3_0 : decode jdk_42_method_149_code 0 = .ok (.aload_n 0, 1) := by decide +kernel
theorem d3_1 : decode jdk_42_method_149_code 1 = .ok (.invokespecial 1, 3) := by decide +kernel
theorem d3_4 : decode jdk_42_method_149_code 4 = .ok (.iload_n 3, 1) := by decide +kernel
theorem d3_5 : decode jdk_42_method_149_code 5 = .ok (.ifCond .ne 22, 3) := by decide +kernel
theorem d3_8 : decode jdk_42_method_149_code 8 = .ok (.aload_n 0, 1) := by decide +kernel
theorem d3_9 : decode jdk_42_method_149_code 9 = .ok (.ldc 7, 2) := by decide +kernel
theorem d3_11 : decode jdk_42_method_149_code 11 = .ok (.getfield 9, 3) := by decide +kernel
theorem d3_14 : decode jdk_42_method_149_code 14 = .ok (.putfield 9, 3) := by decide +kernel
theorem d3_17 : decode jdk_42_method_149_code 17 = .ok (.aload_n 0, 1) := by decide +kernel
theorem d3_18 : decode jdk_42_method_149_code 18 = .ok (.ldc 7, 2) := by decide +kernel
theorem d3_20 : decode jdk_42_method_149_code 20 = .ok (.getfield 15, 3) := by decide +kernel
theorem d3_23 : decode jdk_42_method_149_code 23 = .ok (.putfield 15, 3) := by decide +kernel
theorem d3_26 : decode jdk_42_method_149_code 26 = .ok (.return_, 1) := by decide +kernel
theorem d3_27 : decode jdk_42_method_149_code 27 = .ok (.getstatic 38, 3) := by decide +kernel
theorem d3_30 : decode jdk_42_method_149_code 30 = .ok (.ifCond .eq 28, 3) := by decide +kernel
theorem d3_33 : decode jdk_42_method_149_code 33 = .ok (.aload_n 1, 1) := by decide +kernel
theorem d3_34 : decode jdk_42_method_149_code 34 = .ok (.iload_n 2, 1) := by decide +kernel
theorem d3_35 : decode jdk_42_method_149_code 35 = .ok (.iload_n 3, 1) := by decide +kernel
theorem d3_36 : decode jdk_42_method_149_code 36 = .ok (.invokestatic 177, 3) := by decide +kernel
theorem d3_39 : decode jdk_42_method_149_code 39 = .ok (.astore 5, 2) := by decide +kernel
theorem d3_41 : decode jdk_42_method_149_code 41 = .ok (.aload_n 0, 1) := by decide +kernel
theorem d3_42 : decode jdk_42_method_149_code 42 = .ok (.aload 5, 2) := by decide +kernel
theorem d3_44 : decode jdk_42_method_149_code 44 = .ok (.iload_n 3, 1) := by decide +kernel
theorem d3_45 : decode jdk_42_method_149_code 45 = .ok (.invokestatic 47, 3) := by decide +kernel
theorem d3_48 : decode jdk_42_method_149_code 48 = .ok (.putfield 15, 3) := by decide +kernel
theorem d3_51 : decode jdk_42_method_149_code 51 = .ok (.aload_n 0, 1) := by decide +kernel
theorem d3_52 : decode jdk_42_method_149_code 52 = .ok (.aload 5, 2) := by decide +kernel
theorem d3_54 : decode jdk_42_method_149_code 54 = .ok (.putfield 9, 3) := by decide +kernel
theorem d3_57 : decode jdk_42_method_149_code 57 = .ok (.return_, 1) := by decide +kernel
theorem d3_58 : decode jdk_42_method_149_code 58 = .ok (.aload_n 0, 1) := by decide +kernel
theorem d3_59 : decode jdk_42_method_149_code 59 = .ok (.iconst 1, 1) := by decide +kernel
theorem d3_60 : decode jdk_42_method_149_code 60 = .ok (.putfield 15, 3) := by decide +kernel
theorem d3_63 : decode jdk_42_method_149_code 63 = .ok (.aload_n 0, 1) := by decide +kernel
theorem d3_64 : decode jdk_42_method_149_code 64 = .ok (.aload_n 1, 1) := by decide +kernel
theorem d3_65 : decode jdk_42_method_149_code 65 = .ok (.iload_n 2, 1) := by decide +kernel
theorem d3_66 : decode jdk_42_method_149_code 66 = .ok (.iload_n 3, 1) := by decide +kernel
theorem d3_67 : decode jdk_42_method_149_code 67 = .ok (.invokestatic 180, 3) := by decide +kernel
theorem d3_70 : decode jdk_42_method_149_code 70 = .ok (.putfield 9, 3) := by decide +kernel
theorem d3_73 : decode jdk_42_method_149_code 73 = .ok (.return_, 1) := by decide +kernel
theorem pn_3 : plainName "java/lang/String" = true := by first | (simp [plainName, overriddenIn]; done) | decide +kernel
def QrmE4 (Z : State) (a1 : Addr) (b1 : Addr) (u1 : Value) (u2 : Value) (h0 : Heap) (n0 : Nat) (v : Option Value) (h : Heap) (L : List Loc) : Prop := v = none ∧ Fr n0 L ∧ Keep h0 h [a1] ∧ Own.Str Z h a1 []
set_option maxRecDepth 65536 in
set_option maxHeartbeats 40000000 in
theorem rmE4 (l : Launch) (Z : State) (a0 : Array Value) (hw : ∀ d ∈ tables_1, d.before a0 Z = true) (ws : List Jvm.Cond) (a1 : Addr) (b1 : Addr) (u1 : Value) (u2 : Value) (h0 : Heap) (n0 : Nat) (Z0 : n0 ≤ h0.size) (E_a1 : Exa Z h0 a1 "java/lang/String") (f1 : Fld Z h0 a1 "java/lang/String" "value" "[B" u1) (f2 : Fld Z h0 a1 "java/lang/String" "coder" "B" u2) (g_a1 : n0 ≤ a1) :
    MetFree l (⟨"java/lang/String", "<init>", "([CIILjava/lang/Void;)V"⟩ : MethodName) (head1 (Jvm.Cond.code (⟨"java/lang/String", "<init>", "([CIILjava/lang/Void;)V"⟩ : MethodName) jdk_42_method_149_code 6 none :: ws) ({ frames := 1, cells := 4, slots := 8, locals := 12 } : Room)) (fun a U => a = #[(.ref a1), (.ref b1), (.int (0 : Int32)), (.int (0 : Int32)), .null] ∧ Z.Warmed39 U.vm ∧ U.heap = h0 ∧ CHv Z EL U.vm h0 ∧ ∀ x ∈ ([a1] : List Addr), Safe Z EL U.vm h0 x) (fun _ _ _ _ _ => True) (fun _ U o U' => ∃ v L, o = .returned v ∧ QrmE4 Z a1 b1 u1 u2 h0 n0 v U'.heap L ∧ CHr Z EL U.vm U.heap U'.vm U'.heap ∧ ReturnedEndW U o U' L ({ frames := 1, cells := 4, slots := 8, locals := 12 } : Room).cells ({ frames := 1, cells := 4, slots := 8, locals := 12 } : Room).slots) := by
  refine MetFree.of_bodySF (plainFor_of_name pn_3) hisR ?_
  intro p e s m args below meth c s₁ Bd hml0 hP hK
  obtain ⟨rfl, hZ, hh, hCH, hSf⟩ := hP
  have hml : c.maxLocals = 6 := hml0
  have hlk : meth.locks = false := Bd.notSynchronized
  have hret := Bd.returns
  have hnm := (name_of_methodNamed Bd.named Bd.method).1
  have P0 : Own.Wk Z "java/lang/String" jdk_42_method_149_code h0 p l e ({ frames := 1, cells := 4, slots := 8, locals := 12 } : Room) (s.setVm s.vm) m #[(.ref a1), (.ref b1), (.int (0 : Int32)), (.int (0 : Int32)), .null] below meth c s₁ [] 0 0 := ⟨Stand.of_body Bd, Bd.exec, Bd.bytes, hZ, findClass_of_methodNamed Bd.named, by rw [← hh, Bd.state]; rfl⟩
  have H0 : Own.Hd Z EL s s.vm h0 h0 := Own.Hd.start hCH
  have N0 := Fr.nil n0
  show Own.Goes p.tables e below (fun s₂ o => ∃ v L, o = .returned v ∧ QrmE4 Z a1 b1 u1 u2 h0 n0 v s₂.heap L ∧ CHr Z EL s.vm s.heap s₂.vm s₂.heap ∧ ReturnedEndW s o s₂ L ({ frames := 1, cells := 4, slots := 8, locals := 12 } : Room).cells ({ frames := 1, cells := 4, slots := 8, locals := 12 } : Room).slots) (s₁.setTop (entryFrame m #[(.ref a1), (.ref b1), (.int (0 : Int32)), (.int (0 : Int32)), .null] 6))
  rw [show entryFrame m #[(.ref a1), (.ref b1), (.int (0 : Int32)), (.int (0 : Int32)), .null] 6 = mkF m 0 #[.val (.ref a1), .val (.ref b1), .val (.int (0 : Int32)), .val (.int (0 : Int32)), .val .null, .unset] [] from by first | rfl | (simp [entryFrame, mkF, argsToLocals, Value.category]; done)]
  refine Own.aloadN (q := 1) P0 d3_0 rfl rfl rfl ?_
  refine Own.objinit (q := 4) (W := 0) P0 d3_1 (hw _ (List.mem_of_getElem? (i := 15) rfl)) (hw _ (List.mem_of_getElem? (i := 16) rfl)) (hw _ (List.mem_of_getElem? (i := 17) rfl)) (by rw [hml]; rfl) (by decide) (by show 2 * 0 + _ ≤ _; exact Nat.le_of_eq rfl) (by decide) rfl ?_
  intro T21 P21
  refine Own.iloadN (q := 5) P21 d3_4 rfl rfl ?_
  refine Own.if_ne (q := 8) (qy := 27) P21 d3_5 (by decide) rfl (fun q => absurd rfl q) (fun _ => ?_)
  refine Own.aloadN (q := 9) P21 d3_8 rfl rfl rfl ?_
  refine Own.ldcStr (q := 11) (n := 0) (cs := []) P21 H0 d3_9 (hw _ (List.mem_of_getElem? (i := 18) rfl)) (fun a ha => hw a (sub_str a ha)) (ew hw) (by decide) (by decide) Own.ch0 (by decide) (by decide) (by decide) (by decide) (by decide) (by decide) (by decide) rfl ?_
  intro T22 vm22 h22 a22 P22 H22 hr22 E22 St22
  obtain ⟨⟨t23, kb23, y23a, y23v, y23c, y23b⟩, -, -⟩ := id St22
  refine Own.getfield (q := 14) P22 d3_11 (hw _ (List.mem_of_getElem? (i := 24) rfl)) y23v rfl ?_
  intro T24 P24
  have E0_1_25 : Ext h0 h22 := E22
  refine Own.putfield (q := 17) P24 d3_14 (hw _ (List.mem_of_getElem? (i := 24) rfl)) (f1.ext E0_1_25) (E_a1.ext E0_1_25) (Or.inr ⟨(hw _ (List.mem_of_getElem? (i := 20) rfl)), rfl, hnm⟩) (hw _ (List.mem_of_getElem? (i := 5) rfl)) (ty := (.array .byte)) (by decide) rfl rfl rfl ?_
  intro T26 h26 lc26 hl26 P26 W26
  have c26_t23 := y23b.other W26 (Ne.symm (Exa.neArv (E_a1.ext E0_1_25) y23b (hw _ (List.mem_of_getElem? (i := 5) rfl))))
  have F26_value := Fld.same W26 (f1.ext E0_1_25)
  have F26_coder := (f2.ext E0_1_25).other W26 (Or.inr (slot_ne (Or.inr (hw _ (List.mem_of_getElem? (i := 21) rfl))) (Or.inr (hw _ (List.mem_of_getElem? (i := 20) rfl))) (by decide) (t := .byte) (t' := (.array .byte)) (by decide) (by decide)))
  have A26 := (E_a1.ext E0_1_25).wr W26
  have N26 := Own.Fr.one N0 hl26 g_a1
  refine Own.aloadN (q := 18) P26 d3_17 rfl rfl rfl ?_
  have Hd27 := (Own.Hd.wr H22 W26 (CHr.safe H22.2 E_a1.lt (hSf _ (by simp))))
  refine Own.ldcStr (q := 20) (n := 0) (cs := []) P26 Hd27 d3_18 (hw _ (List.mem_of_getElem? (i := 18) rfl)) (fun a ha => hw a (sub_str a ha)) (ew hw) (by decide) (by decide) Own.ch0 (by decide) (by decide) (by decide) (by decide) (by decide) (by decide) (by decide) rfl ?_
  intro T28 vm28 h28 a28 P28 H28 hr28 E28 St28
  obtain ⟨⟨t29, kb29, y29a, y29v, y29c, y29b⟩, -, -⟩ := id St28
  refine Own.getfield (q := 23) P28 d3_20 (hw _ (List.mem_of_getElem? (i := 25) rfl)) y29c rfl ?_
  intro T30 P30
  have E2_3_31 : Ext h26 h28 := E28
  refine Own.putfield (q := 26) P30 d3_23 (hw _ (List.mem_of_getElem? (i := 25) rfl)) (F26_coder.ext E2_3_31) (A26.ext E2_3_31) (Or.inr ⟨(hw _ (List.mem_of_getElem? (i := 21) rfl)), rfl, hnm⟩) (hw _ (List.mem_of_getElem? (i := 5) rfl)) (ty := .byte) (by decide) rfl rfl rfl ?_
  intro T32 h32 lc32 hl32 P32 W32
  have c32_t23 := (c26_t23.ext E2_3_31).other W32 (Ne.symm (Exa.neArv (A26.ext E2_3_31) (c26_t23.ext E2_3_31) (hw _ (List.mem_of_getElem? (i := 5) rfl))))
  have F32_value := (F26_value.ext E2_3_31).other W32 (Or.inr (slot_ne (Or.inr (hw _ (List.mem_of_getElem? (i := 20) rfl))) (Or.inr (hw _ (List.mem_of_getElem? (i := 21) rfl))) (by decide) (t := (.array .byte)) (t' := .byte) (by decide) (by decide)))
  have F32_coder := Fld.same W32 (F26_coder.ext E2_3_31)
  have A32 := (A26.ext E2_3_31).wr W32
  have N32 := Own.Fr.one N26 hl32 g_a1
  have Hd33 := (Own.Hd.wr H28 W32 (CHr.safe H28.2 E_a1.lt (hSf _ (by simp))))
  refine Own.retVH (Q := QrmE4 Z a1 b1 u1 u2 h0 n0) P32 hh (ew hw) Hd33 d3_26 hret hlk (by decide) (by decide) ?_
  exact ⟨rfl, N32, (Keep.wr (Keep.ext (Keep.wr (Keep.ext (Keep.refl h0 _) E22) W26 (Or.inl (by simp))) E28) W32 (Or.inl (by simp))), ⟨t23, _, A32, F32_value, F32_coder, c32_t23⟩, Own.ch0, by decide⟩
theorem d2_0 : decode jdk_42_method_3_code 0 = .ok (.aload_n 0, 1) := by decide +kernel
theorem d2_1 : decode jdk_42_method_3_code 1 = .ok (.aload_n 1, 1) := by decide +kernel
theorem d2_2 : decode jdk_42_method_3_code 2 = .ok (.iconst 0, 1) := by decide +kernel
theorem d2_3 : decode jdk_42_method_3_code 3 = .ok (.aload_n 1, 1) := by decide +kernel
theorem d2_4 : decode jdk_42_method_3_code 4 = .ok (.arraylength, 1) := by decide +kernel
theorem d2_5 : decode jdk_42_method_3_code 5 = .ok (.aconst_null, 1) := by decide +kernel
theorem d2_6 : decode jdk_42_method_3_code 6 = .ok (.invokespecial 27, 3) := by decide +kernel
theorem d2_9 : decode jdk_42_method_3_code 9 = .ok (.return_, 1) := by decide +kernel
theorem pn_2 : plainName "java/lang/String" = true := by first | (simp [plainName, overriddenIn]; done) | decide +kernel
def QrmE1 (Z : State) (a1 : Addr) (b1 : Addr) (kc : ClassId) (u1 : Value) (u2 : Value) (d1 : Value) (h0 : Heap) (n0 : Nat) (v : Option Value) (h : Heap) (L : List Loc) : Prop := v = none ∧ Fr n0 L ∧ Keep h0 h [a1] ∧ Own.Str Z h a1 []
set_option maxRecDepth 65536 in
set_option maxHeartbeats 40000000 in
theorem rmE1 (l : Launch) (Z : State) (a0 : Array Value) (hw : ∀ d ∈ tables_1, d.before a0 Z = true) (ws : List Jvm.Cond) (a1 : Addr) (b1 : Addr) (kc : ClassId) (u1 : Value) (u2 : Value) (d1 : Value) (h0 : Heap) (n0 : Nat) (Z0 : n0 ≤ h0.size) (E_a1 : Exa Z h0 a1 "java/lang/String") (f1 : Fld Z h0 a1 "java/lang/String" "value" "[B" u1) (f2 : Fld Z h0 a1 "java/lang/String" "coder" "B" u2) (g_a1 : n0 ≤ a1) (A_b1 : Arv Z h0 b1 kc .char 0 [] d1) :
    MetFree l (⟨"java/lang/String", "<init>", "([C)V"⟩ : MethodName) (head1 (Jvm.Cond.code (⟨"java/lang/String", "<init>", "([C)V"⟩ : MethodName) jdk_42_method_3_code 2 none :: ws) ({ frames := 2, cells := 4, slots := 8, locals := 29 } : Room)) (fun a U => a = #[(.ref a1), (.ref b1)] ∧ Z.Warmed39 U.vm ∧ U.heap = h0 ∧ CHv Z EL U.vm h0 ∧ ∀ x ∈ ([a1] : List Addr), Safe Z EL U.vm h0 x) (fun _ _ _ _ _ => True) (fun _ U o U' => ∃ v L, o = .returned v ∧ QrmE1 Z a1 b1 kc u1 u2 d1 h0 n0 v U'.heap L ∧ CHr Z EL U.vm U.heap U'.vm U'.heap ∧ ReturnedEndW U o U' L ({ frames := 2, cells := 4, slots := 8, locals := 29 } : Room).cells ({ frames := 2, cells := 4, slots := 8, locals := 29 } : Room).slots) := by
  refine MetFree.of_bodySF (plainFor_of_name pn_2) hisR ?_
  intro p e s m args below meth c s₁ Bd hml0 hP hK
  obtain ⟨rfl, hZ, hh, hCH, hSf⟩ := hP
  have hml : c.maxLocals = 2 := hml0
  have hlk : meth.locks = false := Bd.notSynchronized
  have hret := Bd.returns
  have hnm := (name_of_methodNamed Bd.named Bd.method).1
  have P0 : Own.Wk Z "java/lang/String" jdk_42_method_3_code h0 p l e ({ frames := 2, cells := 4, slots := 8, locals := 29 } : Room) (s.setVm s.vm) m #[(.ref a1), (.ref b1)] below meth c s₁ [] 0 0 := ⟨Stand.of_body Bd, Bd.exec, Bd.bytes, hZ, findClass_of_methodNamed Bd.named, by rw [← hh, Bd.state]; rfl⟩
  have H0 : Own.Hd Z EL s s.vm h0 h0 := Own.Hd.start hCH
  have N0 := Fr.nil n0
  show Own.Goes p.tables e below (fun s₂ o => ∃ v L, o = .returned v ∧ QrmE1 Z a1 b1 kc u1 u2 d1 h0 n0 v s₂.heap L ∧ CHr Z EL s.vm s.heap s₂.vm s₂.heap ∧ ReturnedEndW s o s₂ L ({ frames := 2, cells := 4, slots := 8, locals := 29 } : Room).cells ({ frames := 2, cells := 4, slots := 8, locals := 29 } : Room).slots) (s₁.setTop (entryFrame m #[(.ref a1), (.ref b1)] 2))
  rw [show entryFrame m #[(.ref a1), (.ref b1)] 2 = mkF m 0 #[.val (.ref a1), .val (.ref b1)] [] from by first | rfl | (simp [entryFrame, mkF, argsToLocals, Value.category]; done)]
  refine Own.aloadN (q := 1) P0 d2_0 rfl rfl rfl ?_
  refine Own.aloadN (q := 2) P0 d2_1 rfl rfl rfl ?_
  refine Own.iconst (q := 3) (v := (0 : Int32)) P0 d2_2 rfl rfl ?_
  refine Own.aloadN (q := 4) P0 d2_3 rfl rfl rfl ?_
  refine Own.arraylength (q := 5) P0 d2_4 A_b1 rfl ?_
  refine Own.aconst (q := 6) P0 d2_5  rfl ?_
  refine Own.invSpecialH (q := 9) (W := 0) (y := (⟨"java/lang/String", "<init>", "([CIILjava/lang/Void;)V"⟩ : MethodName)) (a := a1) (argsL := [(.ref b1), (.int (0 : Int32)), (.int (0 : Int32)), .null]) (rest := []) P0 H0 d2_6 rfl (hw _ (List.mem_of_getElem? (i := 11) rfl)) (hw _ (List.mem_of_getElem? (i := 12) rfl)) (hw _ (List.mem_of_getElem? (i := 14) rfl)) (by decide) (Own.backH (W := 0) (rmE4 l Z a0 hw [] a1 b1 u1 u2 h0 n0 Z0 E_a1 f1 f2 g_a1) P0.2.2.2.1 (hw _ (List.mem_of_getElem? (i := 14) rfl)) (hw _ (List.mem_of_getElem? (i := 6) rfl)) (by decide) (by decide) (ew hw) H0.2.1 (allS ⟨E_a1.lt, (CHr.safe H0.2 E_a1.lt (hSf _ (by simp)))⟩ all0)) rfl rfl (by rw [hml]; rfl) (lenOf (show parseMethodDescriptor "([CIILjava/lang/Void;)V" = some ⟨[(.array .char), .int, .int, (.object "java/lang/Void")], none⟩ from by decide +kernel) rfl) (by show 2 * 0 + _ ≤ _; exact Nat.le_of_eq rfl) (by decide) (by decide) rfl ?_
  rintro v21 T21 vm21 h21 L21 ⟨rfl, N21q, K21, St21⟩ P21 H21 hr21
  have N21 := Fr.app N0 N21q
  show Own.Goes _ _ _ _ (T21.setTop (mkF m 9 #[.val (.ref a1), .val (.ref b1)] []))
  refine Own.retVH (Q := QrmE1 Z a1 b1 kc u1 u2 d1 h0 n0) P21 hh (ew hw) H21 d2_9 hret hlk (by decide) (by decide) ?_
  exact ⟨rfl, N21, K21, St21⟩
theorem d17_0 : decode jdk_43_method_3_code 0 = .ok (.iload_n 0, 1) := by decide +kernel
theorem d17_1 : decode jdk_43_method_3_code 1 = .ok (.sipush 255, 3) := by decide +kernel
theorem d17_4 : decode jdk_43_method_3_code 4 = .ok (.if_icmp .gt 7, 3) := by decide +kernel
theorem d17_7 : decode jdk_43_method_3_code 7 = .ok (.iconst 1, 1) := by decide +kernel
theorem d17_8 : decode jdk_43_method_3_code 8 = .ok (.goto 4, 3) := by decide +kernel
theorem d17_11 : decode jdk_43_method_3_code 11 = .ok (.iconst 0, 1) := by decide +kernel
theorem d17_12 : decode jdk_43_method_3_code 12 = .ok (.ireturn, 1) := by decide +kernel
theorem pn_17 : plainName "java/lang/StringLatin1" = true := by first | (simp [plainName, overriddenIn]; done) | decide +kernel
def QrmCan (Z : State) (c1 : Int32) (h0 : Heap) (n0 : Nat) (v : Option Value) (h : Heap) (L : List Loc) : Prop := v = some (.int 1) ∧ Fr n0 L ∧ h = h0
set_option maxRecDepth 65536 in
set_option maxHeartbeats 40000000 in
theorem rmCan (l : Launch) (Z : State) (a0 : Array Value) (hw : ∀ d ∈ tables_1, d.before a0 Z = true) (ws : List Jvm.Cond) (c1 : Int32) (h0 : Heap) (n0 : Nat) (Z0 : n0 ≤ h0.size) (hr : ¬ c1 < 0 ∧ ¬ (255 : Int32) < c1) :
    MetFree l (⟨"java/lang/StringLatin1", "canEncode", "(C)Z"⟩ : MethodName) (head1 (Jvm.Cond.code (⟨"java/lang/StringLatin1", "canEncode", "(C)Z"⟩ : MethodName) jdk_43_method_3_code 1 (some .boolean) :: ws) ({ frames := 0, cells := 0, slots := 0, locals := 0 } : Room)) (fun a U => a = #[(.int c1)] ∧ Z.Warmed39 U.vm ∧ U.heap = h0) (fun _ _ _ _ _ => True) (fun _ U o U' => ∃ v L, o = .returned v ∧ QrmCan Z c1 h0 n0 v U'.heap L ∧ FrameEnd U o U' L ({ frames := 0, cells := 0, slots := 0, locals := 0 } : Room).cells ({ frames := 0, cells := 0, slots := 0, locals := 0 } : Room).slots) := by
  refine MetFree.of_bodySF (plainFor_of_name pn_17) hisR ?_
  intro p e s m args below meth c s₁ Bd hml0 hP hK
  obtain ⟨rfl, hZ, hh⟩ := hP
  have hml : c.maxLocals = 1 := hml0
  have hlk : meth.locks = false := Bd.notSynchronized
  have hret := Bd.returns
  have hnm := (name_of_methodNamed Bd.named Bd.method).1
  have P0 : Own.Wk Z "java/lang/StringLatin1" jdk_43_method_3_code h0 p l e ({ frames := 0, cells := 0, slots := 0, locals := 0 } : Room) s m #[(.int c1)] below meth c s₁ [] 0 0 := ⟨Stand.of_body Bd, Bd.exec, Bd.bytes, hZ, findClass_of_methodNamed Bd.named, by rw [← hh, Bd.state]; rfl⟩
  have N0 := Fr.nil n0
  show Own.Goes p.tables e below (fun s₂ o => ∃ v L, o = .returned v ∧ QrmCan Z c1 h0 n0 v s₂.heap L ∧ FrameEnd s o s₂ L ({ frames := 0, cells := 0, slots := 0, locals := 0 } : Room).cells ({ frames := 0, cells := 0, slots := 0, locals := 0 } : Room).slots) (s₁.setTop (entryFrame m #[(.int c1)] 1))
  rw [show entryFrame m #[(.int c1)] 1 = mkF m 0 #[.val (.int c1)] [] from by first | rfl | (simp [entryFrame, mkF, argsToLocals, Value.category]; done)]
  refine Own.iloadN (q := 1) P0 d17_0 rfl rfl ?_
  refine Own.sipush (q := 4) (v := (255 : Int32)) P0 d17_1 rfl rfl ?_
  refine Own.icmp_gt (q := 7) (qy := 11) P0 d17_4 (by decide) rfl (fun q => absurd q hr.2) (fun _ => ?_)
  refine Own.iconst (q := 8) (v := (1 : Int32)) P0 d17_7 rfl rfl ?_
  refine Own.goto (q := 12) P0 d17_8 (by decide) ?_
  refine Own.retZ (Q := QrmCan Z c1 h0 n0) P0 d17_12 hret (by simp) hlk (by decide) (by decide) ?_
  exact ⟨rfl, N0, rfl⟩
theorem d18_0 : decode jdk_43_method_46_code 0 = .ok (.iconst 1, 1) := by decide +kernel
theorem d18_1 : decode jdk_43_method_46_code 1 = .ok (.newarray .byte, 2) := by decide +kernel
theorem d18_3 : decode jdk_43_method_46_code 3 = .ok (.dup, 1) := by decide +kernel
theorem d18_4 : decode jdk_43_method_46_code 4 = .ok (.iconst 0, 1) := by decide +kernel
theorem d18_5 : decode jdk_43_method_46_code 5 = .ok (.iload_n 0, 1) := by decide +kernel
theorem d18_6 : decode jdk_43_method_46_code 6 = .ok (.i2b, 1) := by decide +kernel
theorem d18_7 : decode jdk_43_method_46_code 7 = .ok (.bastore, 1) := by decide +kernel
theorem d18_8 : decode jdk_43_method_46_code 8 = .ok (.areturn, 1) := by decide +kernel
theorem pn_18 : plainName "java/lang/StringLatin1" = true := by first | (simp [plainName, overriddenIn]; done) | decide +kernel
def QrmToB (Z : State) (c1 : Int32) (h0 : Heap) (n0 : Nat) (v : Option Value) (h : Heap) (L : List Loc) : Prop := ∃ r kb, v = some (.ref r) ∧ Fr n0 L ∧ Ext h0 h ∧ h0.size ≤ r ∧ Arv Z h r kb .byte 1 [.int c1.toInt8.toInt32] (.int 0)
set_option maxRecDepth 65536 in
set_option maxHeartbeats 40000000 in
theorem rmToB (l : Launch) (Z : State) (a0 : Array Value) (hw : ∀ d ∈ tables_1, d.before a0 Z = true) (ws : List Jvm.Cond) (c1 : Int32) (h0 : Heap) (n0 : Nat) (Z0 : n0 ≤ h0.size)  :
    MetFree l (⟨"java/lang/StringLatin1", "toBytes", "(C)[B"⟩ : MethodName) (head1 (Jvm.Cond.code (⟨"java/lang/StringLatin1", "toBytes", "(C)[B"⟩ : MethodName) jdk_43_method_46_code 1 (some (.array .byte)) :: ws) ({ frames := 0, cells := 1, slots := 1, locals := 0 } : Room)) (fun a U => a = #[(.int c1)] ∧ Z.Warmed39 U.vm ∧ U.heap = h0) (fun _ _ _ _ _ => True) (fun _ U o U' => ∃ v L, o = .returned v ∧ QrmToB Z c1 h0 n0 v U'.heap L ∧ FrameEnd U o U' L ({ frames := 0, cells := 1, slots := 1, locals := 0 } : Room).cells ({ frames := 0, cells := 1, slots := 1, locals := 0 } : Room).slots) := by
  refine MetFree.of_bodySF (plainFor_of_name pn_18) hisR ?_
  intro p e s m args below meth c s₁ Bd hml0 hP hK
  obtain ⟨rfl, hZ, hh⟩ := hP
  have hml : c.maxLocals = 1 := hml0
  have hlk : meth.locks = false := Bd.notSynchronized
  have hret := Bd.returns
  have hnm := (name_of_methodNamed Bd.named Bd.method).1
  have P0 : Own.Wk Z "java/lang/StringLatin1" jdk_43_method_46_code h0 p l e ({ frames := 0, cells := 1, slots := 1, locals := 0 } : Room) s m #[(.int c1)] below meth c s₁ [] 0 0 := ⟨Stand.of_body Bd, Bd.exec, Bd.bytes, hZ, findClass_of_methodNamed Bd.named, by rw [← hh, Bd.state]; rfl⟩
  have N0 := Fr.nil n0
  show Own.Goes p.tables e below (fun s₂ o => ∃ v L, o = .returned v ∧ QrmToB Z c1 h0 n0 v s₂.heap L ∧ FrameEnd s o s₂ L ({ frames := 0, cells := 1, slots := 1, locals := 0 } : Room).cells ({ frames := 0, cells := 1, slots := 1, locals := 0 } : Room).slots) (s₁.setTop (entryFrame m #[(.int c1)] 1))
  rw [show entryFrame m #[(.int c1)] 1 = mkF m 0 #[.val (.int c1)] [] from by first | rfl | (simp [entryFrame, mkF, argsToLocals, Value.category]; done)]
  refine Own.iconst (q := 1) (v := (1 : Int32)) P0 d18_0 rfl rfl ?_
  refine Own.newarr (q := 3) (cap := 1) P0 d18_1 (hw _ (List.mem_of_getElem? (i := 19) rfl)) (by decide) (by decide) (by decide) (by decide) (by decide) rfl ?_
  intro T21 h21 a21 k21 ha21 P21 E21 A21
  have V21 : Arv Z h21 a21 k21 .byte (1 : Int32) [(.int 0)] (.int 0) := Arv.pad A21 (pad_rep [] _ 1)
  refine Own.dup (q := 4) P21 d18_3 rfl rfl ?_
  refine Own.iconst (q := 5) (v := (0 : Int32)) P21 d18_4 rfl rfl ?_
  refine Own.iloadN (q := 6) P21 d18_5 rfl rfl ?_
  refine Own.i2b (q := 7) P21 d18_6  rfl ?_
  refine Own.bastore (q := 8) (i := 0) (x2 := (c1).toInt8.toInt32) P21 d18_7 V21 (by decide) (by decide) (Own.nar_b _) (Own.fits_b _) (by decide) (Own.ltb rfl) rfl ?_
  intro T22 h22 lc22 hl22 P22 W22 A22
  have V22 : Arv Z h22 a21 k21 .byte (1 : Int32) [(.int (c1).toInt8.toInt32)] (.int 0) := A22
  have N22 := Own.Fr.one N0 hl22 (Nat.le_trans Z0 (Nat.le_of_eq ha21.symm))
  have E0_1_23 : Ext h0 h21 := E21
  have E0_2_24 : Ext h0 h22 := (Own.Ext.wr E0_1_23 W22 (Nat.le_of_eq ha21.symm))
  refine Own.retA (Q := QrmToB Z c1 h0 n0) P22 d18_8 hret rfl rfl rfl hlk (by decide) (by decide) ?_
  exact ⟨_, _, rfl, N22, E0_2_24, (Nat.le_of_eq ha21.symm), V22⟩
theorem d19_0 : decode jdk_42_method_151_code 0 = .ok (.aload_n 0, 1) := by decide +kernel
theorem d19_1 : decode jdk_42_method_151_code 1 = .ok (.invokespecial 1, 3) := by decide +kernel
theorem d19_4 : decode jdk_42_method_151_code 4 = .ok (.aload_n 0, 1) := by decide +kernel
theorem d19_5 : decode jdk_42_method_151_code 5 = .ok (.aload_n 1, 1) := by decide +kernel
theorem d19_6 : decode jdk_42_method_151_code 6 = .ok (.putfield 9, 3) := by decide +kernel
theorem d19_9 : decode jdk_42_method_151_code 9 = .ok (.aload_n 0, 1) := by decide +kernel
theorem d19_10 : decode jdk_42_method_151_code 10 = .ok (.iload_n 2, 1) := by decide +kernel
theorem d19_11 : decode jdk_42_method_151_code 11 = .ok (.putfield 15, 3) := by decide +kernel
theorem d19_14 : decode jdk_42_method_151_code 14 = .ok (.return_, 1) := by decide +kernel
theorem pn_19 : plainName "java/lang/String" = true := by first | (simp [plainName, overriddenIn]; done) | decide +kernel
def QrmSB (Z : State) (a1 : Addr) (a2 : Addr) (u1 : Value) (u2 : Value) (h0 : Heap) (n0 : Nat) (v : Option Value) (h : Heap) (L : List Loc) : Prop := v = none ∧ Fr n0 L ∧ Keep h0 h [a1] ∧ Exa Z h a1 "java/lang/String" ∧ Fld Z h a1 "java/lang/String" "value" "[B" (.ref a2) ∧ Fld Z h a1 "java/lang/String" "coder" "B" (.int 0)
set_option maxRecDepth 65536 in
set_option maxHeartbeats 40000000 in
theorem rmSB (l : Launch) (Z : State) (a0 : Array Value) (hw : ∀ d ∈ tables_1, d.before a0 Z = true) (ws : List Jvm.Cond) (a1 : Addr) (a2 : Addr) (u1 : Value) (u2 : Value) (h0 : Heap) (n0 : Nat) (Z0 : n0 ≤ h0.size) (E_a1 : Exa Z h0 a1 "java/lang/String") (f1 : Fld Z h0 a1 "java/lang/String" "value" "[B" u1) (f2 : Fld Z h0 a1 "java/lang/String" "coder" "B" u2) (g_a1 : n0 ≤ a1) :
    MetFree l (⟨"java/lang/String", "<init>", "([BB)V"⟩ : MethodName) (head1 (Jvm.Cond.code (⟨"java/lang/String", "<init>", "([BB)V"⟩ : MethodName) jdk_42_method_151_code 3 none :: ws) ({ frames := 1, cells := 0, slots := 0, locals := 12 } : Room)) (fun a U => a = #[(.ref a1), (.ref a2), (.int (0 : Int32))] ∧ Z.Warmed39 U.vm ∧ U.heap = h0) (fun _ _ _ _ _ => True) (fun _ U o U' => ∃ v L, o = .returned v ∧ QrmSB Z a1 a2 u1 u2 h0 n0 v U'.heap L ∧ FrameEnd U o U' L ({ frames := 1, cells := 0, slots := 0, locals := 12 } : Room).cells ({ frames := 1, cells := 0, slots := 0, locals := 12 } : Room).slots) := by
  refine MetFree.of_bodySF (plainFor_of_name pn_19) hisR ?_
  intro p e s m args below meth c s₁ Bd hml0 hP hK
  obtain ⟨rfl, hZ, hh⟩ := hP
  have hml : c.maxLocals = 3 := hml0
  have hlk : meth.locks = false := Bd.notSynchronized
  have hret := Bd.returns
  have hnm := (name_of_methodNamed Bd.named Bd.method).1
  have P0 : Own.Wk Z "java/lang/String" jdk_42_method_151_code h0 p l e ({ frames := 1, cells := 0, slots := 0, locals := 12 } : Room) s m #[(.ref a1), (.ref a2), (.int (0 : Int32))] below meth c s₁ [] 0 0 := ⟨Stand.of_body Bd, Bd.exec, Bd.bytes, hZ, findClass_of_methodNamed Bd.named, by rw [← hh, Bd.state]; rfl⟩
  have N0 := Fr.nil n0
  show Own.Goes p.tables e below (fun s₂ o => ∃ v L, o = .returned v ∧ QrmSB Z a1 a2 u1 u2 h0 n0 v s₂.heap L ∧ FrameEnd s o s₂ L ({ frames := 1, cells := 0, slots := 0, locals := 12 } : Room).cells ({ frames := 1, cells := 0, slots := 0, locals := 12 } : Room).slots) (s₁.setTop (entryFrame m #[(.ref a1), (.ref a2), (.int (0 : Int32))] 3))
  rw [show entryFrame m #[(.ref a1), (.ref a2), (.int (0 : Int32))] 3 = mkF m 0 #[.val (.ref a1), .val (.ref a2), .val (.int (0 : Int32))] [] from by first | rfl | (simp [entryFrame, mkF, argsToLocals, Value.category]; done)]
  refine Own.aloadN (q := 1) P0 d19_0 rfl rfl rfl ?_
  refine Own.objinit (q := 4) (W := 0) P0 d19_1 (hw _ (List.mem_of_getElem? (i := 15) rfl)) (hw _ (List.mem_of_getElem? (i := 16) rfl)) (hw _ (List.mem_of_getElem? (i := 17) rfl)) (by rw [hml]; rfl) (by decide) (by show 2 * 0 + _ ≤ _; exact Nat.le_of_eq rfl) (by decide) rfl ?_
  intro T21 P21
  refine Own.aloadN (q := 5) P21 d19_4 rfl rfl rfl ?_
  refine Own.aloadN (q := 6) P21 d19_5 rfl rfl rfl ?_
  refine Own.putfield (q := 9) P21 d19_6 (hw _ (List.mem_of_getElem? (i := 24) rfl)) f1 E_a1 (Or.inr ⟨(hw _ (List.mem_of_getElem? (i := 20) rfl)), rfl, hnm⟩) (hw _ (List.mem_of_getElem? (i := 5) rfl)) (ty := (.array .byte)) (by decide) rfl rfl rfl ?_
  intro T22 h22 lc22 hl22 P22 W22
  have F22_value := Fld.same W22 f1
  have F22_coder := f2.other W22 (Or.inr (slot_ne (Or.inr (hw _ (List.mem_of_getElem? (i := 21) rfl))) (Or.inr (hw _ (List.mem_of_getElem? (i := 20) rfl))) (by decide) (t := .byte) (t' := (.array .byte)) (by decide) (by decide)))
  have A22 := E_a1.wr W22
  have N22 := Own.Fr.one N0 hl22 g_a1
  refine Own.aloadN (q := 10) P22 d19_9 rfl rfl rfl ?_
  refine Own.iloadN (q := 11) P22 d19_10 rfl rfl ?_
  refine Own.putfield (q := 14) P22 d19_11 (hw _ (List.mem_of_getElem? (i := 25) rfl)) F22_coder A22 (Or.inr ⟨(hw _ (List.mem_of_getElem? (i := 21) rfl)), rfl, hnm⟩) (hw _ (List.mem_of_getElem? (i := 5) rfl)) (ty := .byte) (by decide) rfl rfl rfl ?_
  intro T23 h23 lc23 hl23 P23 W23
  have F23_value := F22_value.other W23 (Or.inr (slot_ne (Or.inr (hw _ (List.mem_of_getElem? (i := 20) rfl))) (Or.inr (hw _ (List.mem_of_getElem? (i := 21) rfl))) (by decide) (t := (.array .byte)) (t' := .byte) (by decide) (by decide)))
  have F23_coder := Fld.same W23 F22_coder
  have A23 := A22.wr W23
  have N23 := Own.Fr.one N22 hl23 g_a1
  refine Own.retV (Q := QrmSB Z a1 a2 u1 u2 h0 n0) P23 d19_14 hret hlk (by decide) (by decide) ?_
  exact ⟨rfl, N23, (Keep.wr (Keep.wr (Keep.refl h0 _) W22 (Or.inl (by simp))) W23 (Or.inl (by simp))), A23, F23_value, F23_coder⟩
theorem d16_0 : decode jdk_42_method_139_code 0 = .ok (.getstatic 38, 3) := by decide +kernel
theorem d16_3 : decode jdk_42_method_139_code 3 = .ok (.ifCond .eq 23, 3) := by decide +kernel
theorem d16_6 : decode jdk_42_method_139_code 6 = .ok (.iload_n 0, 1) := by decide +kernel
theorem d16_7 : decode jdk_42_method_139_code 7 = .ok (.invokestatic 1015, 3) := by decide +kernel
theorem d16_10 : decode jdk_42_method_139_code 10 = .ok (.ifCond .eq 16, 3) := by decide +kernel
theorem d16_13 : decode jdk_42_method_139_code 13 = .ok (.new 10, 3) := by decide +kernel
theorem d16_16 : decode jdk_42_method_139_code 16 = .ok (.dup, 1) := by decide +kernel
theorem d16_17 : decode jdk_42_method_139_code 17 = .ok (.iload_n 0, 1) := by decide +kernel
theorem d16_18 : decode jdk_42_method_139_code 18 = .ok (.invokestatic 1018, 3) := by decide +kernel
theorem d16_21 : decode jdk_42_method_139_code 21 = .ok (.iconst 0, 1) := by decide +kernel
theorem d16_22 : decode jdk_42_method_139_code 22 = .ok (.invokespecial 209, 3) := by decide +kernel
theorem d16_25 : decode jdk_42_method_139_code 25 = .ok (.areturn, 1) := by decide +kernel
theorem d16_26 : decode jdk_42_method_139_code 26 = .ok (.new 10, 3) := by decide +kernel
theorem d16_29 : decode jdk_42_method_139_code 29 = .ok (.dup, 1) := by decide +kernel
theorem d16_30 : decode jdk_42_method_139_code 30 = .ok (.iload_n 0, 1) := by decide +kernel
theorem d16_31 : decode jdk_42_method_139_code 31 = .ok (.invokestatic 1021, 3) := by decide +kernel
theorem d16_34 : decode jdk_42_method_139_code 34 = .ok (.iconst 1, 1) := by decide +kernel
theorem d16_35 : decode jdk_42_method_139_code 35 = .ok (.invokespecial 209, 3) := by decide +kernel
theorem d16_38 : decode jdk_42_method_139_code 38 = .ok (.areturn, 1) := by decide +kernel
theorem pn_16 : plainName "java/lang/String" = true := by first | (simp [plainName, overriddenIn]; done) | decide +kernel
def QrmVal (Z : State) (c1 : Int32) (zc : Int32) (h0 : Heap) (n0 : Nat) (v : Option Value) (h : Heap) (L : List Loc) : Prop := ∃ r, v = some (.ref r) ∧ Fr n0 L ∧ Ext h0 h ∧ h0.size ≤ r ∧ Own.Str Z h r [c1]
set_option maxRecDepth 65536 in
set_option maxHeartbeats 40000000 in
theorem rmVal (l : Launch) (Z : State) (a0 : Array Value) (hw : ∀ d ∈ tables_1, d.before a0 Z = true) (ws : List Jvm.Cond) (c1 : Int32) (zc : Int32) (h0 : Heap) (n0 : Nat) (Z0 : n0 ≤ h0.size) (SC : Sta Z h0 "java/lang/String" "COMPACT_STRINGS" "Z" (.int zc)) (hzc : ¬ zc = 0) (hr : ¬ c1 < 0 ∧ ¬ (255 : Int32) < c1) :
    MetFree l (⟨"java/lang/String", "valueOf", "(C)Ljava/lang/String;"⟩ : MethodName) (head1 (Jvm.Cond.code (⟨"java/lang/String", "valueOf", "(C)Ljava/lang/String;"⟩ : MethodName) jdk_42_method_139_code 1 (some (.object "java/lang/String")) :: ws) ({ frames := 2, cells := 2, slots := 5, locals := 28 } : Room)) (fun a U => a = #[(.int c1)] ∧ Z.Warmed39 U.vm ∧ U.heap = h0) (fun _ _ _ _ _ => True) (fun _ U o U' => ∃ v L, o = .returned v ∧ QrmVal Z c1 zc h0 n0 v U'.heap L ∧ FrameEnd U o U' L ({ frames := 2, cells := 2, slots := 5, locals := 28 } : Room).cells ({ frames := 2, cells := 2, slots := 5, locals := 28 } : Room).slots) := by
  refine MetFree.of_bodySF (plainFor_of_name pn_16) hisR ?_
  intro p e s m args below meth c s₁ Bd hml0 hP hK
  obtain ⟨rfl, hZ, hh⟩ := hP
  have hml : c.maxLocals = 1 := hml0
  have hlk : meth.locks = false := Bd.notSynchronized
  have hret := Bd.returns
  have hnm := (name_of_methodNamed Bd.named Bd.method).1
  have P0 : Own.Wk Z "java/lang/String" jdk_42_method_139_code h0 p l e ({ frames := 2, cells := 2, slots := 5, locals := 28 } : Room) s m #[(.int c1)] below meth c s₁ [] 0 0 := ⟨Stand.of_body Bd, Bd.exec, Bd.bytes, hZ, findClass_of_methodNamed Bd.named, by rw [← hh, Bd.state]; rfl⟩
  have N0 := Fr.nil n0
  show Own.Goes p.tables e below (fun s₂ o => ∃ v L, o = .returned v ∧ QrmVal Z c1 zc h0 n0 v s₂.heap L ∧ FrameEnd s o s₂ L ({ frames := 2, cells := 2, slots := 5, locals := 28 } : Room).cells ({ frames := 2, cells := 2, slots := 5, locals := 28 } : Room).slots) (s₁.setTop (entryFrame m #[(.int c1)] 1))
  rw [show entryFrame m #[(.int c1)] 1 = mkF m 0 #[.val (.int c1)] [] from by first | rfl | (simp [entryFrame, mkF, argsToLocals, Value.category]; done)]
  refine Own.getstatic (q := 3) P0 d16_0 (hw _ (List.mem_of_getElem? (i := 77) rfl)) SC rfl ?_
  intro T21 P21
  refine Own.if_eq (q := 6) (qy := 26) P21 d16_3 (by decide) rfl (fun q => absurd q hzc) (fun _ => ?_)
  refine Own.iloadN (q := 7) P21 d16_6 rfl rfl ?_
  refine Own.invStatic (q := 10) (W := 0) (y := (⟨"java/lang/StringLatin1", "canEncode", "(C)Z"⟩ : MethodName)) (argsL := [(.int c1)]) (rest := []) P21 d16_7 (hw _ (List.mem_of_getElem? (i := 91) rfl)) (hw _ (List.mem_of_getElem? (i := 92) rfl)) (hw _ (List.mem_of_getElem? (i := 93) rfl)) (hw _ (List.mem_of_getElem? (i := 94) rfl)) (by decide) (backOf (W := 0) (rmCan l Z a0 hw [] c1 h0 n0 Z0 hr) P21.2.2.2.1 (hw _ (List.mem_of_getElem? (i := 94) rfl)) (hw _ (List.mem_of_getElem? (i := 93) rfl)) (by decide) (by decide)) rfl rfl (by rw [hml]; rfl) (lenOf (show parseMethodDescriptor "(C)Z" = some ⟨[.char], some .boolean⟩ from by decide +kernel) rfl) (by show 2 * 0 + _ ≤ _; exact Nat.le_of_eq rfl) (by decide) (by decide) rfl ?_
  rintro v22 T22 h22 L22 ⟨rfl, N22q, e22⟩ P22
  rw [e22] at P22
  have N22 := Fr.app N0 N22q
  show Own.Goes _ _ _ _ (T22.setTop (mkF m 10 #[.val (.int c1)] [(.int (1 : Int32))]))
  refine Own.if_eq (q := 13) (qy := 26) P22 d16_10 (by decide) rfl (fun q => absurd q (by decide)) (fun _ => ?_)
  refine Own.newobj (q := 16) P22 d16_13 (hw _ (List.mem_of_getElem? (i := 95) rfl)) (hw _ (List.mem_of_getElem? (i := 5) rfl)) (hw _ (List.mem_of_getElem? (i := 6) rfl)) (by decide) (by decide) rfl ?_
  intro T23 h23 a23 ha23 P23 E23 A23 D23
  have F23_value : Fld Z h23 a23 "java/lang/String" "value" "[B" .null := D23 (Or.inr (hw _ (List.mem_of_getElem? (i := 20) rfl))) (ty := (.array .byte)) (by decide)
  have F23_coder : Fld Z h23 a23 "java/lang/String" "coder" "B" (.int (0 : Int32)) := D23 (Or.inr (hw _ (List.mem_of_getElem? (i := 21) rfl))) (ty := .byte) (by decide)
  refine Own.dup (q := 17) P23 d16_16 rfl rfl ?_
  refine Own.iloadN (q := 18) P23 d16_17 rfl rfl ?_
  have E0_1_24 : Ext h0 h23 := E23
  refine Own.invStatic (q := 21) (W := 2) (y := (⟨"java/lang/StringLatin1", "toBytes", "(C)[B"⟩ : MethodName)) (argsL := [(.int c1)]) (rest := [(.ref a23), (.ref a23)]) P23 d16_18 (hw _ (List.mem_of_getElem? (i := 96) rfl)) (hw _ (List.mem_of_getElem? (i := 97) rfl)) (hw _ (List.mem_of_getElem? (i := 93) rfl)) (hw _ (List.mem_of_getElem? (i := 98) rfl)) (by decide) (backOf (W := 2) (rmToB l Z a0 hw [] c1 h23 n0 (Nat.le_trans Z0 E0_1_24.1) ) P23.2.2.2.1 (hw _ (List.mem_of_getElem? (i := 98) rfl)) (hw _ (List.mem_of_getElem? (i := 93) rfl)) (by decide) (by decide)) rfl rfl (by rw [hml]; rfl) (lenOf (show parseMethodDescriptor "(C)[B" = some ⟨[.char], some (.array .byte)⟩ from by decide +kernel) rfl) (by show 2 * 0 + _ ≤ _; exact Nat.le_of_eq rfl) (by decide) (by decide) rfl ?_
  rintro v25 T25 h25 L25 ⟨r25, kb25, rfl, N25q, E25, gr25, B25⟩ P25
  have N25 := Fr.app N22 N25q
  show Own.Goes _ _ _ _ (T25.setTop (mkF m 21 #[.val (.int c1)] [(.ref r25), (.ref a23), (.ref a23)]))
  refine Own.iconst (q := 22) (v := (0 : Int32)) P25 d16_21 rfl rfl ?_
  have E1_2_26 : Ext h23 h25 := E25
  have E0_2_27 : Ext h0 h25 := (Own.Ext.tr E0_1_24 E25)
  refine Own.invSpecial (q := 25) (W := 1) (y := (⟨"java/lang/String", "<init>", "([BB)V"⟩ : MethodName)) (a := a23) (argsL := [(.ref r25), (.int (0 : Int32))]) (rest := [(.ref a23)]) P25 d16_22 rfl (hw _ (List.mem_of_getElem? (i := 99) rfl)) (hw _ (List.mem_of_getElem? (i := 100) rfl)) (hw _ (List.mem_of_getElem? (i := 101) rfl)) (by decide) (backOf (W := 1) (rmSB l Z a0 hw [] a23 r25 .null (.int (0 : Int32)) h25 n0 (Nat.le_trans Z0 E0_2_27.1) (A23.ext E1_2_26) (F23_value.ext E1_2_26) (F23_coder.ext E1_2_26) (Nat.le_trans Z0 (Nat.le_of_eq ha23.symm))) P25.2.2.2.1 (hw _ (List.mem_of_getElem? (i := 101) rfl)) (hw _ (List.mem_of_getElem? (i := 6) rfl)) (by decide) (by decide)) rfl rfl (by rw [hml]; rfl) (lenOf (show parseMethodDescriptor "([BB)V" = some ⟨[(.array .byte), .byte], none⟩ from by decide +kernel) rfl) (by show 2 * 0 + _ ≤ _; exact Nat.le_of_eq rfl) (by decide) (by decide) rfl ?_
  rintro v28 T28 h28 L28 ⟨rfl, N28q, K28, G28, V28, C28⟩ P28
  have N28 := Fr.app N25 N28q
  show Own.Goes _ _ _ _ (T28.setTop (mkF m 25 #[.val (.int c1)] [(.ref a23)]))
  have B28 := Arv.keep B25 K28 (ninS (Nat.ne_of_gt (Nat.lt_of_lt_of_le A23.lt gr25)) nin0)
  have St28 : Own.Str Z h28 a23 [c1] := ⟨⟨_, _, G28, V28, C28, B28⟩, Own.chS hr Own.ch0, Own.leb rfl⟩
  have E0_3_29 : Ext h0 h28 := (Own.Ext.kp E0_2_27 K28 (allS (Nat.le_of_eq ha23.symm) all0))
  refine Own.retA (Q := QrmVal Z c1 zc h0 n0) P28 d16_25 hret rfl rfl rfl hlk (by decide) (by decide) ?_
  exact ⟨_, rfl, N28, E0_3_29, (Nat.le_of_eq ha23.symm), St28⟩
theorem d1_0 : decode method_2_code 0 = .ok (.iload_n 0, 1) := by decide +kernel
theorem d1_1 : decode method_2_code 1 = .ok (.bipush 16, 2) := by decide +kernel
theorem d1_3 : decode method_2_code 3 = .ok (.iushr, 1) := by decide +kernel
theorem d1_4 : decode method_2_code 4 = .ok (.iconst 3, 1) := by decide +kernel
theorem d1_5 : decode method_2_code 5 = .ok (.iand, 1) := by decide +kernel
theorem d1_6 : decode method_2_code 6 = .ok (.istore_n 1, 1) := by decide +kernel
theorem d1_7 : decode method_2_code 7 = .ok (.iload_n 0, 1) := by decide +kernel
theorem d1_8 : decode method_2_code 8 = .ok (.sipush 255, 3) := by decide +kernel
theorem d1_11 : decode method_2_code 11 = .ok (.iand, 1) := by decide +kernel
theorem d1_12 : decode method_2_code 12 = .ok (.i2c, 1) := by decide +kernel
theorem d1_13 : decode method_2_code 13 = .ok (.istore_n 2, 1) := by decide +kernel
theorem d1_14 : decode method_2_code 14 = .ok (.iload_n 0, 1) := by decide +kernel
theorem d1_15 : decode method_2_code 15 = .ok (.bipush 8, 2) := by decide +kernel
theorem d1_17 : decode method_2_code 17 = .ok (.iushr, 1) := by decide +kernel
theorem d1_18 : decode method_2_code 18 = .ok (.sipush 255, 3) := by decide +kernel
theorem d1_21 : decode method_2_code 21 = .ok (.iand, 1) := by decide +kernel
theorem d1_22 : decode method_2_code 22 = .ok (.i2c, 1) := by decide +kernel
theorem d1_23 : decode method_2_code 23 = .ok (.istore_n 3, 1) := by decide +kernel
theorem d1_24 : decode method_2_code 24 = .ok (.iload_n 0, 1) := by decide +kernel
theorem d1_25 : decode method_2_code 25 = .ok (.bipush 24, 2) := by decide +kernel
theorem d1_27 : decode method_2_code 27 = .ok (.iushr, 1) := by decide +kernel
theorem d1_28 : decode method_2_code 28 = .ok (.sipush 255, 3) := by decide +kernel
theorem d1_31 : decode method_2_code 31 = .ok (.iand, 1) := by decide +kernel
theorem d1_32 : decode method_2_code 32 = .ok (.i2c, 1) := by decide +kernel
theorem d1_33 : decode method_2_code 33 = .ok (.istore 4, 2) := by decide +kernel
theorem d1_35 : decode method_2_code 35 = .ok (.iload_n 1, 1) := by decide +kernel
theorem d1_36 : decode method_2_code 36 = .ok (.ifCond .ne 14, 3) := by decide +kernel
theorem d1_39 : decode method_2_code 39 = .ok (.new 7, 3) := by decide +kernel
theorem d1_42 : decode method_2_code 42 = .ok (.dup, 1) := by decide +kernel
theorem d1_43 : decode method_2_code 43 = .ok (.iconst 0, 1) := by decide +kernel
theorem d1_44 : decode method_2_code 44 = .ok (.newarray .char, 2) := by decide +kernel
theorem d1_46 : decode method_2_code 46 = .ok (.invokespecial 9, 3) := by decide +kernel
theorem d1_49 : decode method_2_code 49 = .ok (.areturn, 1) := by decide +kernel
theorem d1_50 : decode method_2_code 50 = .ok (.iload_n 1, 1) := by decide +kernel
theorem d1_51 : decode method_2_code 51 = .ok (.iconst 1, 1) := by decide +kernel
theorem d1_52 : decode method_2_code 52 = .ok (.if_icmp .ne 8, 3) := by decide +kernel
theorem d1_55 : decode method_2_code 55 = .ok (.iload_n 2, 1) := by decide +kernel
theorem d1_56 : decode method_2_code 56 = .ok (.invokestatic 12, 3) := by decide +kernel
theorem d1_59 : decode method_2_code 59 = .ok (.areturn, 1) := by decide +kernel
theorem d1_60 : decode method_2_code 60 = .ok (.iload_n 1, 1) := by decide +kernel
theorem d1_61 : decode method_2_code 61 = .ok (.iconst 2, 1) := by decide +kernel
theorem d1_62 : decode method_2_code 62 = .ok (.if_icmp .ne 22, 3) := by decide +kernel
theorem d1_65 : decode method_2_code 65 = .ok (.new 7, 3) := by decide +kernel
theorem d1_68 : decode method_2_code 68 = .ok (.dup, 1) := by decide +kernel
theorem d1_69 : decode method_2_code 69 = .ok (.iconst 2, 1) := by decide +kernel
theorem d1_70 : decode method_2_code 70 = .ok (.newarray .char, 2) := by decide +kernel
theorem d1_72 : decode method_2_code 72 = .ok (.dup, 1) := by decide +kernel
theorem d1_73 : decode method_2_code 73 = .ok (.iconst 0, 1) := by decide +kernel
theorem d1_74 : decode method_2_code 74 = .ok (.iload_n 2, 1) := by decide +kernel
theorem d1_75 : decode method_2_code 75 = .ok (.castore, 1) := by decide +kernel
theorem d1_76 : decode method_2_code 76 = .ok (.dup, 1) := by decide +kernel
theorem d1_77 : decode method_2_code 77 = .ok (.iconst 1, 1) := by decide +kernel
theorem d1_78 : decode method_2_code 78 = .ok (.iload_n 3, 1) := by decide +kernel
theorem d1_79 : decode method_2_code 79 = .ok (.castore, 1) := by decide +kernel
theorem d1_80 : decode method_2_code 80 = .ok (.invokespecial 9, 3) := by decide +kernel
theorem d1_83 : decode method_2_code 83 = .ok (.areturn, 1) := by decide +kernel
theorem d1_84 : decode method_2_code 84 = .ok (.new 7, 3) := by decide +kernel
theorem d1_87 : decode method_2_code 87 = .ok (.dup, 1) := by decide +kernel
theorem d1_88 : decode method_2_code 88 = .ok (.iconst 3, 1) := by decide +kernel
theorem d1_89 : decode method_2_code 89 = .ok (.newarray .char, 2) := by decide +kernel
theorem d1_91 : decode method_2_code 91 = .ok (.dup, 1) := by decide +kernel
theorem d1_92 : decode method_2_code 92 = .ok (.iconst 0, 1) := by decide +kernel
theorem d1_93 : decode method_2_code 93 = .ok (.iload_n 2, 1) := by decide +kernel
theorem d1_94 : decode method_2_code 94 = .ok (.castore, 1) := by decide +kernel
theorem d1_95 : decode method_2_code 95 = .ok (.dup, 1) := by decide +kernel
theorem d1_96 : decode method_2_code 96 = .ok (.iconst 1, 1) := by decide +kernel
theorem d1_97 : decode method_2_code 97 = .ok (.iload_n 3, 1) := by decide +kernel
theorem d1_98 : decode method_2_code 98 = .ok (.castore, 1) := by decide +kernel
theorem d1_99 : decode method_2_code 99 = .ok (.dup, 1) := by decide +kernel
theorem d1_100 : decode method_2_code 100 = .ok (.iconst 2, 1) := by decide +kernel
theorem d1_101 : decode method_2_code 101 = .ok (.iload 4, 2) := by decide +kernel
theorem d1_103 : decode method_2_code 103 = .ok (.castore, 1) := by decide +kernel
theorem d1_104 : decode method_2_code 104 = .ok (.invokespecial 9, 3) := by decide +kernel
theorem d1_107 : decode method_2_code 107 = .ok (.areturn, 1) := by decide +kernel
theorem pn_1 : plainName "com/example/restwright/restwright/core/RelationshipToManyPinLaw" = true := by first | (simp [plainName, overriddenIn]; done) | decide +kernel
def QrmStr (Z : State) (x0 : Int32) (zc : Int32) (h0 : Heap) (n0 : Nat) (v : Option Value) (h : Heap) (L : List Loc) : Prop := ∃ r cs, v = some (.ref r) ∧ Fr n0 L ∧ Ext h0 h ∧ h0.size ≤ r ∧ Own.Str Z h r cs
set_option maxRecDepth 65536 in
set_option maxHeartbeats 40000000 in
theorem rmStr (l : Launch) (Z : State) (a0 : Array Value) (hw : ∀ d ∈ tables_1, d.before a0 Z = true) (ws : List Jvm.Cond) (x0 : Int32) (zc : Int32) (h0 : Heap) (n0 : Nat) (Z0 : n0 ≤ h0.size) (SC : Sta Z h0 "java/lang/String" "COMPACT_STRINGS" "Z" (.int zc)) (hzc : ¬ zc = 0) :
    MetFree l (⟨"com/example/restwright/restwright/core/RelationshipToManyPinLaw", "str", "(I)Ljava/lang/String;"⟩ : MethodName) (head1 (Jvm.Cond.code (⟨"com/example/restwright/restwright/core/RelationshipToManyPinLaw", "str", "(I)Ljava/lang/String;"⟩ : MethodName) method_2_code 5 (some (.object "java/lang/String")) :: ws) ({ frames := 4, cells := 6, slots := 12, locals := 66 } : Room)) (fun a U => a = #[(.int x0)] ∧ Z.Warmed39 U.vm ∧ U.heap = h0 ∧ CHv Z EL U.vm h0 ∧ ∀ x ∈ ([] : List Addr), Safe Z EL U.vm h0 x) (fun _ _ _ _ _ => True) (fun _ U o U' => ∃ v L, o = .returned v ∧ QrmStr Z x0 zc h0 n0 v U'.heap L ∧ CHr Z EL U.vm U.heap U'.vm U'.heap ∧ ReturnedEndW U o U' L ({ frames := 4, cells := 6, slots := 12, locals := 66 } : Room).cells ({ frames := 4, cells := 6, slots := 12, locals := 66 } : Room).slots) := by
  refine MetFree.of_bodySF (plainFor_of_name pn_1) hisR ?_
  intro p e s m args below meth c s₁ Bd hml0 hP hK
  obtain ⟨rfl, hZ, hh, hCH, hSf⟩ := hP
  have hml : c.maxLocals = 5 := hml0
  have hlk : meth.locks = false := Bd.notSynchronized
  have hret := Bd.returns
  have hnm := (name_of_methodNamed Bd.named Bd.method).1
  have P0 : Own.Wk Z "com/example/restwright/restwright/core/RelationshipToManyPinLaw" method_2_code h0 p l e ({ frames := 4, cells := 6, slots := 12, locals := 66 } : Room) (s.setVm s.vm) m #[(.int x0)] below meth c s₁ [] 0 0 := ⟨Stand.of_body Bd, Bd.exec, Bd.bytes, hZ, findClass_of_methodNamed Bd.named, by rw [← hh, Bd.state]; rfl⟩
  have H0 : Own.Hd Z EL s s.vm h0 h0 := Own.Hd.start hCH
  have N0 := Fr.nil n0
  show Own.Goes p.tables e below (fun s₂ o => ∃ v L, o = .returned v ∧ QrmStr Z x0 zc h0 n0 v s₂.heap L ∧ CHr Z EL s.vm s.heap s₂.vm s₂.heap ∧ ReturnedEndW s o s₂ L ({ frames := 4, cells := 6, slots := 12, locals := 66 } : Room).cells ({ frames := 4, cells := 6, slots := 12, locals := 66 } : Room).slots) (s₁.setTop (entryFrame m #[(.int x0)] 5))
  rw [show entryFrame m #[(.int x0)] 5 = mkF m 0 #[.val (.int x0), .unset, .unset, .unset, .unset] [] from by first | rfl | (simp [entryFrame, mkF, argsToLocals, Value.category]; done)]
  refine Own.iloadN (q := 1) P0 d1_0 rfl rfl ?_
  refine Own.bipush (q := 3) (v := (16 : Int32)) P0 d1_1 rfl rfl ?_
  refine Own.iushr (q := 4) P0 d1_3  rfl ?_
  refine Own.iconst (q := 5) (v := (3 : Int32)) P0 d1_4 rfl rfl ?_
  refine Own.iand (q := 6) P0 d1_5  rfl ?_
  refine Own.istoreN (q := 7) (L2 := #[.val (.int x0), .val (.int ((Jvm.Free.XT.ushr x0 (16 : Int32)) &&& (3 : Int32))), .unset, .unset, .unset]) P0 d1_6 rfl rfl ?_
  refine Own.iloadN (q := 8) P0 d1_7 rfl rfl ?_
  refine Own.sipush (q := 11) (v := (255 : Int32)) P0 d1_8 rfl rfl ?_
  refine Own.iand (q := 12) P0 d1_11  rfl ?_
  refine Own.i2cV (q := 13) (v := (x0 &&& (255 : Int32))) P0 d1_12 (Own.i2c_id (Own.lo_rng _)) rfl ?_
  refine Own.istoreN (q := 14) (L2 := #[.val (.int x0), .val (.int ((Jvm.Free.XT.ushr x0 (16 : Int32)) &&& (3 : Int32))), .val (.int (x0 &&& (255 : Int32))), .unset, .unset]) P0 d1_13 rfl rfl ?_
  refine Own.iloadN (q := 15) P0 d1_14 rfl rfl ?_
  refine Own.bipush (q := 17) (v := (8 : Int32)) P0 d1_15 rfl rfl ?_
  refine Own.iushr (q := 18) P0 d1_17  rfl ?_
  refine Own.sipush (q := 21) (v := (255 : Int32)) P0 d1_18 rfl rfl ?_
  refine Own.iand (q := 22) P0 d1_21  rfl ?_
  refine Own.i2cV (q := 23) (v := ((Jvm.Free.XT.ushr x0 (8 : Int32)) &&& (255 : Int32))) P0 d1_22 (Own.i2c_id (Own.lo_rng _)) rfl ?_
  refine Own.istoreN (q := 24) (L2 := #[.val (.int x0), .val (.int ((Jvm.Free.XT.ushr x0 (16 : Int32)) &&& (3 : Int32))), .val (.int (x0 &&& (255 : Int32))), .val (.int ((Jvm.Free.XT.ushr x0 (8 : Int32)) &&& (255 : Int32))), .unset]) P0 d1_23 rfl rfl ?_
  refine Own.iloadN (q := 25) P0 d1_24 rfl rfl ?_
  refine Own.bipush (q := 27) (v := (24 : Int32)) P0 d1_25 rfl rfl ?_
  refine Own.iushr (q := 28) P0 d1_27  rfl ?_
  refine Own.sipush (q := 31) (v := (255 : Int32)) P0 d1_28 rfl rfl ?_
  refine Own.iand (q := 32) P0 d1_31  rfl ?_
  refine Own.i2cV (q := 33) (v := ((Jvm.Free.XT.ushr x0 (24 : Int32)) &&& (255 : Int32))) P0 d1_32 (Own.i2c_id (Own.lo_rng _)) rfl ?_
  refine Own.istore (q := 35) (L2 := #[.val (.int x0), .val (.int ((Jvm.Free.XT.ushr x0 (16 : Int32)) &&& (3 : Int32))), .val (.int (x0 &&& (255 : Int32))), .val (.int ((Jvm.Free.XT.ushr x0 (8 : Int32)) &&& (255 : Int32))), .val (.int ((Jvm.Free.XT.ushr x0 (24 : Int32)) &&& (255 : Int32)))]) P0 d1_33 rfl rfl ?_
  refine Own.iloadN (q := 36) P0 d1_35 rfl rfl ?_
  refine Own.if_ne (q := 39) (qy := 50) P0 d1_36 (by decide) rfl (fun hl36 => ?_) (fun hl36 => ?_)
  · refine Own.iloadN (q := 51) P0 d1_50 rfl rfl ?_
    refine Own.iconst (q := 52) (v := (1 : Int32)) P0 d1_51 rfl rfl ?_
    refine Own.icmp_ne (q := 55) (qy := 60) P0 d1_52 (by decide) rfl (fun hl52 => ?_) (fun hl52 => ?_)
    · refine Own.iloadN (q := 61) P0 d1_60 rfl rfl ?_
      refine Own.iconst (q := 62) (v := (2 : Int32)) P0 d1_61 rfl rfl ?_
      refine Own.icmp_ne (q := 65) (qy := 84) P0 d1_62 (by decide) rfl (fun hl62 => ?_) (fun hl62 => ?_)
      · refine Own.newobj (q := 87) P0 d1_84 (hw _ (List.mem_of_getElem? (i := 4) rfl)) (hw _ (List.mem_of_getElem? (i := 5) rfl)) (hw _ (List.mem_of_getElem? (i := 6) rfl)) (by decide) (by decide) rfl ?_
        intro T21 h21 a21 ha21 P21 E21 A21 D21
        have F21_value : Fld Z h21 a21 "java/lang/String" "value" "[B" .null := D21 (Or.inr (hw _ (List.mem_of_getElem? (i := 20) rfl))) (ty := (.array .byte)) (by decide)
        have F21_coder : Fld Z h21 a21 "java/lang/String" "coder" "B" (.int (0 : Int32)) := D21 (Or.inr (hw _ (List.mem_of_getElem? (i := 21) rfl))) (ty := .byte) (by decide)
        refine Own.dup (q := 88) P21 d1_87 rfl rfl ?_
        refine Own.iconst (q := 89) (v := (3 : Int32)) P21 d1_88 rfl rfl ?_
        refine Own.newarr (q := 91) (cap := 3) P21 d1_89 (hw _ (List.mem_of_getElem? (i := 7) rfl)) (by decide) (by decide) (by decide) (by decide) (by decide) rfl ?_
        intro T22 h22 a22 k22 ha22 P22 E22 A22
        have V22 : Arv Z h22 a22 k22 .char (3 : Int32) [(.int 0), (.int 0), (.int 0)] (.int 0) := Arv.pad A22 (pad_rep [] _ 3)
        refine Own.dup (q := 92) P22 d1_91 rfl rfl ?_
        refine Own.iconst (q := 93) (v := (0 : Int32)) P22 d1_92 rfl rfl ?_
        refine Own.iloadN (q := 94) P22 d1_93 rfl rfl ?_
        refine Own.castore (q := 95) (i := 0) (x2 := (x0 &&& (255 : Int32))) P22 d1_94 V22 (by decide) (by decide) (Own.nar_id (Own.lo_rng _)) (Own.fits_ch (Own.lo_rng _)) (by decide) (Own.ltb rfl) rfl ?_
        intro T23 h23 lc23 hl23 P23 W23 A23
        have V23 : Arv Z h23 a22 k22 .char (3 : Int32) [(.int (x0 &&& (255 : Int32))), (.int 0), (.int 0)] (.int 0) := A23
        have E0_1_24 : Ext h0 h21 := E21
        have N23 := Own.Fr.one N0 hl23 (Nat.le_trans Z0 (Nat.le_trans E0_1_24.1 (Nat.le_of_eq ha22.symm)))
        refine Own.dup (q := 96) P23 d1_95 rfl rfl ?_
        refine Own.iconst (q := 97) (v := (1 : Int32)) P23 d1_96 rfl rfl ?_
        refine Own.iloadN (q := 98) P23 d1_97 rfl rfl ?_
        refine Own.castore (q := 99) (i := 1) (x2 := ((Jvm.Free.XT.ushr x0 (8 : Int32)) &&& (255 : Int32))) P23 d1_98 V23 (by decide) (by decide) (Own.nar_id (Own.lo_rng _)) (Own.fits_ch (Own.lo_rng _)) (by decide) (Own.ltb rfl) rfl ?_
        intro T25 h25 lc25 hl25 P25 W25 A25
        have V25 : Arv Z h25 a22 k22 .char (3 : Int32) [(.int (x0 &&& (255 : Int32))), (.int ((Jvm.Free.XT.ushr x0 (8 : Int32)) &&& (255 : Int32))), (.int 0)] (.int 0) := A25
        have N25 := Own.Fr.one N23 hl25 (Nat.le_trans Z0 (Nat.le_trans E0_1_24.1 (Nat.le_of_eq ha22.symm)))
        refine Own.dup (q := 100) P25 d1_99 rfl rfl ?_
        refine Own.iconst (q := 101) (v := (2 : Int32)) P25 d1_100 rfl rfl ?_
        refine Own.iload (q := 103) P25 d1_101 rfl rfl ?_
        refine Own.castore (q := 104) (i := 2) (x2 := ((Jvm.Free.XT.ushr x0 (24 : Int32)) &&& (255 : Int32))) P25 d1_103 V25 (by decide) (by decide) (Own.nar_id (Own.lo_rng _)) (Own.fits_ch (Own.lo_rng _)) (by decide) (Own.ltb rfl) rfl ?_
        intro T26 h26 lc26 hl26 P26 W26 A26
        have V26 : Arv Z h26 a22 k22 .char (3 : Int32) [(.int (x0 &&& (255 : Int32))), (.int ((Jvm.Free.XT.ushr x0 (8 : Int32)) &&& (255 : Int32))), (.int ((Jvm.Free.XT.ushr x0 (24 : Int32)) &&& (255 : Int32)))] (.int 0) := A26
        have N26 := Own.Fr.one N25 hl26 (Nat.le_trans Z0 (Nat.le_trans E0_1_24.1 (Nat.le_of_eq ha22.symm)))
        have E0_2_27 : Ext h0 h22 := (Own.Ext.tr E0_1_24 E22)
        have E0_3_28 : Ext h0 h23 := (Own.Ext.wr E0_2_27 W23 (Nat.le_trans E0_1_24.1 (Nat.le_of_eq ha22.symm)))
        have E0_4_29 : Ext h0 h25 := (Own.Ext.wr E0_3_28 W25 (Nat.le_trans E0_1_24.1 (Nat.le_of_eq ha22.symm)))
        have E0_5_30 : Ext h0 h26 := (Own.Ext.wr E0_4_29 W26 (Nat.le_trans E0_1_24.1 (Nat.le_of_eq ha22.symm)))
        have E1_2_31 : Ext h21 h22 := E22
        have E1_3_32 : Ext h21 h23 := (Own.Ext.wr E1_2_31 W23 (Nat.le_of_eq ha22.symm))
        have E1_4_33 : Ext h21 h25 := (Own.Ext.wr E1_3_32 W25 (Nat.le_of_eq ha22.symm))
        have E1_5_34 : Ext h21 h26 := (Own.Ext.wr E1_4_33 W26 (Nat.le_of_eq ha22.symm))
        refine Own.invSpecial (q := 107) (W := 1) (y := (⟨"java/lang/String", "<init>", "([C)V"⟩ : MethodName)) (a := a21) (argsL := [(.ref a22)]) (rest := [(.ref a21)]) P26 d1_104 rfl (hw _ (List.mem_of_getElem? (i := 8) rfl)) (hw _ (List.mem_of_getElem? (i := 9) rfl)) (hw _ (List.mem_of_getElem? (i := 10) rfl)) (by decide) (Own.newB (W := 1) (n0 := n0) (cs := [(x0 &&& (255 : Int32)), ((Jvm.Free.XT.ushr x0 (8 : Int32)) &&& (255 : Int32)), ((Jvm.Free.XT.ushr x0 (24 : Int32)) &&& (255 : Int32))]) (n := 3) P26.2.2.2.1 (fun d hd => hw d (sub_backV d hd)) (hw _ (List.mem_of_getElem? (i := 5) rfl)) (Nat.le_trans Z0 (Nat.le_of_eq ha21.symm)) (Nat.le_trans Z0 E0_5_30.1) (A21.ext E1_5_34) (F21_value.ext E1_5_34) (F21_coder.ext E1_5_34) V26 (SC.ext E0_5_30) hzc rfl rfl (by decide) (by decide) (Own.chS (Own.lo_rng _) (Own.chS (Own.lo_rng _) (Own.chS (Own.lo_rng _) Own.ch0))) (by decide) (by decide)) rfl rfl (by rw [hml]; rfl) (lenOf (show parseMethodDescriptor "([C)V" = some ⟨[(.array .char)], none⟩ from by decide +kernel) rfl) (by show 2 * 0 + _ ≤ _; exact Nat.le_of_eq rfl) (by decide) (by decide) rfl ?_
        rintro v35 T35 h35 L35 ⟨rfl, N35q, K35, St35⟩ P35
        have N35 := Fr.app N26 N35q
        show Own.Goes _ _ _ _ (T35.setTop (mkF m 107 #[.val (.int x0), .val (.int ((Jvm.Free.XT.ushr x0 (16 : Int32)) &&& (3 : Int32))), .val (.int (x0 &&& (255 : Int32))), .val (.int ((Jvm.Free.XT.ushr x0 (8 : Int32)) &&& (255 : Int32))), .val (.int ((Jvm.Free.XT.ushr x0 (24 : Int32)) &&& (255 : Int32)))] [(.ref a21)]))
        have E0_6_36 : Ext h0 h35 := (Own.Ext.kp E0_5_30 K35 (allS (Nat.le_of_eq ha21.symm) all0))
        have Hd37 := (H0.ext E0_6_36)
        refine Own.retAH (Q := QrmStr Z x0 zc h0 n0) P35 hh (ew hw) Hd37 d1_107 hret rfl rfl rfl hlk (by decide) (by decide) ?_
        exact ⟨_, _, rfl, N35, E0_6_36, (Nat.le_of_eq ha21.symm), St35⟩
      · refine Own.newobj (q := 68) P0 d1_65 (hw _ (List.mem_of_getElem? (i := 4) rfl)) (hw _ (List.mem_of_getElem? (i := 5) rfl)) (hw _ (List.mem_of_getElem? (i := 6) rfl)) (by decide) (by decide) rfl ?_
        intro T38 h38 a38 ha38 P38 E38 A38 D38
        have F38_value : Fld Z h38 a38 "java/lang/String" "value" "[B" .null := D38 (Or.inr (hw _ (List.mem_of_getElem? (i := 20) rfl))) (ty := (.array .byte)) (by decide)
        have F38_coder : Fld Z h38 a38 "java/lang/String" "coder" "B" (.int (0 : Int32)) := D38 (Or.inr (hw _ (List.mem_of_getElem? (i := 21) rfl))) (ty := .byte) (by decide)
        refine Own.dup (q := 69) P38 d1_68 rfl rfl ?_
        refine Own.iconst (q := 70) (v := (2 : Int32)) P38 d1_69 rfl rfl ?_
        refine Own.newarr (q := 72) (cap := 2) P38 d1_70 (hw _ (List.mem_of_getElem? (i := 7) rfl)) (by decide) (by decide) (by decide) (by decide) (by decide) rfl ?_
        intro T39 h39 a39 k39 ha39 P39 E39 A39
        have V39 : Arv Z h39 a39 k39 .char (2 : Int32) [(.int 0), (.int 0)] (.int 0) := Arv.pad A39 (pad_rep [] _ 2)
        refine Own.dup (q := 73) P39 d1_72 rfl rfl ?_
        refine Own.iconst (q := 74) (v := (0 : Int32)) P39 d1_73 rfl rfl ?_
        refine Own.iloadN (q := 75) P39 d1_74 rfl rfl ?_
        refine Own.castore (q := 76) (i := 0) (x2 := (x0 &&& (255 : Int32))) P39 d1_75 V39 (by decide) (by decide) (Own.nar_id (Own.lo_rng _)) (Own.fits_ch (Own.lo_rng _)) (by decide) (Own.ltb rfl) rfl ?_
        intro T40 h40 lc40 hl40 P40 W40 A40
        have V40 : Arv Z h40 a39 k39 .char (2 : Int32) [(.int (x0 &&& (255 : Int32))), (.int 0)] (.int 0) := A40
        have E0_1_41 : Ext h0 h38 := E38
        have N40 := Own.Fr.one N0 hl40 (Nat.le_trans Z0 (Nat.le_trans E0_1_41.1 (Nat.le_of_eq ha39.symm)))
        refine Own.dup (q := 77) P40 d1_76 rfl rfl ?_
        refine Own.iconst (q := 78) (v := (1 : Int32)) P40 d1_77 rfl rfl ?_
        refine Own.iloadN (q := 79) P40 d1_78 rfl rfl ?_
        refine Own.castore (q := 80) (i := 1) (x2 := ((Jvm.Free.XT.ushr x0 (8 : Int32)) &&& (255 : Int32))) P40 d1_79 V40 (by decide) (by decide) (Own.nar_id (Own.lo_rng _)) (Own.fits_ch (Own.lo_rng _)) (by decide) (Own.ltb rfl) rfl ?_
        intro T42 h42 lc42 hl42 P42 W42 A42
        have V42 : Arv Z h42 a39 k39 .char (2 : Int32) [(.int (x0 &&& (255 : Int32))), (.int ((Jvm.Free.XT.ushr x0 (8 : Int32)) &&& (255 : Int32)))] (.int 0) := A42
        have N42 := Own.Fr.one N40 hl42 (Nat.le_trans Z0 (Nat.le_trans E0_1_41.1 (Nat.le_of_eq ha39.symm)))
        have E0_2_43 : Ext h0 h39 := (Own.Ext.tr E0_1_41 E39)
        have E0_3_44 : Ext h0 h40 := (Own.Ext.wr E0_2_43 W40 (Nat.le_trans E0_1_41.1 (Nat.le_of_eq ha39.symm)))
        have E0_4_45 : Ext h0 h42 := (Own.Ext.wr E0_3_44 W42 (Nat.le_trans E0_1_41.1 (Nat.le_of_eq ha39.symm)))
        have E1_2_46 : Ext h38 h39 := E39
        have E1_3_47 : Ext h38 h40 := (Own.Ext.wr E1_2_46 W40 (Nat.le_of_eq ha39.symm))
        have E1_4_48 : Ext h38 h42 := (Own.Ext.wr E1_3_47 W42 (Nat.le_of_eq ha39.symm))
        refine Own.invSpecial (q := 83) (W := 1) (y := (⟨"java/lang/String", "<init>", "([C)V"⟩ : MethodName)) (a := a38) (argsL := [(.ref a39)]) (rest := [(.ref a38)]) P42 d1_80 rfl (hw _ (List.mem_of_getElem? (i := 8) rfl)) (hw _ (List.mem_of_getElem? (i := 9) rfl)) (hw _ (List.mem_of_getElem? (i := 10) rfl)) (by decide) (Own.newB (W := 1) (n0 := n0) (cs := [(x0 &&& (255 : Int32)), ((Jvm.Free.XT.ushr x0 (8 : Int32)) &&& (255 : Int32))]) (n := 2) P42.2.2.2.1 (fun d hd => hw d (sub_backV d hd)) (hw _ (List.mem_of_getElem? (i := 5) rfl)) (Nat.le_trans Z0 (Nat.le_of_eq ha38.symm)) (Nat.le_trans Z0 E0_4_45.1) (A38.ext E1_4_48) (F38_value.ext E1_4_48) (F38_coder.ext E1_4_48) V42 (SC.ext E0_4_45) hzc rfl rfl (by decide) (by decide) (Own.chS (Own.lo_rng _) (Own.chS (Own.lo_rng _) Own.ch0)) (by decide) (by decide)) rfl rfl (by rw [hml]; rfl) (lenOf (show parseMethodDescriptor "([C)V" = some ⟨[(.array .char)], none⟩ from by decide +kernel) rfl) (by show 2 * 0 + _ ≤ _; exact Nat.le_of_eq rfl) (by decide) (by decide) rfl ?_
        rintro v49 T49 h49 L49 ⟨rfl, N49q, K49, St49⟩ P49
        have N49 := Fr.app N42 N49q
        show Own.Goes _ _ _ _ (T49.setTop (mkF m 83 #[.val (.int x0), .val (.int ((Jvm.Free.XT.ushr x0 (16 : Int32)) &&& (3 : Int32))), .val (.int (x0 &&& (255 : Int32))), .val (.int ((Jvm.Free.XT.ushr x0 (8 : Int32)) &&& (255 : Int32))), .val (.int ((Jvm.Free.XT.ushr x0 (24 : Int32)) &&& (255 : Int32)))] [(.ref a38)]))
        have E0_5_50 : Ext h0 h49 := (Own.Ext.kp E0_4_45 K49 (allS (Nat.le_of_eq ha38.symm) all0))
        have Hd51 := (H0.ext E0_5_50)
        refine Own.retAH (Q := QrmStr Z x0 zc h0 n0) P49 hh (ew hw) Hd51 d1_83 hret rfl rfl rfl hlk (by decide) (by decide) ?_
        exact ⟨_, _, rfl, N49, E0_5_50, (Nat.le_of_eq ha38.symm), St49⟩
    · refine Own.iloadN (q := 56) P0 d1_55 rfl rfl ?_
      refine Own.invStatic (q := 59) (W := 0) (y := (⟨"java/lang/String", "valueOf", "(C)Ljava/lang/String;"⟩ : MethodName)) (argsL := [(.int (x0 &&& (255 : Int32)))]) (rest := []) P0 d1_56 (hw _ (List.mem_of_getElem? (i := 88) rfl)) (hw _ (List.mem_of_getElem? (i := 89) rfl)) (hw _ (List.mem_of_getElem? (i := 6) rfl)) (hw _ (List.mem_of_getElem? (i := 90) rfl)) (by decide) (backOf (W := 0) (rmVal l Z a0 hw [] (x0 &&& (255 : Int32)) zc h0 n0 Z0 SC hzc (Own.lo_rng _)) P0.2.2.2.1 (hw _ (List.mem_of_getElem? (i := 90) rfl)) (hw _ (List.mem_of_getElem? (i := 6) rfl)) (by decide) (by decide)) rfl rfl (by rw [hml]; rfl) (lenOf (show parseMethodDescriptor "(C)Ljava/lang/String;" = some ⟨[.char], some (.object "java/lang/String")⟩ from by decide +kernel) rfl) (by show 2 * 0 + _ ≤ _; exact Nat.le_of_eq rfl) (by decide) (by decide) rfl ?_
      rintro v52 T52 h52 L52 ⟨r52, rfl, N52q, E52, gr52, St52⟩ P52
      have N52 := Fr.app N0 N52q
      show Own.Goes _ _ _ _ (T52.setTop (mkF m 59 #[.val (.int x0), .val (.int ((Jvm.Free.XT.ushr x0 (16 : Int32)) &&& (3 : Int32))), .val (.int (x0 &&& (255 : Int32))), .val (.int ((Jvm.Free.XT.ushr x0 (8 : Int32)) &&& (255 : Int32))), .val (.int ((Jvm.Free.XT.ushr x0 (24 : Int32)) &&& (255 : Int32)))] [(.ref r52)]))
      have E0_1_53 : Ext h0 h52 := E52
      have Hd54 := (H0.ext E0_1_53)
      refine Own.retAH (Q := QrmStr Z x0 zc h0 n0) P52 hh (ew hw) Hd54 d1_59 hret rfl rfl rfl hlk (by decide) (by decide) ?_
      exact ⟨_, _, rfl, N52, E0_1_53, gr52, St52⟩
  · refine Own.newobj (q := 42) P0 d1_39 (hw _ (List.mem_of_getElem? (i := 4) rfl)) (hw _ (List.mem_of_getElem? (i := 5) rfl)) (hw _ (List.mem_of_getElem? (i := 6) rfl)) (by decide) (by decide) rfl ?_
    intro T55 h55 a55 ha55 P55 E55 A55 D55
    have F55_value : Fld Z h55 a55 "java/lang/String" "value" "[B" .null := D55 (Or.inr (hw _ (List.mem_of_getElem? (i := 20) rfl))) (ty := (.array .byte)) (by decide)
    have F55_coder : Fld Z h55 a55 "java/lang/String" "coder" "B" (.int (0 : Int32)) := D55 (Or.inr (hw _ (List.mem_of_getElem? (i := 21) rfl))) (ty := .byte) (by decide)
    refine Own.dup (q := 43) P55 d1_42 rfl rfl ?_
    refine Own.iconst (q := 44) (v := (0 : Int32)) P55 d1_43 rfl rfl ?_
    refine Own.newarr (q := 46) (cap := 0) P55 d1_44 (hw _ (List.mem_of_getElem? (i := 7) rfl)) (by decide) (by decide) (by decide) (by decide) (by decide) rfl ?_
    intro T56 h56 a56 k56 ha56 P56 E56 A56
    have V56 : Arv Z h56 a56 k56 .char (0 : Int32) [] (.int 0) := Arv.pad A56 (pad_rep [] _ 0)
    have E1_2_57 : Ext h55 h56 := E56
    have Sf58 := (Safe.ext E55 H0.2.1 (Safe.new (Nat.le_of_eq ha55.symm)))
    have E0_1_59 : Ext h0 h55 := E55
    have Hd60 := (H0.ext E0_1_59)
    have Sf61 := (Safe.ext E56 Hd60.2.1 Sf58)
    have E0_2_62 : Ext h0 h56 := (Own.Ext.tr E0_1_59 E56)
    have Hd63 := (Hd60.ext E1_2_57)
    refine Own.invSpecialH (q := 49) (W := 1) (y := (⟨"java/lang/String", "<init>", "([C)V"⟩ : MethodName)) (a := a55) (argsL := [(.ref a56)]) (rest := [(.ref a55)]) P56 Hd63 d1_46 rfl (hw _ (List.mem_of_getElem? (i := 8) rfl)) (hw _ (List.mem_of_getElem? (i := 9) rfl)) (hw _ (List.mem_of_getElem? (i := 10) rfl)) (by decide) (Own.backH (W := 1) (rmE1 l Z a0 hw [] a55 a56 k56 .null (.int (0 : Int32)) _ h56 n0 (Nat.le_trans Z0 E0_2_62.1) (A55.ext E1_2_57) (F55_value.ext E1_2_57) (F55_coder.ext E1_2_57) (Nat.le_trans Z0 (Nat.le_of_eq ha55.symm)) V56) P56.2.2.2.1 (hw _ (List.mem_of_getElem? (i := 10) rfl)) (hw _ (List.mem_of_getElem? (i := 6) rfl)) (by decide) (by decide) (ew hw) Hd63.2.1 (allS ⟨(A55.ext E1_2_57).lt, Sf61⟩ all0)) rfl rfl (by rw [hml]; rfl) (lenOf (show parseMethodDescriptor "([C)V" = some ⟨[(.array .char)], none⟩ from by decide +kernel) rfl) (by show 2 * 0 + _ ≤ _; exact Nat.le_of_eq rfl) (by decide) (by decide) rfl ?_
    rintro v64 T64 vm64 h64 L64 ⟨rfl, N64q, K64, St64⟩ P64 H64 hr64
    have N64 := Fr.app N0 N64q
    show Own.Goes _ _ _ _ (T64.setTop (mkF m 49 #[.val (.int x0), .val (.int ((Jvm.Free.XT.ushr x0 (16 : Int32)) &&& (3 : Int32))), .val (.int (x0 &&& (255 : Int32))), .val (.int ((Jvm.Free.XT.ushr x0 (8 : Int32)) &&& (255 : Int32))), .val (.int ((Jvm.Free.XT.ushr x0 (24 : Int32)) &&& (255 : Int32)))] [(.ref a55)]))
    have E0_3_65 : Ext h0 h64 := (Own.Ext.kp E0_2_62 K64 (allS (Nat.le_of_eq ha55.symm) all0))
    refine Own.retAH (Q := QrmStr Z x0 zc h0 n0) P64 hh (ew hw) H64 d1_49 hret rfl rfl rfl hlk (by decide) (by decide) ?_
    exact ⟨_, _, rfl, N64, E0_3_65, (Nat.le_of_eq ha55.symm), St64⟩
theorem d6_0 : decode jdk_31_method_11_code 0 = .ok (.aload_n 0, 1) := by decide +kernel
theorem d6_1 : decode jdk_31_method_11_code 1 = .ok (.ifnonnull 12, 3) := by decide +kernel
theorem d6_4 : decode jdk_31_method_11_code 4 = .ok (.new 84, 3) := by decide +kernel
theorem d6_7 : decode jdk_31_method_11_code 7 = .ok (.dup, 1) := by decide +kernel
theorem d6_8 : decode jdk_31_method_11_code 8 = .ok (.aload_n 1, 1) := by decide +kernel
theorem d6_9 : decode jdk_31_method_11_code 9 = .ok (.invokespecial 87, 3) := by decide +kernel
theorem d6_12 : decode jdk_31_method_11_code 12 = .ok (.athrow, 1) := by decide +kernel
theorem d6_13 : decode jdk_31_method_11_code 13 = .ok (.aload_n 0, 1) := by decide +kernel
theorem d6_14 : decode jdk_31_method_11_code 14 = .ok (.areturn, 1) := by decide +kernel
theorem pn_6 : plainName "java/util/Objects" = true := by first | (simp [plainName, overriddenIn]; done) | decide +kernel
def QrmRnn (Z : State) (a1 : Addr) (a2 : Addr) (h0 : Heap) (n0 : Nat) (v : Option Value) (h : Heap) (L : List Loc) : Prop := v = some (.ref a1) ∧ Fr n0 L ∧ h = h0
set_option maxRecDepth 65536 in
set_option maxHeartbeats 40000000 in
theorem rmRnn (l : Launch) (Z : State) (a0 : Array Value) (hw : ∀ d ∈ tables_1, d.before a0 Z = true) (ws : List Jvm.Cond) (a1 : Addr) (a2 : Addr) (h0 : Heap) (n0 : Nat) (Z0 : n0 ≤ h0.size)  :
    MetFree l (⟨"java/util/Objects", "requireNonNull", "(Ljava/lang/Object;Ljava/lang/String;)Ljava/lang/Object;"⟩ : MethodName) (head1 (Jvm.Cond.code (⟨"java/util/Objects", "requireNonNull", "(Ljava/lang/Object;Ljava/lang/String;)Ljava/lang/Object;"⟩ : MethodName) jdk_31_method_11_code 2 (some (.object "java/lang/Object")) :: ws) ({ frames := 0, cells := 0, slots := 0, locals := 0 } : Room)) (fun a U => a = #[(.ref a1), (.ref a2)] ∧ Z.Warmed39 U.vm ∧ U.heap = h0) (fun _ _ _ _ _ => True) (fun _ U o U' => ∃ v L, o = .returned v ∧ QrmRnn Z a1 a2 h0 n0 v U'.heap L ∧ FrameEnd U o U' L ({ frames := 0, cells := 0, slots := 0, locals := 0 } : Room).cells ({ frames := 0, cells := 0, slots := 0, locals := 0 } : Room).slots) := by
  refine MetFree.of_bodySF (plainFor_of_name pn_6) hisR ?_
  intro p e s m args below meth c s₁ Bd hml0 hP hK
  obtain ⟨rfl, hZ, hh⟩ := hP
  have hml : c.maxLocals = 2 := hml0
  have hlk : meth.locks = false := Bd.notSynchronized
  have hret := Bd.returns
  have hnm := (name_of_methodNamed Bd.named Bd.method).1
  have P0 : Own.Wk Z "java/util/Objects" jdk_31_method_11_code h0 p l e ({ frames := 0, cells := 0, slots := 0, locals := 0 } : Room) s m #[(.ref a1), (.ref a2)] below meth c s₁ [] 0 0 := ⟨Stand.of_body Bd, Bd.exec, Bd.bytes, hZ, findClass_of_methodNamed Bd.named, by rw [← hh, Bd.state]; rfl⟩
  have N0 := Fr.nil n0
  show Own.Goes p.tables e below (fun s₂ o => ∃ v L, o = .returned v ∧ QrmRnn Z a1 a2 h0 n0 v s₂.heap L ∧ FrameEnd s o s₂ L ({ frames := 0, cells := 0, slots := 0, locals := 0 } : Room).cells ({ frames := 0, cells := 0, slots := 0, locals := 0 } : Room).slots) (s₁.setTop (entryFrame m #[(.ref a1), (.ref a2)] 2))
  rw [show entryFrame m #[(.ref a1), (.ref a2)] 2 = mkF m 0 #[.val (.ref a1), .val (.ref a2)] [] from by first | rfl | (simp [entryFrame, mkF, argsToLocals, Value.category]; done)]
  refine Own.aloadN (q := 1) P0 d6_0 rfl rfl rfl ?_
  refine Own.nonnullY (q := 13) P0 d6_1 (by decide) ?_
  refine Own.aloadN (q := 14) P0 d6_13 rfl rfl rfl ?_
  refine Own.retA (Q := QrmRnn Z a1 a2 h0 n0) P0 d6_14 hret rfl rfl rfl hlk (by decide) (by decide) ?_
  exact ⟨rfl, N0, rfl⟩
theorem d7_0 : decode prog_20_method_1_code 0 = .ok (.aload_n 0, 1) := by decide +kernel
theorem d7_1 : decode prog_20_method_1_code 1 = .ok (.invokespecial 1, 3) := by decide +kernel
theorem d7_4 : decode prog_20_method_1_code 4 = .ok (.aload_n 0, 1) := by decide +kernel
theorem d7_5 : decode prog_20_method_1_code 5 = .ok (.aload_n 1, 1) := by decide +kernel
theorem d7_6 : decode prog_20_method_1_code 6 = .ok (.ldc 7, 2) := by decide +kernel
theorem d7_8 : decode prog_20_method_1_code 8 = .ok (.invokestatic 9, 3) := by decide +kernel
theorem d7_11 : decode prog_20_method_1_code 11 = .ok (.checkcast 15, 3) := by decide +kernel
theorem d7_14 : decode prog_20_method_1_code 14 = .ok (.putfield 17, 3) := by decide +kernel
theorem d7_17 : decode prog_20_method_1_code 17 = .ok (.aload_n 0, 1) := by decide +kernel
theorem d7_18 : decode prog_20_method_1_code 18 = .ok (.aload_n 2, 1) := by decide +kernel
theorem d7_19 : decode prog_20_method_1_code 19 = .ok (.ldc 22, 2) := by decide +kernel
theorem d7_21 : decode prog_20_method_1_code 21 = .ok (.invokestatic 9, 3) := by decide +kernel
theorem d7_24 : decode prog_20_method_1_code 24 = .ok (.checkcast 15, 3) := by decide +kernel
theorem d7_27 : decode prog_20_method_1_code 27 = .ok (.putfield 24, 3) := by decide +kernel
theorem d7_30 : decode prog_20_method_1_code 30 = .ok (.aload_n 0, 1) := by decide +kernel
theorem d7_31 : decode prog_20_method_1_code 31 = .ok (.iload_n 3, 1) := by decide +kernel
theorem d7_32 : decode prog_20_method_1_code 32 = .ok (.putfield 26, 3) := by decide +kernel
theorem d7_35 : decode prog_20_method_1_code 35 = .ok (.aload_n 0, 1) := by decide +kernel
theorem d7_36 : decode prog_20_method_1_code 36 = .ok (.aload 4, 2) := by decide +kernel
theorem d7_38 : decode prog_20_method_1_code 38 = .ok (.putfield 30, 3) := by decide +kernel
theorem d7_41 : decode prog_20_method_1_code 41 = .ok (.return_, 1) := by decide +kernel
theorem pn_7 : plainName "com/example/restwright/restwright/core/Relationship" = true := by first | (simp [plainName, overriddenIn]; done) | decide +kernel
def QrmRel (Z : State) (a1 : Addr) (a2 : Addr) (a3 : Addr) (a4 : Addr) (u0 : Value) (u1 : Value) (u2 : Value) (u3 : Value) (h0 : Heap) (n0 : Nat) (v : Option Value) (h : Heap) (L : List Loc) : Prop := v = none ∧ Fr n0 L ∧ Keep h0 h [a1] ∧ Exa Z h a1 "com/example/restwright/restwright/core/Relationship" ∧ Fld Z h a1 "com/example/restwright/restwright/core/Relationship" "name" "Ljava/lang/String;" (.ref a2) ∧ Fld Z h a1 "com/example/restwright/restwright/core/Relationship" "target" "Ljava/lang/String;" (.ref a3) ∧ Fld Z h a1 "com/example/restwright/restwright/core/Relationship" "required" "Z" (.int 0) ∧ Fld Z h a1 "com/example/restwright/restwright/core/Relationship" "inverse" "Ljava/lang/String;" (.ref a4)
set_option maxRecDepth 65536 in
set_option maxHeartbeats 40000000 in
theorem rmRel (l : Launch) (Z : State) (a0 : Array Value) (hw : ∀ d ∈ tables_1, d.before a0 Z = true) (ws : List Jvm.Cond) (a1 : Addr) (a2 : Addr) (a3 : Addr) (a4 : Addr) (u0 : Value) (u1 : Value) (u2 : Value) (u3 : Value) (h0 : Heap) (n0 : Nat) (Z0 : n0 ≤ h0.size) (E_a1 : Exa Z h0 a1 "com/example/restwright/restwright/core/Relationship") (f0 : Fld Z h0 a1 "com/example/restwright/restwright/core/Relationship" "name" "Ljava/lang/String;" u0) (f1 : Fld Z h0 a1 "com/example/restwright/restwright/core/Relationship" "target" "Ljava/lang/String;" u1) (f2 : Fld Z h0 a1 "com/example/restwright/restwright/core/Relationship" "required" "Z" u2) (f3 : Fld Z h0 a1 "com/example/restwright/restwright/core/Relationship" "inverse" "Ljava/lang/String;" u3) (g_a1 : n0 ≤ a1) (E_a2 : Exa Z h0 a2 "java/lang/String") (E_a3 : Exa Z h0 a3 "java/lang/String") :
    MetFree l (⟨"com/example/restwright/restwright/core/Relationship", "<init>", "(Ljava/lang/String;Ljava/lang/String;ZLjava/lang/String;)V"⟩ : MethodName) (head1 (Jvm.Cond.code (⟨"com/example/restwright/restwright/core/Relationship", "<init>", "(Ljava/lang/String;Ljava/lang/String;ZLjava/lang/String;)V"⟩ : MethodName) prog_20_method_1_code 5 none :: ws) ({ frames := 1, cells := 4, slots := 48, locals := 15 } : Room)) (fun a U => a = #[(.ref a1), (.ref a2), (.ref a3), (.int (0 : Int32)), (.ref a4)] ∧ Z.Warmed39 U.vm ∧ U.heap = h0 ∧ CHv Z EL U.vm h0 ∧ ∀ x ∈ ([] : List Addr), Safe Z EL U.vm h0 x) (fun _ _ _ _ _ => True) (fun _ U o U' => ∃ v L, o = .returned v ∧ QrmRel Z a1 a2 a3 a4 u0 u1 u2 u3 h0 n0 v U'.heap L ∧ CHr Z EL U.vm U.heap U'.vm U'.heap ∧ ReturnedEndW U o U' L ({ frames := 1, cells := 4, slots := 48, locals := 15 } : Room).cells ({ frames := 1, cells := 4, slots := 48, locals := 15 } : Room).slots) := by
  refine MetFree.of_bodySF (plainFor_of_name pn_7) hisR ?_
  intro p e s m args below meth c s₁ Bd hml0 hP hK
  obtain ⟨rfl, hZ, hh, hCH, hSf⟩ := hP
  have hml : c.maxLocals = 5 := hml0
  have hlk : meth.locks = false := Bd.notSynchronized
  have hret := Bd.returns
  have hnm := (name_of_methodNamed Bd.named Bd.method).1
  have P0 : Own.Wk Z "com/example/restwright/restwright/core/Relationship" prog_20_method_1_code h0 p l e ({ frames := 1, cells := 4, slots := 48, locals := 15 } : Room) (s.setVm s.vm) m #[(.ref a1), (.ref a2), (.ref a3), (.int (0 : Int32)), (.ref a4)] below meth c s₁ [] 0 0 := ⟨Stand.of_body Bd, Bd.exec, Bd.bytes, hZ, findClass_of_methodNamed Bd.named, by rw [← hh, Bd.state]; rfl⟩
  have H0 : Own.Hd Z EL s s.vm h0 h0 := Own.Hd.start hCH
  have N0 := Fr.nil n0
  show Own.Goes p.tables e below (fun s₂ o => ∃ v L, o = .returned v ∧ QrmRel Z a1 a2 a3 a4 u0 u1 u2 u3 h0 n0 v s₂.heap L ∧ CHr Z EL s.vm s.heap s₂.vm s₂.heap ∧ ReturnedEndW s o s₂ L ({ frames := 1, cells := 4, slots := 48, locals := 15 } : Room).cells ({ frames := 1, cells := 4, slots := 48, locals := 15 } : Room).slots) (s₁.setTop (entryFrame m #[(.ref a1), (.ref a2), (.ref a3), (.int (0 : Int32)), (.ref a4)] 5))
  rw [show entryFrame m #[(.ref a1), (.ref a2), (.ref a3), (.int (0 : Int32)), (.ref a4)] 5 = mkF m 0 #[.val (.ref a1), .val (.ref a2), .val (.ref a3), .val (.int (0 : Int32)), .val (.ref a4)] [] from by first | rfl | (simp [entryFrame, mkF, argsToLocals, Value.category]; done)]
  refine Own.aloadN (q := 1) P0 d7_0 rfl rfl rfl ?_
  refine Own.objinit (q := 4) (W := 0) P0 d7_1 (hw _ (List.mem_of_getElem? (i := 41) rfl)) (hw _ (List.mem_of_getElem? (i := 16) rfl)) (hw _ (List.mem_of_getElem? (i := 17) rfl)) (by rw [hml]; rfl) (by decide) (by show 2 * 0 + _ ≤ _; exact Nat.le_of_eq rfl) (by decide) rfl ?_
  intro T21 P21
  refine Own.aloadN (q := 5) P21 d7_4 rfl rfl rfl ?_
  refine Own.aloadN (q := 6) P21 d7_5 rfl rfl rfl ?_
  refine Own.ldcStr (q := 8) (n := 16) (cs := [(110 : Int32), (97 : Int32), (109 : Int32), (101 : Int32)]) P21 H0 d7_6 (hw _ (List.mem_of_getElem? (i := 42) rfl)) (fun a ha => hw a (sub_str a ha)) (ew hw) (by decide) (by decide) (Own.chS (by decide) (Own.chS (by decide) (Own.chS (by decide) (Own.chS (by decide) Own.ch0)))) (by decide) (by decide) (by decide) (by decide) (by decide) (by decide) (by decide) rfl ?_
  intro T22 vm22 h22 a22 P22 H22 hr22 E22 St22
  have E0_1_23 : Ext h0 h22 := E22
  refine Own.invStatic (q := 11) (W := 1) (y := (⟨"java/util/Objects", "requireNonNull", "(Ljava/lang/Object;Ljava/lang/String;)Ljava/lang/Object;"⟩ : MethodName)) (argsL := [(.ref a2), (.ref a22)]) (rest := [(.ref a1)]) P22 d7_8 (hw _ (List.mem_of_getElem? (i := 33) rfl)) (hw _ (List.mem_of_getElem? (i := 34) rfl)) (hw _ (List.mem_of_getElem? (i := 35) rfl)) (hw _ (List.mem_of_getElem? (i := 36) rfl)) (by decide) (backOf (W := 1) (rmRnn l Z a0 hw [] a2 a22 h22 n0 (Nat.le_trans Z0 E0_1_23.1) ) P22.2.2.2.1 (hw _ (List.mem_of_getElem? (i := 36) rfl)) (hw _ (List.mem_of_getElem? (i := 35) rfl)) (by decide) (by decide)) rfl rfl (by rw [hml]; rfl) (lenOf (show parseMethodDescriptor "(Ljava/lang/Object;Ljava/lang/String;)Ljava/lang/Object;" = some ⟨[(.object "java/lang/Object"), (.object "java/lang/String")], some (.object "java/lang/Object")⟩ from by decide +kernel) rfl) (by show 2 * 0 + _ ≤ _; exact Nat.le_of_eq rfl) (by decide) (by decide) rfl ?_
  rintro v24 T24 h24 L24 ⟨rfl, N24q, e24⟩ P24
  rw [e24] at P24
  have N24 := Fr.app N0 N24q
  show Own.Goes _ _ _ _ (T24.setTop (mkF m 11 #[.val (.ref a1), .val (.ref a2), .val (.ref a3), .val (.int (0 : Int32)), .val (.ref a4)] [(.ref a2), (.ref a1)]))
  refine Own.castTo (q := 14) P24 d7_11 (hw _ (List.mem_of_getElem? (i := 37) rfl)) (Ins.self (E_a2.ext E0_1_23)) rfl ?_
  intro T25 P25
  refine Own.putfield (q := 17) P25 d7_14 (hw _ (List.mem_of_getElem? (i := 43) rfl)) (f0.ext E0_1_23) (E_a1.ext E0_1_23) (Or.inr ⟨(hw _ (List.mem_of_getElem? (i := 44) rfl)), rfl, hnm⟩) (hw _ (List.mem_of_getElem? (i := 31) rfl)) (ty := (.object "java/lang/String")) (by decide) rfl rfl rfl ?_
  intro T26 h26 lc26 hl26 P26 W26
  have F26_name := Fld.same W26 (f0.ext E0_1_23)
  have F26_target := (f1.ext E0_1_23).other W26 (Or.inr (slot_ne (Or.inr (hw _ (List.mem_of_getElem? (i := 47) rfl))) (Or.inr (hw _ (List.mem_of_getElem? (i := 44) rfl))) (by decide) (t := (.object "java/lang/String")) (t' := (.object "java/lang/String")) (by decide) (by decide)))
  have F26_required := (f2.ext E0_1_23).other W26 (Or.inr (slot_ne (Or.inr (hw _ (List.mem_of_getElem? (i := 49) rfl))) (Or.inr (hw _ (List.mem_of_getElem? (i := 44) rfl))) (by decide) (t := .boolean) (t' := (.object "java/lang/String")) (by decide) (by decide)))
  have F26_inverse := (f3.ext E0_1_23).other W26 (Or.inr (slot_ne (Or.inr (hw _ (List.mem_of_getElem? (i := 51) rfl))) (Or.inr (hw _ (List.mem_of_getElem? (i := 44) rfl))) (by decide) (t := (.object "java/lang/String")) (t' := (.object "java/lang/String")) (by decide) (by decide)))
  have A26 := (E_a1.ext E0_1_23).wr W26
  have N26 := Own.Fr.one N24 hl26 g_a1
  refine Own.aloadN (q := 18) P26 d7_17 rfl rfl rfl ?_
  refine Own.aloadN (q := 19) P26 d7_18 rfl rfl rfl ?_
  have Hd27 := (Own.Hd.wr H22 W26 (Safe.exa P26.2.2.2.1.alike (E_a1.ext E22) (by decide) (by decide)))
  refine Own.ldcStr (q := 21) (n := 24) (cs := [(116 : Int32), (97 : Int32), (114 : Int32), (103 : Int32), (101 : Int32), (116 : Int32)]) P26 Hd27 d7_19 (hw _ (List.mem_of_getElem? (i := 45) rfl)) (fun a ha => hw a (sub_str a ha)) (ew hw) (by decide) (by decide) (Own.chS (by decide) (Own.chS (by decide) (Own.chS (by decide) (Own.chS (by decide) (Own.chS (by decide) (Own.chS (by decide) Own.ch0)))))) (by decide) (by decide) (by decide) (by decide) (by decide) (by decide) (by decide) rfl ?_
  intro T28 vm28 h28 a28 P28 H28 hr28 E28 St28
  have Z1_29 : n0 ≤ h22.size := Nat.le_trans Z0 E22.1
  have Z2_30 : n0 ≤ h26.size := by rw [W26.size]; exact Z1_29
  have Z3_31 : n0 ≤ h28.size := Nat.le_trans Z2_30 E28.1
  refine Own.invStatic (q := 24) (W := 1) (y := (⟨"java/util/Objects", "requireNonNull", "(Ljava/lang/Object;Ljava/lang/String;)Ljava/lang/Object;"⟩ : MethodName)) (argsL := [(.ref a3), (.ref a28)]) (rest := [(.ref a1)]) P28 d7_21 (hw _ (List.mem_of_getElem? (i := 33) rfl)) (hw _ (List.mem_of_getElem? (i := 34) rfl)) (hw _ (List.mem_of_getElem? (i := 35) rfl)) (hw _ (List.mem_of_getElem? (i := 36) rfl)) (by decide) (backOf (W := 1) (rmRnn l Z a0 hw [] a3 a28 h28 n0 Z3_31 ) P28.2.2.2.1 (hw _ (List.mem_of_getElem? (i := 36) rfl)) (hw _ (List.mem_of_getElem? (i := 35) rfl)) (by decide) (by decide)) rfl rfl (by rw [hml]; rfl) (lenOf (show parseMethodDescriptor "(Ljava/lang/Object;Ljava/lang/String;)Ljava/lang/Object;" = some ⟨[(.object "java/lang/Object"), (.object "java/lang/String")], some (.object "java/lang/Object")⟩ from by decide +kernel) rfl) (by show 2 * 0 + _ ≤ _; exact Nat.le_of_eq rfl) (by decide) (by decide) rfl ?_
  rintro v32 T32 h32 L32 ⟨rfl, N32q, e32⟩ P32
  rw [e32] at P32
  have N32 := Fr.app N26 N32q
  show Own.Goes _ _ _ _ (T32.setTop (mkF m 24 #[.val (.ref a1), .val (.ref a2), .val (.ref a3), .val (.int (0 : Int32)), .val (.ref a4)] [(.ref a3), (.ref a1)]))
  have E2_3_33 : Ext h26 h28 := E28
  refine Own.castTo (q := 27) P32 d7_24 (hw _ (List.mem_of_getElem? (i := 37) rfl)) (Ins.self (((E_a3.ext E22).wr W26).ext E2_3_33)) rfl ?_
  intro T34 P34
  refine Own.putfield (q := 30) P34 d7_27 (hw _ (List.mem_of_getElem? (i := 46) rfl)) (F26_target.ext E2_3_33) (A26.ext E2_3_33) (Or.inr ⟨(hw _ (List.mem_of_getElem? (i := 47) rfl)), rfl, hnm⟩) (hw _ (List.mem_of_getElem? (i := 31) rfl)) (ty := (.object "java/lang/String")) (by decide) rfl rfl rfl ?_
  intro T35 h35 lc35 hl35 P35 W35
  have F35_name := (F26_name.ext E2_3_33).other W35 (Or.inr (slot_ne (Or.inr (hw _ (List.mem_of_getElem? (i := 44) rfl))) (Or.inr (hw _ (List.mem_of_getElem? (i := 47) rfl))) (by decide) (t := (.object "java/lang/String")) (t' := (.object "java/lang/String")) (by decide) (by decide)))
  have F35_target := Fld.same W35 (F26_target.ext E2_3_33)
  have F35_required := (F26_required.ext E2_3_33).other W35 (Or.inr (slot_ne (Or.inr (hw _ (List.mem_of_getElem? (i := 49) rfl))) (Or.inr (hw _ (List.mem_of_getElem? (i := 47) rfl))) (by decide) (t := .boolean) (t' := (.object "java/lang/String")) (by decide) (by decide)))
  have F35_inverse := (F26_inverse.ext E2_3_33).other W35 (Or.inr (slot_ne (Or.inr (hw _ (List.mem_of_getElem? (i := 51) rfl))) (Or.inr (hw _ (List.mem_of_getElem? (i := 47) rfl))) (by decide) (t := (.object "java/lang/String")) (t' := (.object "java/lang/String")) (by decide) (by decide)))
  have A35 := (A26.ext E2_3_33).wr W35
  have N35 := Own.Fr.one N32 hl35 g_a1
  refine Own.aloadN (q := 31) P35 d7_30 rfl rfl rfl ?_
  refine Own.iloadN (q := 32) P35 d7_31 rfl rfl ?_
  refine Own.putfield (q := 35) P35 d7_32 (hw _ (List.mem_of_getElem? (i := 48) rfl)) F35_required A35 (Or.inr ⟨(hw _ (List.mem_of_getElem? (i := 49) rfl)), rfl, hnm⟩) (hw _ (List.mem_of_getElem? (i := 31) rfl)) (ty := .boolean) (by decide) rfl rfl rfl ?_
  intro T36 h36 lc36 hl36 P36 W36
  have F36_name := F35_name.other W36 (Or.inr (slot_ne (Or.inr (hw _ (List.mem_of_getElem? (i := 44) rfl))) (Or.inr (hw _ (List.mem_of_getElem? (i := 49) rfl))) (by decide) (t := (.object "java/lang/String")) (t' := .boolean) (by decide) (by decide)))
  have F36_target := F35_target.other W36 (Or.inr (slot_ne (Or.inr (hw _ (List.mem_of_getElem? (i := 47) rfl))) (Or.inr (hw _ (List.mem_of_getElem? (i := 49) rfl))) (by decide) (t := (.object "java/lang/String")) (t' := .boolean) (by decide) (by decide)))
  have F36_required := Fld.same W36 F35_required
  have F36_inverse := F35_inverse.other W36 (Or.inr (slot_ne (Or.inr (hw _ (List.mem_of_getElem? (i := 51) rfl))) (Or.inr (hw _ (List.mem_of_getElem? (i := 49) rfl))) (by decide) (t := (.object "java/lang/String")) (t' := .boolean) (by decide) (by decide)))
  have A36 := A35.wr W36
  have N36 := Own.Fr.one N35 hl36 g_a1
  refine Own.aloadN (q := 36) P36 d7_35 rfl rfl rfl ?_
  refine Own.aload (q := 38) P36 d7_36 rfl rfl rfl ?_
  refine Own.putfield (q := 41) P36 d7_38 (hw _ (List.mem_of_getElem? (i := 50) rfl)) F36_inverse A36 (Or.inr ⟨(hw _ (List.mem_of_getElem? (i := 51) rfl)), rfl, hnm⟩) (hw _ (List.mem_of_getElem? (i := 31) rfl)) (ty := (.object "java/lang/String")) (by decide) rfl rfl rfl ?_
  intro T37 h37 lc37 hl37 P37 W37
  have F37_name := F36_name.other W37 (Or.inr (slot_ne (Or.inr (hw _ (List.mem_of_getElem? (i := 44) rfl))) (Or.inr (hw _ (List.mem_of_getElem? (i := 51) rfl))) (by decide) (t := (.object "java/lang/String")) (t' := (.object "java/lang/String")) (by decide) (by decide)))
  have F37_target := F36_target.other W37 (Or.inr (slot_ne (Or.inr (hw _ (List.mem_of_getElem? (i := 47) rfl))) (Or.inr (hw _ (List.mem_of_getElem? (i := 51) rfl))) (by decide) (t := (.object "java/lang/String")) (t' := (.object "java/lang/String")) (by decide) (by decide)))
  have F37_required := F36_required.other W37 (Or.inr (slot_ne (Or.inr (hw _ (List.mem_of_getElem? (i := 49) rfl))) (Or.inr (hw _ (List.mem_of_getElem? (i := 51) rfl))) (by decide) (t := .boolean) (t' := (.object "java/lang/String")) (by decide) (by decide)))
  have F37_inverse := Fld.same W37 F36_inverse
  have A37 := A36.wr W37
  have N37 := Own.Fr.one N36 hl37 g_a1
  have Hd38 := (Own.Hd.wr H28 W35 (Safe.exa P37.2.2.2.1.alike (A26.ext E28) (by decide) (by decide)))
  have Hd39 := (Own.Hd.wr Hd38 W36 (Safe.exa P37.2.2.2.1.alike A35 (by decide) (by decide)))
  have Hd40 := (Own.Hd.wr Hd39 W37 (Safe.exa P37.2.2.2.1.alike A36 (by decide) (by decide)))
  refine Own.retVH (Q := QrmRel Z a1 a2 a3 a4 u0 u1 u2 u3 h0 n0) P37 hh (ew hw) Hd40 d7_41 hret hlk (by decide) (by decide) ?_
  exact ⟨rfl, N37, (Keep.wr (Keep.wr (Keep.wr (Keep.ext (Keep.wr (Keep.ext (Keep.refl h0 _) E22) W26 (Or.inl (by simp))) E28) W35 (Or.inl (by simp))) W36 (Or.inl (by simp))) W37 (Or.inl (by simp))), A37, F37_name, F37_target, F37_required, F37_inverse⟩
theorem d5_0 : decode prog_20_method_3_code 0 = .ok (.new 18, 3) := by decide +kernel
theorem d5_3 : decode prog_20_method_3_code 3 = .ok (.dup, 1) := by decide +kernel
theorem d5_4 : decode prog_20_method_3_code 4 = .ok (.aload_n 0, 1) := by decide +kernel
theorem d5_5 : decode prog_20_method_3_code 5 = .ok (.aload_n 1, 1) := by decide +kernel
theorem d5_6 : decode prog_20_method_3_code 6 = .ok (.iconst 0, 1) := by decide +kernel
theorem d5_7 : decode prog_20_method_3_code 7 = .ok (.aload_n 2, 1) := by decide +kernel
theorem d5_8 : decode prog_20_method_3_code 8 = .ok (.ldc 36, 2) := by decide +kernel
theorem d5_10 : decode prog_20_method_3_code 10 = .ok (.invokestatic 9, 3) := by decide +kernel
theorem d5_13 : decode prog_20_method_3_code 13 = .ok (.checkcast 15, 3) := by decide +kernel
theorem d5_16 : decode prog_20_method_3_code 16 = .ok (.invokespecial 33, 3) := by decide +kernel
theorem d5_19 : decode prog_20_method_3_code 19 = .ok (.areturn, 1) := by decide +kernel
theorem pn_5 : plainName "com/example/restwright/restwright/core/Relationship" = true := by first | (simp [plainName, overriddenIn]; done) | decide +kernel
def QrmTo (Z : State) (b1 : Addr) (b2 : Addr) (b3 : Addr) (h0 : Heap) (n0 : Nat) (v : Option Value) (h : Heap) (L : List Loc) : Prop := ∃ r, v = some (.ref r) ∧ Fr n0 L ∧ Ext h0 h ∧ Exa Z h r "com/example/restwright/restwright/core/Relationship" ∧ Fld Z h r "com/example/restwright/restwright/core/Relationship" "name" "Ljava/lang/String;" (.ref b1) ∧ Fld Z h r "com/example/restwright/restwright/core/Relationship" "target" "Ljava/lang/String;" (.ref b2) ∧ Fld Z h r "com/example/restwright/restwright/core/Relationship" "required" "Z" (.int 0) ∧ Fld Z h r "com/example/restwright/restwright/core/Relationship" "inverse" "Ljava/lang/String;" (.ref b3)
set_option maxRecDepth 65536 in
set_option maxHeartbeats 40000000 in
theorem rmTo (l : Launch) (Z : State) (a0 : Array Value) (hw : ∀ d ∈ tables_1, d.before a0 Z = true) (ws : List Jvm.Cond) (b1 : Addr) (b2 : Addr) (b3 : Addr) (h0 : Heap) (n0 : Nat) (Z0 : n0 ≤ h0.size) (E_b1 : Exa Z h0 b1 "java/lang/String") (E_b2 : Exa Z h0 b2 "java/lang/String") (E_b3 : Exa Z h0 b3 "java/lang/String") :
    MetFree l (⟨"com/example/restwright/restwright/core/Relationship", "toMany", "(Ljava/lang/String;Ljava/lang/String;Ljava/lang/String;)Lcom/example/restwright/restwright/core/Relationship;"⟩ : MethodName) (head1 (Jvm.Cond.code (⟨"com/example/restwright/restwright/core/Relationship", "toMany", "(Ljava/lang/String;Ljava/lang/String;Ljava/lang/String;)Lcom/example/restwright/restwright/core/Relationship;"⟩ : MethodName) prog_20_method_3_code 3 (some (.object "com/example/restwright/restwright/core/Relationship")) :: ws) ({ frames := 2, cells := 7, slots := 84, locals := 36 } : Room)) (fun a U => a = #[(.ref b1), (.ref b2), (.ref b3)] ∧ Z.Warmed39 U.vm ∧ U.heap = h0 ∧ CHv Z EL U.vm h0 ∧ ∀ x ∈ ([] : List Addr), Safe Z EL U.vm h0 x) (fun _ _ _ _ _ => True) (fun _ U o U' => ∃ v L, o = .returned v ∧ QrmTo Z b1 b2 b3 h0 n0 v U'.heap L ∧ CHr Z EL U.vm U.heap U'.vm U'.heap ∧ ReturnedEndW U o U' L ({ frames := 2, cells := 7, slots := 84, locals := 36 } : Room).cells ({ frames := 2, cells := 7, slots := 84, locals := 36 } : Room).slots) := by
  refine MetFree.of_bodySF (plainFor_of_name pn_5) hisR ?_
  intro p e s m args below meth c s₁ Bd hml0 hP hK
  obtain ⟨rfl, hZ, hh, hCH, hSf⟩ := hP
  have hml : c.maxLocals = 3 := hml0
  have hlk : meth.locks = false := Bd.notSynchronized
  have hret := Bd.returns
  have hnm := (name_of_methodNamed Bd.named Bd.method).1
  have P0 : Own.Wk Z "com/example/restwright/restwright/core/Relationship" prog_20_method_3_code h0 p l e ({ frames := 2, cells := 7, slots := 84, locals := 36 } : Room) (s.setVm s.vm) m #[(.ref b1), (.ref b2), (.ref b3)] below meth c s₁ [] 0 0 := ⟨Stand.of_body Bd, Bd.exec, Bd.bytes, hZ, findClass_of_methodNamed Bd.named, by rw [← hh, Bd.state]; rfl⟩
  have H0 : Own.Hd Z EL s s.vm h0 h0 := Own.Hd.start hCH
  have N0 := Fr.nil n0
  show Own.Goes p.tables e below (fun s₂ o => ∃ v L, o = .returned v ∧ QrmTo Z b1 b2 b3 h0 n0 v s₂.heap L ∧ CHr Z EL s.vm s.heap s₂.vm s₂.heap ∧ ReturnedEndW s o s₂ L ({ frames := 2, cells := 7, slots := 84, locals := 36 } : Room).cells ({ frames := 2, cells := 7, slots := 84, locals := 36 } : Room).slots) (s₁.setTop (entryFrame m #[(.ref b1), (.ref b2), (.ref b3)] 3))
  rw [show entryFrame m #[(.ref b1), (.ref b2), (.ref b3)] 3 = mkF m 0 #[.val (.ref b1), .val (.ref b2), .val (.ref b3)] [] from by first | rfl | (simp [entryFrame, mkF, argsToLocals, Value.category]; done)]
  refine Own.newobj (q := 3) P0 d5_0 (hw _ (List.mem_of_getElem? (i := 30) rfl)) (hw _ (List.mem_of_getElem? (i := 31) rfl)) (hw _ (List.mem_of_getElem? (i := 28) rfl)) (by decide) (by decide) rfl ?_
  intro T21 h21 a21 ha21 P21 E21 A21 D21
  have F21_name : Fld Z h21 a21 "com/example/restwright/restwright/core/Relationship" "name" "Ljava/lang/String;" .null := D21 (Or.inr (hw _ (List.mem_of_getElem? (i := 44) rfl))) (ty := (.object "java/lang/String")) (by decide)
  have F21_target : Fld Z h21 a21 "com/example/restwright/restwright/core/Relationship" "target" "Ljava/lang/String;" .null := D21 (Or.inr (hw _ (List.mem_of_getElem? (i := 47) rfl))) (ty := (.object "java/lang/String")) (by decide)
  have F21_required : Fld Z h21 a21 "com/example/restwright/restwright/core/Relationship" "required" "Z" (.int (0 : Int32)) := D21 (Or.inr (hw _ (List.mem_of_getElem? (i := 49) rfl))) (ty := .boolean) (by decide)
  have F21_inverse : Fld Z h21 a21 "com/example/restwright/restwright/core/Relationship" "inverse" "Ljava/lang/String;" .null := D21 (Or.inr (hw _ (List.mem_of_getElem? (i := 51) rfl))) (ty := (.object "java/lang/String")) (by decide)
  refine Own.dup (q := 4) P21 d5_3 rfl rfl ?_
  refine Own.aloadN (q := 5) P21 d5_4 rfl rfl rfl ?_
  refine Own.aloadN (q := 6) P21 d5_5 rfl rfl rfl ?_
  refine Own.iconst (q := 7) (v := (0 : Int32)) P21 d5_6 rfl rfl ?_
  refine Own.aloadN (q := 8) P21 d5_7 rfl rfl rfl ?_
  have E0_1_22 : Ext h0 h21 := E21
  have Hd23 := (H0.ext E0_1_22)
  refine Own.ldcStr (q := 10) (n := 28) (cs := [(105 : Int32), (110 : Int32), (118 : Int32), (101 : Int32), (114 : Int32), (115 : Int32), (101 : Int32)]) P21 Hd23 d5_8 (hw _ (List.mem_of_getElem? (i := 32) rfl)) (fun a ha => hw a (sub_str a ha)) (ew hw) (by decide) (by decide) (Own.chS (by decide) (Own.chS (by decide) (Own.chS (by decide) (Own.chS (by decide) (Own.chS (by decide) (Own.chS (by decide) (Own.chS (by decide) Own.ch0))))))) (by decide) (by decide) (by decide) (by decide) (by decide) (by decide) (by decide) rfl ?_
  intro T24 vm24 h24 a24 P24 H24 hr24 E24 St24
  have E0_2_25 : Ext h0 h24 := (Own.Ext.tr E0_1_22 E24)
  refine Own.invStatic (q := 13) (W := 5) (y := (⟨"java/util/Objects", "requireNonNull", "(Ljava/lang/Object;Ljava/lang/String;)Ljava/lang/Object;"⟩ : MethodName)) (argsL := [(.ref b3), (.ref a24)]) (rest := [(.int (0 : Int32)), (.ref b2), (.ref b1), (.ref a21), (.ref a21)]) P24 d5_10 (hw _ (List.mem_of_getElem? (i := 33) rfl)) (hw _ (List.mem_of_getElem? (i := 34) rfl)) (hw _ (List.mem_of_getElem? (i := 35) rfl)) (hw _ (List.mem_of_getElem? (i := 36) rfl)) (by decide) (backOf (W := 5) (rmRnn l Z a0 hw [] b3 a24 h24 n0 (Nat.le_trans Z0 E0_2_25.1) ) P24.2.2.2.1 (hw _ (List.mem_of_getElem? (i := 36) rfl)) (hw _ (List.mem_of_getElem? (i := 35) rfl)) (by decide) (by decide)) rfl rfl (by rw [hml]; rfl) (lenOf (show parseMethodDescriptor "(Ljava/lang/Object;Ljava/lang/String;)Ljava/lang/Object;" = some ⟨[(.object "java/lang/Object"), (.object "java/lang/String")], some (.object "java/lang/Object")⟩ from by decide +kernel) rfl) (by show 2 * 0 + _ ≤ _; exact Nat.le_of_eq rfl) (by decide) (by decide) rfl ?_
  rintro v26 T26 h26 L26 ⟨rfl, N26q, e26⟩ P26
  rw [e26] at P26
  have N26 := Fr.app N0 N26q
  show Own.Goes _ _ _ _ (T26.setTop (mkF m 13 #[.val (.ref b1), .val (.ref b2), .val (.ref b3)] [(.ref b3), (.int (0 : Int32)), (.ref b2), (.ref b1), (.ref a21), (.ref a21)]))
  refine Own.castTo (q := 16) P26 d5_13 (hw _ (List.mem_of_getElem? (i := 37) rfl)) (Ins.self (E_b3.ext E0_2_25)) rfl ?_
  intro T27 P27
  have E1_2_28 : Ext h21 h24 := E24
  refine Own.invSpecialH (q := 19) (W := 1) (y := (⟨"com/example/restwright/restwright/core/Relationship", "<init>", "(Ljava/lang/String;Ljava/lang/String;ZLjava/lang/String;)V"⟩ : MethodName)) (a := a21) (argsL := [(.ref b1), (.ref b2), (.int (0 : Int32)), (.ref b3)]) (rest := [(.ref a21)]) P27 H24 d5_16 rfl (hw _ (List.mem_of_getElem? (i := 38) rfl)) (hw _ (List.mem_of_getElem? (i := 39) rfl)) (hw _ (List.mem_of_getElem? (i := 40) rfl)) (by decide) (Own.backH (W := 1) (rmRel l Z a0 hw [] a21 b1 b2 b3 .null .null (.int (0 : Int32)) .null h24 n0 (Nat.le_trans Z0 E0_2_25.1) (A21.ext E1_2_28) (F21_name.ext E1_2_28) (F21_target.ext E1_2_28) (F21_required.ext E1_2_28) (F21_inverse.ext E1_2_28) (Nat.le_trans Z0 (Nat.le_of_eq ha21.symm)) (E_b1.ext E0_2_25) (E_b2.ext E0_2_25)) P27.2.2.2.1 (hw _ (List.mem_of_getElem? (i := 40) rfl)) (hw _ (List.mem_of_getElem? (i := 28) rfl)) (by decide) (by decide) (ew hw) H24.2.1 all0) rfl rfl (by rw [hml]; rfl) (lenOf (show parseMethodDescriptor "(Ljava/lang/String;Ljava/lang/String;ZLjava/lang/String;)V" = some ⟨[(.object "java/lang/String"), (.object "java/lang/String"), .boolean, (.object "java/lang/String")], none⟩ from by decide +kernel) rfl) (by show 2 * 0 + _ ≤ _; exact Nat.le_of_eq rfl) (by decide) (by decide) rfl ?_
  rintro v29 T29 vm29 h29 L29 ⟨rfl, N29q, K29, G29, F29a, F29b, F29c, F29d⟩ P29 H29 hr29
  have N29 := Fr.app N26 N29q
  show Own.Goes _ _ _ _ (T29.setTop (mkF m 19 #[.val (.ref b1), .val (.ref b2), .val (.ref b3)] [(.ref a21)]))
  have E0_3_30 : Ext h0 h29 := (Own.Ext.kp E0_2_25 K29 (allS (Nat.le_of_eq ha21.symm) all0))
  refine Own.retAH (Q := QrmTo Z b1 b2 b3 h0 n0) P29 hh (ew hw) H29 d5_19 hret rfl rfl rfl hlk (by decide) (by decide) ?_
  exact ⟨_, rfl, N29, E0_3_30, G29, F29a, F29b, F29c, F29d⟩
theorem d8_0 : decode prog_20_method_4_code 0 = .ok (.aload_n 0, 1) := by decide +kernel
theorem d8_1 : decode prog_20_method_4_code 1 = .ok (.getfield 17, 3) := by decide +kernel
theorem d8_4 : decode prog_20_method_4_code 4 = .ok (.areturn, 1) := by decide +kernel
theorem pn_8 : plainName "com/example/restwright/restwright/core/Relationship" = true := by first | (simp [plainName, overriddenIn]; done) | decide +kernel
def QrmG1 (Z : State) (a1 : Addr) (b1 : Addr) (h0 : Heap) (n0 : Nat) (v : Option Value) (h : Heap) (L : List Loc) : Prop := v = some (.ref b1) ∧ Fr n0 L ∧ h = h0
set_option maxRecDepth 65536 in
set_option maxHeartbeats 40000000 in
theorem rmG1 (l : Launch) (Z : State) (a0 : Array Value) (hw : ∀ d ∈ tables_1, d.before a0 Z = true) (ws : List Jvm.Cond) (a1 : Addr) (b1 : Addr) (h0 : Heap) (n0 : Nat) (Z0 : n0 ≤ h0.size) (f1 : Fld Z h0 a1 "com/example/restwright/restwright/core/Relationship" "name" "Ljava/lang/String;" (.ref b1)) :
    MetFree l (⟨"com/example/restwright/restwright/core/Relationship", "name", "()Ljava/lang/String;"⟩ : MethodName) (head1 (Jvm.Cond.code (⟨"com/example/restwright/restwright/core/Relationship", "name", "()Ljava/lang/String;"⟩ : MethodName) prog_20_method_4_code 1 (some (.object "java/lang/String")) :: ws) ({ frames := 0, cells := 0, slots := 0, locals := 0 } : Room)) (fun a U => a = #[(.ref a1)] ∧ Z.Warmed39 U.vm ∧ U.heap = h0) (fun _ _ _ _ _ => True) (fun _ U o U' => ∃ v L, o = .returned v ∧ QrmG1 Z a1 b1 h0 n0 v U'.heap L ∧ FrameEnd U o U' L ({ frames := 0, cells := 0, slots := 0, locals := 0 } : Room).cells ({ frames := 0, cells := 0, slots := 0, locals := 0 } : Room).slots) := by
  refine MetFree.of_bodySF (plainFor_of_name pn_8) hisR ?_
  intro p e s m args below meth c s₁ Bd hml0 hP hK
  obtain ⟨rfl, hZ, hh⟩ := hP
  have hml : c.maxLocals = 1 := hml0
  have hlk : meth.locks = false := Bd.notSynchronized
  have hret := Bd.returns
  have hnm := (name_of_methodNamed Bd.named Bd.method).1
  have P0 : Own.Wk Z "com/example/restwright/restwright/core/Relationship" prog_20_method_4_code h0 p l e ({ frames := 0, cells := 0, slots := 0, locals := 0 } : Room) s m #[(.ref a1)] below meth c s₁ [] 0 0 := ⟨Stand.of_body Bd, Bd.exec, Bd.bytes, hZ, findClass_of_methodNamed Bd.named, by rw [← hh, Bd.state]; rfl⟩
  have N0 := Fr.nil n0
  show Own.Goes p.tables e below (fun s₂ o => ∃ v L, o = .returned v ∧ QrmG1 Z a1 b1 h0 n0 v s₂.heap L ∧ FrameEnd s o s₂ L ({ frames := 0, cells := 0, slots := 0, locals := 0 } : Room).cells ({ frames := 0, cells := 0, slots := 0, locals := 0 } : Room).slots) (s₁.setTop (entryFrame m #[(.ref a1)] 1))
  rw [show entryFrame m #[(.ref a1)] 1 = mkF m 0 #[.val (.ref a1)] [] from by first | rfl | (simp [entryFrame, mkF, argsToLocals, Value.category]; done)]
  refine Own.aloadN (q := 1) P0 d8_0 rfl rfl rfl ?_
  refine Own.getfield (q := 4) P0 d8_1 (hw _ (List.mem_of_getElem? (i := 43) rfl)) f1 rfl ?_
  intro T21 P21
  refine Own.retA (Q := QrmG1 Z a1 b1 h0 n0) P21 d8_4 hret rfl rfl rfl hlk (by decide) (by decide) ?_
  exact ⟨rfl, N0, rfl⟩
theorem d10_0 : decode prog_20_method_5_code 0 = .ok (.aload_n 0, 1) := by decide +kernel
theorem d10_1 : decode prog_20_method_5_code 1 = .ok (.getfield 24, 3) := by decide +kernel
theorem d10_4 : decode prog_20_method_5_code 4 = .ok (.areturn, 1) := by decide +kernel
theorem pn_10 : plainName "com/example/restwright/restwright/core/Relationship" = true := by first | (simp [plainName, overriddenIn]; done) | decide +kernel
def QrmG2 (Z : State) (a1 : Addr) (b1 : Addr) (h0 : Heap) (n0 : Nat) (v : Option Value) (h : Heap) (L : List Loc) : Prop := v = some (.ref b1) ∧ Fr n0 L ∧ h = h0
set_option maxRecDepth 65536 in
set_option maxHeartbeats 40000000 in
theorem rmG2 (l : Launch) (Z : State) (a0 : Array Value) (hw : ∀ d ∈ tables_1, d.before a0 Z = true) (ws : List Jvm.Cond) (a1 : Addr) (b1 : Addr) (h0 : Heap) (n0 : Nat) (Z0 : n0 ≤ h0.size) (f1 : Fld Z h0 a1 "com/example/restwright/restwright/core/Relationship" "target" "Ljava/lang/String;" (.ref b1)) :
    MetFree l (⟨"com/example/restwright/restwright/core/Relationship", "target", "()Ljava/lang/String;"⟩ : MethodName) (head1 (Jvm.Cond.code (⟨"com/example/restwright/restwright/core/Relationship", "target", "()Ljava/lang/String;"⟩ : MethodName) prog_20_method_5_code 1 (some (.object "java/lang/String")) :: ws) ({ frames := 0, cells := 0, slots := 0, locals := 0 } : Room)) (fun a U => a = #[(.ref a1)] ∧ Z.Warmed39 U.vm ∧ U.heap = h0) (fun _ _ _ _ _ => True) (fun _ U o U' => ∃ v L, o = .returned v ∧ QrmG2 Z a1 b1 h0 n0 v U'.heap L ∧ FrameEnd U o U' L ({ frames := 0, cells := 0, slots := 0, locals := 0 } : Room).cells ({ frames := 0, cells := 0, slots := 0, locals := 0 } : Room).slots) := by
  refine MetFree.of_bodySF (plainFor_of_name pn_10) hisR ?_
  intro p e s m args below meth c s₁ Bd hml0 hP hK
  obtain ⟨rfl, hZ, hh⟩ := hP
  have hml : c.maxLocals = 1 := hml0
  have hlk : meth.locks = false := Bd.notSynchronized
  have hret := Bd.returns
  have hnm := (name_of_methodNamed Bd.named Bd.method).1
  have P0 : Own.Wk Z "com/example/restwright/restwright/core/Relationship" prog_20_method_5_code h0 p l e ({ frames := 0, cells := 0, slots := 0, locals := 0 } : Room) s m #[(.ref a1)] below meth c s₁ [] 0 0 := ⟨Stand.of_body Bd, Bd.exec, Bd.bytes, hZ, findClass_of_methodNamed Bd.named, by rw [← hh, Bd.state]; rfl⟩
  have N0 := Fr.nil n0
  show Own.Goes p.tables e below (fun s₂ o => ∃ v L, o = .returned v ∧ QrmG2 Z a1 b1 h0 n0 v s₂.heap L ∧ FrameEnd s o s₂ L ({ frames := 0, cells := 0, slots := 0, locals := 0 } : Room).cells ({ frames := 0, cells := 0, slots := 0, locals := 0 } : Room).slots) (s₁.setTop (entryFrame m #[(.ref a1)] 1))
  rw [show entryFrame m #[(.ref a1)] 1 = mkF m 0 #[.val (.ref a1)] [] from by first | rfl | (simp [entryFrame, mkF, argsToLocals, Value.category]; done)]
  refine Own.aloadN (q := 1) P0 d10_0 rfl rfl rfl ?_
  refine Own.getfield (q := 4) P0 d10_1 (hw _ (List.mem_of_getElem? (i := 46) rfl)) f1 rfl ?_
  intro T21 P21
  refine Own.retA (Q := QrmG2 Z a1 b1 h0 n0) P21 d10_4 hret rfl rfl rfl hlk (by decide) (by decide) ?_
  exact ⟨rfl, N0, rfl⟩
theorem d11_0 : decode prog_20_method_6_code 0 = .ok (.aload_n 0, 1) := by decide +kernel
theorem d11_1 : decode prog_20_method_6_code 1 = .ok (.getfield 26, 3) := by decide +kernel
theorem d11_4 : decode prog_20_method_6_code 4 = .ok (.ireturn, 1) := by decide +kernel
theorem pn_11 : plainName "com/example/restwright/restwright/core/Relationship" = true := by first | (simp [plainName, overriddenIn]; done) | decide +kernel
def QrmG3 (Z : State) (a1 : Addr) (h0 : Heap) (n0 : Nat) (v : Option Value) (h : Heap) (L : List Loc) : Prop := v = some (.int 0) ∧ Fr n0 L ∧ h = h0
set_option maxRecDepth 65536 in
set_option maxHeartbeats 40000000 in
theorem rmG3 (l : Launch) (Z : State) (a0 : Array Value) (hw : ∀ d ∈ tables_1, d.before a0 Z = true) (ws : List Jvm.Cond) (a1 : Addr) (h0 : Heap) (n0 : Nat) (Z0 : n0 ≤ h0.size) (f1 : Fld Z h0 a1 "com/example/restwright/restwright/core/Relationship" "required" "Z" (.int 0)) :
    MetFree l (⟨"com/example/restwright/restwright/core/Relationship", "required", "()Z"⟩ : MethodName) (head1 (Jvm.Cond.code (⟨"com/example/restwright/restwright/core/Relationship", "required", "()Z"⟩ : MethodName) prog_20_method_6_code 1 (some .boolean) :: ws) ({ frames := 0, cells := 0, slots := 0, locals := 0 } : Room)) (fun a U => a = #[(.ref a1)] ∧ Z.Warmed39 U.vm ∧ U.heap = h0) (fun _ _ _ _ _ => True) (fun _ U o U' => ∃ v L, o = .returned v ∧ QrmG3 Z a1 h0 n0 v U'.heap L ∧ FrameEnd U o U' L ({ frames := 0, cells := 0, slots := 0, locals := 0 } : Room).cells ({ frames := 0, cells := 0, slots := 0, locals := 0 } : Room).slots) := by
  refine MetFree.of_bodySF (plainFor_of_name pn_11) hisR ?_
  intro p e s m args below meth c s₁ Bd hml0 hP hK
  obtain ⟨rfl, hZ, hh⟩ := hP
  have hml : c.maxLocals = 1 := hml0
  have hlk : meth.locks = false := Bd.notSynchronized
  have hret := Bd.returns
  have hnm := (name_of_methodNamed Bd.named Bd.method).1
  have P0 : Own.Wk Z "com/example/restwright/restwright/core/Relationship" prog_20_method_6_code h0 p l e ({ frames := 0, cells := 0, slots := 0, locals := 0 } : Room) s m #[(.ref a1)] below meth c s₁ [] 0 0 := ⟨Stand.of_body Bd, Bd.exec, Bd.bytes, hZ, findClass_of_methodNamed Bd.named, by rw [← hh, Bd.state]; rfl⟩
  have N0 := Fr.nil n0
  show Own.Goes p.tables e below (fun s₂ o => ∃ v L, o = .returned v ∧ QrmG3 Z a1 h0 n0 v s₂.heap L ∧ FrameEnd s o s₂ L ({ frames := 0, cells := 0, slots := 0, locals := 0 } : Room).cells ({ frames := 0, cells := 0, slots := 0, locals := 0 } : Room).slots) (s₁.setTop (entryFrame m #[(.ref a1)] 1))
  rw [show entryFrame m #[(.ref a1)] 1 = mkF m 0 #[.val (.ref a1)] [] from by first | rfl | (simp [entryFrame, mkF, argsToLocals, Value.category]; done)]
  refine Own.aloadN (q := 1) P0 d11_0 rfl rfl rfl ?_
  refine Own.getfield (q := 4) P0 d11_1 (hw _ (List.mem_of_getElem? (i := 48) rfl)) f1 rfl ?_
  intro T21 P21
  refine Own.retZ (Q := QrmG3 Z a1 h0 n0) P21 d11_4 hret (by simp) hlk (by decide) (by decide) ?_
  exact ⟨rfl, N0, rfl⟩
theorem d12_0 : decode prog_20_method_7_code 0 = .ok (.aload_n 0, 1) := by decide +kernel
theorem d12_1 : decode prog_20_method_7_code 1 = .ok (.getfield 30, 3) := by decide +kernel
theorem d12_4 : decode prog_20_method_7_code 4 = .ok (.ifnull 7, 3) := by decide +kernel
theorem d12_7 : decode prog_20_method_7_code 7 = .ok (.iconst 1, 1) := by decide +kernel
theorem d12_8 : decode prog_20_method_7_code 8 = .ok (.goto 4, 3) := by decide +kernel
theorem d12_11 : decode prog_20_method_7_code 11 = .ok (.iconst 0, 1) := by decide +kernel
theorem d12_12 : decode prog_20_method_7_code 12 = .ok (.ireturn, 1) := by decide +kernel
theorem pn_12 : plainName "com/example/restwright/restwright/core/Relationship" = true := by first | (simp [plainName, overriddenIn]; done) | decide +kernel
def QrmG4 (Z : State) (a1 : Addr) (b1 : Addr) (h0 : Heap) (n0 : Nat) (v : Option Value) (h : Heap) (L : List Loc) : Prop := v = some (.int 1) ∧ Fr n0 L ∧ h = h0
set_option maxRecDepth 65536 in
set_option maxHeartbeats 40000000 in
theorem rmG4 (l : Launch) (Z : State) (a0 : Array Value) (hw : ∀ d ∈ tables_1, d.before a0 Z = true) (ws : List Jvm.Cond) (a1 : Addr) (b1 : Addr) (h0 : Heap) (n0 : Nat) (Z0 : n0 ≤ h0.size) (f1 : Fld Z h0 a1 "com/example/restwright/restwright/core/Relationship" "inverse" "Ljava/lang/String;" (.ref b1)) :
    MetFree l (⟨"com/example/restwright/restwright/core/Relationship", "toMany", "()Z"⟩ : MethodName) (head1 (Jvm.Cond.code (⟨"com/example/restwright/restwright/core/Relationship", "toMany", "()Z"⟩ : MethodName) prog_20_method_7_code 1 (some .boolean) :: ws) ({ frames := 0, cells := 0, slots := 0, locals := 0 } : Room)) (fun a U => a = #[(.ref a1)] ∧ Z.Warmed39 U.vm ∧ U.heap = h0) (fun _ _ _ _ _ => True) (fun _ U o U' => ∃ v L, o = .returned v ∧ QrmG4 Z a1 b1 h0 n0 v U'.heap L ∧ FrameEnd U o U' L ({ frames := 0, cells := 0, slots := 0, locals := 0 } : Room).cells ({ frames := 0, cells := 0, slots := 0, locals := 0 } : Room).slots) := by
  refine MetFree.of_bodySF (plainFor_of_name pn_12) hisR ?_
  intro p e s m args below meth c s₁ Bd hml0 hP hK
  obtain ⟨rfl, hZ, hh⟩ := hP
  have hml : c.maxLocals = 1 := hml0
  have hlk : meth.locks = false := Bd.notSynchronized
  have hret := Bd.returns
  have hnm := (name_of_methodNamed Bd.named Bd.method).1
  have P0 : Own.Wk Z "com/example/restwright/restwright/core/Relationship" prog_20_method_7_code h0 p l e ({ frames := 0, cells := 0, slots := 0, locals := 0 } : Room) s m #[(.ref a1)] below meth c s₁ [] 0 0 := ⟨Stand.of_body Bd, Bd.exec, Bd.bytes, hZ, findClass_of_methodNamed Bd.named, by rw [← hh, Bd.state]; rfl⟩
  have N0 := Fr.nil n0
  show Own.Goes p.tables e below (fun s₂ o => ∃ v L, o = .returned v ∧ QrmG4 Z a1 b1 h0 n0 v s₂.heap L ∧ FrameEnd s o s₂ L ({ frames := 0, cells := 0, slots := 0, locals := 0 } : Room).cells ({ frames := 0, cells := 0, slots := 0, locals := 0 } : Room).slots) (s₁.setTop (entryFrame m #[(.ref a1)] 1))
  rw [show entryFrame m #[(.ref a1)] 1 = mkF m 0 #[.val (.ref a1)] [] from by first | rfl | (simp [entryFrame, mkF, argsToLocals, Value.category]; done)]
  refine Own.aloadN (q := 1) P0 d12_0 rfl rfl rfl ?_
  refine Own.getfield (q := 4) P0 d12_1 (hw _ (List.mem_of_getElem? (i := 50) rfl)) f1 rfl ?_
  intro T21 P21
  refine Own.nullN (q := 7) P21 d12_4  rfl ?_
  refine Own.iconst (q := 8) (v := (1 : Int32)) P21 d12_7 rfl rfl ?_
  refine Own.goto (q := 12) P21 d12_8 (by decide) ?_
  refine Own.retZ (Q := QrmG4 Z a1 b1 h0 n0) P21 d12_12 hret (by simp) hlk (by decide) (by decide) ?_
  exact ⟨rfl, N0, rfl⟩
theorem d9_0 : decode jdk_42_method_66_code 0 = .ok (.aload_n 0, 1) := by decide +kernel
theorem d9_1 : decode jdk_42_method_66_code 1 = .ok (.aload_n 1, 1) := by decide +kernel
theorem d9_2 : decode jdk_42_method_66_code 2 = .ok (.if_acmp .ne 5, 3) := by decide +kernel
theorem d9_5 : decode jdk_42_method_66_code 5 = .ok (.iconst 1, 1) := by decide +kernel
theorem d9_6 : decode jdk_42_method_66_code 6 = .ok (.ireturn, 1) := by decide +kernel
theorem d9_7 : decode jdk_42_method_66_code 7 = .ok (.aload_n 1, 1) := by decide +kernel
theorem d9_8 : decode jdk_42_method_66_code 8 = .ok (.instanceof 10, 3) := by decide +kernel
theorem d9_11 : decode jdk_42_method_66_code 11 = .ok (.ifCond .eq 43, 3) := by decide +kernel
theorem d9_14 : decode jdk_42_method_66_code 14 = .ok (.aload_n 1, 1) := by decide +kernel
theorem d9_15 : decode jdk_42_method_66_code 15 = .ok (.checkcast 10, 3) := by decide +kernel
theorem d9_18 : decode jdk_42_method_66_code 18 = .ok (.astore_n 2, 1) := by decide +kernel
theorem d9_19 : decode jdk_42_method_66_code 19 = .ok (.getstatic 38, 3) := by decide +kernel
theorem d9_22 : decode jdk_42_method_66_code 22 = .ok (.ifCond .eq 14, 3) := by decide +kernel
theorem d9_25 : decode jdk_42_method_66_code 25 = .ok (.aload_n 0, 1) := by decide +kernel
theorem d9_26 : decode jdk_42_method_66_code 26 = .ok (.getfield 15, 3) := by decide +kernel
theorem d9_29 : decode jdk_42_method_66_code 29 = .ok (.aload_n 2, 1) := by decide +kernel
theorem d9_30 : decode jdk_42_method_66_code 30 = .ok (.getfield 15, 3) := by decide +kernel
theorem d9_33 : decode jdk_42_method_66_code 33 = .ok (.if_icmp .ne 21, 3) := by decide +kernel
theorem d9_36 : decode jdk_42_method_66_code 36 = .ok (.aload_n 0, 1) := by decide +kernel
theorem d9_37 : decode jdk_42_method_66_code 37 = .ok (.getfield 9, 3) := by decide +kernel
theorem d9_40 : decode jdk_42_method_66_code 40 = .ok (.aload_n 2, 1) := by decide +kernel
theorem d9_41 : decode jdk_42_method_66_code 41 = .ok (.getfield 9, 3) := by decide +kernel
theorem d9_44 : decode jdk_42_method_66_code 44 = .ok (.invokestatic 541, 3) := by decide +kernel
theorem d9_47 : decode jdk_42_method_66_code 47 = .ok (.ifCond .eq 7, 3) := by decide +kernel
theorem d9_50 : decode jdk_42_method_66_code 50 = .ok (.iconst 1, 1) := by decide +kernel
theorem d9_51 : decode jdk_42_method_66_code 51 = .ok (.goto 4, 3) := by decide +kernel
theorem d9_54 : decode jdk_42_method_66_code 54 = .ok (.iconst 0, 1) := by decide +kernel
theorem d9_55 : decode jdk_42_method_66_code 55 = .ok (.ireturn, 1) := by decide +kernel
theorem pn_9 : plainName "java/lang/String" = true := by first | (simp [plainName, overriddenIn]; done) | decide +kernel
def QrmEqI (Z : State) (a1 : Addr) (h0 : Heap) (n0 : Nat) (v : Option Value) (h : Heap) (L : List Loc) : Prop := v = some (.int 1) ∧ Fr n0 L ∧ h = h0
set_option maxRecDepth 65536 in
set_option maxHeartbeats 40000000 in
theorem rmEqI (l : Launch) (Z : State) (a0 : Array Value) (hw : ∀ d ∈ tables_1, d.before a0 Z = true) (ws : List Jvm.Cond) (a1 : Addr) (h0 : Heap) (n0 : Nat) (Z0 : n0 ≤ h0.size)  :
    MetFree l (⟨"java/lang/String", "equals", "(Ljava/lang/Object;)Z"⟩ : MethodName) (head1 (Jvm.Cond.code (⟨"java/lang/String", "equals", "(Ljava/lang/Object;)Z"⟩ : MethodName) jdk_42_method_66_code 3 (some .boolean) :: ws) ({ frames := 0, cells := 0, slots := 0, locals := 0 } : Room)) (fun a U => a = #[(.ref a1), (.ref a1)] ∧ Z.Warmed39 U.vm ∧ U.heap = h0) (fun _ _ _ _ _ => True) (fun _ U o U' => ∃ v L, o = .returned v ∧ QrmEqI Z a1 h0 n0 v U'.heap L ∧ FrameEnd U o U' L ({ frames := 0, cells := 0, slots := 0, locals := 0 } : Room).cells ({ frames := 0, cells := 0, slots := 0, locals := 0 } : Room).slots) := by
  refine MetFree.of_bodySF (plainFor_of_name pn_9) hisR ?_
  intro p e s m args below meth c s₁ Bd hml0 hP hK
  obtain ⟨rfl, hZ, hh⟩ := hP
  have hml : c.maxLocals = 3 := hml0
  have hlk : meth.locks = false := Bd.notSynchronized
  have hret := Bd.returns
  have hnm := (name_of_methodNamed Bd.named Bd.method).1
  have P0 : Own.Wk Z "java/lang/String" jdk_42_method_66_code h0 p l e ({ frames := 0, cells := 0, slots := 0, locals := 0 } : Room) s m #[(.ref a1), (.ref a1)] below meth c s₁ [] 0 0 := ⟨Stand.of_body Bd, Bd.exec, Bd.bytes, hZ, findClass_of_methodNamed Bd.named, by rw [← hh, Bd.state]; rfl⟩
  have N0 := Fr.nil n0
  show Own.Goes p.tables e below (fun s₂ o => ∃ v L, o = .returned v ∧ QrmEqI Z a1 h0 n0 v s₂.heap L ∧ FrameEnd s o s₂ L ({ frames := 0, cells := 0, slots := 0, locals := 0 } : Room).cells ({ frames := 0, cells := 0, slots := 0, locals := 0 } : Room).slots) (s₁.setTop (entryFrame m #[(.ref a1), (.ref a1)] 3))
  rw [show entryFrame m #[(.ref a1), (.ref a1)] 3 = mkF m 0 #[.val (.ref a1), .val (.ref a1), .unset] [] from by first | rfl | (simp [entryFrame, mkF, argsToLocals, Value.category]; done)]
  refine Own.aloadN (q := 1) P0 d9_0 rfl rfl rfl ?_
  refine Own.aloadN (q := 2) P0 d9_1 rfl rfl rfl ?_
  refine Own.acmp_ne (q := 5) (qy := 7) P0 d9_2 rfl rfl (by decide) rfl (fun q => absurd rfl q) (fun _ => ?_)
  refine Own.iconst (q := 6) (v := (1 : Int32)) P0 d9_5 rfl rfl ?_
  refine Own.retZ (Q := QrmEqI Z a1 h0 n0) P0 d9_6 hret (by simp) hlk (by decide) (by decide) ?_
  exact ⟨rfl, N0, rfl⟩
theorem pn_0 : plainName "com/example/restwright/restwright/core/RelationshipToManyPinLaw" = true := by first | (simp [plainName, overriddenIn]; done) | decide +kernel
def QrmLaw (Z : State) (x0 : Int32) (x1 : Int32) (x2 : Int32) (zc : Int32) (h0 : Heap) (n0 : Nat) (v : Option Value) (h : Heap) (L : List Loc) : Prop := v = some (.int 1) ∧ Fr n0 L
set_option maxRecDepth 65536 in
set_option maxHeartbeats 40000000 in
theorem rmLaw (l : Launch) (Z : State) (a0 : Array Value) (hw : ∀ d ∈ tables_1, d.before a0 Z = true) (ws : List Jvm.Cond) (x0 : Int32) (x1 : Int32) (x2 : Int32) (zc : Int32) (h0 : Heap) (n0 : Nat) (Z0 : n0 ≤ h0.size) (SC : Sta Z h0 "java/lang/String" "COMPACT_STRINGS" "Z" (.int zc)) (hzc : ¬ zc = 0) :
    MetFree l x (head1 (Jvm.Cond.code x code maxLocals ret :: ws) room_1) (fun a U => a = #[(.int x0), (.int x1), (.int x2)] ∧ Z.Warmed39 U.vm ∧ U.heap = h0 ∧ CHv Z EL U.vm h0 ∧ ∀ x ∈ ([] : List Addr), Safe Z EL U.vm h0 x) (fun _ _ _ _ _ => True) (fun _ U o U' => ∃ v L, o = .returned v ∧ QrmLaw Z x0 x1 x2 zc h0 n0 v U'.heap L ∧ CHr Z EL U.vm U.heap U'.vm U'.heap ∧ ReturnedEndW U o U' L room_1.cells room_1.slots) := by
  refine MetFree.of_bodySF (plainFor_of_name pn_0) hisR ?_
  intro p e s m args below meth c s₁ Bd hml0 hP hK
  obtain ⟨rfl, hZ, hh, hCH, hSf⟩ := hP
  have hml : c.maxLocals = 7 := hml0
  have hlk : meth.locks = false := Bd.notSynchronized
  have hret := Bd.returns
  have hnm := (name_of_methodNamed Bd.named Bd.method).1
  have P0 : Own.Wk Z "com/example/restwright/restwright/core/RelationshipToManyPinLaw" code h0 p l e room_1 (s.setVm s.vm) m #[(.int x0), (.int x1), (.int x2)] below meth c s₁ [] 0 0 := ⟨Stand.of_body Bd, Bd.exec, Bd.bytes, hZ, findClass_of_methodNamed Bd.named, by rw [← hh, Bd.state]; rfl⟩
  have H0 : Own.Hd Z EL s s.vm h0 h0 := Own.Hd.start hCH
  have N0 := Fr.nil n0
  show Own.Goes p.tables e below (fun s₂ o => ∃ v L, o = .returned v ∧ QrmLaw Z x0 x1 x2 zc h0 n0 v s₂.heap L ∧ CHr Z EL s.vm s.heap s₂.vm s₂.heap ∧ ReturnedEndW s o s₂ L room_1.cells room_1.slots) (s₁.setTop (entryFrame m #[(.int x0), (.int x1), (.int x2)] maxLocals))
  rw [show entryFrame m #[(.int x0), (.int x1), (.int x2)] maxLocals = mkF m 0 #[.val (.int x0), .val (.int x1), .val (.int x2), .unset, .unset, .unset, .unset] [] from by first | rfl | (simp [entryFrame, mkF, argsToLocals, Value.category, maxLocals]; done)]
  refine Own.iloadN (q := 1) P0 at_0 rfl rfl ?_
  refine Own.invStaticH (q := 4) (W := 0) (y := (⟨"com/example/restwright/restwright/core/RelationshipToManyPinLaw", "str", "(I)Ljava/lang/String;"⟩ : MethodName)) (argsL := [(.int x0)]) (rest := []) P0 H0 at_1 (hw _ (List.mem_of_getElem? (i := 0) rfl)) (hw _ (List.mem_of_getElem? (i := 1) rfl)) (hw _ (List.mem_of_getElem? (i := 2) rfl)) (hw _ (List.mem_of_getElem? (i := 3) rfl)) (by decide) (Own.backH (W := 0) (rmStr l Z a0 hw [] x0 zc h0 n0 Z0 SC hzc) P0.2.2.2.1 (hw _ (List.mem_of_getElem? (i := 3) rfl)) (hw _ (List.mem_of_getElem? (i := 2) rfl)) (by decide) (by decide) (ew hw) H0.2.1 all0) rfl rfl (by rw [hml]; rfl) (lenOf (show parseMethodDescriptor "(I)Ljava/lang/String;" = some ⟨[.int], some (.object "java/lang/String")⟩ from by decide +kernel) rfl) (by show 2 * 0 + _ ≤ _; exact Nat.le_of_eq rfl) (by decide) (by decide) rfl ?_
  rintro v21 T21 vm21 h21 L21 ⟨r21, cs21, rfl, N21q, E21, gr21, St21⟩ P21 H21 hr21
  have N21 := Fr.app N0 N21q
  show Own.Goes _ _ _ _ (T21.setTop (mkF m 4 #[.val (.int x0), .val (.int x1), .val (.int x2), .unset, .unset, .unset, .unset] [(.ref r21)]))
  refine Own.astoreN (q := 5) (L2 := #[.val (.int x0), .val (.int x1), .val (.int x2), .val (.ref r21), .unset, .unset, .unset]) P21 at_4 rfl rfl rfl ?_
  refine Own.iloadN (q := 6) P21 at_5 rfl rfl ?_
  have E0_1_22 : Ext h0 h21 := E21
  refine Own.invStaticH (q := 9) (W := 0) (y := (⟨"com/example/restwright/restwright/core/RelationshipToManyPinLaw", "str", "(I)Ljava/lang/String;"⟩ : MethodName)) (argsL := [(.int x1)]) (rest := []) P21 H21 at_6 (hw _ (List.mem_of_getElem? (i := 0) rfl)) (hw _ (List.mem_of_getElem? (i := 1) rfl)) (hw _ (List.mem_of_getElem? (i := 2) rfl)) (hw _ (List.mem_of_getElem? (i := 3) rfl)) (by decide) (Own.backH (W := 0) (rmStr l Z a0 hw [] x1 zc h21 n0 (Nat.le_trans Z0 E0_1_22.1) (SC.ext E0_1_22) hzc) P21.2.2.2.1 (hw _ (List.mem_of_getElem? (i := 3) rfl)) (hw _ (List.mem_of_getElem? (i := 2) rfl)) (by decide) (by decide) (ew hw) H21.2.1 all0) rfl rfl (by rw [hml]; rfl) (lenOf (show parseMethodDescriptor "(I)Ljava/lang/String;" = some ⟨[.int], some (.object "java/lang/String")⟩ from by decide +kernel) rfl) (by show 2 * 0 + _ ≤ _; exact Nat.le_of_eq rfl) (by decide) (by decide) rfl ?_
  rintro v23 T23 vm23 h23 L23 ⟨r23, cs23, rfl, N23q, E23, gr23, St23⟩ P23 H23 hr23
  have N23 := Fr.app N21 N23q
  show Own.Goes _ _ _ _ (T23.setTop (mkF m 9 #[.val (.int x0), .val (.int x1), .val (.int x2), .val (.ref r21), .unset, .unset, .unset] [(.ref r23)]))
  refine Own.astore (q := 11) (L2 := #[.val (.int x0), .val (.int x1), .val (.int x2), .val (.ref r21), .val (.ref r23), .unset, .unset]) P23 at_9 rfl rfl rfl ?_
  refine Own.iloadN (q := 12) P23 at_11 rfl rfl ?_
  have E0_2_24 : Ext h0 h23 := (Own.Ext.tr E0_1_22 E23)
  refine Own.invStaticH (q := 15) (W := 0) (y := (⟨"com/example/restwright/restwright/core/RelationshipToManyPinLaw", "str", "(I)Ljava/lang/String;"⟩ : MethodName)) (argsL := [(.int x2)]) (rest := []) P23 H23 at_12 (hw _ (List.mem_of_getElem? (i := 0) rfl)) (hw _ (List.mem_of_getElem? (i := 1) rfl)) (hw _ (List.mem_of_getElem? (i := 2) rfl)) (hw _ (List.mem_of_getElem? (i := 3) rfl)) (by decide) (Own.backH (W := 0) (rmStr l Z a0 hw [] x2 zc h23 n0 (Nat.le_trans Z0 E0_2_24.1) (SC.ext E0_2_24) hzc) P23.2.2.2.1 (hw _ (List.mem_of_getElem? (i := 3) rfl)) (hw _ (List.mem_of_getElem? (i := 2) rfl)) (by decide) (by decide) (ew hw) H23.2.1 all0) rfl rfl (by rw [hml]; rfl) (lenOf (show parseMethodDescriptor "(I)Ljava/lang/String;" = some ⟨[.int], some (.object "java/lang/String")⟩ from by decide +kernel) rfl) (by show 2 * 0 + _ ≤ _; exact Nat.le_of_eq rfl) (by decide) (by decide) rfl ?_
  rintro v25 T25 vm25 h25 L25 ⟨r25, cs25, rfl, N25q, E25, gr25, St25⟩ P25 H25 hr25
  have N25 := Fr.app N23 N25q
  show Own.Goes _ _ _ _ (T25.setTop (mkF m 15 #[.val (.int x0), .val (.int x1), .val (.int x2), .val (.ref r21), .val (.ref r23), .unset, .unset] [(.ref r25)]))
  refine Own.astore (q := 17) (L2 := #[.val (.int x0), .val (.int x1), .val (.int x2), .val (.ref r21), .val (.ref r23), .val (.ref r25), .unset]) P25 at_15 rfl rfl rfl ?_
  refine Own.aloadN (q := 18) P25 at_17 rfl rfl rfl ?_
  refine Own.aload (q := 20) P25 at_18 rfl rfl rfl ?_
  refine Own.aload (q := 22) P25 at_20 rfl rfl rfl ?_
  have E1_2_26 : Ext h21 h23 := E23
  have E1_3_27 : Ext h21 h25 := (Own.Ext.tr E1_2_26 E25)
  have E2_3_28 : Ext h23 h25 := E25
  have E0_3_29 : Ext h0 h25 := (Own.Ext.tr E0_2_24 E25)
  refine Own.invStaticH (q := 25) (W := 0) (y := (⟨"com/example/restwright/restwright/core/Relationship", "toMany", "(Ljava/lang/String;Ljava/lang/String;Ljava/lang/String;)Lcom/example/restwright/restwright/core/Relationship;"⟩ : MethodName)) (argsL := [(.ref r21), (.ref r23), (.ref r25)]) (rest := []) P25 H25 at_22 (hw _ (List.mem_of_getElem? (i := 26) rfl)) (hw _ (List.mem_of_getElem? (i := 27) rfl)) (hw _ (List.mem_of_getElem? (i := 28) rfl)) (hw _ (List.mem_of_getElem? (i := 29) rfl)) (by decide) (Own.backH (W := 0) (rmTo l Z a0 hw [] r21 r23 r25 h25 n0 (Nat.le_trans Z0 E0_3_29.1) (St21.ext E1_3_27).exa (St23.ext E2_3_28).exa St25.exa) P25.2.2.2.1 (hw _ (List.mem_of_getElem? (i := 29) rfl)) (hw _ (List.mem_of_getElem? (i := 28) rfl)) (by decide) (by decide) (ew hw) H25.2.1 all0) rfl rfl (by rw [hml]; rfl) (lenOf (show parseMethodDescriptor "(Ljava/lang/String;Ljava/lang/String;Ljava/lang/String;)Lcom/example/restwright/restwright/core/Relationship;" = some ⟨[(.object "java/lang/String"), (.object "java/lang/String"), (.object "java/lang/String")], some (.object "com/example/restwright/restwright/core/Relationship")⟩ from by decide +kernel) rfl) (by show 2 * 0 + _ ≤ _; exact Nat.le_of_eq rfl) (by decide) (by decide) rfl ?_
  rintro v30 T30 vm30 h30 L30 ⟨r30, rfl, N30q, E30, G30, F30a, F30b, F30c, F30d⟩ P30 H30 hr30
  have N30 := Fr.app N25 N30q
  show Own.Goes _ _ _ _ (T30.setTop (mkF m 25 #[.val (.int x0), .val (.int x1), .val (.int x2), .val (.ref r21), .val (.ref r23), .val (.ref r25), .unset] [(.ref r30)]))
  refine Own.astore (q := 27) (L2 := #[.val (.int x0), .val (.int x1), .val (.int x2), .val (.ref r21), .val (.ref r23), .val (.ref r25), .val (.ref r30)]) P30 at_25 rfl rfl rfl ?_
  refine Own.aload (q := 29) P30 at_27 rfl rfl rfl ?_
  have E0_4_31 : Ext h0 h30 := (Own.Ext.tr E0_3_29 E30)
  refine Own.invVirtual (q := 32) (W := 0) (y := (⟨"com/example/restwright/restwright/core/Relationship", "name", "()Ljava/lang/String;"⟩ : MethodName)) (a := r30) (argsL := []) (rest := []) P30 at_29 (hw _ (List.mem_of_getElem? (i := 52) rfl)) (hw _ (List.mem_of_getElem? (i := 53) rfl)) (hw _ (List.mem_of_getElem? (i := 55) rfl)) (hw _ (List.mem_of_getElem? (i := 54) rfl)) (notFace_of_selects (args := #[]) (mvT P30.2.2.2.1 (hw _ (List.mem_of_getElem? (i := 55) rfl)))) (by decide) (backOf (W := 0) (rmG1 l Z a0 hw [] r30 r21 h30 n0 (Nat.le_trans Z0 E0_4_31.1) F30a) P30.2.2.2.1 (hw _ (List.mem_of_getElem? (i := 56) rfl)) (hw _ (List.mem_of_getElem? (i := 28) rfl)) (by decide) (by decide)) G30 rfl rfl (by rw [hml]; rfl) (lenOf (show parseMethodDescriptor "()Ljava/lang/String;" = some ⟨[], some (.object "java/lang/String")⟩ from by decide +kernel) rfl) (by show 2 * 0 + _ ≤ _; exact Nat.le_of_eq rfl) (by decide) (by decide) rfl ?_
  rintro v32 T32 h32 L32 ⟨rfl, N32q, e32⟩ P32
  rw [e32] at P32
  have N32 := Fr.app N30 N32q
  show Own.Goes _ _ _ _ (T32.setTop (mkF m 32 #[.val (.int x0), .val (.int x1), .val (.int x2), .val (.ref r21), .val (.ref r23), .val (.ref r25), .val (.ref r30)] [(.ref r21)]))
  refine Own.aloadN (q := 33) P32 at_32 rfl rfl rfl ?_
  have E1_4_33 : Ext h21 h30 := (Own.Ext.tr E1_3_27 E30)
  refine Own.invVirtual (q := 36) (W := 0) (y := (⟨"java/lang/String", "equals", "(Ljava/lang/Object;)Z"⟩ : MethodName)) (a := r21) (argsL := [(.ref r21)]) (rest := []) P32 at_33 (hw _ (List.mem_of_getElem? (i := 57) rfl)) (hw _ (List.mem_of_getElem? (i := 58) rfl)) (hw _ (List.mem_of_getElem? (i := 60) rfl)) (hw _ (List.mem_of_getElem? (i := 59) rfl)) (notFace_of_selects (args := #[]) (mvT P32.2.2.2.1 (hw _ (List.mem_of_getElem? (i := 60) rfl)))) (by decide) (backOf (W := 0) (rmEqI l Z a0 hw [] r21 h30 n0 (Nat.le_trans Z0 E0_4_31.1) ) P32.2.2.2.1 (hw _ (List.mem_of_getElem? (i := 61) rfl)) (hw _ (List.mem_of_getElem? (i := 6) rfl)) (by decide) (by decide)) (St21.ext E1_4_33).exa rfl rfl (by rw [hml]; rfl) (lenOf (show parseMethodDescriptor "(Ljava/lang/Object;)Z" = some ⟨[(.object "java/lang/Object")], some .boolean⟩ from by decide +kernel) rfl) (by show 2 * 0 + _ ≤ _; exact Nat.le_of_eq rfl) (by decide) (by decide) rfl ?_
  rintro v34 T34 h34 L34 ⟨rfl, N34q, e34⟩ P34
  rw [e34] at P34
  have N34 := Fr.app N32 N34q
  show Own.Goes _ _ _ _ (T34.setTop (mkF m 36 #[.val (.int x0), .val (.int x1), .val (.int x2), .val (.ref r21), .val (.ref r23), .val (.ref r25), .val (.ref r30)] [(.int (1 : Int32))]))
  refine Own.if_eq (q := 39) (qy := 72) P34 at_36 (by decide) rfl (fun q => absurd q (by decide)) (fun _ => ?_)
  refine Own.aload (q := 41) P34 at_39 rfl rfl rfl ?_
  refine Own.invVirtual (q := 44) (W := 0) (y := (⟨"com/example/restwright/restwright/core/Relationship", "target", "()Ljava/lang/String;"⟩ : MethodName)) (a := r30) (argsL := []) (rest := []) P34 at_41 (hw _ (List.mem_of_getElem? (i := 62) rfl)) (hw _ (List.mem_of_getElem? (i := 63) rfl)) (hw _ (List.mem_of_getElem? (i := 65) rfl)) (hw _ (List.mem_of_getElem? (i := 64) rfl)) (notFace_of_selects (args := #[]) (mvT P34.2.2.2.1 (hw _ (List.mem_of_getElem? (i := 65) rfl)))) (by decide) (backOf (W := 0) (rmG2 l Z a0 hw [] r30 r23 h30 n0 (Nat.le_trans Z0 E0_4_31.1) F30b) P34.2.2.2.1 (hw _ (List.mem_of_getElem? (i := 66) rfl)) (hw _ (List.mem_of_getElem? (i := 28) rfl)) (by decide) (by decide)) G30 rfl rfl (by rw [hml]; rfl) (lenOf (show parseMethodDescriptor "()Ljava/lang/String;" = some ⟨[], some (.object "java/lang/String")⟩ from by decide +kernel) rfl) (by show 2 * 0 + _ ≤ _; exact Nat.le_of_eq rfl) (by decide) (by decide) rfl ?_
  rintro v35 T35 h35 L35 ⟨rfl, N35q, e35⟩ P35
  rw [e35] at P35
  have N35 := Fr.app N34 N35q
  show Own.Goes _ _ _ _ (T35.setTop (mkF m 44 #[.val (.int x0), .val (.int x1), .val (.int x2), .val (.ref r21), .val (.ref r23), .val (.ref r25), .val (.ref r30)] [(.ref r23)]))
  refine Own.aload (q := 46) P35 at_44 rfl rfl rfl ?_
  have E2_4_36 : Ext h23 h30 := (Own.Ext.tr E2_3_28 E30)
  refine Own.invVirtual (q := 49) (W := 0) (y := (⟨"java/lang/String", "equals", "(Ljava/lang/Object;)Z"⟩ : MethodName)) (a := r23) (argsL := [(.ref r23)]) (rest := []) P35 at_46 (hw _ (List.mem_of_getElem? (i := 57) rfl)) (hw _ (List.mem_of_getElem? (i := 58) rfl)) (hw _ (List.mem_of_getElem? (i := 60) rfl)) (hw _ (List.mem_of_getElem? (i := 59) rfl)) (notFace_of_selects (args := #[]) (mvT P35.2.2.2.1 (hw _ (List.mem_of_getElem? (i := 60) rfl)))) (by decide) (backOf (W := 0) (rmEqI l Z a0 hw [] r23 h30 n0 (Nat.le_trans Z0 E0_4_31.1) ) P35.2.2.2.1 (hw _ (List.mem_of_getElem? (i := 61) rfl)) (hw _ (List.mem_of_getElem? (i := 6) rfl)) (by decide) (by decide)) (St23.ext E2_4_36).exa rfl rfl (by rw [hml]; rfl) (lenOf (show parseMethodDescriptor "(Ljava/lang/Object;)Z" = some ⟨[(.object "java/lang/Object")], some .boolean⟩ from by decide +kernel) rfl) (by show 2 * 0 + _ ≤ _; exact Nat.le_of_eq rfl) (by decide) (by decide) rfl ?_
  rintro v37 T37 h37 L37 ⟨rfl, N37q, e37⟩ P37
  rw [e37] at P37
  have N37 := Fr.app N35 N37q
  show Own.Goes _ _ _ _ (T37.setTop (mkF m 49 #[.val (.int x0), .val (.int x1), .val (.int x2), .val (.ref r21), .val (.ref r23), .val (.ref r25), .val (.ref r30)] [(.int (1 : Int32))]))
  refine Own.if_eq (q := 52) (qy := 72) P37 at_49 (by decide) rfl (fun q => absurd q (by decide)) (fun _ => ?_)
  refine Own.aload (q := 54) P37 at_52 rfl rfl rfl ?_
  refine Own.invVirtual (q := 57) (W := 0) (y := (⟨"com/example/restwright/restwright/core/Relationship", "required", "()Z"⟩ : MethodName)) (a := r30) (argsL := []) (rest := []) P37 at_54 (hw _ (List.mem_of_getElem? (i := 67) rfl)) (hw _ (List.mem_of_getElem? (i := 68) rfl)) (hw _ (List.mem_of_getElem? (i := 70) rfl)) (hw _ (List.mem_of_getElem? (i := 69) rfl)) (notFace_of_selects (args := #[]) (mvT P37.2.2.2.1 (hw _ (List.mem_of_getElem? (i := 70) rfl)))) (by decide) (backOf (W := 0) (rmG3 l Z a0 hw [] r30 h30 n0 (Nat.le_trans Z0 E0_4_31.1) F30c) P37.2.2.2.1 (hw _ (List.mem_of_getElem? (i := 71) rfl)) (hw _ (List.mem_of_getElem? (i := 28) rfl)) (by decide) (by decide)) G30 rfl rfl (by rw [hml]; rfl) (lenOf (show parseMethodDescriptor "()Z" = some ⟨[], some .boolean⟩ from by decide +kernel) rfl) (by show 2 * 0 + _ ≤ _; exact Nat.le_of_eq rfl) (by decide) (by decide) rfl ?_
  rintro v38 T38 h38 L38 ⟨rfl, N38q, e38⟩ P38
  rw [e38] at P38
  have N38 := Fr.app N37 N38q
  show Own.Goes _ _ _ _ (T38.setTop (mkF m 57 #[.val (.int x0), .val (.int x1), .val (.int x2), .val (.ref r21), .val (.ref r23), .val (.ref r25), .val (.ref r30)] [(.int (0 : Int32))]))
  refine Own.if_ne (q := 60) (qy := 72) P38 at_57 (by decide) rfl (fun q => absurd rfl q) (fun _ => ?_)
  refine Own.aload (q := 62) P38 at_60 rfl rfl rfl ?_
  refine Own.invVirtual (q := 65) (W := 0) (y := (⟨"com/example/restwright/restwright/core/Relationship", "toMany", "()Z"⟩ : MethodName)) (a := r30) (argsL := []) (rest := []) P38 at_62 (hw _ (List.mem_of_getElem? (i := 72) rfl)) (hw _ (List.mem_of_getElem? (i := 73) rfl)) (hw _ (List.mem_of_getElem? (i := 75) rfl)) (hw _ (List.mem_of_getElem? (i := 74) rfl)) (notFace_of_selects (args := #[]) (mvT P38.2.2.2.1 (hw _ (List.mem_of_getElem? (i := 75) rfl)))) (by decide) (backOf (W := 0) (rmG4 l Z a0 hw [] r30 r25 h30 n0 (Nat.le_trans Z0 E0_4_31.1) F30d) P38.2.2.2.1 (hw _ (List.mem_of_getElem? (i := 76) rfl)) (hw _ (List.mem_of_getElem? (i := 28) rfl)) (by decide) (by decide)) G30 rfl rfl (by rw [hml]; rfl) (lenOf (show parseMethodDescriptor "()Z" = some ⟨[], some .boolean⟩ from by decide +kernel) rfl) (by show 2 * 0 + _ ≤ _; exact Nat.le_of_eq rfl) (by decide) (by decide) rfl ?_
  rintro v39 T39 h39 L39 ⟨rfl, N39q, e39⟩ P39
  rw [e39] at P39
  have N39 := Fr.app N38 N39q
  show Own.Goes _ _ _ _ (T39.setTop (mkF m 65 #[.val (.int x0), .val (.int x1), .val (.int x2), .val (.ref r21), .val (.ref r23), .val (.ref r25), .val (.ref r30)] [(.int (1 : Int32))]))
  refine Own.if_eq (q := 68) (qy := 72) P39 at_65 (by decide) rfl (fun q => absurd q (by decide)) (fun _ => ?_)
  refine Own.iconst (q := 69) (v := (1 : Int32)) P39 at_68 rfl rfl ?_
  refine Own.goto (q := 73) P39 at_69 (by decide) ?_
  refine Own.retZH (Q := QrmLaw Z x0 x1 x2 zc h0 n0) P39 hh (ew hw) H30 at_73 hret (by simp) hlk (by decide) (by decide) ?_
  exact ⟨rfl, N39⟩
set_option maxRecDepth 65536 in
set_option maxHeartbeats 40000000 in
theorem comes_1 {Post : Tables → Env → Array Value → State → Outcome → State → Prop} (hpost : ∀ tb e args s v u, (limb_1_1.after args s (.returned v) u = true ∧ limb_1_2.after args s (.returned v) u = true ∧ True) → ReturnedEndW s (.returned v) u (Jvm.fieldLocs frame_1_writes args s ++ Jvm.arrayLocs frame_1_arrays args s ++ Jvm.staticLocs frame_1_statics s) 40 4288 → Post tb e args s (.returned v) u) :
    ArmFor flags0 classFile x code maxLocals ret World_1 tables_1 room_1 Calls_1 rest_1 Pre_1 Post := by
  intro l hfl _ _ p e ha hc hk s m args below hf hA hF happ hP
  obtain ⟨hcalls, hrest, hpre⟩ := hP
  obtain ⟨-, -, -, hnamed, -, -, -, hat⟩ := (Spec.applies_iff hf).mp happ
  obtain ⟨hg, hn⟩ := and_e (Cond.before_iff.mp (show (Jvm.Cond.and given_1 narrow_1).before args s = true from hpre))
  obtain ⟨hg0, hg1⟩ := and_e hg
  obtain ⟨hi1, hg2⟩ := and_e hg1
  obtain ⟨hi2, hg3⟩ := and_e hg2
  obtain ⟨w0, w1, w2, rfl⟩ : ∃ w0 w1 w2 : Value, args = #[w0, w1, w2] := by
    have hs : args.size = 3 := by simpa [Cond.value, given_1] using hg0
    obtain ⟨L⟩ := args
    match L, hs with
    | [w0, w1, w2], _ => exact ⟨w0, w1, w2, rfl⟩
  have hw := fun d (hd : d ∈ tables_1) => atoms_spec (ws := Jvm.Cond.code x code maxLocals ret :: tables_1) hat d (List.mem_cons_of_mem _ hd)
  obtain ⟨hsets, hown0⟩ := atoms_of _ (rest_1_c_eq ▸ (show rest_1_c.before _ s = true from hrest))
  have hfit : Fit s := fun {y c} hc i hi => by
    obtain ⟨ha, rfl⟩ := Array.getElem?_eq_some_iff.mp hc
    have q := List.all_eq_true.mp ((Array.all_eq_true_iff_forall_mem.mp hF) _ (Array.getElem_mem ha)) i (List.mem_range.mpr hi)
    simpa [Array.getElem?_eq_getElem hi] using q
  obtain ⟨i0, ei0⟩ := is_v hi1
  obtain rfl : w0 = (.int i0) := Option.some.inj ei0
  obtain ⟨i1, ei1⟩ := is_v hi2
  obtain rfl : w1 = (.int i1) := Option.some.inj ei1
  obtain ⟨i2, ei2⟩ := is_v hg3
  obtain rfl : w2 = (.int i2) := Option.some.inj ei2
  have n5 := not_v (Cond.before_iff.mp (hsets _ (List.mem_of_getElem? (i := 2) rfl)))
  obtain ⟨zc, ezc⟩ := is_v (Cond.before_iff.mp (hsets _ (List.mem_of_getElem? (i := 1) rfl)))
  have SC : Sta s s.heap "java/lang/String" "COMPACT_STRINGS" "Z" (.int zc) := Sta.start ezc (Or.inl (hsets _ (List.mem_of_getElem? (i := 0) rfl)))
  have hzc : ¬ (zc = (0 : Int32)) := gotF (Cond.eq_ints ezc (Term.int_eval (0))) n5
  obtain ⟨fm, efm, rfm⟩ := isR_v (Cond.before_iff.mp (hsets _ (List.mem_of_getElem? (i := 8) rfl)))
  have SF : Sta s s.heap "jdk/internal/util/Preconditions" "SIOOBE_FORMATTER" "Ljava/util/function/BiFunction;" fm := Sta.start efm (Or.inl (hsets _ (List.mem_of_getElem? (i := 7) rfl)))

  have hCH : CHv s EL s.vm s.heap := CHv.start (ew hw) (fun p hp => hcalls.1 p hp) (a0 := #[.int i0, .int i1, .int i2]) (hsets _ (List.mem_of_getElem? (i := 2) rfl)) (hw _ (List.mem_of_getElem? (i := 19) rfl)) (hw _ (List.mem_of_getElem? (i := 5) rfl))
  obtain ⟨n, o, h1, h2, h3, _, L, rfl, ⟨rfl, N⟩, -, hq⟩ := rmLaw l s _ hw tables_1 i0 i1 i2 zc s.heap s.heap.size (Nat.le_refl _) SC hzc p e ha hc hk s m _ below hf ((Spec.applies_iff_loose hf).mp happ).1 ⟨rfl, State.Warmed39.refl s, rfl, hCH, fun _ q => nomatch q⟩ trivial
  refine ⟨n, _, h1, h2, h3, hpost _ _ _ _ _ _ ⟨Cond.after_iff.mpr rfl, Cond.after_iff.mpr (eq_i res_at (Term.int_eval (1)) rfl), trivial⟩ ⟨hq.1, hq.2.1, hq.2.2.1, (hq.2.2.2.sift fun y hy => Or.inr (N y hy)).mono (by decide) (by decide)⟩⟩
theorem main_1_1 : Claimed_1_1 := comes_1 fun _ _ _ _ _ _ h hF => ⟨h.1, hF⟩
theorem main_1_2 : Claimed_1_2 := comes_1 fun _ _ _ _ _ _ h hF => ⟨h.2.1, hF⟩
end Jvm.Pilot.@@N@@
namespace Jvm.Pilot.@@N@@
open Jvm Jvm.ClassFile Sem Op Lib Jvm.Free Jvm.Stand Jvm.Pilot.@@N@@.Jvm.D
/-! MADE BY PROGRAM (witnessworld.py) out of the Statement's table words and the real class files: 21 classes; the members and pool entries that the words name. The judged class is class 1, her method 2. -/
namespace start1
open Jvm.ClassFile
def u (s : String) : CpInfo := .utf8 (stringToUtf16 s)
/-- a pool by its gaps: so many unusable entries, then the entry; so many at the end -/
def gap : Nat → List CpInfo → List CpInfo
  | 0, r => r
  | n + 1, r => .unusable :: gap n r
def poolList (es : List (Nat × CpInfo)) (last : Nat) : List CpInfo := es.foldr (fun e r => gap e.1 (e.2 :: r)) (gap last [])
def pool (es : List (Nat × CpInfo)) (last : Nat) : Array CpInfo := ⟨poolList es last⟩
def fileOf (pool : Array CpInfo) (this : Nat) (attrs : Array Attribute := #[]) (ms : Array MethodInfo := #[]) (fl : Nat := 33) (sup : Nat := 0) (ifs : Array Nat := #[]) (fds : Array FieldInfo := #[]) : ClassFile where
  minorVersion := 0
  majorVersion := 65
  constantPool := pool
  accessFlags := fl
  thisClass := this
  superClass := sup
  interfaces := ifs
  fields := fds
  methods := ms
  attributes := attrs
def plain (name : String) (sup : Option ClassId) : Class where
  name := name
  kind := .ordinary
  loader := none
  accessFlags := 33
  super := sup
  interfaces := #[]
  cf := none
  fields := #[]
  methods := #[]
  instanceTypes := #[]
  staticTypes := #[]
  resolved := #[]
  callSites := []
  init := .initialized
  statics := none
  mirror := none

def pool0 : Array CpInfo := pool [(5, u "<init>"), (0, u "()V"), (1, .class_ 10), (1, u "java/lang/Object")] 113

def k0c0 : Code := { maxStack := 0, maxLocals := 1, code := object_method_1_code, exceptionTable := #[], attributes := #[] }
def k0m0 : Method := { name := "<init>", desc := "()V", sig := { parameters := [], returnType := none }, accessFlags := 1, code := some k0c0 }
/-- java/lang/Object -/
def k0 : Class := { plain "java/lang/Object" none with
  accessFlags := 33
  interfaces := #[]
  cf := some (fileOf pool0 8 #[] #[{ accessFlags := 1, nameIndex := 5, descriptorIndex := 6, attributes := #[] }] 33 0 #[] #[])
  fields := #[]
  methods := #[k0m0]
  instanceTypes := #[]
  staticTypes := #[]
  resolved := Array.replicate 124 none
  statics := none }

def pool1 : Array CpInfo := pool [(2, .class_ 4), (1, u "java/lang/Object"), (0, u "<init>"), (0, u "()V"), (0, .class_ 8), (0, u "java/lang/String"), (0, .methodref 7 10), (0, .nameAndType 5 11), (0, u "([C)V"), (0, .methodref 7 13), (0, .nameAndType 14 15), (0, u "valueOf"), (0, u "(C)Ljava/lang/String;"), (0, .methodref 17 18), (0, .class_ 19), (0, .nameAndType 20 21), (0, u "com/example/restwright/restwright/core/RelationshipToManyPinLaw"), (0, u "str"), (0, u "(I)Ljava/lang/String;"), (0, .methodref 23 24), (0, .class_ 25), (0, .nameAndType 26 27), (0, u "com/example/restwright/restwright/core/Relationship"), (0, u "toMany"), (0, u "(Ljava/lang/String;Ljava/lang/String;Ljava/lang/String;)Lcom/example/restwright/restwright/core/Relationship;"), (0, .methodref 23 29), (0, .nameAndType 30 31), (0, u "name"), (0, u "()Ljava/lang/String;"), (0, .methodref 7 33), (0, .nameAndType 34 35), (0, u "equals"), (0, u "(Ljava/lang/Object;)Z"), (0, .methodref 23 37), (0, .nameAndType 38 31), (0, u "target"), (0, .methodref 23 40), (0, .nameAndType 41 42), (0, u "required"), (0, u "()Z"), (0, .methodref 23 44), (0, .nameAndType 26 42), (3, u "law"), (0, u "(III)Z")] 2

def k1m0 : Method := { name := "<init>", desc := "()V", sig := { parameters := [], returnType := none }, accessFlags := 1, code := none }
def k1c1 : Code := { maxStack := 6, maxLocals := 5, code := method_2_code, exceptionTable := #[], attributes := #[] }
def k1m1 : Method := { name := "str", desc := "(I)Ljava/lang/String;", sig := { parameters := [.int], returnType := some (.object "java/lang/String") }, accessFlags := 10, code := some k1c1 }
def k1c2 : Code := { maxStack := 3, maxLocals := 7, code := code, exceptionTable := #[], attributes := #[] }
def k1m2 : Method := { name := "law", desc := "(III)Z", sig := { parameters := [.int, .int, .int], returnType := some .boolean }, accessFlags := 9, code := some k1c2 }
/-- com/example/restwright/restwright/core/RelationshipToManyPinLaw -/
def k1 : Class := { plain "com/example/restwright/restwright/core/RelationshipToManyPinLaw" (some 0) with
  accessFlags := 49
  interfaces := #[]
  cf := some (fileOf pool1 17 #[] #[{ accessFlags := 1, nameIndex := 5, descriptorIndex := 6, attributes := #[] }, { accessFlags := 10, nameIndex := 20, descriptorIndex := 21, attributes := #[] }, { accessFlags := 9, nameIndex := 48, descriptorIndex := 49, attributes := #[] }] 49 2 #[] #[])
  fields := #[]
  methods := #[k1m0, k1m1, k1m2]
  instanceTypes := #[]
  staticTypes := #[]
  resolved := Array.replicate 52 none
  statics := none }

def pool2 : Array CpInfo := pool [(1, .class_ 2), (0, u "java/io/Serializable"), (0, .class_ 4), (0, u "java/lang/Object")] 2

/-- java/io/Serializable -/
def k2 : Class := { plain "java/io/Serializable" (some 0) with
  accessFlags := 1537
  interfaces := #[]
  cf := some (fileOf pool2 1 #[] #[] 1537 3 #[] #[])
  fields := #[]
  methods := #[]
  instanceTypes := #[]
  staticTypes := #[]
  resolved := Array.replicate 7 none
  statics := none }

def pool3 : Array CpInfo := pool [(1, .class_ 2), (0, u "java/lang/Comparable"), (0, .class_ 4), (0, u "java/lang/Object")] 7

/-- java/lang/Comparable -/
def k3 : Class := { plain "java/lang/Comparable" (some 0) with
  accessFlags := 1537
  interfaces := #[]
  cf := some (fileOf pool3 1 #[] #[] 1537 3 #[] #[])
  fields := #[]
  methods := #[]
  instanceTypes := #[]
  staticTypes := #[]
  resolved := Array.replicate 12 none
  statics := none }

def pool4 : Array CpInfo := pool [(2, .class_ 4), (1, u "java/lang/CharSequence"), (42, .class_ 48), (0, u "java/lang/CharSequence$1CodePointIterator"), (10, .class_ 60), (0, u "java/lang/CharSequence$1CharIterator"), (5, .class_ 67), (0, u "java/lang/Object")] 63

/-- java/lang/CharSequence -/
def k4 : Class := { plain "java/lang/CharSequence" (some 0) with
  accessFlags := 1537
  interfaces := #[]
  cf := some (fileOf pool4 2 #[.nestMembers #[47, 59]] #[] 1537 66 #[] #[])
  fields := #[]
  methods := #[]
  instanceTypes := #[]
  staticTypes := #[]
  resolved := Array.replicate 131 none
  statics := none }

def pool5 : Array CpInfo := pool [(1, .class_ 2), (0, u "java/lang/constant/Constable"), (0, .class_ 4), (0, u "java/lang/Object")] 6

/-- java/lang/constant/Constable -/
def k5 : Class := { plain "java/lang/constant/Constable" (some 0) with
  accessFlags := 1537
  interfaces := #[]
  cf := some (fileOf pool5 1 #[] #[] 1537 3 #[] #[])
  fields := #[]
  methods := #[]
  instanceTypes := #[]
  staticTypes := #[]
  resolved := Array.replicate 11 none
  statics := none }

def pool6 : Array CpInfo := pool [(1, .class_ 2), (0, u "java/lang/constant/ConstantDesc"), (0, .class_ 4), (0, u "java/lang/Object")] 32

/-- java/lang/constant/ConstantDesc -/
def k6 : Class := { plain "java/lang/constant/ConstantDesc" (some 0) with
  accessFlags := 1537
  interfaces := #[]
  cf := some (fileOf pool6 1 #[] #[] 1537 3 #[] #[])
  fields := #[]
  methods := #[]
  instanceTypes := #[]
  staticTypes := #[]
  resolved := Array.replicate 37 none
  statics := none }

def pool7 : Array CpInfo := pool [(1, .methodref 2 3), (0, .class_ 4), (0, .nameAndType 5 6), (0, u "java/lang/Object"), (0, u "<init>"), (0, u "()V"), (0, .string 8), (0, u ""), (0, .fieldref 10 11), (0, .class_ 12), (0, .nameAndType 13 14), (0, u "java/lang/String"), (0, u "value"), (0, u "[B"), (0, .fieldref 10 16), (0, .nameAndType 17 18), (0, u "coder"), (0, u "B"), (2, u "hash"), (0, u "I"), (2, u "hashIsZero"), (0, u "Z"), (0, .methodref 10 28), (0, .nameAndType 5 29), (0, u "([CIILjava/lang/Void;)V"), (8, .fieldref 10 39), (0, .nameAndType 40 26), (0, u "COMPACT_STRINGS"), (1, .class_ 44), (1, u "java/lang/StringUTF16"), (0, u "compress"), (1, .methodref 42 48), (0, .nameAndType 49 50), (0, u "coderFromArrayLen"), (0, u "([BI)B"), (2, u "toBytes"), (53, .class_ 109), (1, u "java/lang/StringLatin1"), (67, .methodref 42 178), (0, .nameAndType 45 179), (0, u "([CII)[B"), (29, .methodref 10 210), (0, .nameAndType 5 211), (0, u "([BB)V"), (157, u "(C)Z"), (173, u "equals"), (29, u "(Ljava/lang/Object;)Z"), (1, .class_ 576), (0, u "java/lang/CharSequence"), (22, u "CASE_INSENSITIVE_ORDER"), (0, u "Ljava/util/Comparator;"), (181, u "valueOf"), (0, u "(C)Ljava/lang/String;"), (226, u "([C)V"), (4, .methodref 107 1016), (0, .nameAndType 1017 369), (0, u "canEncode"), (0, .methodref 107 1019), (0, .nameAndType 53 1020), (0, u "(C)[B"), (80, u "serialPersistentFields"), (0, u "[Ljava/io/ObjectStreamField;"), (0, .class_ 1104), (0, u "java/lang/String$CaseInsensitiveComparator"), (1, .class_ 1107), (0, u "java/io/Serializable"), (0, .class_ 1109), (0, u "java/lang/Comparable"), (0, .class_ 1111), (0, u "java/lang/constant/Constable"), (0, .class_ 1113), (0, u "java/lang/constant/ConstantDesc"), (2, u "serialVersionUID"), (0, u "J"), (3, u "REPL"), (0, u "C"), (2, u "LATIN1"), (1, u "UTF16")] 323

def k7m0 : Method := { name := "<init>", desc := "()V", sig := { parameters := [], returnType := none }, accessFlags := 1, code := none }
def k7c1 : Code := { maxStack := 5, maxLocals := 2, code := jdk_42_method_3_code, exceptionTable := #[], attributes := #[] }
def k7m1 : Method := { name := "<init>", desc := "([C)V", sig := { parameters := [(.array .char)], returnType := none }, accessFlags := 1, code := some k7c1 }
def k7c2 : Code := { maxStack := 2, maxLocals := 3, code := jdk_42_method_66_code, exceptionTable := #[], attributes := #[] }
def k7m2 : Method := { name := "equals", desc := "(Ljava/lang/Object;)Z", sig := { parameters := [(.object "java/lang/Object")], returnType := some .boolean }, accessFlags := 1, code := some k7c2 }
def k7c3 : Code := { maxStack := 4, maxLocals := 1, code := jdk_42_method_139_code, exceptionTable := #[], attributes := #[] }
def k7m3 : Method := { name := "valueOf", desc := "(C)Ljava/lang/String;", sig := { parameters := [.char], returnType := some (.object "java/lang/String") }, accessFlags := 9, code := some k7c3 }
def k7c4 : Code := { maxStack := 4, maxLocals := 6, code := jdk_42_method_149_code, exceptionTable := #[], attributes := #[] }
def k7m4 : Method := { name := "<init>", desc := "([CIILjava/lang/Void;)V", sig := { parameters := [(.array .char), .int, .int, (.object "java/lang/Void")], returnType := none }, accessFlags := 2, code := some k7c4 }
def k7c5 : Code := { maxStack := 2, maxLocals := 3, code := jdk_42_method_151_code, exceptionTable := #[], attributes := #[] }
def k7m5 : Method := { name := "<init>", desc := "([BB)V", sig := { parameters := [(.array .byte), .byte], returnType := none }, accessFlags := 0, code := some k7c5 }
/-- java/lang/String -/
def k7 : Class := { plain "java/lang/String" (some 0) with
  accessFlags := 49
  interfaces := #[2, 3, 4, 5, 6]
  cf := some (fileOf pool7 10 #[.nestMembers #[1103]] #[{ accessFlags := 1, nameIndex := 5, descriptorIndex := 6, attributes := #[] }, { accessFlags := 1, nameIndex := 5, descriptorIndex := 1010, attributes := #[] }, { accessFlags := 1, nameIndex := 543, descriptorIndex := 573, attributes := #[] }, { accessFlags := 9, nameIndex := 782, descriptorIndex := 783, attributes := #[] }, { accessFlags := 2, nameIndex := 5, descriptorIndex := 29, attributes := #[] }, { accessFlags := 0, nameIndex := 5, descriptorIndex := 211, attributes := #[] }] 49 2 #[1106, 1108, 575, 1110, 1112] #[{ accessFlags := 18, nameIndex := 13, descriptorIndex := 14, attributes := #[] }, { accessFlags := 18, nameIndex := 17, descriptorIndex := 18, attributes := #[] }, { accessFlags := 2, nameIndex := 21, descriptorIndex := 22, attributes := #[] }, { accessFlags := 2, nameIndex := 25, descriptorIndex := 26, attributes := #[] }, { accessFlags := 26, nameIndex := 1116, descriptorIndex := 1117, attributes := #[] }, { accessFlags := 24, nameIndex := 40, descriptorIndex := 26, attributes := #[] }, { accessFlags := 26, nameIndex := 1101, descriptorIndex := 1102, attributes := #[] }, { accessFlags := 26, nameIndex := 1121, descriptorIndex := 1122, attributes := #[] }, { accessFlags := 25, nameIndex := 599, descriptorIndex := 600, attributes := #[] }, { accessFlags := 24, nameIndex := 1125, descriptorIndex := 18, attributes := #[] }, { accessFlags := 24, nameIndex := 1127, descriptorIndex := 18, attributes := #[] }])
  fields := #[{ name := "value", type := (.array .byte), accessFlags := 18, slot := 0, constantValue := 0 }, { name := "coder", type := .byte, accessFlags := 18, slot := 1, constantValue := 0 }, { name := "hash", type := .int, accessFlags := 2, slot := 2, constantValue := 0 }, { name := "hashIsZero", type := .boolean, accessFlags := 2, slot := 3, constantValue := 0 }, { name := "serialVersionUID", type := .long, accessFlags := 26, slot := 0, constantValue := 0 }, { name := "COMPACT_STRINGS", type := .boolean, accessFlags := 24, slot := 1, constantValue := 0 }, { name := "serialPersistentFields", type := (.array (.object "java/io/ObjectStreamField")), accessFlags := 26, slot := 2, constantValue := 0 }, { name := "REPL", type := .char, accessFlags := 26, slot := 3, constantValue := 0 }, { name := "CASE_INSENSITIVE_ORDER", type := (.object "java/util/Comparator"), accessFlags := 25, slot := 4, constantValue := 0 }, { name := "LATIN1", type := .byte, accessFlags := 24, slot := 5, constantValue := 0 }, { name := "UTF16", type := .byte, accessFlags := 24, slot := 6, constantValue := 0 }]
  methods := #[k7m0, k7m1, k7m2, k7m3, k7m4, k7m5]
  instanceTypes := #[(.array .byte), .byte, .int, .boolean]
  staticTypes := #[.long, .boolean, (.array (.object "java/io/ObjectStreamField")), .char, (.object "java/util/Comparator"), .byte, .byte]
  resolved := Array.replicate 1451 none
  statics := some 0 }

def pool8 : Array CpInfo := pool [(1, .methodref 2 3), (0, .class_ 4), (0, .nameAndType 5 6), (0, u "java/lang/Object"), (0, u "<init>"), (0, u "()V"), (0, .string 8), (0, u "name"), (0, .methodref 10 11), (0, .class_ 12), (0, .nameAndType 13 14), (0, u "java/util/Objects"), (0, u "requireNonNull"), (0, u "(Ljava/lang/Object;Ljava/lang/String;)Ljava/lang/Object;"), (0, .class_ 16), (0, u "java/lang/String"), (0, .fieldref 18 19), (0, .class_ 20), (0, .nameAndType 8 21), (0, u "com/example/restwright/restwright/core/Relationship"), (0, u "Ljava/lang/String;"), (0, .string 23), (0, u "target"), (0, .fieldref 18 25), (0, .nameAndType 23 21), (0, .fieldref 18 27), (0, .nameAndType 28 29), (0, u "required"), (0, u "Z"), (0, .fieldref 18 31), (0, .nameAndType 32 21), (0, u "inverse"), (0, .methodref 18 34), (0, .nameAndType 5 35), (0, u "(Ljava/lang/String;Ljava/lang/String;ZLjava/lang/String;)V"), (0, .string 32), (10, u "toMany"), (0, u "(Ljava/lang/String;Ljava/lang/String;Ljava/lang/String;)Lcom/example/restwright/restwright/core/Relationship;"), (0, u "()Ljava/lang/String;"), (0, u "()Z")] 6

def k8c0 : Code := { maxStack := 3, maxLocals := 5, code := prog_20_method_1_code, exceptionTable := #[], attributes := #[] }
def k8m0 : Method := { name := "<init>", desc := "(Ljava/lang/String;Ljava/lang/String;ZLjava/lang/String;)V", sig := { parameters := [(.object "java/lang/String"), (.object "java/lang/String"), .boolean, (.object "java/lang/String")], returnType := none }, accessFlags := 2, code := some k8c0 }
def k8c1 : Code := { maxStack := 7, maxLocals := 3, code := prog_20_method_3_code, exceptionTable := #[], attributes := #[] }
def k8m1 : Method := { name := "toMany", desc := "(Ljava/lang/String;Ljava/lang/String;Ljava/lang/String;)Lcom/example/restwright/restwright/core/Relationship;", sig := { parameters := [(.object "java/lang/String"), (.object "java/lang/String"), (.object "java/lang/String")], returnType := some (.object "com/example/restwright/restwright/core/Relationship") }, accessFlags := 9, code := some k8c1 }
def k8c2 : Code := { maxStack := 1, maxLocals := 1, code := prog_20_method_4_code, exceptionTable := #[], attributes := #[] }
def k8m2 : Method := { name := "name", desc := "()Ljava/lang/String;", sig := { parameters := [], returnType := some (.object "java/lang/String") }, accessFlags := 1, code := some k8c2 }
def k8c3 : Code := { maxStack := 1, maxLocals := 1, code := prog_20_method_5_code, exceptionTable := #[], attributes := #[] }
def k8m3 : Method := { name := "target", desc := "()Ljava/lang/String;", sig := { parameters := [], returnType := some (.object "java/lang/String") }, accessFlags := 1, code := some k8c3 }
def k8c4 : Code := { maxStack := 1, maxLocals := 1, code := prog_20_method_6_code, exceptionTable := #[], attributes := #[] }
def k8m4 : Method := { name := "required", desc := "()Z", sig := { parameters := [], returnType := some .boolean }, accessFlags := 1, code := some k8c4 }
def k8c5 : Code := { maxStack := 1, maxLocals := 1, code := prog_20_method_7_code, exceptionTable := #[], attributes := #[] }
def k8m5 : Method := { name := "toMany", desc := "()Z", sig := { parameters := [], returnType := some .boolean }, accessFlags := 1, code := some k8c5 }
/-- com/example/restwright/restwright/core/Relationship -/
def k8 : Class := { plain "com/example/restwright/restwright/core/Relationship" (some 0) with
  accessFlags := 49
  interfaces := #[]
  cf := some (fileOf pool8 18 #[] #[{ accessFlags := 2, nameIndex := 5, descriptorIndex := 35, attributes := #[] }, { accessFlags := 9, nameIndex := 47, descriptorIndex := 48, attributes := #[] }, { accessFlags := 1, nameIndex := 8, descriptorIndex := 49, attributes := #[] }, { accessFlags := 1, nameIndex := 23, descriptorIndex := 49, attributes := #[] }, { accessFlags := 1, nameIndex := 28, descriptorIndex := 50, attributes := #[] }, { accessFlags := 1, nameIndex := 47, descriptorIndex := 50, attributes := #[] }] 49 2 #[] #[{ accessFlags := 18, nameIndex := 8, descriptorIndex := 21, attributes := #[] }, { accessFlags := 18, nameIndex := 23, descriptorIndex := 21, attributes := #[] }, { accessFlags := 18, nameIndex := 28, descriptorIndex := 29, attributes := #[] }, { accessFlags := 18, nameIndex := 32, descriptorIndex := 21, attributes := #[] }])
  fields := #[{ name := "name", type := (.object "java/lang/String"), accessFlags := 18, slot := 0, constantValue := 0 }, { name := "target", type := (.object "java/lang/String"), accessFlags := 18, slot := 1, constantValue := 0 }, { name := "required", type := .boolean, accessFlags := 18, slot := 2, constantValue := 0 }, { name := "inverse", type := (.object "java/lang/String"), accessFlags := 18, slot := 3, constantValue := 0 }]
  methods := #[k8m0, k8m1, k8m2, k8m3, k8m4, k8m5]
  instanceTypes := #[(.object "java/lang/String"), (.object "java/lang/String"), .boolean, (.object "java/lang/String")]
  staticTypes := #[]
  resolved := Array.replicate 57 none
  statics := none }

def pool9 : Array CpInfo := pool [(2, .class_ 4), (1, u "java/lang/Object"), (0, u "<init>"), (0, u "()V"), (35, .class_ 44), (1, u "java/util/Objects"), (0, u "requireNonNull"), (48, u "(Ljava/lang/Object;Ljava/lang/String;)Ljava/lang/Object;")] 89

def k9m0 : Method := { name := "<init>", desc := "()V", sig := { parameters := [], returnType := none }, accessFlags := 2, code := none }
def k9c1 : Code := { maxStack := 3, maxLocals := 2, code := jdk_31_method_11_code, exceptionTable := #[], attributes := #[] }
def k9m1 : Method := { name := "requireNonNull", desc := "(Ljava/lang/Object;Ljava/lang/String;)Ljava/lang/Object;", sig := { parameters := [(.object "java/lang/Object"), (.object "java/lang/String")], returnType := some (.object "java/lang/Object") }, accessFlags := 9, code := some k9c1 }
/-- java/util/Objects -/
def k9 : Class := { plain "java/util/Objects" (some 0) with
  accessFlags := 49
  interfaces := #[]
  cf := some (fileOf pool9 42 #[] #[{ accessFlags := 2, nameIndex := 5, descriptorIndex := 6, attributes := #[] }, { accessFlags := 9, nameIndex := 45, descriptorIndex := 94, attributes := #[] }] 49 2 #[] #[])
  fields := #[]
  methods := #[k9m0, k9m1]
  instanceTypes := #[]
  staticTypes := #[]
  resolved := Array.replicate 184 none
  statics := none }

def pool10 : Array CpInfo := pool [(6, .class_ 8), (1, u "java/lang/Object"), (0, u "<init>"), (0, u "()V"), (1, .class_ 14), (1, u "java/lang/StringUTF16"), (31, u "$assertionsDisabled"), (0, u "Z"), (13, u "HI_BYTE_SHIFT"), (0, u "I"), (2, u "LO_BYTE_SHIFT"), (49, .methodref 12 116), (0, .nameAndType 117 118), (0, u "compress"), (0, u "([CI[BII)I"), (3, u "([CII)[B"), (138, u "coderFromArrayLen"), (0, u "([BI)B"), (106, .class_ 371), (1, u "java/lang/StringUTF16$LinesSpliterator"), (58, u "MAX_LENGTH"), (196, .class_ 628), (0, u "java/lang/StringUTF16$CodePointsSpliterator"), (0, .class_ 630), (0, u "java/lang/StringUTF16$CharsSpliterator")] 4

def k10m0 : Method := { name := "<init>", desc := "()V", sig := { parameters := [], returnType := none }, accessFlags := 0, code := none }
def k10c1 : Code := { maxStack := 2, maxLocals := 2, code := jdk_52_method_15_code, exceptionTable := #[], attributes := #[] }
def k10m1 : Method := { name := "coderFromArrayLen", desc := "([BI)B", sig := { parameters := [(.array .byte), .int], returnType := some .byte }, accessFlags := 8, code := some k10c1 }
def k10c2 : Code := { maxStack := 5, maxLocals := 6, code := jdk_52_method_16_code, exceptionTable := #[], attributes := #[] }
def k10m2 : Method := { name := "compress", desc := "([CII)[B", sig := { parameters := [(.array .char), .int, .int], returnType := some (.array .byte) }, accessFlags := 9, code := some k10c2 }
def k10c3 : Code := { maxStack := 3, maxLocals := 7, code := jdk_52_method_21_code, exceptionTable := #[], attributes := #[] }
def k10m3 : Method := { name := "compress", desc := "([CI[BII)I", sig := { parameters := [(.array .char), .int, (.array .byte), .int, .int], returnType := some .int }, accessFlags := 9, code := some k10c3 }
/-- java/lang/StringUTF16 -/
def k10 : Class := { plain "java/lang/StringUTF16" (some 0) with
  accessFlags := 48
  interfaces := #[]
  cf := some (fileOf pool10 12 #[.nestMembers #[627, 629, 369]] #[{ accessFlags := 0, nameIndex := 9, descriptorIndex := 10, attributes := #[] }, { accessFlags := 8, nameIndex := 261, descriptorIndex := 262, attributes := #[] }, { accessFlags := 9, nameIndex := 117, descriptorIndex := 122, attributes := #[] }, { accessFlags := 9, nameIndex := 117, descriptorIndex := 118, attributes := #[] }] 48 6 #[] #[{ accessFlags := 26, nameIndex := 61, descriptorIndex := 62, attributes := #[] }, { accessFlags := 26, nameIndex := 65, descriptorIndex := 62, attributes := #[] }, { accessFlags := 24, nameIndex := 430, descriptorIndex := 62, attributes := #[] }, { accessFlags := 4120, nameIndex := 46, descriptorIndex := 47, attributes := #[] }])
  fields := #[{ name := "HI_BYTE_SHIFT", type := .int, accessFlags := 26, slot := 0, constantValue := 0 }, { name := "LO_BYTE_SHIFT", type := .int, accessFlags := 26, slot := 1, constantValue := 0 }, { name := "MAX_LENGTH", type := .int, accessFlags := 24, slot := 2, constantValue := 0 }, { name := "$assertionsDisabled", type := .boolean, accessFlags := 4120, slot := 3, constantValue := 0 }]
  methods := #[k10m0, k10m1, k10m2, k10m3]
  instanceTypes := #[]
  staticTypes := #[.int, .int, .int, .boolean]
  resolved := Array.replicate 635 none
  statics := none }

def pool11 : Array CpInfo := pool [(4, .class_ 6), (1, u "java/lang/Object"), (0, u "<init>"), (0, u "()V"), (5, .class_ 16), (1, u "java/lang/StringLatin1"), (73, u "canEncode"), (14, u "(C)Z"), (15, u "$assertionsDisabled"), (0, u "Z"), (98, .class_ 223), (1, u "java/lang/StringLatin1$LinesSpliterator"), (156, u "toBytes"), (1, u "(C)[B"), (7, .class_ 391), (0, u "java/lang/StringLatin1$CharsSpliterator")] 3

def k11m0 : Method := { name := "<init>", desc := "()V", sig := { parameters := [], returnType := none }, accessFlags := 0, code := none }
def k11c1 : Code := { maxStack := 2, maxLocals := 1, code := jdk_43_method_3_code, exceptionTable := #[], attributes := #[] }
def k11m1 : Method := { name := "canEncode", desc := "(C)Z", sig := { parameters := [.char], returnType := some .boolean }, accessFlags := 9, code := some k11c1 }
def k11c2 : Code := { maxStack := 4, maxLocals := 1, code := jdk_43_method_46_code, exceptionTable := #[], attributes := #[] }
def k11m2 : Method := { name := "toBytes", desc := "(C)[B", sig := { parameters := [.char], returnType := some (.array .byte) }, accessFlags := 9, code := some k11c2 }
/-- java/lang/StringLatin1 -/
def k11 : Class := { plain "java/lang/StringLatin1" (some 0) with
  accessFlags := 48
  interfaces := #[]
  cf := some (fileOf pool11 14 #[.nestMembers #[390, 221]] #[{ accessFlags := 0, nameIndex := 7, descriptorIndex := 8, attributes := #[] }, { accessFlags := 9, nameIndex := 90, descriptorIndex := 105, attributes := #[] }, { accessFlags := 9, nameIndex := 380, descriptorIndex := 382, attributes := #[] }] 48 4 #[] #[{ accessFlags := 4120, nameIndex := 121, descriptorIndex := 122, attributes := #[] }])
  fields := #[{ name := "$assertionsDisabled", type := .boolean, accessFlags := 4120, slot := 0, constantValue := 0 }]
  methods := #[k11m0, k11m1, k11m2]
  instanceTypes := #[]
  staticTypes := #[.boolean]
  resolved := Array.replicate 395 none
  statics := none }

def pool12 : Array CpInfo := pool [(2, .class_ 4), (1, u "java/lang/Object"), (0, u "<init>"), (0, u "()V"), (17, .class_ 26), (1, u "jdk/internal/util/Preconditions"), (28, .class_ 56), (0, u "jdk/internal/util/Preconditions$4"), (57, .class_ 115), (0, u "jdk/internal/util/Preconditions$1"), (7, u "SIOOBE_FORMATTER"), (0, u "Ljava/util/function/BiFunction;"), (0, .class_ 126), (0, u "jdk/internal/util/Preconditions$2"), (3, u "AIOOBE_FORMATTER"), (0, .class_ 132), (0, u "jdk/internal/util/Preconditions$3"), (3, u "IOOBE_FORMATTER")] 57

def k12m0 : Method := { name := "<init>", desc := "()V", sig := { parameters := [], returnType := none }, accessFlags := 1, code := none }
/-- jdk/internal/util/Preconditions -/
def k12 : Class := { plain "jdk/internal/util/Preconditions" (some 0) with
  accessFlags := 33
  interfaces := #[]
  cf := some (fileOf pool12 24 #[.nestMembers #[55, 131, 125, 114]] #[{ accessFlags := 1, nameIndex := 5, descriptorIndex := 6, attributes := #[] }] 33 2 #[] #[{ accessFlags := 25, nameIndex := 123, descriptorIndex := 124, attributes := #[] }, { accessFlags := 25, nameIndex := 130, descriptorIndex := 124, attributes := #[] }, { accessFlags := 25, nameIndex := 136, descriptorIndex := 124, attributes := #[] }])
  fields := #[{ name := "SIOOBE_FORMATTER", type := (.object "java/util/function/BiFunction"), accessFlags := 25, slot := 0, constantValue := 0 }, { name := "AIOOBE_FORMATTER", type := (.object "java/util/function/BiFunction"), accessFlags := 25, slot := 1, constantValue := 0 }, { name := "IOOBE_FORMATTER", type := (.object "java/util/function/BiFunction"), accessFlags := 25, slot := 2, constantValue := 0 }]
  methods := #[k12m0]
  instanceTypes := #[]
  staticTypes := #[(.object "java/util/function/BiFunction"), (.object "java/util/function/BiFunction"), (.object "java/util/function/BiFunction")]
  resolved := Array.replicate 194 none
  statics := some 1 }

def pool13 : Array CpInfo := pool [(9, u "<init>"), (6, .class_ 18), (1, u "java/lang/Object"), (0, u "()V"), (1, .class_ 23), (1, u "jdk/internal/util/ArraysSupport"), (0, u "LOG2_ARRAY_LONG_INDEX_SCALE"), (0, u "I"), (2, u "U"), (0, u "Ljdk/internal/misc/Unsafe;"), (8, u "BIG_ENDIAN"), (0, u "Z"), (8, u "LOG2_BYTE_BIT_SIZE"), (4, u "LOG2_ARRAY_INT_INDEX_SCALE"), (54, u "JLA"), (0, u "Ljdk/internal/access/JavaLangAccess;"), (11, u "LOG2_ARRAY_BOOLEAN_INDEX_SCALE"), (9, u "LOG2_ARRAY_BYTE_INDEX_SCALE"), (5, u "LOG2_ARRAY_CHAR_INDEX_SCALE"), (5, u "LOG2_ARRAY_SHORT_INDEX_SCALE"), (18, u "LOG2_ARRAY_FLOAT_INDEX_SCALE"), (24, u "LOG2_ARRAY_DOUBLE_INDEX_SCALE"), (89, u "T_BOOLEAN"), (2, u "T_CHAR"), (1, u "T_FLOAT"), (1, u "T_DOUBLE"), (1, u "T_BYTE"), (1, u "T_SHORT"), (1, u "T_INT"), (1, u "T_LONG"), (1, u "SOFT_MAX_ARRAY_LENGTH")] 83

def k13m0 : Method := { name := "<init>", desc := "()V", sig := { parameters := [], returnType := none }, accessFlags := 2, code := none }
/-- jdk/internal/util/ArraysSupport -/
def k13 : Class := { plain "jdk/internal/util/ArraysSupport" (some 0) with
  accessFlags := 33
  interfaces := #[]
  cf := some (fileOf pool13 21 #[] #[{ accessFlags := 2, nameIndex := 9, descriptorIndex := 19, attributes := #[] }] 33 16 #[] #[{ accessFlags := 24, nameIndex := 28, descriptorIndex := 29, attributes := #[] }, { accessFlags := 26, nameIndex := 38, descriptorIndex := 39, attributes := #[] }, { accessFlags := 25, nameIndex := 121, descriptorIndex := 25, attributes := #[] }, { accessFlags := 25, nameIndex := 131, descriptorIndex := 25, attributes := #[] }, { accessFlags := 25, nameIndex := 137, descriptorIndex := 25, attributes := #[] }, { accessFlags := 25, nameIndex := 143, descriptorIndex := 25, attributes := #[] }, { accessFlags := 25, nameIndex := 53, descriptorIndex := 25, attributes := #[] }, { accessFlags := 25, nameIndex := 24, descriptorIndex := 25, attributes := #[] }, { accessFlags := 25, nameIndex := 162, descriptorIndex := 25, attributes := #[] }, { accessFlags := 25, nameIndex := 187, descriptorIndex := 25, attributes := #[] }, { accessFlags := 26, nameIndex := 48, descriptorIndex := 25, attributes := #[] }, { accessFlags := 25, nameIndex := 277, descriptorIndex := 25, attributes := #[] }, { accessFlags := 25, nameIndex := 280, descriptorIndex := 25, attributes := #[] }, { accessFlags := 25, nameIndex := 282, descriptorIndex := 25, attributes := #[] }, { accessFlags := 25, nameIndex := 284, descriptorIndex := 25, attributes := #[] }, { accessFlags := 25, nameIndex := 286, descriptorIndex := 25, attributes := #[] }, { accessFlags := 25, nameIndex := 288, descriptorIndex := 25, attributes := #[] }, { accessFlags := 25, nameIndex := 290, descriptorIndex := 25, attributes := #[] }, { accessFlags := 25, nameIndex := 292, descriptorIndex := 25, attributes := #[] }, { accessFlags := 26, nameIndex := 108, descriptorIndex := 109, attributes := #[] }, { accessFlags := 25, nameIndex := 294, descriptorIndex := 25, attributes := #[] }])
  fields := #[{ name := "U", type := (.object "jdk/internal/misc/Unsafe"), accessFlags := 24, slot := 0, constantValue := 0 }, { name := "BIG_ENDIAN", type := .boolean, accessFlags := 26, slot := 1, constantValue := 0 }, { name := "LOG2_ARRAY_BOOLEAN_INDEX_SCALE", type := .int, accessFlags := 25, slot := 2, constantValue := 0 }, { name := "LOG2_ARRAY_BYTE_INDEX_SCALE", type := .int, accessFlags := 25, slot := 3, constantValue := 0 }, { name := "LOG2_ARRAY_CHAR_INDEX_SCALE", type := .int, accessFlags := 25, slot := 4, constantValue := 0 }, { name := "LOG2_ARRAY_SHORT_INDEX_SCALE", type := .int, accessFlags := 25, slot := 5, constantValue := 0 }, { name := "LOG2_ARRAY_INT_INDEX_SCALE", type := .int, accessFlags := 25, slot := 6, constantValue := 0 }, { name := "LOG2_ARRAY_LONG_INDEX_SCALE", type := .int, accessFlags := 25, slot := 7, constantValue := 0 }, { name := "LOG2_ARRAY_FLOAT_INDEX_SCALE", type := .int, accessFlags := 25, slot := 8, constantValue := 0 }, { name := "LOG2_ARRAY_DOUBLE_INDEX_SCALE", type := .int, accessFlags := 25, slot := 9, constantValue := 0 }, { name := "LOG2_BYTE_BIT_SIZE", type := .int, accessFlags := 26, slot := 10, constantValue := 0 }, { name := "T_BOOLEAN", type := .int, accessFlags := 25, slot := 11, constantValue := 0 }, { name := "T_CHAR", type := .int, accessFlags := 25, slot := 12, constantValue := 0 }, { name := "T_FLOAT", type := .int, accessFlags := 25, slot := 13, constantValue := 0 }, { name := "T_DOUBLE", type := .int, accessFlags := 25, slot := 14, constantValue := 0 }, { name := "T_BYTE", type := .int, accessFlags := 25, slot := 15, constantValue := 0 }, { name := "T_SHORT", type := .int, accessFlags := 25, slot := 16, constantValue := 0 }, { name := "T_INT", type := .int, accessFlags := 25, slot := 17, constantValue := 0 }, { name := "T_LONG", type := .int, accessFlags := 25, slot := 18, constantValue := 0 }, { name := "JLA", type := (.object "jdk/internal/access/JavaLangAccess"), accessFlags := 26, slot := 19, constantValue := 0 }, { name := "SOFT_MAX_ARRAY_LENGTH", type := .int, accessFlags := 25, slot := 20, constantValue := 0 }]
  methods := #[k13m0]
  instanceTypes := #[]
  staticTypes := #[(.object "jdk/internal/misc/Unsafe"), .boolean, .int, .int, .int, .int, .int, .int, .int, .int, .int, .int, .int, .int, .int, .int, .int, .int, .int, (.object "jdk/internal/access/JavaLangAccess"), .int]
  resolved := Array.replicate 378 none
  statics := none }

def pool14 : Array CpInfo := pool [(1, u "java/lang/Cloneable"), (0, .class_ 1), (0, u "java/lang/Object"), (0, .class_ 3)] 3

/-- java/lang/Cloneable -/
def k14 : Class := { plain "java/lang/Cloneable" (some 0) with
  accessFlags := 1537
  interfaces := #[]
  cf := some (fileOf pool14 2 #[] #[] 1537 4 #[] #[])
  fields := #[]
  methods := #[]
  instanceTypes := #[]
  staticTypes := #[]
  resolved := Array.replicate 8 none
  statics := none }

/-- the primitive byte -/
def k15 : Class := { plain "byte" none with kind := .primitive 'B', accessFlags := 0x411 }
/-- [B -/
def k16 : Class := { plain "[B" (some 0) with kind := .array 15 .byte, interfaces := #[14, 2], accessFlags := 1041 }

/-- the primitive char -/
def k17 : Class := { plain "char" none with kind := .primitive 'C', accessFlags := 0x411 }
/-- [C -/
def k18 : Class := { plain "[C" (some 0) with kind := .array 17 .char, interfaces := #[14, 2], accessFlags := 1041 }

/-- the primitive int -/
def k19 : Class := { plain "int" none with kind := .primitive 'I', accessFlags := 0x411 }
/-- [I -/
def k20 : Class := { plain "[I" (some 0) with kind := .array 19 .int, interfaces := #[14, 2], accessFlags := 1041 }

def heap : Heap := #[{ cls := 7, slots := #[.long 0, .int 1, .null, .int 0, .null, .int 0, .int 0], vm := .statics 7 },
  { cls := 12, slots := #[.null, .null, .null], vm := .statics 12 }]
def classes : Array Class := #[k0, k1, k2, k3, k4, k5, k6, k7, k8, k9, k10, k11, k12, k13, k14, k15, k16, k17, k18, k19, k20]
def interned : List (Array UInt16 × Addr) := []
def slotsUsed : Nat := 10
def theMethod : MethodId := ⟨1, 2⟩
def args0 : Array Value := #[.int 5, .int 5, .int 5]
def aboutOver (below : List Frame) : State where
  vm := { classes := classes, interned := interned.toArray }
  heap := heap
  slotsUsed := slotsUsed
  threads := #[{ frames := .invoking theMethod args0 :: below }]
def below0 : List Frame := [.native { method := ⟨0, 0⟩, args := #[] }]
def about1 : State := aboutOver below0
def p0 : Program := .bare "" "" ""
def e0 : Env := launch0.env 0 0 0
theorem w_frames : about1.frames = Frame.invoking theMethod args0 :: below0 := rfl
set_option maxRecDepth 65536 in
theorem w_args : argsFit about1.vm theMethod args0 = true := by decide +kernel
set_option maxRecDepth 65536 in
theorem w_heap : heapFits about1 = true := by decide +kernel
set_option maxRecDepth 65536 in
theorem w_runnable : about1.curStatus? = some .runnable := by decide +kernel
set_option maxRecDepth 65536 in
theorem w_alone : about1.alone = true := by decide +kernel
set_option maxRecDepth 65536 in
theorem w_named : about1.methodNamed? x = some theMethod := by decide +kernel
set_option maxRecDepth 65536 in
theorem w_hears : about1.hears theMethod below0 = true := by decide +kernel
set_option maxRecDepth 65536 in
theorem w_ripe : about1.ripe theMethod args0 below0 = true := by decide +kernel
theorem w_running : about1.status = .running := rfl
set_option maxRecDepth 65536 in
theorem w_room : about1.hasRoom e0.platform room_1 = true :=
  launch0.hasRoom_least _ room_1 (by decide +kernel) (by decide +kernel) (by decide +kernel) (by decide +kernel) (by decide +kernel) (by decide +kernel)
theorem allAtoms_all (ts : List Jvm.Cond) (a : Array Jvm.Value) (st : Jvm.State) : (allAtoms ts).before a st = ts.all (fun c => c.before a st) := by
  induction ts with
  | nil => rfl
  | cons c t ih =>
    show (Jvm.Cond.and c (allAtoms t)).before a st = _
    rw [Jvm.Cond.before_and, ih, List.all_cons]
def words1 : List Jvm.Cond := Jvm.Cond.code x code maxLocals ret :: tables_1
/-- a 'code' word, met by the world's own term for the bytes: nothing is compared byte by byte -/
theorem code_word {y : MethodName} {bytes : ByteArray} {mx : Nat} {rt : Option FieldType} {a : Array Value} {s : State} {m : MethodId} {meth : Method} {c : Code} (h1 : s.methodNamed? y = some m) (h2 : s.vm.method? m = some meth) (h3 : meth.code = some c) (h4 : c.code = bytes)
    (h5 : (c.maxLocals == mx && c.exceptionTable.isEmpty && decide (c.maxStack ≤ mostOperands) && decide (meth.sig.returnType = rt) && !meth.locks && decide (parseMethodDescriptor y.desc = some meth.sig)) = true) : (Jvm.Cond.code y bytes mx rt).before a s = true := by
  simp only [Bool.and_eq_true, beq_iff_eq, Bool.not_eq_true', decide_eq_true_eq] at h5
  obtain ⟨⟨⟨⟨⟨g1, g2⟩, g3⟩, g4⟩, g5⟩, g6⟩ := h5
  simp [Cond.before, Cond.holds, Cond.value, h1, h2, h3, h4, g1, g2, g3, g4, g5, g6]
def isCode : Jvm.Cond → Bool
  | .code _ _ _ _ => true
  | _ => false
theorem all_split {L : List Jvm.Cond} {P : Jvm.Cond → Bool} (h1 : L.all (fun c => isCode c || P c) = true) (h2 : ∀ c ∈ L.filter isCode, P c = true) : L.all P = true := by
  refine List.all_eq_true.mpr fun c hc => ?_
  have h := List.all_eq_true.mp h1 c hc
  rcases Bool.eq_false_or_eq_true (isCode c) with hi | hi
  · exact h2 c (List.mem_filter.mpr ⟨hc, hi⟩)
  · simpa [hi] using h
set_option maxRecDepth 65536 in
theorem w_c0 : (Jvm.Cond.code x code maxLocals ret).before args0 about1 = true := code_word (m := ⟨1, 2⟩) (meth := k1m2) (c := k1c2) (by decide +kernel) rfl rfl rfl (by decide +kernel)
set_option maxRecDepth 65536 in
theorem w_c1 : (Jvm.Cond.code ({ cls := "com/example/restwright/restwright/core/RelationshipToManyPinLaw", name := "str", desc := "(I)Ljava/lang/String;" } : Jvm.MethodName) method_2_code (5 : Nat) (Option.some (Jvm.ClassFile.FieldType.object "java/lang/String"))).before args0 about1 = true := code_word (m := ⟨1, 1⟩) (meth := k1m1) (c := k1c1) (by decide +kernel) rfl rfl rfl (by decide +kernel)
set_option maxRecDepth 65536 in
theorem w_c2 : (Jvm.Cond.code ({ cls := "java/lang/String", name := "<init>", desc := "([C)V" } : Jvm.MethodName) jdk_42_method_3_code (2 : Nat) (Option.none : Option Jvm.ClassFile.FieldType)).before args0 about1 = true := code_word (m := ⟨7, 1⟩) (meth := k7m1) (c := k7c1) (by decide +kernel) rfl rfl rfl (by decide +kernel)
set_option maxRecDepth 65536 in
theorem w_c3 : (Jvm.Cond.code ({ cls := "java/lang/String", name := "<init>", desc := "([CIILjava/lang/Void;)V" } : Jvm.MethodName) jdk_42_method_149_code (6 : Nat) (Option.none : Option Jvm.ClassFile.FieldType)).before args0 about1 = true := code_word (m := ⟨7, 4⟩) (meth := k7m4) (c := k7c4) (by decide +kernel) rfl rfl rfl (by decide +kernel)
set_option maxRecDepth 65536 in
theorem w_c4 : (Jvm.Cond.code ({ cls := "java/lang/Object", name := "<init>", desc := "()V" } : Jvm.MethodName) object_method_1_code (1 : Nat) (Option.none : Option Jvm.ClassFile.FieldType)).before args0 about1 = true := code_word (m := ⟨0, 0⟩) (meth := k0m0) (c := k0c0) (by decide +kernel) rfl rfl rfl (by decide +kernel)
set_option maxRecDepth 65536 in
theorem w_c5 : (Jvm.Cond.code ({ cls := "com/example/restwright/restwright/core/Relationship", name := "toMany", desc := "(Ljava/lang/String;Ljava/lang/String;Ljava/lang/String;)Lcom/example/restwright/restwright/core/Relationship;" } : Jvm.MethodName) prog_20_method_3_code (3 : Nat) (Option.some (Jvm.ClassFile.FieldType.object "com/example/restwright/restwright/core/Relationship"))).before args0 about1 = true := code_word (m := ⟨8, 1⟩) (meth := k8m1) (c := k8c1) (by decide +kernel) rfl rfl rfl (by decide +kernel)
set_option maxRecDepth 65536 in
theorem w_c6 : (Jvm.Cond.code ({ cls := "java/util/Objects", name := "requireNonNull", desc := "(Ljava/lang/Object;Ljava/lang/String;)Ljava/lang/Object;" } : Jvm.MethodName) jdk_31_method_11_code (2 : Nat) (Option.some (Jvm.ClassFile.FieldType.object "java/lang/Object"))).before args0 about1 = true := code_word (m := ⟨9, 1⟩) (meth := k9m1) (c := k9c1) (by decide +kernel) rfl rfl rfl (by decide +kernel)
set_option maxRecDepth 65536 in
theorem w_c7 : (Jvm.Cond.code ({ cls := "com/example/restwright/restwright/core/Relationship", name := "<init>", desc := "(Ljava/lang/String;Ljava/lang/String;ZLjava/lang/String;)V" } : Jvm.MethodName) prog_20_method_1_code (5 : Nat) (Option.none : Option Jvm.ClassFile.FieldType)).before args0 about1 = true := code_word (m := ⟨8, 0⟩) (meth := k8m0) (c := k8c0) (by decide +kernel) rfl rfl rfl (by decide +kernel)
set_option maxRecDepth 65536 in
theorem w_c8 : (Jvm.Cond.code ({ cls := "com/example/restwright/restwright/core/Relationship", name := "name", desc := "()Ljava/lang/String;" } : Jvm.MethodName) prog_20_method_4_code (1 : Nat) (Option.some (Jvm.ClassFile.FieldType.object "java/lang/String"))).before args0 about1 = true := code_word (m := ⟨8, 2⟩) (meth := k8m2) (c := k8c2) (by decide +kernel) rfl rfl rfl (by decide +kernel)
set_option maxRecDepth 65536 in
theorem w_c9 : (Jvm.Cond.code ({ cls := "java/lang/String", name := "equals", desc := "(Ljava/lang/Object;)Z" } : Jvm.MethodName) jdk_42_method_66_code (3 : Nat) (Option.some Jvm.ClassFile.FieldType.boolean)).before args0 about1 = true := code_word (m := ⟨7, 2⟩) (meth := k7m2) (c := k7c2) (by decide +kernel) rfl rfl rfl (by decide +kernel)
set_option maxRecDepth 65536 in
theorem w_c10 : (Jvm.Cond.code ({ cls := "com/example/restwright/restwright/core/Relationship", name := "target", desc := "()Ljava/lang/String;" } : Jvm.MethodName) prog_20_method_5_code (1 : Nat) (Option.some (Jvm.ClassFile.FieldType.object "java/lang/String"))).before args0 about1 = true := code_word (m := ⟨8, 3⟩) (meth := k8m3) (c := k8c3) (by decide +kernel) rfl rfl rfl (by decide +kernel)
set_option maxRecDepth 65536 in
theorem w_c11 : (Jvm.Cond.code ({ cls := "com/example/restwright/restwright/core/Relationship", name := "required", desc := "()Z" } : Jvm.MethodName) prog_20_method_6_code (1 : Nat) (Option.some Jvm.ClassFile.FieldType.boolean)).before args0 about1 = true := code_word (m := ⟨8, 4⟩) (meth := k8m4) (c := k8c4) (by decide +kernel) rfl rfl rfl (by decide +kernel)
set_option maxRecDepth 65536 in
theorem w_c12 : (Jvm.Cond.code ({ cls := "com/example/restwright/restwright/core/Relationship", name := "toMany", desc := "()Z" } : Jvm.MethodName) prog_20_method_7_code (1 : Nat) (Option.some Jvm.ClassFile.FieldType.boolean)).before args0 about1 = true := code_word (m := ⟨8, 5⟩) (meth := k8m5) (c := k8c5) (by decide +kernel) rfl rfl rfl (by decide +kernel)
set_option maxRecDepth 65536 in
theorem w_c13 : (Jvm.Cond.code ({ cls := "java/lang/StringUTF16", name := "compress", desc := "([CII)[B" } : Jvm.MethodName) jdk_52_method_16_code (6 : Nat) (Option.some (Jvm.ClassFile.FieldType.array Jvm.ClassFile.FieldType.byte))).before args0 about1 = true := code_word (m := ⟨10, 2⟩) (meth := k10m2) (c := k10c2) (by decide +kernel) rfl rfl rfl (by decide +kernel)
set_option maxRecDepth 65536 in
theorem w_c14 : (Jvm.Cond.code ({ cls := "java/lang/StringUTF16", name := "compress", desc := "([CI[BII)I" } : Jvm.MethodName) jdk_52_method_21_code (7 : Nat) (Option.some Jvm.ClassFile.FieldType.int)).before args0 about1 = true := code_word (m := ⟨10, 3⟩) (meth := k10m3) (c := k10c3) (by decide +kernel) rfl rfl rfl (by decide +kernel)
set_option maxRecDepth 65536 in
theorem w_c15 : (Jvm.Cond.code ({ cls := "java/lang/StringUTF16", name := "coderFromArrayLen", desc := "([BI)B" } : Jvm.MethodName) jdk_52_method_15_code (2 : Nat) (Option.some Jvm.ClassFile.FieldType.byte)).before args0 about1 = true := code_word (m := ⟨10, 1⟩) (meth := k10m1) (c := k10c1) (by decide +kernel) rfl rfl rfl (by decide +kernel)
set_option maxRecDepth 65536 in
theorem w_c16 : (Jvm.Cond.code ({ cls := "java/lang/String", name := "valueOf", desc := "(C)Ljava/lang/String;" } : Jvm.MethodName) jdk_42_method_139_code (1 : Nat) (Option.some (Jvm.ClassFile.FieldType.object "java/lang/String"))).before args0 about1 = true := code_word (m := ⟨7, 3⟩) (meth := k7m3) (c := k7c3) (by decide +kernel) rfl rfl rfl (by decide +kernel)
set_option maxRecDepth 65536 in
theorem w_c17 : (Jvm.Cond.code ({ cls := "java/lang/StringLatin1", name := "canEncode", desc := "(C)Z" } : Jvm.MethodName) jdk_43_method_3_code (1 : Nat) (Option.some Jvm.ClassFile.FieldType.boolean)).before args0 about1 = true := code_word (m := ⟨11, 1⟩) (meth := k11m1) (c := k11c1) (by decide +kernel) rfl rfl rfl (by decide +kernel)
set_option maxRecDepth 65536 in
theorem w_c18 : (Jvm.Cond.code ({ cls := "java/lang/StringLatin1", name := "toBytes", desc := "(C)[B" } : Jvm.MethodName) jdk_43_method_46_code (1 : Nat) (Option.some (Jvm.ClassFile.FieldType.array Jvm.ClassFile.FieldType.byte))).before args0 about1 = true := code_word (m := ⟨11, 2⟩) (meth := k11m2) (c := k11c2) (by decide +kernel) rfl rfl rfl (by decide +kernel)
set_option maxRecDepth 65536 in
theorem w_c19 : (Jvm.Cond.code ({ cls := "java/lang/String", name := "<init>", desc := "([BB)V" } : Jvm.MethodName) jdk_42_method_151_code (3 : Nat) (Option.none : Option Jvm.ClassFile.FieldType)).before args0 about1 = true := code_word (m := ⟨7, 5⟩) (meth := k7m5) (c := k7c5) (by decide +kernel) rfl rfl rfl (by decide +kernel)
def codes1 : List Jvm.Cond := [Jvm.Cond.code x code maxLocals ret, Jvm.Cond.code ({ cls := "com/example/restwright/restwright/core/RelationshipToManyPinLaw", name := "str", desc := "(I)Ljava/lang/String;" } : Jvm.MethodName) method_2_code (5 : Nat) (Option.some (Jvm.ClassFile.FieldType.object "java/lang/String")), Jvm.Cond.code ({ cls := "java/lang/String", name := "<init>", desc := "([C)V" } : Jvm.MethodName) jdk_42_method_3_code (2 : Nat) (Option.none : Option Jvm.ClassFile.FieldType), Jvm.Cond.code ({ cls := "java/lang/String", name := "<init>", desc := "([CIILjava/lang/Void;)V" } : Jvm.MethodName) jdk_42_method_149_code (6 : Nat) (Option.none : Option Jvm.ClassFile.FieldType), Jvm.Cond.code ({ cls := "java/lang/Object", name := "<init>", desc := "()V" } : Jvm.MethodName) object_method_1_code (1 : Nat) (Option.none : Option Jvm.ClassFile.FieldType), Jvm.Cond.code ({ cls := "com/example/restwright/restwright/core/Relationship", name := "toMany", desc := "(Ljava/lang/String;Ljava/lang/String;Ljava/lang/String;)Lcom/example/restwright/restwright/core/Relationship;" } : Jvm.MethodName) prog_20_method_3_code (3 : Nat) (Option.some (Jvm.ClassFile.FieldType.object "com/example/restwright/restwright/core/Relationship")), Jvm.Cond.code ({ cls := "java/util/Objects", name := "requireNonNull", desc := "(Ljava/lang/Object;Ljava/lang/String;)Ljava/lang/Object;" } : Jvm.MethodName) jdk_31_method_11_code (2 : Nat) (Option.some (Jvm.ClassFile.FieldType.object "java/lang/Object")), Jvm.Cond.code ({ cls := "com/example/restwright/restwright/core/Relationship", name := "<init>", desc := "(Ljava/lang/String;Ljava/lang/String;ZLjava/lang/String;)V" } : Jvm.MethodName) prog_20_method_1_code (5 : Nat) (Option.none : Option Jvm.ClassFile.FieldType), Jvm.Cond.code ({ cls := "com/example/restwright/restwright/core/Relationship", name := "name", desc := "()Ljava/lang/String;" } : Jvm.MethodName) prog_20_method_4_code (1 : Nat) (Option.some (Jvm.ClassFile.FieldType.object "java/lang/String")), Jvm.Cond.code ({ cls := "java/lang/String", name := "equals", desc := "(Ljava/lang/Object;)Z" } : Jvm.MethodName) jdk_42_method_66_code (3 : Nat) (Option.some Jvm.ClassFile.FieldType.boolean), Jvm.Cond.code ({ cls := "com/example/restwright/restwright/core/Relationship", name := "target", desc := "()Ljava/lang/String;" } : Jvm.MethodName) prog_20_method_5_code (1 : Nat) (Option.some (Jvm.ClassFile.FieldType.object "java/lang/String")), Jvm.Cond.code ({ cls := "com/example/restwright/restwright/core/Relationship", name := "required", desc := "()Z" } : Jvm.MethodName) prog_20_method_6_code (1 : Nat) (Option.some Jvm.ClassFile.FieldType.boolean), Jvm.Cond.code ({ cls := "com/example/restwright/restwright/core/Relationship", name := "toMany", desc := "()Z" } : Jvm.MethodName) prog_20_method_7_code (1 : Nat) (Option.some Jvm.ClassFile.FieldType.boolean), Jvm.Cond.code ({ cls := "java/lang/StringUTF16", name := "compress", desc := "([CII)[B" } : Jvm.MethodName) jdk_52_method_16_code (6 : Nat) (Option.some (Jvm.ClassFile.FieldType.array Jvm.ClassFile.FieldType.byte)), Jvm.Cond.code ({ cls := "java/lang/StringUTF16", name := "compress", desc := "([CI[BII)I" } : Jvm.MethodName) jdk_52_method_21_code (7 : Nat) (Option.some Jvm.ClassFile.FieldType.int), Jvm.Cond.code ({ cls := "java/lang/StringUTF16", name := "coderFromArrayLen", desc := "([BI)B" } : Jvm.MethodName) jdk_52_method_15_code (2 : Nat) (Option.some Jvm.ClassFile.FieldType.byte), Jvm.Cond.code ({ cls := "java/lang/String", name := "valueOf", desc := "(C)Ljava/lang/String;" } : Jvm.MethodName) jdk_42_method_139_code (1 : Nat) (Option.some (Jvm.ClassFile.FieldType.object "java/lang/String")), Jvm.Cond.code ({ cls := "java/lang/StringLatin1", name := "canEncode", desc := "(C)Z" } : Jvm.MethodName) jdk_43_method_3_code (1 : Nat) (Option.some Jvm.ClassFile.FieldType.boolean), Jvm.Cond.code ({ cls := "java/lang/StringLatin1", name := "toBytes", desc := "(C)[B" } : Jvm.MethodName) jdk_43_method_46_code (1 : Nat) (Option.some (Jvm.ClassFile.FieldType.array Jvm.ClassFile.FieldType.byte)), Jvm.Cond.code ({ cls := "java/lang/String", name := "<init>", desc := "([BB)V" } : Jvm.MethodName) jdk_42_method_151_code (3 : Nat) (Option.none : Option Jvm.ClassFile.FieldType)]
set_option maxRecDepth 65536 in
theorem codes_eq : words1.filter isCode = codes1 := rfl
theorem w_codes : ∀ c ∈ words1.filter isCode, c.before args0 about1 = true := by
  rw [codes_eq]
  intro c hc
  simp only [codes1, List.mem_cons, List.not_mem_nil, or_false] at hc
  rcases hc with rfl | rfl | rfl | rfl | rfl | rfl | rfl | rfl | rfl | rfl | rfl | rfl | rfl | rfl | rfl | rfl | rfl | rfl | rfl | rfl
  · exact w_c0
  · exact w_c1
  · exact w_c2
  · exact w_c3
  · exact w_c4
  · exact w_c5
  · exact w_c6
  · exact w_c7
  · exact w_c8
  · exact w_c9
  · exact w_c10
  · exact w_c11
  · exact w_c12
  · exact w_c13
  · exact w_c14
  · exact w_c15
  · exact w_c16
  · exact w_c17
  · exact w_c18
  · exact w_c19
set_option maxRecDepth 65536 in
theorem w_t1 : (words1.take 24).all (fun c => isCode c || c.before args0 about1) = true := by decide +kernel
set_option maxRecDepth 65536 in
theorem w_t2 : ((words1.drop 24).take 24).all (fun c => isCode c || c.before args0 about1) = true := by decide +kernel
set_option maxRecDepth 65536 in
theorem w_t3 : (((words1.drop 24).drop 24).take 24).all (fun c => isCode c || c.before args0 about1) = true := by decide +kernel
set_option maxRecDepth 65536 in
theorem w_t4 : ((((words1.drop 24).drop 24).drop 24).take 24).all (fun c => isCode c || c.before args0 about1) = true := by decide +kernel
set_option maxRecDepth 65536 in
theorem w_t5 : ((((words1.drop 24).drop 24).drop 24).drop 24).all (fun c => isCode c || c.before args0 about1) = true := by decide +kernel
theorem w_tables : (allAtoms (Jvm.Cond.code x code maxLocals ret :: tables_1)).before args0 about1 = true := by
  rw [allAtoms_all]
  show words1.all (fun c => c.before args0 about1) = true
  refine all_split ?_ w_codes
  rw [← List.take_append_drop 24 words1, List.all_append, w_t1, ← List.take_append_drop 24 (words1.drop 24), List.all_append, w_t2, ← List.take_append_drop 24 ((words1.drop 24).drop 24), List.all_append, w_t3, ← List.take_append_drop 24 (((words1.drop 24).drop 24).drop 24), List.all_append, w_t4, w_t5]
  rfl
set_option maxRecDepth 65536 in
theorem w_rest : rest_1_c.before args0 about1 = true := by decide +kernel
set_option maxRecDepth 65536 in
theorem w_case : (Jvm.Cond.and given_1 narrow_1).before args0 about1 = true := by decide +kernel
set_option maxRecDepth 65536 in
theorem w_consts : constsHeld consts_1 about1 := Jvm.Lit.constsHeldB_iff.mp (by decide +kernel)
theorem w_applies : (headSpec (Jvm.Cond.code x code maxLocals ret :: tables_1) room_1).applies x e0.platform about1 = true :=
  (Spec.applies_iff w_frames).mpr ⟨w_running, w_runnable, w_alone, w_named, w_hears, w_ripe, w_room, w_tables⟩
theorem atStart : AtStart classFile x code maxLocals ret World_1 tables_1 room_1 Calls_1 rest_1 Pre_1 launch0 p0 e0 about1 theMethod args0 below0 :=
  ⟨lists_1, trivial, launch0.admits_env _ _ _, launch0.least_env, fairChoices_fair.cas, fairChoices_fair.clock, w_frames, w_args, w_heap, w_applies, ⟨w_consts, trivial⟩, w_rest, w_case⟩
end start1
theorem witness_1 : WitnessClaimed_1 := ⟨start1.p0, start1.e0, start1.about1, start1.theMethod, start1.args0, start1.below0, start1.atStart⟩
end Jvm.Pilot.@@N@@
