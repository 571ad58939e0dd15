import JvmDerived
import JvmDerived.Pilot.@@N@@Statement
import JvmDerived.Pilot.@@N@@Code
set_option linter.unusedVariables false
set_option linter.unusedSimpArgs false
namespace Jvm.Pilot.@@N@@
namespace Own
open Jvm Jvm.ClassFile Sem Op Lib Jvm.Free Jvm.Stand Jvm.LawKit Jvm.RoadKit Bundle
/-- from the state s the invocation comes to its end, and K holds there -/
def Goes (tb : Tables) (e : Env) (below : List Frame) (K : State → Outcome → Prop) (s : State) : Prop := ∃ s₂ o, Steps tb e below s s₂ ∧ s₂.status = .running ∧ Ended s₂ below o ∧ K s₂ o
theorem Goes.go {tb : Tables} {e : Env} {below : List Frame} {K : State → Outcome → Prop} {s s' : State} (st : ∀ t, Steps tb e below s' t → Steps tb e below s t) (h : Goes tb e below K s') : Goes tb e below K s := by
  obtain ⟨s₂, o, h1, h2⟩ := h
  exact ⟨s₂, o, st _ h1, h2⟩
theorem Goes.tr {tb : Tables} {e : Env} {below : List Frame} {K : State → Outcome → Prop} {s s' : State} (st : Steps tb e below s s') (h : Goes tb e below K s') : Goes tb e below K s := Goes.go (fun _ k => st.trans k) h
/-- where the walk stands, with all that the laws ask beside it -/
def Wk (Z : State) (own : String) (bytes : ByteArray) (h : Heap) (p : Program) (l : Launch) (e : Env) (R : Room) (s : State) (m : MethodId) (args : Array Value) (below : List Frame) (meth : Method) (c : Code) (T : State) (locs : List Loc) (cells slots : Nat) : Prop :=
  Stand p l e R s m args below meth c T locs cells slots ∧ p.tables.exec = Jvm.exec ∧ c.code = bytes ∧ Z.Warmed39 s.vm ∧ s.vm.findClass own = some m.cls ∧ T.heap = h
section Steps
variable {Z : State} {own : String} {bytes : ByteArray} {h : Heap} {p : Program} {l : Launch} {e : Env} {R : Room} {s : State} {m : MethodId} {args : Array Value} {below : List Frame} {meth : Method} {c : Code} {T : State} {locs : List Loc} {cells slots : Nat}
  {K : State → Outcome → Prop} {a0 : Array Value} {pc q : Nat} {Ls : Array Slot} {st : List Value}
theorem iconst {i : Int} {v : Int32} (P : Wk Z own bytes h p l e R s m args below meth c T locs cells slots) (hd : decode bytes pc = .ok (.iconst i, 1)) (hv : Int32.ofInt i = v) (hq : pc + 1 = q) (k : Goes p.tables e below K (T.setTop (mkF m q Ls (.int v :: st)))) : Goes p.tables e below K (T.setTop (mkF m pc Ls (st))) := by
  subst hq
  exact Goes.go (fun _ r => XS.iconst P.1.here P.2.1 rfl (hb P.2.2.1 hd) (hv ▸ r)) k
theorem bipush {i : Int} {v : Int32} (P : Wk Z own bytes h p l e R s m args below meth c T locs cells slots) (hd : decode bytes pc = .ok (.bipush i, 2)) (hv : (Int8.ofInt i).toInt32 = v) (hq : pc + 2 = q) (k : Goes p.tables e below K (T.setTop (mkF m q Ls (.int v :: st)))) : Goes p.tables e below K (T.setTop (mkF m pc Ls (st))) := by
  subst hq
  exact Goes.go (fun _ r => XS.bipush P.1.here P.2.1 rfl (hb P.2.2.1 hd) (hv ▸ r)) k
theorem sipush {i : Int} {v : Int32} (P : Wk Z own bytes h p l e R s m args below meth c T locs cells slots) (hd : decode bytes pc = .ok (.sipush i, 3)) (hv : (Int16.ofInt i).toInt32 = v) (hq : pc + 3 = q) (k : Goes p.tables e below K (T.setTop (mkF m q Ls (.int v :: st)))) : Goes p.tables e below K (T.setTop (mkF m pc Ls (st))) := by
  subst hq
  exact Goes.go (fun _ r => XS.sipush P.1.here P.2.1 rfl (hb P.2.2.1 hd) (hv ▸ r)) k
theorem aconst  (P : Wk Z own bytes h p l e R s m args below meth c T locs cells slots) (hd : decode bytes pc = .ok (.aconst_null, 1))  (hq : pc + 1 = q) (k : Goes p.tables e below K (T.setTop (mkF m q Ls (.null :: st)))) : Goes p.tables e below K (T.setTop (mkF m pc Ls (st))) := by
  subst hq
  exact Goes.go (fun _ r => XS.aconstNull P.1.here P.2.1 rfl (hb P.2.2.1 hd) r) k
theorem iload {k : Nat} {v : Int32} (P : Wk Z own bytes h p l e R s m args below meth c T locs cells slots) (hd : decode bytes pc = .ok (.iload k, 2)) (hl : Ls[k]? = some (.val (.int v))) (hq : pc + 2 = q) (k : Goes p.tables e below K (T.setTop (mkF m q Ls (.int v :: st)))) : Goes p.tables e below K (T.setTop (mkF m pc Ls (st))) := by
  subst hq
  exact Goes.go (fun _ r => XS.iload P.1.here P.2.1 rfl (hb P.2.2.1 hd) hl r) k
theorem iloadN {k : _} {v : Int32} (P : Wk Z own bytes h p l e R s m args below meth c T locs cells slots) (hd : decode bytes pc = .ok (.iload_n k, 1)) (hl : Ls[k.val]? = some (.val (.int v))) (hq : pc + 1 = q) (k : Goes p.tables e below K (T.setTop (mkF m q Ls (.int v :: st)))) : Goes p.tables e below K (T.setTop (mkF m pc Ls (st))) := by
  subst hq
  exact Goes.go (fun _ r => XS.iloadN P.1.here P.2.1 rfl (hb P.2.2.1 hd) hl r) k
theorem aload {k : Nat} {v : Value} (P : Wk Z own bytes h p l e R s m args below meth c T locs cells slots) (hd : decode bytes pc = .ok (.aload k, 2)) (hl : Ls[k]? = some (.val v)) (hv : v.isRef = true) (hq : pc + 2 = q) (k : Goes p.tables e below K (T.setTop (mkF m q Ls (v :: st)))) : Goes p.tables e below K (T.setTop (mkF m pc Ls (st))) := by
  subst hq
  exact Goes.go (fun _ r => XS.aload P.1.here P.2.1 rfl (hb P.2.2.1 hd) hl hv r) k
theorem aloadN {k : _} {v : Value} (P : Wk Z own bytes h p l e R s m args below meth c T locs cells slots) (hd : decode bytes pc = .ok (.aload_n k, 1)) (hl : Ls[k.val]? = some (.val v)) (hv : v.isRef = true) (hq : pc + 1 = q) (k : Goes p.tables e below K (T.setTop (mkF m q Ls (v :: st)))) : Goes p.tables e below K (T.setTop (mkF m pc Ls (st))) := by
  subst hq
  exact Goes.go (fun _ r => XS.aloadN P.1.here P.2.1 rfl (hb P.2.2.1 hd) hl hv r) k
theorem lload {k : Nat} {v : Int64} (P : Wk Z own bytes h p l e R s m args below meth c T locs cells slots) (hd : decode bytes pc = .ok (.lload k, 2)) (hl : Ls[k]? = some (.val (.long v))) (hq : pc + 2 = q) (k : Goes p.tables e below K (T.setTop (mkF m q Ls (.long v :: st)))) : Goes p.tables e below K (T.setTop (mkF m pc Ls (st))) := by
  subst hq
  exact Goes.go (fun _ r => XT.lload P.1.here P.2.1 rfl (hb P.2.2.1 hd) hl r) k
theorem lloadN {k : _} {v : Int64} (P : Wk Z own bytes h p l e R s m args below meth c T locs cells slots) (hd : decode bytes pc = .ok (.lload_n k, 1)) (hl : Ls[k.val]? = some (.val (.long v))) (hq : pc + 1 = q) (k : Goes p.tables e below K (T.setTop (mkF m q Ls (.long v :: st)))) : Goes p.tables e below K (T.setTop (mkF m pc Ls (st))) := by
  subst hq
  exact Goes.go (fun _ r => XT.lloadN P.1.here P.2.1 rfl (hb P.2.2.1 hd) hl r) k
theorem istore {k : Nat} {x : Int32} {L2 : Array Slot} (P : Wk Z own bytes h p l e R s m args below meth c T locs cells slots) (hd : decode bytes pc = .ok (.istore k, 2)) (hl : storeLocals Ls k (.int x) = some L2) (hq : pc + 2 = q) (k : Goes p.tables e below K (T.setTop (mkF m q L2 (st)))) : Goes p.tables e below K (T.setTop (mkF m pc Ls (.int x :: st))) := by
  subst hq
  exact Goes.go (fun _ r => XS.istore P.1.here P.2.1 rfl (hb P.2.2.1 hd) rfl hl r) k
theorem istoreN {k : _} {x : Int32} {L2 : Array Slot} (P : Wk Z own bytes h p l e R s m args below meth c T locs cells slots) (hd : decode bytes pc = .ok (.istore_n k, 1)) (hl : storeLocals Ls k.val (.int x) = some L2) (hq : pc + 1 = q) (k : Goes p.tables e below K (T.setTop (mkF m q L2 (st)))) : Goes p.tables e below K (T.setTop (mkF m pc Ls (.int x :: st))) := by
  subst hq
  exact Goes.go (fun _ r => XS.istoreN P.1.here P.2.1 rfl (hb P.2.2.1 hd) rfl hl r) k
theorem astore {k : Nat} {x : Value} {L2 : Array Slot} (P : Wk Z own bytes h p l e R s m args below meth c T locs cells slots) (hd : decode bytes pc = .ok (.astore k, 2)) (hv : x.isRef = true) (hl : storeLocals Ls k x = some L2) (hq : pc + 2 = q) (k : Goes p.tables e below K (T.setTop (mkF m q L2 (st)))) : Goes p.tables e below K (T.setTop (mkF m pc Ls (x :: st))) := by
  subst hq
  exact Goes.go (fun _ r => XS.astore P.1.here P.2.1 rfl (hb P.2.2.1 hd) rfl hv hl r) k
theorem astoreN {k : _} {x : Value} {L2 : Array Slot} (P : Wk Z own bytes h p l e R s m args below meth c T locs cells slots) (hd : decode bytes pc = .ok (.astore_n k, 1)) (hv : x.isRef = true) (hl : storeLocals Ls k.val x = some L2) (hq : pc + 1 = q) (k : Goes p.tables e below K (T.setTop (mkF m q L2 (st)))) : Goes p.tables e below K (T.setTop (mkF m pc Ls (x :: st))) := by
  subst hq
  exact Goes.go (fun _ r => XS.astoreN P.1.here P.2.1 rfl (hb P.2.2.1 hd) rfl hv hl r) k
theorem iinc {k : Nat} {i : Int} {x v : Int32} {L2 : Array Slot} (P : Wk Z own bytes h p l e R s m args below meth c T locs cells slots) (hd : decode bytes pc = .ok (.iinc k i, 3)) (hl : Ls[k]? = some (.val (.int x))) (hv : Int32.ofInt i = v) (hs : storeLocals Ls k (.int (x + v)) = some L2) (hq : pc + 3 = q) (k : Goes p.tables e below K (T.setTop (mkF m q L2 (st)))) : Goes p.tables e below K (T.setTop (mkF m pc Ls (st))) := by
  subst hq
  exact Goes.go (fun _ r => XS.iinc P.1.here P.2.1 rfl (hb P.2.2.1 hd) hl (hv ▸ hs) r) k
theorem dup {x : Value} (P : Wk Z own bytes h p l e R s m args below meth c T locs cells slots) (hd : decode bytes pc = .ok (.dup, 1)) (hc : x.category = 1) (hq : pc + 1 = q) (k : Goes p.tables e below K (T.setTop (mkF m q Ls (x :: x :: st)))) : Goes p.tables e below K (T.setTop (mkF m pc Ls (x :: st))) := by
  subst hq
  exact Goes.go (fun _ r => XS.dup P.1.here P.2.1 rfl (hb P.2.2.1 hd) rfl hc r) k
theorem pop {x : Value} (P : Wk Z own bytes h p l e R s m args below meth c T locs cells slots) (hd : decode bytes pc = .ok (.pop, 1)) (hc : x.category = 1) (hq : pc + 1 = q) (k : Goes p.tables e below K (T.setTop (mkF m q Ls (st)))) : Goes p.tables e below K (T.setTop (mkF m pc Ls (x :: st))) := by
  subst hq
  exact Goes.go (fun _ r => XT.pop P.1.here P.2.1 rfl (hb P.2.2.1 hd) rfl hc r) k
theorem iadd {x y : Int32} (P : Wk Z own bytes h p l e R s m args below meth c T locs cells slots) (hd : decode bytes pc = .ok (.iadd, 1))  (hq : pc + 1 = q) (k : Goes p.tables e below K (T.setTop (mkF m q Ls (.int (x + y) :: st)))) : Goes p.tables e below K (T.setTop (mkF m pc Ls (.int y :: .int x :: st))) := by
  subst hq
  exact Goes.go (fun _ r => XS.iadd P.1.here P.2.1 rfl (hb P.2.2.1 hd) rfl r) k
theorem isub {x y : Int32} (P : Wk Z own bytes h p l e R s m args below meth c T locs cells slots) (hd : decode bytes pc = .ok (.isub, 1))  (hq : pc + 1 = q) (k : Goes p.tables e below K (T.setTop (mkF m q Ls (.int (x - y) :: st)))) : Goes p.tables e below K (T.setTop (mkF m pc Ls (.int y :: .int x :: st))) := by
  subst hq
  exact Goes.go (fun _ r => XS.isub P.1.here P.2.1 rfl (hb P.2.2.1 hd) rfl r) k
theorem iand {x y : Int32} (P : Wk Z own bytes h p l e R s m args below meth c T locs cells slots) (hd : decode bytes pc = .ok (.iand, 1))  (hq : pc + 1 = q) (k : Goes p.tables e below K (T.setTop (mkF m q Ls (.int (x &&& y) :: st)))) : Goes p.tables e below K (T.setTop (mkF m pc Ls (.int y :: .int x :: st))) := by
  subst hq
  exact Goes.go (fun _ r => XS.iand P.1.here P.2.1 rfl (hb P.2.2.1 hd) rfl r) k
theorem imul {x y : Int32} (P : Wk Z own bytes h p l e R s m args below meth c T locs cells slots) (hd : decode bytes pc = .ok (.imul, 1))  (hq : pc + 1 = q) (k : Goes p.tables e below K (T.setTop (mkF m q Ls (.int (x * y) :: st)))) : Goes p.tables e below K (T.setTop (mkF m pc Ls (.int y :: .int x :: st))) := by
  subst hq
  exact Goes.go (fun _ r => XS.imul P.1.here P.2.1 rfl (hb P.2.2.1 hd) rfl r) k
theorem ixor {x y : Int32} (P : Wk Z own bytes h p l e R s m args below meth c T locs cells slots) (hd : decode bytes pc = .ok (.ixor, 1))  (hq : pc + 1 = q) (k : Goes p.tables e below K (T.setTop (mkF m q Ls (.int (x ^^^ y) :: st)))) : Goes p.tables e below K (T.setTop (mkF m pc Ls (.int y :: .int x :: st))) := by
  subst hq
  exact Goes.go (fun _ r => XT.ixor P.1.here P.2.1 rfl (hb P.2.2.1 hd) rfl r) k
theorem ior {x y : Int32} (P : Wk Z own bytes h p l e R s m args below meth c T locs cells slots) (hd : decode bytes pc = .ok (.ior, 1))  (hq : pc + 1 = q) (k : Goes p.tables e below K (T.setTop (mkF m q Ls (.int (x ||| y) :: st)))) : Goes p.tables e below K (T.setTop (mkF m pc Ls (.int y :: .int x :: st))) := by
  subst hq
  exact Goes.go (fun _ r => XT.ior P.1.here P.2.1 rfl (hb P.2.2.1 hd) rfl r) k
theorem ishl {x y : Int32} (P : Wk Z own bytes h p l e R s m args below meth c T locs cells slots) (hd : decode bytes pc = .ok (.ishl, 1))  (hq : pc + 1 = q) (k : Goes p.tables e below K (T.setTop (mkF m q Ls (.int (x <<< (y &&& 31)) :: st)))) : Goes p.tables e below K (T.setTop (mkF m pc Ls (.int y :: .int x :: st))) := by
  subst hq
  exact Goes.go (fun _ r => XT.ishl P.1.here P.2.1 rfl (hb P.2.2.1 hd) rfl r) k
theorem ishr {x y : Int32} (P : Wk Z own bytes h p l e R s m args below meth c T locs cells slots) (hd : decode bytes pc = .ok (.ishr, 1))  (hq : pc + 1 = q) (k : Goes p.tables e below K (T.setTop (mkF m q Ls (.int (x >>> (y &&& 31)) :: st)))) : Goes p.tables e below K (T.setTop (mkF m pc Ls (.int y :: .int x :: st))) := by
  subst hq
  exact Goes.go (fun _ r => XT.ishr P.1.here P.2.1 rfl (hb P.2.2.1 hd) rfl r) k
theorem iushr {x y : Int32} (P : Wk Z own bytes h p l e R s m args below meth c T locs cells slots) (hd : decode bytes pc = .ok (.iushr, 1))  (hq : pc + 1 = q) (k : Goes p.tables e below K (T.setTop (mkF m q Ls (.int (XT.ushr x y) :: st)))) : Goes p.tables e below K (T.setTop (mkF m pc Ls (.int y :: .int x :: st))) := by
  subst hq
  exact Goes.go (fun _ r => XT.iushr P.1.here P.2.1 rfl (hb P.2.2.1 hd) rfl r) k
theorem irem {x y : Int32} (P : Wk Z own bytes h p l e R s m args below meth c T locs cells slots) (hd : decode bytes pc = .ok (.irem, 1)) (hy : y ≠ 0) (hq : pc + 1 = q) (k : Goes p.tables e below K (T.setTop (mkF m q Ls (.int (x % y) :: st)))) : Goes p.tables e below K (T.setTop (mkF m pc Ls (.int y :: .int x :: st))) := by
  subst hq
  exact Goes.go (fun _ r => iremM P.1 P.2.1 rfl (hb P.2.2.1 hd) rfl hy r) k
theorem idiv {x y : Int32} (P : Wk Z own bytes h p l e R s m args below meth c T locs cells slots) (hd : decode bytes pc = .ok (.idiv, 1)) (hy : y ≠ 0) (hq : pc + 1 = q) (k : Goes p.tables e below K (T.setTop (mkF m q Ls (.int (x / y) :: st)))) : Goes p.tables e below K (T.setTop (mkF m pc Ls (.int y :: .int x :: st))) := by
  subst hq
  exact Goes.go (fun _ r => XS.idiv P.1.here P.2.1 rfl (hb P.2.2.1 hd) rfl hy r) k
theorem i2c {x : Int32} (P : Wk Z own bytes h p l e R s m args below meth c T locs cells slots) (hd : decode bytes pc = .ok (.i2c, 1))  (hq : pc + 1 = q) (k : Goes p.tables e below K (T.setTop (mkF m q Ls (.int x.toUInt32.toUInt16.toUInt32.toInt32 :: st)))) : Goes p.tables e below K (T.setTop (mkF m pc Ls (.int x :: st))) := by
  subst hq
  exact Goes.go (fun _ r => XT.i2c P.1.here P.2.1 rfl (hb P.2.2.1 hd) rfl r) k
theorem i2cV {x v : Int32} (P : Wk Z own bytes h p l e R s m args below meth c T locs cells slots) (hd : decode bytes pc = .ok (.i2c, 1)) (hv : x.toUInt32.toUInt16.toUInt32.toInt32 = v) (hq : pc + 1 = q) (k : Goes p.tables e below K (T.setTop (mkF m q Ls (.int v :: st)))) : Goes p.tables e below K (T.setTop (mkF m pc Ls (.int x :: st))) := by
  subst hq
  exact Goes.go (fun _ r => XT.i2c P.1.here P.2.1 rfl (hb P.2.2.1 hd) rfl (hv ▸ r)) k
theorem i2b {x : Int32} (P : Wk Z own bytes h p l e R s m args below meth c T locs cells slots) (hd : decode bytes pc = .ok (.i2b, 1))  (hq : pc + 1 = q) (k : Goes p.tables e below K (T.setTop (mkF m q Ls (.int x.toInt8.toInt32 :: st)))) : Goes p.tables e below K (T.setTop (mkF m pc Ls (.int x :: st))) := by
  subst hq
  exact Goes.go (fun _ r => XT.i2b P.1.here P.2.1 rfl (hb P.2.2.1 hd) rfl r) k
theorem i2l {x : Int32} (P : Wk Z own bytes h p l e R s m args below meth c T locs cells slots) (hd : decode bytes pc = .ok (.i2l, 1))  (hq : pc + 1 = q) (k : Goes p.tables e below K (T.setTop (mkF m q Ls (.long x.toInt64 :: st)))) : Goes p.tables e below K (T.setTop (mkF m pc Ls (.int x :: st))) := by
  subst hq
  exact Goes.go (fun _ r => XT.i2l P.1.here P.2.1 rfl (hb P.2.2.1 hd) rfl r) k
theorem l2i {x : Int64} (P : Wk Z own bytes h p l e R s m args below meth c T locs cells slots) (hd : decode bytes pc = .ok (.l2i, 1))  (hq : pc + 1 = q) (k : Goes p.tables e below K (T.setTop (mkF m q Ls (.int x.toInt32 :: st)))) : Goes p.tables e below K (T.setTop (mkF m pc Ls (.long x :: st))) := by
  subst hq
  exact Goes.go (fun _ r => XT.l2i P.1.here P.2.1 rfl (hb P.2.2.1 hd) rfl r) k
theorem lushr {x : Int64} {y : Int32} (P : Wk Z own bytes h p l e R s m args below meth c T locs cells slots) (hd : decode bytes pc = .ok (.lushr, 1))  (hq : pc + 1 = q) (k : Goes p.tables e below K (T.setTop (mkF m q Ls (.long (XT.ushrL x y) :: st)))) : Goes p.tables e below K (T.setTop (mkF m pc Ls (.int y :: .long x :: st))) := by
  subst hq
  exact Goes.go (fun _ r => XT.lushr P.1.here P.2.1 rfl (hb P.2.2.1 hd) rfl r) k
theorem land {x y : Int64} (P : Wk Z own bytes h p l e R s m args below meth c T locs cells slots) (hd : decode bytes pc = .ok (.land, 1))  (hq : pc + 1 = q) (k : Goes p.tables e below K (T.setTop (mkF m q Ls (.long (x &&& y) :: st)))) : Goes p.tables e below K (T.setTop (mkF m pc Ls (.long y :: .long x :: st))) := by
  subst hq
  exact Goes.go (fun _ r => XT.land P.1.here P.2.1 rfl (hb P.2.2.1 hd) rfl r) k
theorem lsub {x y : Int64} (P : Wk Z own bytes h p l e R s m args below meth c T locs cells slots) (hd : decode bytes pc = .ok (.lsub, 1))  (hq : pc + 1 = q) (k : Goes p.tables e below K (T.setTop (mkF m q Ls (.long (x - y) :: st)))) : Goes p.tables e below K (T.setTop (mkF m pc Ls (.long y :: .long x :: st))) := by
  subst hq
  exact Goes.go (fun _ r => XT.lsub P.1.here P.2.1 rfl (hb P.2.2.1 hd) rfl r) k
theorem lcmp {x y : Int64} (P : Wk Z own bytes h p l e R s m args below meth c T locs cells slots) (hd : decode bytes pc = .ok (.lcmp, 1))  (hq : pc + 1 = q) (k : Goes p.tables e below K (T.setTop (mkF m q Ls (.int (XT.cmpL x y) :: st)))) : Goes p.tables e below K (T.setTop (mkF m pc Ls (.long y :: .long x :: st))) := by
  subst hq
  exact Goes.go (fun _ r => XT.lcmp P.1.here P.2.1 rfl (hb P.2.2.1 hd) rfl r) k
theorem ldcI {i : Nat} {v : Int32} (P : Wk Z own bytes h p l e R s m args below meth c T locs cells slots) (hd : decode bytes pc = .ok (.ldc i, 2)) (w : (Cond.constant own i v).before a0 Z = true) (hq : pc + 2 = q) (k : Goes p.tables e below K (T.setTop (mkF m q Ls (.int v :: st)))) : Goes p.tables e below K (T.setTop (mkF m pc Ls (st))) := by
  subst hq
  exact Goes.go (fun _ r => Jvm.Stand.ldcI P.1 P.2.1 P.2.2.2.2.1 (mvT P.2.2.2.1 w) rfl (hb P.2.2.1 hd) r) k
theorem ldcJ {i : Nat} {v : Int64} (P : Wk Z own bytes h p l e R s m args below meth c T locs cells slots) (hd : decode bytes pc = .ok (.ldc2_w i, 3)) (w : (Cond.constantLong own i v).before a0 Z = true) (hq : pc + 3 = q) (k : Goes p.tables e below K (T.setTop (mkF m q Ls (.long v :: st)))) : Goes p.tables e below K (T.setTop (mkF m pc Ls (st))) := by
  subst hq
  exact Goes.go (fun _ r => Jvm.Stand.ldc2J P.1 P.2.1 P.2.2.2.2.1 (mvT P.2.2.2.1 w) rfl (hb P.2.2.1 hd) r) k
theorem jmp {o : Int} {n : Nat} (h : (n : Int) + o = (q : Int)) : 0 ≤ (n : Int) + o ∧ ((n : Int) + o).toNat = q := by omega
theorem goto {o : Int} (P : Wk Z own bytes h p l e R s m args below meth c T locs cells slots) (hd : decode bytes pc = .ok (.goto o, 3)) (hq : (pc : Int) + o = (q : Int)) (k : Goes p.tables e below K (T.setTop (mkF m q Ls (st)))) : Goes p.tables e below K (T.setTop (mkF m pc Ls (st))) :=
  Goes.go (fun _ r => XS.goto P.1.here P.2.1 rfl (pc0 := pc) rfl (hb P.2.2.1 hd) (jmp hq).1 (jmp hq).2 r) k
theorem icmp_eq {x y : Int32} {o : Int} {qy : Nat} (P : Wk Z own bytes h p l e R s m args below meth c T locs cells slots) (hd : decode bytes pc = .ok (.if_icmp .eq o, 3)) (hy : (pc : Int) + o = (qy : Int)) (hq : pc + 3 = q) (ky : x = y → Goes p.tables e below K (T.setTop (mkF m qy Ls (st)))) (kn : ¬ x = y → Goes p.tables e below K (T.setTop (mkF m q Ls (st)))) : Goes p.tables e below K (T.setTop (mkF m pc Ls (.int y :: .int x :: st))) := by
  subst hq
  by_cases c0 : x = y
  · exact Goes.go (fun _ r => XS.icmpYes P.1.here P.2.1 rfl (pc0 := pc) rfl (hb P.2.2.1 hd) rfl (XT.ii_eq_t c0) (jmp hy).1 (jmp hy).2 r) (ky c0)
  · exact Goes.go (fun _ r => XS.icmpNo P.1.here P.2.1 rfl (hb P.2.2.1 hd) rfl (XT.ii_eq_f c0) r) (kn c0)
theorem if_eq {x : Int32} {o : Int} {qy : Nat} (P : Wk Z own bytes h p l e R s m args below meth c T locs cells slots) (hd : decode bytes pc = .ok (.ifCond .eq o, 3)) (hy : (pc : Int) + o = (qy : Int)) (hq : pc + 3 = q) (ky : x = 0 → Goes p.tables e below K (T.setTop (mkF m qy Ls (st)))) (kn : ¬ x = 0 → Goes p.tables e below K (T.setTop (mkF m q Ls (st)))) : Goes p.tables e below K (T.setTop (mkF m pc Ls (.int x :: st))) := by
  subst hq
  by_cases c0 : x = 0
  · exact Goes.go (fun _ r => XS.ifYes P.1.here P.2.1 rfl (pc0 := pc) rfl (hb P.2.2.1 hd) rfl (XT.i0_eq_t c0) (jmp hy).1 (jmp hy).2 r) (ky c0)
  · exact Goes.go (fun _ r => XS.ifNo P.1.here P.2.1 rfl (hb P.2.2.1 hd) rfl (XT.i0_eq_f c0) r) (kn c0)
theorem icmp_ne {x y : Int32} {o : Int} {qy : Nat} (P : Wk Z own bytes h p l e R s m args below meth c T locs cells slots) (hd : decode bytes pc = .ok (.if_icmp .ne o, 3)) (hy : (pc : Int) + o = (qy : Int)) (hq : pc + 3 = q) (ky : ¬ x = y → Goes p.tables e below K (T.setTop (mkF m qy Ls (st)))) (kn : x = y → Goes p.tables e below K (T.setTop (mkF m q Ls (st)))) : Goes p.tables e below K (T.setTop (mkF m pc Ls (.int y :: .int x :: st))) := by
  subst hq
  by_cases c0 : x = y
  · exact Goes.go (fun _ r => XS.icmpNo P.1.here P.2.1 rfl (hb P.2.2.1 hd) rfl (XT.ii_ne_f c0) r) (kn c0)
  · exact Goes.go (fun _ r => XS.icmpYes P.1.here P.2.1 rfl (pc0 := pc) rfl (hb P.2.2.1 hd) rfl (XT.ii_ne_t c0) (jmp hy).1 (jmp hy).2 r) (ky c0)
theorem if_ne {x : Int32} {o : Int} {qy : Nat} (P : Wk Z own bytes h p l e R s m args below meth c T locs cells slots) (hd : decode bytes pc = .ok (.ifCond .ne o, 3)) (hy : (pc : Int) + o = (qy : Int)) (hq : pc + 3 = q) (ky : ¬ x = 0 → Goes p.tables e below K (T.setTop (mkF m qy Ls (st)))) (kn : x = 0 → Goes p.tables e below K (T.setTop (mkF m q Ls (st)))) : Goes p.tables e below K (T.setTop (mkF m pc Ls (.int x :: st))) := by
  subst hq
  by_cases c0 : x = 0
  · exact Goes.go (fun _ r => XS.ifNo P.1.here P.2.1 rfl (hb P.2.2.1 hd) rfl (XT.i0_ne_f c0) r) (kn c0)
  · exact Goes.go (fun _ r => XS.ifYes P.1.here P.2.1 rfl (pc0 := pc) rfl (hb P.2.2.1 hd) rfl (XT.i0_ne_t c0) (jmp hy).1 (jmp hy).2 r) (ky c0)
theorem icmp_lt {x y : Int32} {o : Int} {qy : Nat} (P : Wk Z own bytes h p l e R s m args below meth c T locs cells slots) (hd : decode bytes pc = .ok (.if_icmp .lt o, 3)) (hy : (pc : Int) + o = (qy : Int)) (hq : pc + 3 = q) (ky : x < y → Goes p.tables e below K (T.setTop (mkF m qy Ls (st)))) (kn : ¬ x < y → Goes p.tables e below K (T.setTop (mkF m q Ls (st)))) : Goes p.tables e below K (T.setTop (mkF m pc Ls (.int y :: .int x :: st))) := by
  subst hq
  by_cases c0 : x < y
  · exact Goes.go (fun _ r => XS.icmpYes P.1.here P.2.1 rfl (pc0 := pc) rfl (hb P.2.2.1 hd) rfl (XT.ii_lt_t c0) (jmp hy).1 (jmp hy).2 r) (ky c0)
  · exact Goes.go (fun _ r => XS.icmpNo P.1.here P.2.1 rfl (hb P.2.2.1 hd) rfl (XT.ii_lt_f c0) r) (kn c0)
theorem if_lt {x : Int32} {o : Int} {qy : Nat} (P : Wk Z own bytes h p l e R s m args below meth c T locs cells slots) (hd : decode bytes pc = .ok (.ifCond .lt o, 3)) (hy : (pc : Int) + o = (qy : Int)) (hq : pc + 3 = q) (ky : x < 0 → Goes p.tables e below K (T.setTop (mkF m qy Ls (st)))) (kn : ¬ x < 0 → Goes p.tables e below K (T.setTop (mkF m q Ls (st)))) : Goes p.tables e below K (T.setTop (mkF m pc Ls (.int x :: st))) := by
  subst hq
  by_cases c0 : x < 0
  · exact Goes.go (fun _ r => XS.ifYes P.1.here P.2.1 rfl (pc0 := pc) rfl (hb P.2.2.1 hd) rfl (XT.i0_lt_t c0) (jmp hy).1 (jmp hy).2 r) (ky c0)
  · exact Goes.go (fun _ r => XS.ifNo P.1.here P.2.1 rfl (hb P.2.2.1 hd) rfl (XT.i0_lt_f c0) r) (kn c0)
theorem icmp_ge {x y : Int32} {o : Int} {qy : Nat} (P : Wk Z own bytes h p l e R s m args below meth c T locs cells slots) (hd : decode bytes pc = .ok (.if_icmp .ge o, 3)) (hy : (pc : Int) + o = (qy : Int)) (hq : pc + 3 = q) (ky : ¬ x < y → Goes p.tables e below K (T.setTop (mkF m qy Ls (st)))) (kn : x < y → Goes p.tables e below K (T.setTop (mkF m q Ls (st)))) : Goes p.tables e below K (T.setTop (mkF m pc Ls (.int y :: .int x :: st))) := by
  subst hq
  by_cases c0 : x < y
  · exact Goes.go (fun _ r => XS.icmpNo P.1.here P.2.1 rfl (hb P.2.2.1 hd) rfl (XT.ii_ge_f c0) r) (kn c0)
  · exact Goes.go (fun _ r => XS.icmpYes P.1.here P.2.1 rfl (pc0 := pc) rfl (hb P.2.2.1 hd) rfl (XT.ii_ge_t c0) (jmp hy).1 (jmp hy).2 r) (ky c0)
theorem if_ge {x : Int32} {o : Int} {qy : Nat} (P : Wk Z own bytes h p l e R s m args below meth c T locs cells slots) (hd : decode bytes pc = .ok (.ifCond .ge o, 3)) (hy : (pc : Int) + o = (qy : Int)) (hq : pc + 3 = q) (ky : ¬ x < 0 → Goes p.tables e below K (T.setTop (mkF m qy Ls (st)))) (kn : x < 0 → Goes p.tables e below K (T.setTop (mkF m q Ls (st)))) : Goes p.tables e below K (T.setTop (mkF m pc Ls (.int x :: st))) := by
  subst hq
  by_cases c0 : x < 0
  · exact Goes.go (fun _ r => XS.ifNo P.1.here P.2.1 rfl (hb P.2.2.1 hd) rfl (XT.i0_ge_f c0) r) (kn c0)
  · exact Goes.go (fun _ r => XS.ifYes P.1.here P.2.1 rfl (pc0 := pc) rfl (hb P.2.2.1 hd) rfl (XT.i0_ge_t c0) (jmp hy).1 (jmp hy).2 r) (ky c0)
theorem icmp_gt {x y : Int32} {o : Int} {qy : Nat} (P : Wk Z own bytes h p l e R s m args below meth c T locs cells slots) (hd : decode bytes pc = .ok (.if_icmp .gt o, 3)) (hy : (pc : Int) + o = (qy : Int)) (hq : pc + 3 = q) (ky : y < x → Goes p.tables e below K (T.setTop (mkF m qy Ls (st)))) (kn : ¬ y < x → Goes p.tables e below K (T.setTop (mkF m q Ls (st)))) : Goes p.tables e below K (T.setTop (mkF m pc Ls (.int y :: .int x :: st))) := by
  subst hq
  by_cases c0 : y < x
  · exact Goes.go (fun _ r => XS.icmpYes P.1.here P.2.1 rfl (pc0 := pc) rfl (hb P.2.2.1 hd) rfl (XT.ii_gt_t c0) (jmp hy).1 (jmp hy).2 r) (ky c0)
  · exact Goes.go (fun _ r => XS.icmpNo P.1.here P.2.1 rfl (hb P.2.2.1 hd) rfl (XT.ii_gt_f c0) r) (kn c0)
theorem if_gt {x : Int32} {o : Int} {qy : Nat} (P : Wk Z own bytes h p l e R s m args below meth c T locs cells slots) (hd : decode bytes pc = .ok (.ifCond .gt o, 3)) (hy : (pc : Int) + o = (qy : Int)) (hq : pc + 3 = q) (ky : 0 < x → Goes p.tables e below K (T.setTop (mkF m qy Ls (st)))) (kn : ¬ 0 < x → Goes p.tables e below K (T.setTop (mkF m q Ls (st)))) : Goes p.tables e below K (T.setTop (mkF m pc Ls (.int x :: st))) := by
  subst hq
  by_cases c0 : 0 < x
  · exact Goes.go (fun _ r => XS.ifYes P.1.here P.2.1 rfl (pc0 := pc) rfl (hb P.2.2.1 hd) rfl (XT.i0_gt_t c0) (jmp hy).1 (jmp hy).2 r) (ky c0)
  · exact Goes.go (fun _ r => XS.ifNo P.1.here P.2.1 rfl (hb P.2.2.1 hd) rfl (XT.i0_gt_f c0) r) (kn c0)
theorem icmp_le {x y : Int32} {o : Int} {qy : Nat} (P : Wk Z own bytes h p l e R s m args below meth c T locs cells slots) (hd : decode bytes pc = .ok (.if_icmp .le o, 3)) (hy : (pc : Int) + o = (qy : Int)) (hq : pc + 3 = q) (ky : ¬ y < x → Goes p.tables e below K (T.setTop (mkF m qy Ls (st)))) (kn : y < x → Goes p.tables e below K (T.setTop (mkF m q Ls (st)))) : Goes p.tables e below K (T.setTop (mkF m pc Ls (.int y :: .int x :: st))) := by
  subst hq
  by_cases c0 : y < x
  · exact Goes.go (fun _ r => XS.icmpNo P.1.here P.2.1 rfl (hb P.2.2.1 hd) rfl (XT.ii_le_f c0) r) (kn c0)
  · exact Goes.go (fun _ r => XS.icmpYes P.1.here P.2.1 rfl (pc0 := pc) rfl (hb P.2.2.1 hd) rfl (XT.ii_le_t c0) (jmp hy).1 (jmp hy).2 r) (ky c0)
theorem if_le {x : Int32} {o : Int} {qy : Nat} (P : Wk Z own bytes h p l e R s m args below meth c T locs cells slots) (hd : decode bytes pc = .ok (.ifCond .le o, 3)) (hy : (pc : Int) + o = (qy : Int)) (hq : pc + 3 = q) (ky : ¬ 0 < x → Goes p.tables e below K (T.setTop (mkF m qy Ls (st)))) (kn : 0 < x → Goes p.tables e below K (T.setTop (mkF m q Ls (st)))) : Goes p.tables e below K (T.setTop (mkF m pc Ls (.int x :: st))) := by
  subst hq
  by_cases c0 : 0 < x
  · exact Goes.go (fun _ r => XS.ifNo P.1.here P.2.1 rfl (hb P.2.2.1 hd) rfl (XT.i0_le_f c0) r) (kn c0)
  · exact Goes.go (fun _ r => XS.ifYes P.1.here P.2.1 rfl (pc0 := pc) rfl (hb P.2.2.1 hd) rfl (XT.i0_le_t c0) (jmp hy).1 (jmp hy).2 r) (ky c0)
theorem acmp_eq {x y : Value} {o : Int} {qy : Nat} (P : Wk Z own bytes h p l e R s m args below meth c T locs cells slots) (hd : decode bytes pc = .ok (.if_acmp .eq o, 3)) (h1 : x.isRef = true) (h2 : y.isRef = true) (hy : (pc : Int) + o = (qy : Int)) (hq : pc + 3 = q) (ky : x = y → Goes p.tables e below K (T.setTop (mkF m qy Ls (st)))) (kn : ¬ x = y → Goes p.tables e below K (T.setTop (mkF m q Ls (st)))) : Goes p.tables e below K (T.setTop (mkF m pc Ls (y :: x :: st))) := by
  subst hq
  by_cases c0 : x = y
  · exact Goes.go (fun _ r => XT.acmpYes P.1.here P.2.1 rfl (pc0 := pc) rfl (hb P.2.2.1 hd) rfl h1 h2 (XT.aa_eq_t c0) (jmp hy).1 (jmp hy).2 r) (ky c0)
  · exact Goes.go (fun _ r => XT.acmpNo P.1.here P.2.1 rfl (hb P.2.2.1 hd) rfl h1 h2 (XT.aa_eq_f c0) r) (kn c0)
theorem acmp_ne {x y : Value} {o : Int} {qy : Nat} (P : Wk Z own bytes h p l e R s m args below meth c T locs cells slots) (hd : decode bytes pc = .ok (.if_acmp .ne o, 3)) (h1 : x.isRef = true) (h2 : y.isRef = true) (hy : (pc : Int) + o = (qy : Int)) (hq : pc + 3 = q) (ky : ¬ x = y → Goes p.tables e below K (T.setTop (mkF m qy Ls (st)))) (kn : x = y → Goes p.tables e below K (T.setTop (mkF m q Ls (st)))) : Goes p.tables e below K (T.setTop (mkF m pc Ls (y :: x :: st))) := by
  subst hq
  by_cases c0 : x = y
  · exact Goes.go (fun _ r => XT.acmpNo P.1.here P.2.1 rfl (hb P.2.2.1 hd) rfl h1 h2 (XT.aa_ne_f c0) r) (kn c0)
  · exact Goes.go (fun _ r => XT.acmpYes P.1.here P.2.1 rfl (pc0 := pc) rfl (hb P.2.2.1 hd) rfl h1 h2 (XT.aa_ne_t c0) (jmp hy).1 (jmp hy).2 r) (ky c0)
theorem nullY {o : Int} (P : Wk Z own bytes h p l e R s m args below meth c T locs cells slots) (hd : decode bytes pc = .ok (.ifnull o, 3)) (hy : (pc : Int) + o = (q : Int)) (k : Goes p.tables e below K (T.setTop (mkF m q Ls (st)))) : Goes p.tables e below K (T.setTop (mkF m pc Ls (.null :: st))) := Goes.go (fun _ r => XS.ifnullYes P.1.here P.2.1 rfl (pc0 := pc) rfl (hb P.2.2.1 hd) rfl (jmp hy).1 (jmp hy).2 r) k
theorem nullN {o : Int} {b : Addr} (P : Wk Z own bytes h p l e R s m args below meth c T locs cells slots) (hd : decode bytes pc = .ok (.ifnull o, 3)) (hq : pc + 3 = q) (k : Goes p.tables e below K (T.setTop (mkF m q Ls (st)))) : Goes p.tables e below K (T.setTop (mkF m pc Ls (.ref b :: st))) := by
  subst hq
  exact Goes.go (fun _ r => XS.ifnullNo P.1.here P.2.1 rfl (hb P.2.2.1 hd) rfl r) k
theorem nonnullY {o : Int} {b : Addr} (P : Wk Z own bytes h p l e R s m args below meth c T locs cells slots) (hd : decode bytes pc = .ok (.ifnonnull o, 3)) (hy : (pc : Int) + o = (q : Int)) (k : Goes p.tables e below K (T.setTop (mkF m q Ls (st)))) : Goes p.tables e below K (T.setTop (mkF m pc Ls (.ref b :: st))) := Goes.go (fun _ r => XT.ifnonnullYes P.1.here P.2.1 rfl (pc0 := pc) rfl (hb P.2.2.1 hd) rfl (jmp hy).1 (jmp hy).2 r) k
theorem nonnullN {o : Int} (P : Wk Z own bytes h p l e R s m args below meth c T locs cells slots) (hd : decode bytes pc = .ok (.ifnonnull o, 3)) (hq : pc + 3 = q) (k : Goes p.tables e below K (T.setTop (mkF m q Ls (st)))) : Goes p.tables e below K (T.setTop (mkF m pc Ls (.null :: st))) := by
  subst hq
  exact Goes.go (fun _ r => XT.ifnonnullNo P.1.here P.2.1 rfl (hb P.2.2.1 hd) rfl r) k
theorem getfield {O n d : String} {i : Nat} {a : Addr} {v : Value} (P : Wk Z own bytes h p l e R s m args below meth c T locs cells slots) (hd : decode bytes pc = .ok (.getfield i, 3)) (w : (Cond.fieldLink own i O n d).before a0 Z = true) (F : Fld Z h a O n d v) (hq : pc + 3 = q) (k : ∀ T₂, Wk Z own bytes h p l e R s m args below meth c T₂ locs cells slots → Goes p.tables e below K (T₂.setTop (mkF m q Ls (v :: st)))) : Goes p.tables e below K (T.setTop (mkF m pc Ls (.ref a :: st))) := by
  subst hq
  obtain ⟨T₂, X2, e2, st2⟩ := getF P.1 P.2.1 P.2.2.2.1 P.2.2.2.2.1 (host := "") (Or.inl w) Via.refl P.2.2.2.2.2 F (g := mkF m pc Ls (.ref a :: st)) rfl rfl (hb P.2.2.1 hd)
  exact Goes.go st2 (k T₂ ⟨X2, P.2.1, P.2.2.1, P.2.2.2.1, P.2.2.2.2.1, e2⟩)
theorem getstatic {O n d : String} {i : Nat} {v : Value} (P : Wk Z own bytes h p l e R s m args below meth c T locs cells slots) (hd : decode bytes pc = .ok (.getstatic i, 3)) (w : (Cond.fieldLink own i O n d).before a0 Z = true) (F : Sta Z h O n d v) (hq : pc + 3 = q) (k : ∀ T₂, Wk Z own bytes h p l e R s m args below meth c T₂ locs cells slots → Goes p.tables e below K (T₂.setTop (mkF m q Ls (v :: st)))) : Goes p.tables e below K (T.setTop (mkF m pc Ls (st))) := by
  subst hq
  obtain ⟨T₂, X2, e2, st2⟩ := getS P.1 P.2.1 P.2.2.2.1 (host := "") P.2.2.2.2.1 w Via.refl P.2.2.2.2.2 F (g := mkF m pc Ls st) rfl (hb P.2.2.1 hd)
  exact Goes.go st2 (k T₂ ⟨X2, P.2.1, P.2.2.1, P.2.2.2.1, P.2.2.2.2.1, e2⟩)
theorem castTo {C : String} {i : Nat} {a : Addr} (P : Wk Z own bytes h p l e R s m args below meth c T locs cells slots) (hd : decode bytes pc = .ok (.checkcast i, 3)) (w : (Cond.classLink own i C).before a0 Z = true) (F : Ins Z h a C true) (hq : pc + 3 = q) (k : ∀ T₂, Wk Z own bytes h p l e R s m args below meth c T₂ locs cells slots → Goes p.tables e below K (T₂.setTop (mkF m q Ls (.ref a :: st)))) : Goes p.tables e below K (T.setTop (mkF m pc Ls (.ref a :: st))) := by
  subst hq
  obtain ⟨T₂, X2, e2, st2⟩ := castY P.1 P.2.1 P.2.2.2.1 P.2.2.2.2.1 w P.2.2.2.2.2 F (g := mkF m pc Ls (.ref a :: st)) rfl rfl (hb P.2.2.1 hd)
  exact Goes.go st2 (k T₂ ⟨X2, P.2.1, P.2.2.1, P.2.2.2.1, P.2.2.2.2.1, e2⟩)
theorem instOf {C : String} {i : Nat} {a : Addr} (P : Wk Z own bytes h p l e R s m args below meth c T locs cells slots) (hd : decode bytes pc = .ok (.instanceof i, 3)) (w : (Cond.classLink own i C).before a0 Z = true) (F : Ins Z h a C true) (hq : pc + 3 = q) (k : ∀ T₂, Wk Z own bytes h p l e R s m args below meth c T₂ locs cells slots → Goes p.tables e below K (T₂.setTop (mkF m q Ls (.int 1 :: st)))) : Goes p.tables e below K (T.setTop (mkF m pc Ls (.ref a :: st))) := by
  subst hq
  obtain ⟨T₂, X2, e2, st2⟩ := instY P.1 P.2.1 P.2.2.2.1 P.2.2.2.2.1 w P.2.2.2.2.2 F (g := mkF m pc Ls (.ref a :: st)) rfl rfl (hb P.2.2.1 hd)
  exact Goes.go st2 (k T₂ ⟨X2, P.2.1, P.2.2.1, P.2.2.2.1, P.2.2.2.2.1, e2⟩)
theorem caload {a : Addr} {kc : ClassId} {n j : Int32} {vs : List Value} {d v : Value} (P : Wk Z own bytes h p l e R s m args below meth c T locs cells slots) (hd : decode bytes pc = .ok (.caload, 1)) (A : Arv Z h a kc .char n vs d) (h0 : ¬ j < 0) (h1 : j < n) (hv : vs.getD j.toNatClampNeg d = v) (hq : pc + 1 = q) (k : Goes p.tables e below K (T.setTop (mkF m q Ls (v :: st)))) : Goes p.tables e below K (T.setTop (mkF m pc Ls (.int j :: .ref a :: st))) := by
  subst hq
  obtain ⟨cl, Ar, -, S, -, H, -⟩ := A
  have hin := inb_of S ⟨h0, h1⟩
  exact Goes.go (P.1.caload P.2.1 (by rw [P.2.2.2.2.2]; exact Ar.1) (State.isArrayOf_alike P.2.2.2.1.alike Ar.2.1) Ar.2.2 hin (H.at hin hv) (g := mkF m pc Ls (.int j :: .ref a :: st)) rfl rfl (hb P.2.2.1 hd)) k
theorem baload {a : Addr} {kc : ClassId} {n j : Int32} {vs : List Value} {d v : Value} (P : Wk Z own bytes h p l e R s m args below meth c T locs cells slots) (hd : decode bytes pc = .ok (.baload, 1)) (A : Arv Z h a kc .byte n vs d) (h0 : ¬ j < 0) (h1 : j < n) (hv : vs.getD j.toNatClampNeg d = v) (hq : pc + 1 = q) (k : Goes p.tables e below K (T.setTop (mkF m q Ls (v :: st)))) : Goes p.tables e below K (T.setTop (mkF m pc Ls (.int j :: .ref a :: st))) := by
  subst hq
  obtain ⟨cl, Ar, -, S, -, H, -⟩ := A
  have hin := inb_of S ⟨h0, h1⟩
  exact Goes.go (P.1.baloadBytes P.2.1 (by rw [P.2.2.2.2.2]; exact Ar.1) (State.isArrayOf_alike P.2.2.2.1.alike Ar.2.1) Ar.2.2 hin (H.at hin hv) (g := mkF m pc Ls (.int j :: .ref a :: st)) rfl rfl (hb P.2.2.1 hd)) k
theorem aaload {a : Addr} {kc : ClassId} {C : String} {n j : Int32} {vs : List Value} {d v : Value} (P : Wk Z own bytes h p l e R s m args below meth c T locs cells slots) (hd : decode bytes pc = .ok (.aaload, 1)) (A : Arv Z h a kc (.object C) n vs d) (h0 : ¬ j < 0) (h1 : j < n) (hv : vs.getD j.toNatClampNeg d = v) (hq : pc + 1 = q) (k : Goes p.tables e below K (T.setTop (mkF m q Ls (v :: st)))) : Goes p.tables e below K (T.setTop (mkF m pc Ls (.int j :: .ref a :: st))) := by
  subst hq
  obtain ⟨cl, Ar, -, S, -, H, -⟩ := A
  have hin := inb_of S ⟨h0, h1⟩
  exact Goes.go (P.1.aaload P.2.1 (by rw [P.2.2.2.2.2]; exact Ar.1) (State.isArrayOf_alike P.2.2.2.1.alike Ar.2.1) rfl Ar.2.2 hin (H.at hin hv) (g := mkF m pc Ls (.int j :: .ref a :: st)) rfl rfl (hb P.2.2.1 hd)) k
theorem arraylength {a : Addr} {kc : ClassId} {ty : FieldType} {n : Int32} {vs : List Value} {d : Value} (P : Wk Z own bytes h p l e R s m args below meth c T locs cells slots) (hd : decode bytes pc = .ok (.arraylength, 1)) (A : Arv Z h a kc ty n vs d) (hq : pc + 1 = q) (k : Goes p.tables e below K (T.setTop (mkF m q Ls (.int n :: st)))) : Goes p.tables e below K (T.setTop (mkF m pc Ls (.ref a :: st))) := by
  subst hq
  obtain ⟨cl, Ar, -, S, N, H, -⟩ := A
  refine Goes.go (P.1.arraylength P.2.1 (by rw [P.2.2.2.2.2]; exact Ar.1) (State.isArrayOf_alike P.2.2.2.1.alike Ar.2.1) (g := mkF m pc Ls (.ref a :: st)) rfl rfl (hb P.2.2.1 hd)) ?_
  rw [len_of S N]
  exact k
theorem instNull {i : Nat} (P : Wk Z own bytes h p l e R s m args below meth c T locs cells slots) (hd : decode bytes pc = .ok (.instanceof i, 3)) (hq : pc + 3 = q) (k : Goes p.tables e below K (T.setTop (mkF m q Ls (.int 0 :: st)))) : Goes p.tables e below K (T.setTop (mkF m pc Ls (.null :: st))) := by
  subst hq
  exact Goes.go (fun t r => P.1.instanceofNull P.2.1 (g := mkF m pc Ls (.null :: st)) rfl (rest := st) rfl (hb P.2.2.1 hd) t r) k
theorem instNope {C C2 : String} {i : Nat} {a : Addr} (P : Wk Z own bytes h p l e R s m args below meth c T locs cells slots) (hd : decode bytes pc = .ok (.instanceof i, 3)) (w : (Cond.classLink own i C).before a0 Z = true) (E : Exa Z h a C2) (F : ∃ c t, Z.vm.findClass C2 = some c ∧ Z.vm.findClass C = some t ∧ Z.vm.assignable c t = false) (hq : pc + 3 = q) (k : ∀ T₂, Wk Z own bytes h p l e R s m args below meth c T₂ locs cells slots → Goes p.tables e below K (T₂.setTop (mkF m q Ls (.int 0 :: st)))) : Goes p.tables e below K (T.setTop (mkF m pc Ls (.ref a :: st))) := by
  subst hq
  obtain ⟨T₂, X2, e2, st2⟩ := instNo P.1 P.2.1 P.2.2.2.1 P.2.2.2.2.1 w P.2.2.2.2.2 E F (g := mkF m pc Ls (.ref a :: st)) rfl rfl (hb P.2.2.1 hd)
  exact Goes.go st2 (k T₂ ⟨X2, P.2.1, P.2.2.1, P.2.2.2.1, P.2.2.2.2.1, e2⟩)
theorem newobj {C : String} {i n : Nat} (P : Wk Z own bytes h p l e R s m args below meth c T locs cells slots) (hd : decode bytes pc = .ok (.new i, 3)) (w : (Cond.classLink own i C).before a0 Z = true) (wi : (Cond.instantiable C n).before a0 Z = true) (wz : (Cond.initialized C).before a0 Z = true) (hc : cells + 1 ≤ R.cells) (hl : slots + n ≤ R.slots) (hq : pc + 3 = q)
    (k : ∀ T₂ h₂ a, a = h.size → Wk Z own bytes h₂ p l e R s m args below meth c T₂ locs (cells + 1) (slots + n) → Ext h h₂ → Exa Z h₂ a C → (∀ {O nm d : String} {ty : FieldType}, Laid Z a0 C O nm d → parseFieldDescriptor d = some ty → Fld Z h₂ a O nm d (defaultValue ty)) → Goes p.tables e below K (T₂.setTop (mkF m q Ls (.ref a :: st)))) : Goes p.tables e below K (T.setTop (mkF m pc Ls (st))) := by
  subst hq
  obtain ⟨T₂, h₂, X2, e2, E2, A2, D2, -, st2⟩ := newO P.1 P.2.1 P.2.2.2.1 P.2.2.2.2.1 w wi wz P.2.2.2.2.2 (g := mkF m pc Ls st) rfl (hb P.2.2.1 hd) hc hl
  exact Goes.go st2 (k T₂ h₂ h.size rfl ⟨X2, P.2.1, P.2.2.1, P.2.2.2.1, P.2.2.2.2.1, e2⟩ E2 A2 D2)
theorem newarr {aty : ArrayType} {n : Int32} {cap : Nat} (P : Wk Z own bytes h p l e R s m args below meth c T locs cells slots) (hd : decode bytes pc = .ok (.newarray aty, 2)) (w : (Cond.arrayClass (newarray.typeOf aty)).before a0 Z = true) (hn : ¬ n < 0) (hcap : n.toNatClampNeg ≤ cap) (hcb : cap * 8 ≤ 536870912) (hc : cells + 1 ≤ R.cells) (hl : slots + cap ≤ R.slots) (hq : pc + 2 = q)
    (k : ∀ T₂ h₂ a kc, a = h.size → Wk Z own bytes h₂ p l e R s m args below meth c T₂ locs (cells + 1) (slots + cap) → Ext h h₂ → Arv Z h₂ a kc (newarray.typeOf aty) n [] (defaultValue (newarray.typeOf aty)) → Goes p.tables e below K (T₂.setTop (mkF m q Ls (.ref a :: st)))) : Goes p.tables e below K (T.setTop (mkF m pc Ls (.int n :: st))) := by
  subst hq
  obtain ⟨T₂, h₂, kc, X2, e2, E2, A2, st2⟩ := newP P.1 P.2.1 P.2.2.2.1 w P.2.2.2.2.2 (g := mkF m pc Ls (.int n :: st)) rfl (hb P.2.2.1 hd) rfl hn hcap hcb hc hl
  exact Goes.go st2 (k T₂ h₂ h.size kc rfl ⟨X2, P.2.1, P.2.2.1, P.2.2.2.1, P.2.2.2.2.1, e2⟩ E2 (Arv.new A2 hn))
theorem castore {a : Addr} {kc : ClassId} {n j x x2 : Int32} {i : Nat} {vs : List Value} {d : Value} (P : Wk Z own bytes h p l e R s m args below meth c T locs cells slots) (hd : decode bytes pc = .ok (.castore, 1)) (A : Arv Z h a kc .char n vs d) (h0 : ¬ j < 0) (h1 : j < n) (hx2 : nar .char x = x2) (hf : fits .char (.int x2) = true) (hi : j.toNatClampNeg = i) (hi2 : i < vs.length) (hq : pc + 1 = q)
    (k : ∀ T₂ h₂ lc, lc.base = a → Wk Z own bytes h₂ p l e R s m args below meth c T₂ (locs ++ [lc]) cells slots → Wr h h₂ a i (.int x2) → Arv Z h₂ a kc .char n (vs.set i (.int x2)) d → Goes p.tables e below K (T₂.setTop (mkF m q Ls (st)))) : Goes p.tables e below K (T.setTop (mkF m pc Ls (.int x :: .int j :: .ref a :: st))) := by
  subst hq hx2 hi
  obtain ⟨cl, Ar, q1, S, q3, H, G⟩ := A
  have hin := inb_of S ⟨h0, h1⟩
  obtain ⟨T₂, h₂, X2, e2, W2, st2⟩ := stC P.1 P.2.1 P.2.2.2.1 P.2.2.2.2.2 Ar hin (g := mkF m pc Ls (.int x :: .int j :: .ref a :: st)) rfl rfl (hb P.2.2.1 hd)
  exact Goes.go st2 (k T₂ h₂ ⟨a, j.toNatClampNeg⟩ rfl ⟨X2, P.2.1, P.2.2.1, P.2.2.2.1, P.2.2.2.2.1, e2⟩ W2 (Arv.set Ar q1 S q3 H G hf W2 _ rfl hi2))
theorem bastore {a : Addr} {kc : ClassId} {n j x x2 : Int32} {i : Nat} {vs : List Value} {d : Value} (P : Wk Z own bytes h p l e R s m args below meth c T locs cells slots) (hd : decode bytes pc = .ok (.bastore, 1)) (A : Arv Z h a kc .byte n vs d) (h0 : ¬ j < 0) (h1 : j < n) (hx2 : nar .byte x = x2) (hf : fits .byte (.int x2) = true) (hi : j.toNatClampNeg = i) (hi2 : i < vs.length) (hq : pc + 1 = q)
    (k : ∀ T₂ h₂ lc, lc.base = a → Wk Z own bytes h₂ p l e R s m args below meth c T₂ (locs ++ [lc]) cells slots → Wr h h₂ a i (.int x2) → Arv Z h₂ a kc .byte n (vs.set i (.int x2)) d → Goes p.tables e below K (T₂.setTop (mkF m q Ls (st)))) : Goes p.tables e below K (T.setTop (mkF m pc Ls (.int x :: .int j :: .ref a :: st))) := by
  subst hq hx2 hi
  obtain ⟨cl, Ar, q1, S, q3, H, G⟩ := A
  have hin := inb_of S ⟨h0, h1⟩
  obtain ⟨T₂, h₂, X2, e2, W2, st2⟩ := stB P.1 P.2.1 P.2.2.2.1 P.2.2.2.2.2 Ar hin (g := mkF m pc Ls (.int x :: .int j :: .ref a :: st)) rfl rfl (hb P.2.2.1 hd)
  exact Goes.go st2 (k T₂ h₂ ⟨a, j.toNatClampNeg⟩ rfl ⟨X2, P.2.1, P.2.2.1, P.2.2.2.1, P.2.2.2.2.1, e2⟩ W2 (Arv.set Ar q1 S q3 H G hf W2 _ rfl hi2))
theorem putfield {O n d C : String} {i kk : Nat} {ty : FieldType} {a : Addr} {v old : Value} (P : Wk Z own bytes h p l e R s m args below meth c T locs cells slots) (hd : decode bytes pc = .ok (.putfield i, 3)) (w : (Cond.fieldLink own i O n d).before a0 Z = true) (F : Fld Z h a O n d old) (E : Exa Z h a C) (L : (Cond.lays C O n d).before a0 Z = true ∨ ((Cond.laysFinal C O n d).before a0 Z = true ∧ own = O ∧ meth.name = "<init>")) (wi : (Cond.instantiable C kk).before a0 Z = true) (hty : parseFieldDescriptor d = some ty) (hn : narrow ty v = v) (hf : fits ty v = true) (hq : pc + 3 = q)
    (k : ∀ T₂ h₂ lc, lc.base = a → Wk Z own bytes h₂ p l e R s m args below meth c T₂ (locs ++ [lc]) cells slots → Wr h h₂ a (Jvm.RoadKit.slotOf Z O n d) v → Goes p.tables e below K (T₂.setTop (mkF m q Ls (st)))) : Goes p.tables e below K (T.setTop (mkF m pc Ls (v :: .ref a :: st))) := by
  subst hq
  obtain ⟨T₂, h₂, X2, e2, W2, st2⟩ := putF P.1 P.2.1 P.2.2.2.1 P.2.2.2.2.1 (host := "") (Or.inl w) Via.refl P.2.2.2.2.2 F E L wi hty hn hf (g := mkF m pc Ls (v :: .ref a :: st)) rfl rfl (hb P.2.2.1 hd)
  exact Goes.go st2 (k T₂ h₂ ⟨a, Jvm.RoadKit.slotOf Z O n d⟩ rfl ⟨X2, P.2.1, P.2.2.1, P.2.2.2.1, P.2.2.2.2.1, e2⟩ W2)
theorem objinit {i W : Nat} {a : Addr} (P : Wk Z own bytes h p l e R s m args below meth c T locs cells slots) (hd : decode bytes pc = .ok (.invokespecial i, 3)) (w1 : (Cond.methodLink own i Lib.objectInit).before a0 Z = true) (w2 : (Cond.instanceMethod Lib.objectInit).before a0 Z = true) (w3 : (Cond.code Lib.objectInit ⟨#[0xb1]⟩ 1 none).before a0 Z = true) (hz : Ls.size = c.maxLocals) (hf : 1 ≤ R.frames) (hW : 2 * (mkF m pc Ls (.ref a :: st)).monitorRoom + (st.map fun v => v.category).sum ≤ W) (hl : W + 12 ≤ R.locals) (hq : pc + 3 = q) (k : ∀ T₂, Wk Z own bytes h p l e R s m args below meth c T₂ locs cells slots → Goes p.tables e below K (T₂.setTop (mkF m q Ls (st)))) : Goes p.tables e below K (T.setTop (mkF m pc Ls (.ref a :: st))) := by
  subst hq
  obtain ⟨T₂, X2, e2, st2⟩ := initO P.1 P.2.1 P.2.2.2.1 P.2.2.2.2.1 w1 w2 w3 P.2.2.2.2.2 (g := mkF m pc Ls (.ref a :: st)) rfl hz rfl (hb P.2.2.1 hd) hf hW hl
  exact Goes.go st2 (k T₂ ⟨X2, P.2.1, P.2.2.1, P.2.2.2.1, P.2.2.2.2.1, e2⟩)
theorem cloneArr {ad : String} {ty : FieldType} {i W cap : Nat} {a : Addr} {kc : ClassId} {z : Int32} {vs : List Value} {d : Value} (P : Wk Z own bytes h p l e R s m args below meth c T locs cells slots) (hd : decode bytes pc = .ok (.invokevirtual i, 3)) (w1 : (Cond.methodLink own i ⟨ad, "clone", "()Ljava/lang/Object;"⟩).before a0 Z = true) (w2 : (Cond.sameMethod ad "java/lang/Object" "clone" "()Ljava/lang/Object;").before a0 Z = true) (w3 : (Cond.native ⟨"java/lang/Object", "clone", "()Ljava/lang/Object;"⟩).before a0 Z = true) (w4 : (Cond.instanceMethod ⟨"java/lang/Object", "clone", "()Ljava/lang/Object;"⟩).before a0 Z = true) (w5 : (Cond.selects ad ⟨ad, "clone", "()Ljava/lang/Object;"⟩ ⟨"java/lang/Object", "clone", "()Ljava/lang/Object;"⟩).before a0 Z = true) (w6 : (Cond.castable ad "java/lang/Cloneable").before a0 Z = true) (A : Arv Z h a kc ty z vs d) (E : Exa Z h a ad) (hz : Ls.size = c.maxLocals) (hf : 1 ≤ R.frames) (hW : 2 * (mkF m pc Ls (.ref a :: st)).monitorRoom + (st.map fun v => v.category).sum ≤ W) (hl : W + 14 ≤ R.locals) (hcap : z.toNatClampNeg ≤ cap) (hc : cells + 1 ≤ R.cells) (hs : slots + cap ≤ R.slots) (hq : pc + 3 = q)
    (k : ∀ T₂ h₂ r, r = h.size → Wk Z own bytes h₂ p l e R s m args below meth c T₂ locs (cells + 1) (slots + cap) → Ext h h₂ → Arv Z h₂ r kc ty z vs d → Exa Z h₂ r ad → Goes p.tables e below K (T₂.setTop (mkF m q Ls (.ref r :: st)))) : Goes p.tables e below K (T.setTop (mkF m pc Ls (.ref a :: st))) := by
  subst hq
  obtain ⟨T₂, h₂, X2, e2, E2, A2, B2, st2⟩ := cloneH P.1 P.2.1 P.2.2.2.1 P.2.2.2.2.1 w1 w2 w3 w4 w5 w6 P.2.2.2.2.2 (hs := []) A E (g := mkF m pc Ls (.ref a :: st)) rfl hz rfl (hb P.2.2.1 hd) hf hW hl hcap hc hs
  exact Goes.go st2 (k T₂ h₂ h.size rfl ⟨X2, P.2.1, P.2.2.1, P.2.2.2.1, P.2.2.2.2.1, e2⟩ E2 A2 B2)
theorem invStatic {y : MethodName} {cb : ByteArray} {mL : Nat} {ret : Option FieldType} {i W kc ks : Nat} {as' : Array Value} {Q : Option Value → Heap → List Loc → Prop} {argsL rest : List Value} (P : Wk Z own bytes h p l e R s m args below meth c T locs cells slots) (hd : decode bytes pc = .ok (.invokestatic i, 3)) (w1 : (Cond.methodLink own i y).before a0 Z = true) (w2 : (Cond.static y).before a0 Z = true) (w3 : (Cond.initialized y.cls).before a0 Z = true) (w4 : (Cond.code y cb mL ret).before a0 Z = true) (hy : y.cls ≠ "java/lang/invoke/MethodHandle" ∧ y.cls ≠ "java/lang/invoke/VarHandle") (B : Back l R p e below s args y 3 W (fun A a => a = as' ∧ A.U.heap = h ∧ A.cells + kc ≤ R.cells ∧ A.slots + ks ≤ R.slots) (fun A _ v B => ∃ L, Q v B.U.heap L ∧ B.locs = A.locs ++ L ∧ B.cells = A.cells + kc ∧ B.slots = A.slots + ks)) (ha : argsL.toArray = as') (hst : st = argsL.reverse ++ rest) (hz : Ls.size = c.maxLocals) (hlen : ∀ sig, parseMethodDescriptor y.desc = some sig → argsL.length = sig.parameters.length) (hW : 2 * (mkF m pc Ls st).monitorRoom + (rest.map fun v => v.category).sum ≤ W) (hcc : cells + kc ≤ R.cells) (hss : slots + ks ≤ R.slots) (hq : pc + 3 = q) (k : ∀ v T₂ h₂ L, Q v h₂ L → Wk Z own bytes h₂ p l e R s m args below meth c T₂ (locs ++ L) (cells + kc) (slots + ks) → Goes p.tables e below K (T₂.setTop (mkF m q Ls (v.toList ++ rest)))) : Goes p.tables e below K (T.setTop (mkF m pc Ls (st))) := by
  subst hq
  obtain ⟨v, _, ⟨T₂, L₂, c₂, n₂⟩, -, X2, ⟨L, hQ, hl, hc2, hs2⟩, st2⟩ := Jvm.LawKit.callS P.1 P.2.1 (y := y) P.2.2.2.2.1 (mvT P.2.2.2.1 w1) (mvT P.2.2.2.1 w2) (mvT P.2.2.2.1 w3) (mvT P.2.2.2.1 w4) hy B (g := mkF m pc Ls st) rfl hz (argsL := argsL) (rest := rest) hlen hst hW (hb P.2.2.1 hd) (fun _ _ => ⟨ha, P.2.2.2.2.2, hcc, hss⟩)
  dsimp only [Pt.U, Pt.locs, Pt.cells, Pt.slots] at X2 hl hc2 hs2 st2 hQ
  subst hl hc2 hs2
  exact Goes.go st2 (k v T₂ _ L hQ ⟨X2, P.2.1, P.2.2.1, P.2.2.2.1, P.2.2.2.2.1, rfl⟩)
theorem invSpecial {y : MethodName} {cb : ByteArray} {mL : Nat} {i W kc ks : Nat} {as' : Array Value} {Q : Option Value → Heap → List Loc → Prop} {a : Addr} {argsL rest : List Value} (P : Wk Z own bytes h p l e R s m args below meth c T locs cells slots) (hd : decode bytes pc = .ok (.invokespecial i, 3)) (hin : y.name = "<init>") (w1 : (Cond.methodLink own i y).before a0 Z = true) (w2 : (Cond.instanceMethod y).before a0 Z = true) (w4 : (Cond.code y cb mL none).before a0 Z = true) (hy : y.cls ≠ "java/lang/invoke/MethodHandle" ∧ y.cls ≠ "java/lang/invoke/VarHandle") (B : Back l R p e below s args y 3 W (fun A a => a = as' ∧ A.U.heap = h ∧ A.cells + kc ≤ R.cells ∧ A.slots + ks ≤ R.slots) (fun A _ v B => ∃ L, Q v B.U.heap L ∧ B.locs = A.locs ++ L ∧ B.cells = A.cells + kc ∧ B.slots = A.slots + ks)) (ha : (.ref a :: argsL).toArray = as') (hst : st = argsL.reverse ++ .ref a :: rest) (hz : Ls.size = c.maxLocals) (hlen : ∀ sig, parseMethodDescriptor y.desc = some sig → argsL.length = sig.parameters.length) (hW : 2 * (mkF m pc Ls st).monitorRoom + (rest.map fun v => v.category).sum ≤ W) (hcc : cells + kc ≤ R.cells) (hss : slots + ks ≤ R.slots) (hq : pc + 3 = q) (k : ∀ v T₂ h₂ L, Q v h₂ L → Wk Z own bytes h₂ p l e R s m args below meth c T₂ (locs ++ L) (cells + kc) (slots + ks) → Goes p.tables e below K (T₂.setTop (mkF m q Ls (v.toList ++ rest)))) : Goes p.tables e below K (T.setTop (mkF m pc Ls (st))) := by
  subst hq
  obtain ⟨v, _, ⟨T₂, L₂, c₂, n₂⟩, -, X2, ⟨L, hQ, hl, hc2, hs2⟩, st2⟩ := P.1.specialBack P.2.1 (y := y) hin P.2.2.2.2.1 (mvT P.2.2.2.1 w1) (mvT P.2.2.2.1 w2) (mvT P.2.2.2.1 w4) hy B (g := mkF m pc Ls st) rfl hz (Steps.refl _) (a := a) (argsL := argsL) (rest := rest) hlen hst hW (hb P.2.2.1 hd) (fun _ _ => ⟨ha, P.2.2.2.2.2, hcc, hss⟩)
  dsimp only [Pt.U, Pt.locs, Pt.cells, Pt.slots] at X2 hl hc2 hs2 st2 hQ
  subst hl hc2 hs2
  exact Goes.tr st2 (k v T₂ _ L hQ ⟨X2, P.2.1, P.2.2.1, P.2.2.2.1, P.2.2.2.2.1, rfl⟩)
theorem invVirtual {y z : MethodName} {C : String} {i W kc ks : Nat} {as' : Array Value} {Q : Option Value → Heap → List Loc → Prop} {a : Addr} {argsL rest : List Value} (P : Wk Z own bytes h p l e R s m args below meth c T locs cells slots) (hd : decode bytes pc = .ok (.invokevirtual i, 3)) (w1 : (Cond.methodLink own i y).before a0 Z = true) (w2 : (Cond.declares y).before a0 Z = true) (w3 : (Cond.selects C y z).before a0 Z = true) (w4 : (Cond.instanceMethod z).before a0 Z = true) (nf : NotFace s y) (hy : y.cls ≠ "java/lang/invoke/MethodHandle" ∧ y.cls ≠ "java/lang/invoke/VarHandle") (B : Back l R p e below s args z 3 W (fun A a => a = as' ∧ A.U.heap = h ∧ A.cells + kc ≤ R.cells ∧ A.slots + ks ≤ R.slots) (fun A _ v B => ∃ L, Q v B.U.heap L ∧ B.locs = A.locs ++ L ∧ B.cells = A.cells + kc ∧ B.slots = A.slots + ks)) (E : Exa Z h a C) (ha : (.ref a :: argsL).toArray = as') (hst : st = argsL.reverse ++ .ref a :: rest) (hz : Ls.size = c.maxLocals) (hlen : ∀ sig, parseMethodDescriptor y.desc = some sig → argsL.length = sig.parameters.length) (hW : 2 * (mkF m pc Ls st).monitorRoom + (rest.map fun v => v.category).sum ≤ W) (hcc : cells + kc ≤ R.cells) (hss : slots + ks ≤ R.slots) (hq : pc + 3 = q) (k : ∀ v T₂ h₂ L, Q v h₂ L → Wk Z own bytes h₂ p l e R s m args below meth c T₂ (locs ++ L) (cells + kc) (slots + ks) → Goes p.tables e below K (T₂.setTop (mkF m q Ls (v.toList ++ rest)))) : Goes p.tables e below K (T.setTop (mkF m pc Ls (st))) := by
  subst hq
  obtain ⟨cB, kB, r1, -, r3⟩ := isOf P.2.2.2.1 P.2.2.2.2.2 E
  obtain ⟨v, _, ⟨T₂, L₂, c₂, n₂⟩, -, X2, ⟨L, hQ, hl, hc2, hs2⟩, st2⟩ := P.1.virtualBack P.2.1 (y := y) (z := z) P.2.2.2.2.1 (mvT P.2.2.2.1 w1) (mvT P.2.2.2.1 w2) nf (mvT P.2.2.2.1 w3) (mvT P.2.2.2.1 w4) hy B r1 r3 (g := mkF m pc Ls st) rfl hz (Steps.refl _) (argsL := argsL) (rest := rest) hlen hst hW (hb P.2.2.1 hd) (fun _ _ => ⟨ha, P.2.2.2.2.2, hcc, hss⟩)
  dsimp only [Pt.U, Pt.locs, Pt.cells, Pt.slots] at X2 hl hc2 hs2 st2 hQ
  subst hl hc2 hs2
  exact Goes.tr st2 (k v T₂ _ L hQ ⟨X2, P.2.1, P.2.2.1, P.2.2.2.1, P.2.2.2.2.1, rfl⟩)
theorem retV {kc ks : Nat} {Q : Option Value → Heap → List Loc → Prop}  (P : Wk Z own bytes h p l e R s m args below meth c T locs cells slots) (hd : decode bytes pc = .ok (.return_, 1)) (hret : meth.sig.returnType = none) (hlk : meth.locks = false) (hc : cells ≤ kc) (hs : slots ≤ ks) (hQ : Q none h locs) : Goes p.tables e below (fun s₂ o => ∃ v L, o = .returned v ∧ Q v s₂.heap L ∧ FrameEnd s o s₂ L kc ks) (T.setTop (mkF m pc Ls ([]))) := by
  obtain ⟨fs, hr, hrun, hended, hW, hsame⟩ := P.1.leave (v := none) (fun h => by first | rfl | (rw [hret] at h; cases h)) hlk
  exact ⟨_, _, P.1.returnOut P.2.1 hret (hb P.2.2.1 hd) hr, hrun, hended, _, _, rfl, by show Q _ T.heap _; rw [P.2.2.2.2.2]; exact hQ, ⟨_, rfl⟩, hW, hsame.mono hc hs⟩
theorem retZ {kc ks : Nat} {Q : Option Value → Heap → List Loc → Prop} {t : FieldType} {z : Int32} (P : Wk Z own bytes h p l e R s m args below meth c T locs cells slots) (hd : decode bytes pc = .ok (.ireturn, 1)) (hret : meth.sig.returnType = some t) (ht : t = .boolean ∨ t = .byte ∨ t = .char ∨ t = .short) (hlk : meth.locks = false) (hc : cells ≤ kc) (hs : slots ≤ ks) (hQ : Q (some (.int (nar t z))) h locs) : Goes p.tables e below (fun s₂ o => ∃ v L, o = .returned v ∧ Q v s₂.heap L ∧ FrameEnd s o s₂ L kc ks) (T.setTop (mkF m pc Ls (.int z :: st))) := by
  obtain ⟨fs, hr, hrun, hended, hW, hsame⟩ := P.1.leave (v := (some (.int (nar t z)))) (fun h => by first | rfl | (rw [hret] at h; cases h)) hlk
  exact ⟨_, _, retN P.1 P.2.1 hret ht (hb P.2.2.1 hd) hr, hrun, hended, _, _, rfl, by show Q _ T.heap _; rw [P.2.2.2.2.2]; exact hQ, ⟨_, rfl⟩, hW, hsame.mono hc hs⟩
theorem retI {kc ks : Nat} {Q : Option Value → Heap → List Loc → Prop} {z : Int32} (P : Wk Z own bytes h p l e R s m args below meth c T locs cells slots) (hd : decode bytes pc = .ok (.ireturn, 1)) (hret : meth.sig.returnType = some .int) (hlk : meth.locks = false) (hc : cells ≤ kc) (hs : slots ≤ ks) (hQ : Q (some (.int z)) h locs) : Goes p.tables e below (fun s₂ o => ∃ v L, o = .returned v ∧ Q v s₂.heap L ∧ FrameEnd s o s₂ L kc ks) (T.setTop (mkF m pc Ls (.int z :: st))) := by
  obtain ⟨fs, hr, hrun, hended, hW, hsame⟩ := P.1.leave (v := (some (.int z))) (fun h => by first | rfl | (rw [hret] at h; cases h)) hlk
  exact ⟨_, _, retOut P.1 P.2.1 hret rfl (Or.inl ⟨rfl, Or.inl rfl, _, rfl⟩) (hb P.2.2.1 hd) hr, hrun, hended, _, _, rfl, by show Q _ T.heap _; rw [P.2.2.2.2.2]; exact hQ, ⟨_, rfl⟩, hW, hsame.mono hc hs⟩
theorem retA {kc ks : Nat} {Q : Option Value → Heap → List Loc → Prop} {t : FieldType} {v : Value} (P : Wk Z own bytes h p l e R s m args below meth c T locs cells slots) (hd : decode bytes pc = .ok (.areturn, 1)) (hret : meth.sig.returnType = some t) (ht : t.isReference = true) (hv : v.isRef = true) (hn : narrow t v = v) (hlk : meth.locks = false) (hc : cells ≤ kc) (hs : slots ≤ ks) (hQ : Q (some v) h locs) : Goes p.tables e below (fun s₂ o => ∃ v L, o = .returned v ∧ Q v s₂.heap L ∧ FrameEnd s o s₂ L kc ks) (T.setTop (mkF m pc Ls (v :: st))) := by
  obtain ⟨fs, hr, hrun, hended, hW, hsame⟩ := P.1.leave (v := (some v)) (fun h => by first | rfl | (rw [hret] at h; cases h)) hlk
  exact ⟨_, _, retOut P.1 P.2.1 hret hn (Or.inr (Or.inr (Or.inr (Or.inr ⟨rfl, ht, hv⟩)))) (hb P.2.2.1 hd) hr, hrun, hended, _, _, rfl, by show Q _ T.heap _; rw [P.2.2.2.2.2]; exact hQ, ⟨_, rfl⟩, hW, hsame.mono hc hs⟩
theorem Wk.up {c2 s2 : Nat} (P : Wk Z own bytes h p l e R s m args below meth c T locs cells slots) (hc : cells ≤ c2) (hs : slots ≤ s2) : Wk Z own bytes h p l e R s m args below meth c T locs c2 s2 := ⟨P.1.mono hc hs, P.2⟩
end Steps
theorem ltb {i n : Nat} (h : Nat.ble (i + 1) n = true) : i < n := Nat.le_of_ble_eq_true h
theorem leb {i n : Nat} (h : Nat.ble i n = true) : i ≤ n := Nat.le_of_ble_eq_true h
theorem Ext.rf (h : Heap) : Ext h h := ⟨Nat.le_refl _, fun _ _ q => q⟩
theorem Ext.tr {h h' h2 : Heap} (A : Ext h h') (B : Ext h' h2) : Ext h h2 := ⟨Nat.le_trans A.1 B.1, fun a c q => B.2 a c (A.2 a c q)⟩
theorem Ext.wr {h h' h2 : Heap} {a : Addr} {sl : Nat} {v : Value} (A : Ext h h') (W : Wr h' h2 a sl v) (q : h.size ≤ a) : Ext h h2 := ⟨by rw [W.size]; exact A.1, fun b c hb => by
  have hb2 := A.2 b c hb
  obtain ⟨c2, g1, -, -, -, g5, -⟩ := wr_at W hb2
  have hne : b ≠ a := fun e => by subst e; exact absurd (Array.getElem?_eq_some_iff.mp hb).1 (Nat.not_lt.mpr q)
  rw [g1, g5 hne]⟩
theorem Ext.kp {h h' h2 : Heap} {ws : List Addr} (A : Ext h h') (K : Keep h' h2 ws) (q : ∀ x ∈ ws, h.size ≤ x) : Ext h h2 := ⟨Nat.le_trans A.1 K.1, fun b c hb => K.2.1 b c (A.2 b c hb) fun hm => absurd (Array.getElem?_eq_some_iff.mp hb).1 (Nat.not_lt.mpr (q b hm))⟩
theorem Fr.one {k : Nat} {L : List Loc} {lc : Loc} {a : Addr} (N : Fr k L) (e : lc.base = a) (q : k ≤ a) : Fr k (L ++ [lc]) := N.app fun y hy => by cases List.mem_singleton.mp hy; rw [e]; exact q
end Own
end Jvm.Pilot.@@N@@
namespace Jvm.Pilot.@@N@@
namespace Own
open Jvm Jvm.ClassFile Sem Op Lib Jvm.Free Jvm.Stand Jvm.LawKit Jvm.RoadKit Bundle
theorem lo_rng (x : Int32) : ¬ (x &&& 255) < 0 ∧ ¬ (255 : Int32) < (x &&& 255) := by
  have h := c_mask x 255 8 (by decide) (by decide)
  have h0 : (0 : Int32).toInt = 0 := rfl
  have h5 : (255 : Int32).toInt = 255 := rfl
  constructor
  · rw [Int32.lt_iff_toInt_lt, h0, h]; omega
  · rw [Int32.lt_iff_toInt_lt, h5, h]; omega
theorem i2c_id16 {x : Int32} (h : ¬ x < 0 ∧ ¬ (65535 : Int32) < x) : x.toUInt32.toUInt16.toUInt32.toInt32 = x := by
  obtain ⟨g1, g2, g3⟩ := c_i2c x
  have h0 : (0 : Int32).toInt = 0 := rfl
  have h5 : (65535 : Int32).toInt = 65535 := rfl
  obtain ⟨a, b⟩ := h
  rw [Int32.lt_iff_toInt_lt, h0] at a
  rw [Int32.lt_iff_toInt_lt, h5] at b
  exact Int32.toInt_inj.mp (by omega)
theorem up16 {x : Int32} (h : ¬ x < 0 ∧ ¬ (255 : Int32) < x) : ¬ x < 0 ∧ ¬ (65535 : Int32) < x := by
  refine ⟨h.1, fun q => h.2 ?_⟩
  have h5 : (65535 : Int32).toInt = 65535 := rfl
  have h2 : (255 : Int32).toInt = 255 := rfl
  rw [Int32.lt_iff_toInt_lt] at q ⊢
  omega
theorem i2c_id {x : Int32} (h : ¬ x < 0 ∧ ¬ (255 : Int32) < x) : x.toUInt32.toUInt16.toUInt32.toInt32 = x := i2c_id16 (up16 h)
theorem nar_id {x : Int32} (h : ¬ x < 0 ∧ ¬ (255 : Int32) < x) : nar .char x = x := i2c_id h
theorem nar_id16 {x : Int32} (h : ¬ x < 0 ∧ ¬ (65535 : Int32) < x) : nar .char x = x := i2c_id16 h
theorem fits_ch {x : Int32} (h : ¬ x < 0 ∧ ¬ (255 : Int32) < x) : fits .char (.int x) = true := by
  have q := fits_nar_char x
  rwa [nar_id h] at q
theorem nar_b (x : Int32) : nar .byte x.toInt8.toInt32 = x.toInt8.toInt32 := by simp [nar]
theorem fits_b (x : Int32) : fits .byte (.int x.toInt8.toInt32) = true := fits_nar_byte x
theorem ch0 {P : Int32 → Prop} : ∀ c ∈ ([] : List Int32), P c := fun _ q => nomatch q
theorem chS {P : Int32 → Prop} {a : Int32} {cs : List Int32} (h : P a) (r : ∀ c ∈ cs, P c) : ∀ c ∈ a :: cs, P c := fun c q => (List.mem_cons.mp q).elim (fun u => u ▸ h) (r c)
/-- the object at a is a compact String of the chars cs, each 0 to 255 -/
def Str (Z : State) (h : Heap) (a : Addr) (cs : List Int32) : Prop :=
  (∃ t kb, Exa Z h a "java/lang/String" ∧ Fld Z h a "java/lang/String" "value" "[B" (.ref t) ∧ Fld Z h a "java/lang/String" "coder" "B" (.int 0) ∧ Arv Z h t kb .byte (Int32.ofNat cs.length) ((cs.map fun c => c.toInt8.toInt32).map Value.int) (.int 0)) ∧ (∀ c ∈ cs, ¬ c < 0 ∧ ¬ (255 : Int32) < c) ∧ cs.length ≤ 4000
theorem Str.ext {Z : State} {h h' : Heap} {a : Addr} {cs : List Int32} (S : Str Z h a cs) (E : Ext h h') : Str Z h' a cs := by
  obtain ⟨⟨t, kb, s1, s2, s3, s4⟩, r⟩ := S
  exact ⟨⟨t, kb, s1.ext E, s2.ext E, s3.ext E, s4.ext E⟩, r⟩
theorem Str.exa {Z : State} {h : Heap} {a : Addr} {cs : List Int32} (S : Str Z h a cs) : Exa Z h a "java/lang/String" := by obtain ⟨⟨t, kb, s1, -⟩, -⟩ := S; exact s1
theorem Str.kp1 {Z : State} {h h' : Heap} {a x : Addr} {cs : List Int32} {C : String} {a0 : Array Value} {n : Nat} (S : Str Z h a cs) (K : Keep h h' [x]) (E : Exa Z h x C) (hC : C ≠ "java/lang/String") (wi : (Jvm.Cond.instantiable C n).before a0 Z = true) : Str Z h' a cs := by
  obtain ⟨⟨t, kb, s1, s2, s3, s4⟩, r⟩ := S
  have n1 : a ≠ x := fun e => Exa.ne E s1 hC e.symm
  have n2 : t ≠ x := fun e => Exa.neArv E s4 wi e.symm
  exact ⟨⟨t, kb, s1.keep K, s2.keep K (ninS n1 nin0), s3.keep K (ninS n1 nin0), s4.keep K (ninS n2 nin0)⟩, r⟩
theorem Sta_kp1 {Z : State} {h h' : Heap} {x : Addr} {C D n d : String} {v : Value} (S : Sta Z h D n d v) (K : Keep h h' [x]) (E : Exa Z h x C) : Sta Z h' D n d v := by
  obtain ⟨cf, i, k, f, st, cell, t1, t2, t3, t4, t5, t6, t7⟩ := S
  obtain ⟨cx, kx, e1, -, -, e4, -⟩ := E
  have ne : st ≠ x := fun q => by
    subst q
    cases t5.symm.trans e1
    rw [e4] at t6
    cases t6
  exact ⟨cf, i, k, f, st, cell, t1, t2, t3, t4, K.2.1 _ _ t5 (ninS ne nin0), t6, t7⟩
theorem byte_inj {x y : Int32} (hx : ¬ x < 0 ∧ ¬ (255 : Int32) < x) (hy : ¬ y < 0 ∧ ¬ (255 : Int32) < y) (h : x.toInt8.toInt32 = y.toInt8.toInt32) : x = y := by
  obtain ⟨a1, -, -⟩ := c_i2b x
  obtain ⟨b1, -, -⟩ := c_i2b y
  have h0 : (0 : Int32).toInt = 0 := rfl
  have h5 : (255 : Int32).toInt = 255 := rfl
  have e : x.toInt8.toInt32.toInt = y.toInt8.toInt32.toInt := by rw [h]
  obtain ⟨u1, u2⟩ := hx
  obtain ⟨v1, v2⟩ := hy
  rw [Int32.lt_iff_toInt_lt] at u1 u2 v1 v2
  exact Int32.toInt_inj.mp (by omega)
theorem bytes_inj : ∀ {cs ds : List Int32}, (∀ c ∈ cs, ¬ c < 0 ∧ ¬ (255 : Int32) < c) → (∀ c ∈ ds, ¬ c < 0 ∧ ¬ (255 : Int32) < c) → (cs.map fun c => c.toInt8.toInt32) = (ds.map fun c => c.toInt8.toInt32) → cs = ds
  | [], [], _, _, _ => rfl
  | [], _ :: _, _, _, h => by simp at h
  | _ :: _, [], _, _, h => by simp at h
  | c :: cs, d :: ds, hc, hd, h => by
    simp only [List.map_cons, List.cons.injEq] at h
    rw [byte_inj (hc c (by simp)) (hd d (by simp)) h.1, bytes_inj (fun x hx => hc x (by simp [hx])) (fun x hx => hd x (by simp [hx])) h.2]
theorem ofNat_inj {n k : Nat} (hn : n ≤ 4000) (hk : k ≤ 4000) (h : Int32.ofNat n = Int32.ofNat k) : n = k := by
  have a : (Int32.ofNat n).toInt = n := Int32.toInt_ofNat_of_lt (by omega)
  have b : (Int32.ofNat k).toInt = k := Int32.toInt_ofNat_of_lt (by omega)
  rw [h, b] at a
  omega
theorem Str.inj {Z : State} {h : Heap} {a : Addr} {cs ds : List Int32} (S : Str Z h a cs) (T : Str Z h a ds) : cs = ds := by
  obtain ⟨⟨t, kb, -, s2, -, c1, A1, -, z1, -, H1, -⟩, p1, l1⟩ := S
  obtain ⟨⟨u, ku, -, t2, -, c2, A2, -, z2, -, H2, -⟩, p2, l2⟩ := T
  have e : (Value.ref t) = .ref u := Classical.byContradiction fun q => Fld.ne s2 t2 q rfl
  cases e
  cases A1.1.symm.trans A2.1
  have m1 : (Int32.ofNat cs.length).toNatClampNeg = cs.length := by simp only [Int32.toNatClampNeg, Int32.toInt_ofNat_of_lt (show cs.length < 2 ^ 31 by omega)]; rfl
  have m2 : (Int32.ofNat ds.length).toNatClampNeg = ds.length := by simp only [Int32.toNatClampNeg, Int32.toInt_ofNat_of_lt (show ds.length < 2 ^ 31 by omega)]; rfl
  have n1 : cs.length = ds.length := by omega
  refine bytes_inj p1 p2 (List.ext_getElem (by simp [n1]) fun i g1 g2 => ?_)
  have q1 := H1 i (by simp at g1; omega)
  have q2 := H2 i (by simp at g1; omega)
  rw [q1] at q2
  have q3 := Option.some.inj q2
  simp only [List.getD_eq_getElem?_getD] at q3
  simp at g1
  simp [g1, n1 ▸ g1] at q3
  simpa using q3
theorem Str.up {Z : State} {h : Heap} {a : Addr} {cs : List Int32} (S : Str Z h a cs) : ∀ c ∈ cs, ¬ c < 0 ∧ ¬ (65535 : Int32) < c := fun c hc => up16 (S.2.1 c hc)
end Own
end Jvm.Pilot.@@N@@
/- laws to paste: Road.backV, Road.eqW (cut by pick.py; bodies as the Statement names them) -/
namespace Jvm.Pilot.@@N@@
namespace StrChars
open Jvm Sem ClassFile Op Lib Jvm.Stand Jvm.Free.XT Jvm.Free.ALB Jvm.Free.JM Jvm.Free
open Jvm.Lib.Cold (StaticIs)
/-- a char array whose places are chars -/
def Ch (a : Addr) (A : Cell) (U : State) : Prop := Arr .char a A U ∧ Typed .char A
theorem Ch.mv {a : Addr} {A : Cell} {U U' : State} (h : Ch a A U) (hal : U.vm.Alike U'.vm) (hh : U'.heap = U.heap) : Ch a A U' := ⟨h.1.mv hal hh, h.2⟩
theorem Ch.keep {a : Addr} {A : Cell} {U U' : State} (h : Ch a A U) (hal : U.vm.Alike U'.vm) (hk : U'.heap[a]? = some A) : Ch a A U' := ⟨h.1.keep hal hk, h.2⟩
/-- what place i of a char[]'s cell holds -/
def cv (A : Cell) (i : Nat) : Int32 := match A.slots[i]? with | some (.int x) => x | _ => 0
theorem Ch.get {a : Addr} {A : Cell} {U : State} (h : Ch a A U) {i : Nat} (hi : i < A.slots.size) : A.slots[i]? = some (.int (cv A i)) := by
  have e := Array.getElem?_eq_getElem hi
  have f := h.2 i _ e
  unfold cv; rw [e]
  generalize A.slots[i] = v at f
  cases v <;> simp [fits] at f ⊢
/-- the byte that i2b leaves of a char -/
def lo8 (x : Int32) : Int32 := x.toInt8.toInt32
theorem fits_lo8 (y : Int32) : fits .byte (.int (lo8 y)) = true := by
  have h1 := y.toInt8.le_toInt
  have h2 := y.toInt8.toInt_lt
  simp only [lo8, fits, Bool.and_eq_true, decide_eq_true_eq, Int32.le_iff_toInt_le, Int8.toInt_toInt32, show (-128 : Int32).toInt = -128 from by decide, show (127 : Int32).toInt = 127 from by decide]
  omega
/-- A' is A but that each place j of lo .. hi - 1 holds f j -/
def Laid (A A' : Cell) (lo hi : Nat) (f : Nat → Value) : Prop := A'.cls = A.cls ∧ A'.vm = A.vm ∧ A'.slots.size = A.slots.size ∧ ∀ i, A'.slots[i]? = if lo ≤ i ∧ i < hi then some (f i) else A.slots[i]?
theorem Laid.zero (A : Cell) (lo : Nat) (f : Nat → Value) : Laid A A lo (lo + 0) f := ⟨rfl, rfl, rfl, fun i => by rw [if_neg (by omega)]⟩
theorem Laid.step {A Ak : Cell} {lo k : Nat} {f : Nat → Value} {v : Value} (h : Laid A Ak lo k f) (hlo : lo ≤ k) (hk : k < Ak.slots.size) (hv : v = f k) : Laid A (Ak.setSlot k v) lo (k + 1) f := by
  refine ⟨h.1, h.2.1, by simpa [Cell.setSlot] using h.2.2.1, fun i => ?_⟩
  by_cases e : k = i
  · subst e; rw [Cell.slots_setSlot_self v hk, if_pos (by omega), hv]
  · rw [Cell.slots_setSlot_ne v e, h.2.2.2 i]
    by_cases q : lo ≤ i ∧ i < k
    · rw [if_pos q, if_pos (by omega)]
    · rw [if_neg q, if_neg (by omega)]
def U16 : String := "java/lang/StringUTF16"
namespace Cmp5
def yN : MethodName := ⟨"java/lang/StringUTF16", "compress", "([CI[BII)I"⟩
abbrev yB : ByteArray := jdk_52_method_21_code
theorem d0 : decode yB 0 = .ok (.iconst 0, 1) := by decide +kernel
theorem d1 : decode yB 1 = .ok (.istore 5, 2) := by decide +kernel
theorem d3 : decode yB 3 = .ok (.iload 5, 2) := by decide +kernel
theorem d5 : decode yB 5 = .ok (.iload 4, 2) := by decide +kernel
theorem d7 : decode yB 7 = .ok (.if_icmp (.ge) 37, 3) := by decide +kernel
theorem d10 : decode yB 10 = .ok (.aload_n 0, 1) := by decide +kernel
theorem d11 : decode yB 11 = .ok (.iload_n 1, 1) := by decide +kernel
theorem d12 : decode yB 12 = .ok (.caload, 1) := by decide +kernel
theorem d13 : decode yB 13 = .ok (.istore 6, 2) := by decide +kernel
theorem d15 : decode yB 15 = .ok (.iload 6, 2) := by decide +kernel
theorem d17 : decode yB 17 = .ok (.sipush 255, 3) := by decide +kernel
theorem d20 : decode yB 20 = .ok (.if_icmp (.le) 6, 3) := by decide +kernel
theorem d26 : decode yB 26 = .ok (.aload_n 2, 1) := by decide +kernel
theorem d27 : decode yB 27 = .ok (.iload_n 3, 1) := by decide +kernel
theorem d28 : decode yB 28 = .ok (.iload 6, 2) := by decide +kernel
theorem d30 : decode yB 30 = .ok (.i2b, 1) := by decide +kernel
theorem d31 : decode yB 31 = .ok (.bastore, 1) := by decide +kernel
theorem d32 : decode yB 32 = .ok (.iinc 1 1, 3) := by decide +kernel
theorem d35 : decode yB 35 = .ok (.iinc 3 1, 3) := by decide +kernel
theorem d38 : decode yB 38 = .ok (.iinc 5 1, 3) := by decide +kernel
theorem d41 : decode yB 41 = .ok (.goto (-38), 3) := by decide +kernel
theorem d44 : decode yB 44 = .ok (.iload 4, 2) := by decide +kernel
theorem d46 : decode yB 46 = .ok (.ireturn, 1) := by decide +kernel
def site : List Cond := []
def tab : Cond := tabOf yN yB 7 (some .int) site
def P (b : Addr) (A : Cell) (d : Addr) (B : Cell) (o q len : Nat) (args : Array Value) (s : State) : Prop := args = #[.ref b, .int (Int32.ofNat o), .ref d, .int (Int32.ofNat q), .int (Int32.ofNat len)] ∧ Ch b A s ∧ Arr .byte d B s ∧ b ≠ d ∧ o + len ≤ A.slots.size ∧ q + len ≤ B.slots.size ∧ ∀ i, i < len → ¬ 255 < cv A (o + i)
def E (b : Addr) (A : Cell) (d : Addr) (B : Cell) (o q len : Nat) (r : Option Value) (s u : State) : Prop := r = some (.int (Int32.ofNat len)) ∧ ∃ B', Put d B' s u ∧ Laid B B' q (q + len) (fun j => Value.int (lo8 (cv A (o + (j - q)))))
/-- no char of the range above 255: len; the places written hold each char's low byte -/
theorem law (l : Launch) (b : Addr) (A : Cell) (d : Addr) (B : Cell) (o q len : Nat) : Law l yN 5 5 0 0 yB 7 (some .int) site (P b A d B o q len) (E b A d B o q len) (copyLocs d q len) 0 0 := by
  refine Law.of_walk (plainFor_of_name (by decide +kernel)) (by decide +kernel) (by decide +kernel) (by decide) (fun _ _ h => by rw [h.1]; rfl) (fun _ U U' hal hh h => ⟨h.1, h.2.1.mv hal hh, h.2.2.1.mv hal hh, h.2.2.2⟩) (fun r U U' V V' h1 hal h2 h => ⟨h.1, h.2.elim fun B' q => ⟨B', q.1.mv h1 h2, q.2⟩⟩) ?_
  intro p e s m args below meth c s₁ X0 hexec hbytes hml hret hlk hnm hown hh0 W hP
  obtain ⟨rfl, hA, hB, hne, l1, l2, hp⟩ := hP
  have c1 : Steps p.tables e below (s₁.setTop (entryFrame m #[.ref b, .int (Int32.ofNat o), .ref d, .int (Int32.ofNat q), .int (Int32.ofNat len)] 7)) (s₁.setTop (mkF m 0 #[.val (.ref b), .val (.int (Int32.ofNat o)), .val (.ref d), .val (.int (Int32.ofNat q)), .val (.int (Int32.ofNat len)), .unset, .unset] [])) := entry rfl
  have hA0 := hA.1.mv X0.warmed.alike hh0
  have hB0 := hB.mv X0.warmed.alike hh0
  have a31 := hA.1.2.2.2
  have c2 : Steps p.tables e below (s₁.setTop (entryFrame m #[.ref b, .int (Int32.ofNat o), .ref d, .int (Int32.ofNat q), .int (Int32.ofNat len)] 7)) (s₁.setTop (mkF m 3 #[.val (.ref b), .val (.int (Int32.ofNat o)), .val (.ref d), .val (.int (Int32.ofNat q)), .val (.int (Int32.ofNat len)), .val (.int 0), .unset] [])) := c1.trans (by
    refine iconstV X0.here hexec rfl 0 (hb hbytes d0) (by decide) ?_
    refine XS.istore X0.here hexec rfl (hb hbytes d1) rfl rfl ?_
    exact Steps.refl _)
  have loop : ∀ (r i : Nat), i + r = len → ∀ (z : Slot), (z = .unset ∨ ∃ w, z = .val w ∧ w.category = 1) → ∀ (Tl : State) (Bk : Cell), Stand p l e { frames := 0, locals := 0, cells := 0, slots := 0 } s m #[.ref b, .int (Int32.ofNat o), .ref d, .int (Int32.ofNat q), .int (Int32.ofNat len)] below meth c Tl ([] ++ copyLocs d q i) 0 0 → Put d Bk s₁ Tl → Laid B Bk q (q + i) (fun j => Value.int (lo8 (cv A (o + (j - q))))) →
      Steps p.tables e below (s₁.setTop (entryFrame m #[.ref b, .int (Int32.ofNat o), .ref d, .int (Int32.ofNat q), .int (Int32.ofNat len)] 7)) (Tl.setTop (mkF m 3 #[.val (.ref b), .val (.int (Int32.ofNat (o + i))), .val (.ref d), .val (.int (Int32.ofNat (q + i))), .val (.int (Int32.ofNat len)), .val (.int (Int32.ofNat i)), z] [])) → ∃ (T' : State) (B' : Cell) (z' : Slot), Stand p l e { frames := 0, locals := 0, cells := 0, slots := 0 } s m #[.ref b, .int (Int32.ofNat o), .ref d, .int (Int32.ofNat q), .int (Int32.ofNat len)] below meth c T' ([] ++ copyLocs d q len) 0 0 ∧ Put d B' s₁ T' ∧ Laid B B' q (q + len) (fun j => Value.int (lo8 (cv A (o + (j - q))))) ∧
      Steps p.tables e below (s₁.setTop (entryFrame m #[.ref b, .int (Int32.ofNat o), .ref d, .int (Int32.ofNat q), .int (Int32.ofNat len)] 7)) (T'.setTop (mkF m 3 #[.val (.ref b), .val (.int (Int32.ofNat (o + len))), .val (.ref d), .val (.int (Int32.ofNat (q + len))), .val (.int (Int32.ofNat len)), .val (.int (Int32.ofNat len)), z'] [])) := by
    intro r
    induction r with
    | zero =>
      intro i hi z hz Tl Bk Xl pl fl cl
      have hil : i = len := by omega
      rw [hil] at Xl fl cl
      exact ⟨Tl, Bk, z, Xl, pl, fl, cl⟩
    | succ r ih =>
      intro i hi z hz Tl Bk Xl pl fl cl
      have all := X0.warmed.alike.symm.trans Xl.warmed.alike
      have hAl := hA0.keep all (pl.other hne hA0.1)
      have hBk := hB0.like all pl.1 fl.1 fl.2.1 fl.2.2.1
      have hlt : q + i < Bk.slots.size := by rw [fl.2.2.1]; omega
      have c3 : Steps p.tables e below (s₁.setTop (entryFrame m #[.ref b, .int (Int32.ofNat o), .ref d, .int (Int32.ofNat q), .int (Int32.ofNat len)] 7)) (Tl.setTop (mkF m 12 #[.val (.ref b), .val (.int (Int32.ofNat (o + i))), .val (.ref d), .val (.int (Int32.ofNat (q + i))), .val (.int (Int32.ofNat len)), .val (.int (Int32.ofNat i)), z] [.int (Int32.ofNat (o + i)), .ref b])) := cl.trans (by
        refine XS.iload Xl.here hexec rfl (hb hbytes d3) rfl ?_
        refine XS.iload Xl.here hexec rfl (hb hbytes d5) rfl ?_
        refine XS.icmpNo Xl.here hexec rfl (hb hbytes d7) rfl (ii_ge_f (lt32 (by omega) (by omega))) ?_
        refine XS.aloadN Xl.here hexec rfl (hb hbytes d10) rfl rfl ?_
        refine XS.iloadN Xl.here hexec rfl (hb hbytes d11) rfl ?_
        exact Steps.refl _)
      have c4 : Steps p.tables e below (s₁.setTop (entryFrame m #[.ref b, .int (Int32.ofNat o), .ref d, .int (Int32.ofNat q), .int (Int32.ofNat len)] 7)) (Tl.setTop (mkF m 13 #[.val (.ref b), .val (.int (Int32.ofNat (o + i))), .val (.ref d), .val (.int (Int32.ofNat (q + i))), .val (.int (Int32.ofNat len)), .val (.int (Int32.ofNat i)), z] [.int (cv A (o + i))])) := c3.trans (by
        refine Xl.aget hexec hAl rfl (hA.get (i := o + i) (by omega)) rfl rfl (hb hbytes d12) ?_
        exact Steps.refl _)
      have c5 : Steps p.tables e below (s₁.setTop (entryFrame m #[.ref b, .int (Int32.ofNat o), .ref d, .int (Int32.ofNat q), .int (Int32.ofNat len)] 7)) (Tl.setTop (mkF m 15 #[.val (.ref b), .val (.int (Int32.ofNat (o + i))), .val (.ref d), .val (.int (Int32.ofNat (q + i))), .val (.int (Int32.ofNat len)), .val (.int (Int32.ofNat i)), .val (.int (cv A (o + i)))] [])) := c4.trans (by
        refine XS.istoreS Xl.here hexec rfl (hb hbytes d13) rfl rfl hz ?_
        exact Steps.refl _)
      have c6 : Steps p.tables e below (s₁.setTop (entryFrame m #[.ref b, .int (Int32.ofNat o), .ref d, .int (Int32.ofNat q), .int (Int32.ofNat len)] 7)) (Tl.setTop (mkF m 31 #[.val (.ref b), .val (.int (Int32.ofNat (o + i))), .val (.ref d), .val (.int (Int32.ofNat (q + i))), .val (.int (Int32.ofNat len)), .val (.int (Int32.ofNat i)), .val (.int (cv A (o + i)))] [.int (lo8 (cv A (o + i))), .int (Int32.ofNat (q + i)), .ref d])) := c5.trans (by
        refine XS.iload Xl.here hexec rfl (hb hbytes d15) rfl ?_
        refine sipushV Xl.here hexec rfl 255 (hb hbytes d17) (by decide) ?_
        refine XS.icmpYes Xl.here hexec rfl (pc0 := 20) rfl (hb hbytes d20) rfl (ii_le_t (hp i (by omega))) (by decide) rfl ?_
        refine XS.aloadN Xl.here hexec rfl (hb hbytes d26) rfl rfl ?_
        refine XS.iloadN Xl.here hexec rfl (hb hbytes d27) rfl ?_
        refine XS.iload Xl.here hexec rfl (hb hbytes d28) rfl ?_
        refine i2b Xl.here hexec rfl (hb hbytes d30) rfl ?_
        exact Steps.refl _)
      obtain ⟨T7, X7, p7, st7⟩ := Xl.aput hexec hBk rfl hlt rfl (fits_lo8 (cv A (o + i))) (g := (mkF m 31 #[.val (.ref b), .val (.int (Int32.ofNat (o + i))), .val (.ref d), .val (.int (Int32.ofNat (q + i))), .val (.int (Int32.ofNat len)), .val (.int (Int32.ofNat i)), .val (.int (cv A (o + i)))] [.int (lo8 (cv A (o + i))), .int (Int32.ofNat (q + i)), .ref d])) rfl (rest := []) rfl (hb hbytes d31)
      have c8 : Steps p.tables e below (s₁.setTop (entryFrame m #[.ref b, .int (Int32.ofNat o), .ref d, .int (Int32.ofNat q), .int (Int32.ofNat len)] 7)) (T7.setTop (mkF m 32 #[.val (.ref b), .val (.int (Int32.ofNat (o + i))), .val (.ref d), .val (.int (Int32.ofNat (q + i))), .val (.int (Int32.ofNat len)), .val (.int (Int32.ofNat i)), .val (.int (cv A (o + i)))] [])) := c6.trans (st7 _ (Steps.refl _))
      have c9 : Steps p.tables e below (s₁.setTop (entryFrame m #[.ref b, .int (Int32.ofNat o), .ref d, .int (Int32.ofNat q), .int (Int32.ofNat len)] 7)) (T7.setTop (mkF m 3 #[.val (.ref b), .val (.int (Int32.ofNat (o + i) + 1)), .val (.ref d), .val (.int (Int32.ofNat (q + i) + 1)), .val (.int (Int32.ofNat len)), .val (.int (Int32.ofNat i + 1)), .val (.int (cv A (o + i)))] [])) := c8.trans (by
        refine iincV X7.here hexec rfl 1 (hb hbytes d32) (by decide) rfl rfl ?_
        refine iincV X7.here hexec rfl 1 (hb hbytes d35) (by decide) rfl rfl ?_
        refine iincV X7.here hexec rfl 1 (hb hbytes d38) (by decide) rfl rfl ?_
        refine XS.goto X7.here hexec rfl (pc0 := 41) rfl (hb hbytes d41) (by decide) rfl ?_
        exact Steps.refl _)
      have c10 : Steps p.tables e below (s₁.setTop (entryFrame m #[.ref b, .int (Int32.ofNat o), .ref d, .int (Int32.ofNat q), .int (Int32.ofNat len)] 7)) (T7.setTop (mkF m 3 #[.val (.ref b), .val (.int (Int32.ofNat (o + (i + 1)))), .val (.ref d), .val (.int (Int32.ofNat (q + (i + 1)))), .val (.int (Int32.ofNat len)), .val (.int (Int32.ofNat (i + 1))), .val (.int (cv A (o + i)))] [])) := by
        have := c9
        rw [succ32, succ32, succ32] at this
        exact this
      exact ih (i + 1) (by omega) _ (Or.inr ⟨_, rfl, rfl⟩) T7 _ (by rw [copyLocs_step, ← List.append_assoc]; exact X7) (pl.trans p7) (fl.step (by omega) hlt (by simp)) c10
  obtain ⟨T9, B9, z9, X9, p9, f9, g9⟩ := loop len 0 (by omega) .unset (Or.inl rfl) s₁ B (by simpa [copyLocs] using X0) ⟨hB0.1, fun _ _ => rfl, rfl⟩ (Laid.zero _ _ _) c2
  have c11 : Steps p.tables e below (s₁.setTop (entryFrame m #[.ref b, .int (Int32.ofNat o), .ref d, .int (Int32.ofNat q), .int (Int32.ofNat len)] 7)) (T9.setTop (mkF m 46 #[.val (.ref b), .val (.int (Int32.ofNat (o + len))), .val (.ref d), .val (.int (Int32.ofNat (q + len))), .val (.int (Int32.ofNat len)), .val (.int (Int32.ofNat len)), z9] [.int (Int32.ofNat len)])) := g9.trans (by
    refine XS.iload X9.here hexec rfl (hb hbytes d3) rfl ?_
    refine XS.iload X9.here hexec rfl (hb hbytes d5) rfl ?_
    refine XS.icmpYes X9.here hexec rfl (pc0 := 7) rfl (hb hbytes d7) rfl (ii_ge_t (nlt32 (by omega) (Nat.le_refl _))) (by decide) rfl ?_
    refine XS.iload X9.here hexec rfl (hb hbytes d44) rfl ?_
    exact Steps.refl _)
  exact ⟨T9, some (.int (Int32.ofNat len)), _, _, _, X9, by simp, rfl, rfl, (fun h => by cases h), ⟨rfl, B9, p9.from hh0, f9⟩, fun fs hl => c11.trans (X9.ireturnOut hexec hret rfl (Or.inl rfl) (hb hbytes d46) hl)⟩
end Cmp5
namespace Cmp3
def yN : MethodName := ⟨"java/lang/StringUTF16", "compress", "([CII)[B"⟩
abbrev yB : ByteArray := jdk_52_method_16_code
theorem d0 : decode yB 0 = .ok (.iload_n 2, 1) := by decide +kernel
theorem d1 : decode yB 1 = .ok (.newarray .byte, 2) := by decide +kernel
theorem d3 : decode yB 3 = .ok (.astore_n 3, 1) := by decide +kernel
theorem d4 : decode yB 4 = .ok (.aload_n 0, 1) := by decide +kernel
theorem d5 : decode yB 5 = .ok (.iload_n 1, 1) := by decide +kernel
theorem d6 : decode yB 6 = .ok (.aload_n 3, 1) := by decide +kernel
theorem d7 : decode yB 7 = .ok (.iconst 0, 1) := by decide +kernel
theorem d8 : decode yB 8 = .ok (.iload_n 2, 1) := by decide +kernel
theorem d9 : decode yB 9 = .ok (.invokestatic 115, 3) := by decide +kernel
theorem d12 : decode yB 12 = .ok (.istore 4, 2) := by decide +kernel
theorem d14 : decode yB 14 = .ok (.iload 4, 2) := by decide +kernel
theorem d16 : decode yB 16 = .ok (.iload_n 2, 1) := by decide +kernel
theorem d17 : decode yB 17 = .ok (.if_icmp (.eq) 40, 3) := by decide +kernel
theorem d57 : decode yB 57 = .ok (.aload_n 3, 1) := by decide +kernel
theorem d58 : decode yB 58 = .ok (.areturn, 1) := by decide +kernel
def site : List Cond := [.arrayClass .byte, Cmp5.tab] ++ staticW U16 115 Cmp5.yN
def tab : Cond := tabOf yN yB 6 (some (.array .byte)) site
def P (b : Addr) (A : Cell) (o len : Nat) (args : Array Value) (s : State) : Prop := args = #[.ref b, .int (Int32.ofNat o), .int (Int32.ofNat len)] ∧ Ch b A s ∧ o + len ≤ A.slots.size ∧ len ≤ 536870912 ∧ ∀ i, i < len → ¬ 255 < cv A (o + i)
def E (b : Addr) (A : Cell) (o len : Nat) (r : Option Value) (s u : State) : Prop := NewArr .byte "[B" len (fun j => .int (lo8 (cv A (o + j)))) r s u ∧ u.heap.size = s.heap.size + 1
/-- no char of the range above 255: a new byte[] of their low bytes -/
theorem law (l : Launch) (b : Addr) (A : Cell) (o len : Nat) : Law l yN 3 3 1 18 yB 6 (some (.array .byte)) site (P b A o len) (E b A o len) [] 1 len := by
  refine Law.of_walk (plainFor_of_name (by decide +kernel)) (by decide +kernel) (by decide +kernel) (by decide) (fun _ _ h => by rw [h.1]; rfl) (fun _ U U' hal hh h => ⟨h.1, h.2.1.mv hal hh, h.2.2⟩) (fun r U U' V V' h1 hal h2 h => ⟨NewArr.mv r U U' V V' h1 hal h2 h.1, by rw [h1, h2]; exact h.2⟩) ?_
  intro p e s m args below meth c s₁ X0 hexec hbytes hml hret hlk hnm hown hh0 W hP
  obtain ⟨rfl, hA, l1, l2, hp⟩ := hP
  have a31 := hA.1.2.2.2
  have c1 : Steps p.tables e below (s₁.setTop (entryFrame m #[.ref b, .int (Int32.ofNat o), .int (Int32.ofNat len)] 6)) (s₁.setTop (mkF m 0 #[.val (.ref b), .val (.int (Int32.ofNat o)), .val (.int (Int32.ofNat len)), .unset, .unset, .unset] [])) := entry rfl
  have c2 : Steps p.tables e below (s₁.setTop (entryFrame m #[.ref b, .int (Int32.ofNat o), .int (Int32.ofNat len)] 6)) (s₁.setTop (mkF m 1 #[.val (.ref b), .val (.int (Int32.ofNat o)), .val (.int (Int32.ofNat len)), .unset, .unset, .unset] [.int (Int32.ofNat len)])) := c1.trans (by
    refine XS.iloadN X0.here hexec rfl (hb hbytes d0) rfl ?_
    exact Steps.refl _)
  obtain ⟨T3, B3, X3, ba3, bs3, bv3, bh3, bf3, st3⟩ := X0.anew hexec (atype := .byte) (wk W (.arrayClass .byte)) rfl (by show len * 1 ≤ _; omega) (by omega) (g := (mkF m 1 #[.val (.ref b), .val (.int (Int32.ofNat o)), .val (.int (Int32.ofNat len)), .unset, .unset, .unset] [.int (Int32.ofNat len)])) rfl (hb hbytes d1) (rest := []) rfl (Nat.le_refl _) (by show 0 + len ≤ len; omega)
  rw [hh0] at ba3 st3
  have kp3 : XT.Kept s T3 := (XT.Kept.of_eq hh0).push bh3
  have hA3 := hA.keep X3.warmed.alike (kp3 _ _ hA.1.1)
  have hne : b ≠ s.heap.size := hA.1.ne
  have c4 : Steps p.tables e below (s₁.setTop (entryFrame m #[.ref b, .int (Int32.ofNat o), .int (Int32.ofNat len)] 6)) (T3.setTop (mkF m 3 #[.val (.ref b), .val (.int (Int32.ofNat o)), .val (.int (Int32.ofNat len)), .unset, .unset, .unset] [.ref s.heap.size])) := c2.trans (st3 _ (Steps.refl _))
  have c5 : Steps p.tables e below (s₁.setTop (entryFrame m #[.ref b, .int (Int32.ofNat o), .int (Int32.ofNat len)] 6)) (T3.setTop (mkF m 9 #[.val (.ref b), .val (.int (Int32.ofNat o)), .val (.int (Int32.ofNat len)), .val (.ref s.heap.size), .unset, .unset] [.int (Int32.ofNat len), .int 0, .ref s.heap.size, .int (Int32.ofNat o), .ref b])) := c4.trans (by
    refine XS.astoreN X3.here hexec rfl (hb hbytes d3) rfl rfl rfl ?_
    refine XS.aloadN X3.here hexec rfl (hb hbytes d4) rfl rfl ?_
    refine XS.iloadN X3.here hexec rfl (hb hbytes d5) rfl ?_
    refine XS.aloadN X3.here hexec rfl (hb hbytes d6) rfl rfl ?_
    refine iconstV X3.here hexec rfl 0 (hb hbytes d7) (by decide) ?_
    refine XS.iloadN X3.here hexec rfl (hb hbytes d8) rfl ?_
    exact Steps.refl _)
  obtain ⟨v6, T6, X6, E6, g6⟩ := X3.callS hexec (Cmp5.law l b A s.heap.size B3 o 0 len) hown (wks W (staticW U16 115 Cmp5.yN)) (wk W Cmp5.tab) (W := 0) (Nat.le_of_ble_eq_true rfl) (Nat.le_of_ble_eq_true rfl) (Nat.le_refl _) (by show 0 + len + 0 ≤ len; omega) (g := (mkF m 9 #[.val (.ref b), .val (.int (Int32.ofNat o)), .val (.int (Int32.ofNat len)), .val (.ref s.heap.size), .unset, .unset] [.int (Int32.ofNat len), .int (Int32.ofNat 0), .ref s.heap.size, .int (Int32.ofNat o), .ref b])) rfl (by rw [hml]; rfl) c5 (argsL := [.ref b, .int (Int32.ofNat o), .ref s.heap.size, .int (Int32.ofNat 0), .int (Int32.ofNat len)]) (rest := []) rfl rfl (by show 2 * 0 + 0 ≤ _; decide) (hb hbytes d9) (⟨rfl, hA3, ba3, hne, l1, by rw [bs3]; simp, hp⟩)
  obtain ⟨rfl, B6, p6, f6⟩ := E6
  have c7 : Steps p.tables e below (s₁.setTop (entryFrame m #[.ref b, .int (Int32.ofNat o), .int (Int32.ofNat len)] 6)) (T6.setTop (mkF m 12 #[.val (.ref b), .val (.int (Int32.ofNat o)), .val (.int (Int32.ofNat len)), .val (.ref s.heap.size), .unset, .unset] [.int (Int32.ofNat len)])) := g6
  have c8 : Steps p.tables e below (s₁.setTop (entryFrame m #[.ref b, .int (Int32.ofNat o), .int (Int32.ofNat len)] 6)) (T6.setTop (mkF m 58 #[.val (.ref b), .val (.int (Int32.ofNat o)), .val (.int (Int32.ofNat len)), .val (.ref s.heap.size), .val (.int (Int32.ofNat len)), .unset] [.ref s.heap.size])) := c7.trans (by
    refine XS.istore X6.here hexec rfl (hb hbytes d12) rfl rfl ?_
    refine XS.iload X6.here hexec rfl (hb hbytes d14) rfl ?_
    refine XS.iloadN X6.here hexec rfl (hb hbytes d16) rfl ?_
    refine XS.icmpYes X6.here hexec rfl (pc0 := 17) rfl (hb hbytes d17) rfl (ii_eq_t rfl) (by decide) rfl ?_
    refine XS.aloadN X6.here hexec rfl (hb hbytes d57) rfl rfl ?_
    exact Steps.refl _)
  have X8 := X6.wide (L' := []) (cells' := 1) (slots' := len) (fun x hx hlt => by
    simp only [List.nil_append, copyLocs, List.mem_map, List.mem_range] at hx
    obtain ⟨i, -, rfl⟩ := hx
    exact absurd hlt (Nat.lt_irrefl _)) (Nat.le_refl _) (by omega)
  exact ⟨T6, some (.ref s.heap.size), _, _, _, X8, rfl, rfl, rfl, (fun h => by cases h), ⟨⟨rfl, B6, ba3.like (X3.warmed.alike.symm.trans X6.warmed.alike) p6.1 f6.1 f6.2.1 f6.2.2.1, f6.2.1.trans bv3, by rw [X6.warmed.alike.findClass, f6.1]; exact bf3, by rw [f6.2.2.1, bs3]; simp, fun j hj => by rw [f6.2.2.2 j, if_pos (by omega)]; rfl, kp3.put p6 (Nat.le_refl _)⟩, by rw [p6.2.2, bh3, hh0]; simp⟩, fun fs hl => c8.trans (X8.areturnOut hexec rfl hret rfl (hb hbytes d58) hl)⟩
end Cmp3
namespace CodL
def yN : MethodName := ⟨"java/lang/StringUTF16", "coderFromArrayLen", "([BI)B"⟩
abbrev yB : ByteArray := jdk_52_method_15_code
theorem d0 : decode yB 0 = .ok (.iload_n 1, 1) := by decide +kernel
theorem d1 : decode yB 1 = .ok (.aload_n 0, 1) := by decide +kernel
theorem d2 : decode yB 2 = .ok (.arraylength, 1) := by decide +kernel
theorem d3 : decode yB 3 = .ok (.isub, 1) := by decide +kernel
theorem d4 : decode yB 4 = .ok (.bipush 31, 2) := by decide +kernel
theorem d6 : decode yB 6 = .ok (.iushr, 1) := by decide +kernel
theorem d7 : decode yB 7 = .ok (.i2b, 1) := by decide +kernel
theorem d8 : decode yB 8 = .ok (.ireturn, 1) := by decide +kernel
def site : List Cond := []
def tab : Cond := tabOf yN yB 2 (some .byte) site
def P (d : Addr) (B : Cell) (args : Array Value) (s : State) : Prop := args = #[.ref d, .int (Int32.ofNat B.slots.size)] ∧ Arr .byte d B s
def E (r : Option Value) (s u : State) : Prop := XT.PureE (some (.int 0)) r s u
/-- an array as long as the number of chars: LATIN1 -/
theorem law (l : Launch) (d : Addr) (B : Cell) : Law l yN 2 2 0 0 yB 2 (some .byte) site (P d B) E [] 0 0 := by
  refine Law.of_walk (plainFor_of_name (by decide +kernel)) (by decide +kernel) (by decide +kernel) (by decide) (fun _ _ h => by rw [h.1]; rfl) (fun _ U U' hal hh h => ⟨h.1, h.2.mv hal hh⟩) (fun r U U' V V' h1 hal h2 h => XT.PureE.mv r U U' V V' h1 hal h2 h) ?_
  intro p e s m args below meth c s₁ X0 hexec hbytes hml hret hlk hnm hown hh0 W hP
  obtain ⟨rfl, hB⟩ := hP
  have hB0 := hB.mv X0.warmed.alike hh0
  have c1 : Steps p.tables e below (s₁.setTop (entryFrame m #[.ref d, .int (Int32.ofNat B.slots.size)] 2)) (s₁.setTop (mkF m 0 #[.val (.ref d), .val (.int (Int32.ofNat B.slots.size))] [])) := entry rfl
  have c2 : Steps p.tables e below (s₁.setTop (entryFrame m #[.ref d, .int (Int32.ofNat B.slots.size)] 2)) (s₁.setTop (mkF m 2 #[.val (.ref d), .val (.int (Int32.ofNat B.slots.size))] [.ref d, .int (Int32.ofNat B.slots.size)])) := c1.trans (by
    refine XS.iloadN X0.here hexec rfl (hb hbytes d0) rfl ?_
    refine XS.aloadN X0.here hexec rfl (hb hbytes d1) rfl rfl ?_
    exact Steps.refl _)
  have c3 : Steps p.tables e below (s₁.setTop (entryFrame m #[.ref d, .int (Int32.ofNat B.slots.size)] 2)) (s₁.setTop (mkF m 8 #[.val (.ref d), .val (.int (Int32.ofNat B.slots.size))] [.int (lo8 (ushr (Int32.ofNat B.slots.size - Int32.ofNat B.slots.size) 31))])) := c2.trans (by
    refine X0.alen hexec hB0 rfl rfl (hb hbytes d2) ?_
    refine XS.isub X0.here hexec rfl (hb hbytes d3) rfl ?_
    refine bipushV X0.here hexec rfl 31 (hb hbytes d4) (by decide) ?_
    refine iushr X0.here hexec rfl (hb hbytes d6) rfl ?_
    refine i2b X0.here hexec rfl (hb hbytes d7) rfl ?_
    exact Steps.refl _)
  have e0 : lo8 (ushr (Int32.ofNat B.slots.size - Int32.ofNat B.slots.size) 31) = 0 := by rw [Int32.sub_self]; decide
  rw [e0] at c3
  exact ⟨s₁, some (.int 0), _, _, _, X0, rfl, rfl, rfl, (fun h => by cases h), ⟨rfl, hh0⟩, fun fs hl => c3.trans (X0.ireturnOut hexec hret rfl (Or.inr (Or.inr (Or.inl rfl))) (hb hbytes d8) hl)⟩
end CodL
/-- the String at a is Latin-1 over a new byte[] (the heap's one new cell): the low bytes of the len chars of A from o on; every cell but a is kept -/
def Got (a : Addr) (D : Cell) (fV fC : Field) (A : Cell) (o len : Nat) (r : Option Value) (s u : State) : Prop := r = none ∧ ∃ D' V : Cell, Blank "java/lang/String" a D' u ∧ Same D D' [fV.slot, fC.slot] ∧ D'.slots[fV.slot]? = some (.ref s.heap.size) ∧ D'.slots[fC.slot]? = some (.int 0) ∧ Arr .byte s.heap.size V u ∧ V.vm = .none ∧ u.vm.findClass "[B" = some V.cls ∧ V.slots.size = len ∧ (∀ j, j < len → V.slots[j]? = some (.int (lo8 (cv A (o + j))))) ∧ (∀ (y : Addr) (c : Cell), y ≠ a → s.heap[y]? = some c → u.heap[y]? = some c) ∧ u.heap.size = s.heap.size + 1
theorem Got.mv {a : Addr} {D A : Cell} {fV fC : Field} {o len : Nat} : ∀ r (U U' V V' : State), U'.heap = U.heap → V.vm.Alike V'.vm → V'.heap = V.heap → Got a D fV fC A o len r U V → Got a D fV fC A o len r U' V' :=
  fun r U U' V V' h1 hal h2 ⟨e0, D', X, a1, a2, a3, a4, a5, a6, a7, a8, a9, a10, a11⟩ => ⟨e0, D', X, a1.mv hal h2, a2, by rw [h1]; exact a3, a4, by rw [h1]; exact a5.mv hal h2, a6, by rw [hal.findClass]; exact a7, a8, a9, by rw [h1, h2]; exact a10, by rw [h1, h2]; exact a11⟩
namespace New4
def yN : MethodName := ⟨"java/lang/String", "<init>", "([CIILjava/lang/Void;)V"⟩
abbrev yB : ByteArray := jdk_42_method_149_code
theorem d0 : decode yB 0 = .ok (.aload_n 0, 1) := by decide +kernel
theorem d1 : decode yB 1 = .ok (.invokespecial 1, 3) := by decide +kernel
theorem d4 : decode yB 4 = .ok (.iload_n 3, 1) := by decide +kernel
theorem d5 : decode yB 5 = .ok (.ifCond (.ne) 22, 3) := by decide +kernel
theorem d27 : decode yB 27 = .ok (.getstatic 38, 3) := by decide +kernel
theorem d30 : decode yB 30 = .ok (.ifCond (.eq) 28, 3) := by decide +kernel
theorem d33 : decode yB 33 = .ok (.aload_n 1, 1) := by decide +kernel
theorem d34 : decode yB 34 = .ok (.iload_n 2, 1) := by decide +kernel
theorem d35 : decode yB 35 = .ok (.iload_n 3, 1) := by decide +kernel
theorem d36 : decode yB 36 = .ok (.invokestatic 177, 3) := by decide +kernel
theorem d39 : decode yB 39 = .ok (.astore 5, 2) := by decide +kernel
theorem d41 : decode yB 41 = .ok (.aload_n 0, 1) := by decide +kernel
theorem d42 : decode yB 42 = .ok (.aload 5, 2) := by decide +kernel
theorem d44 : decode yB 44 = .ok (.iload_n 3, 1) := by decide +kernel
theorem d45 : decode yB 45 = .ok (.invokestatic 47, 3) := by decide +kernel
theorem d48 : decode yB 48 = .ok (.putfield 15, 3) := by decide +kernel
theorem d51 : decode yB 51 = .ok (.aload_n 0, 1) := by decide +kernel
theorem d52 : decode yB 52 = .ok (.aload 5, 2) := by decide +kernel
theorem d54 : decode yB 54 = .ok (.putfield 9, 3) := by decide +kernel
theorem d57 : decode yB 57 = .ok (.return_, 1) := by decide +kernel
def site : List Cond := [.fieldLink "java/lang/String" 38 "java/lang/String" "COMPACT_STRINGS" "Z", Cmp3.tab, CodL.tab, .laysFinal "java/lang/String" "java/lang/String" "value" "[B", .fieldLink "java/lang/String" 9 "java/lang/String" "value" "[B", .laysFinal "java/lang/String" "java/lang/String" "coder" "B", .fieldLink "java/lang/String" 15 "java/lang/String" "coder" "B"] ++ objW "java/lang/String" 1 ++ staticW "java/lang/String" 177 Cmp3.yN ++ staticW "java/lang/String" 47 CodL.yN
def tab : Cond := tabOf yN yB 6 none site
def P (a : Addr) (D : Cell) (fV fC : Field) (b : Addr) (A : Cell) (z : Int32) (o len : Nat) (args : Array Value) (s : State) : Prop := args = #[.ref a, .ref b, .int (Int32.ofNat o), .int (Int32.ofNat len), .null] ∧ Blank "java/lang/String" a D s ∧ Found "java/lang/String" "value" "[B" fV s ∧ Found "java/lang/String" "coder" "B" fC s ∧ Ch b A s ∧ StaticIs s "java/lang/String" "COMPACT_STRINGS" "Z" (.int z) ∧ ¬ z = 0 ∧ 0 < len ∧ o + len ≤ A.slots.size ∧ len ≤ 536870912 ∧ ∀ i, i < len → ¬ 255 < cv A (o + i)
def E (a : Addr) (D : Cell) (fV fC : Field) (A : Cell) (o len : Nat) (r : Option Value) (s u : State) : Prop := Got a D fV fC A o len r s u
/-- len > 0, no char of the range above 255: a Latin-1 String of their low bytes -/
theorem law (l : Launch) (a : Addr) (D : Cell) (fV fC : Field) (b : Addr) (A : Cell) (z : Int32) (o len : Nat) : Law l yN 5 4 2 35 yB 6 none site (P a D fV fC b A z o len) (E a D fV fC A o len) [⟨a, fC.slot⟩, ⟨a, fV.slot⟩] 1 len := by
  refine Law.of_walk (plainFor_of_name (by decide +kernel)) (by decide +kernel) (by decide +kernel) (by decide) (fun _ _ h => by rw [h.1]; rfl) (fun _ U U' hal hh h => ⟨h.1, h.2.1.mv hal hh, h.2.2.1.al hal, h.2.2.2.1.al hal, h.2.2.2.2.1.mv hal hh, h.2.2.2.2.2.1.there hal hh, h.2.2.2.2.2.2⟩) (fun r U U' V V' h1 hal h2 h => Got.mv r U U' V V' h1 hal h2 h) ?_
  intro p e s m args below meth c s₁ X0 hexec hbytes hml hret hlk hnm hown hh0 W hP
  obtain ⟨rfl, hB, f1, f2, hA, s1, hz, l0, l1, l2, hp⟩ := hP
  have a31 := hA.1.2.2.2
  have c1 : Steps p.tables e below (s₁.setTop (entryFrame m #[.ref a, .ref b, .int (Int32.ofNat o), .int (Int32.ofNat len), .null] 6)) (s₁.setTop (mkF m 0 #[.val (.ref a), .val (.ref b), .val (.int (Int32.ofNat o)), .val (.int (Int32.ofNat len)), .val .null, .unset] [])) := entry rfl
  have c2 : Steps p.tables e below (s₁.setTop (entryFrame m #[.ref a, .ref b, .int (Int32.ofNat o), .int (Int32.ofNat len), .null] 6)) (s₁.setTop (mkF m 1 #[.val (.ref a), .val (.ref b), .val (.int (Int32.ofNat o)), .val (.int (Int32.ofNat len)), .val .null, .unset] [.ref a])) := c1.trans (by
    refine XS.aloadN X0.here hexec rfl (hb hbytes d0) rfl rfl ?_
    exact Steps.refl _)
  obtain ⟨T3, X3, q3, st3⟩ := X0.oinit hexec hown (wks W (objW "java/lang/String" 1)) (g := (mkF m 1 #[.val (.ref a), .val (.ref b), .val (.int (Int32.ofNat o)), .val (.int (Int32.ofNat len)), .val .null, .unset] [.ref a])) rfl (by rw [hml]; rfl) (rest := []) rfl (hb hbytes d1) (W := 0) (by show 2 * 0 + 0 ≤ _; decide) (Nat.le_of_ble_eq_true rfl) (Nat.le_of_ble_eq_true rfl)
  have hh3 := q3.trans hh0
  have c4 : Steps p.tables e below (s₁.setTop (entryFrame m #[.ref a, .ref b, .int (Int32.ofNat o), .int (Int32.ofNat len), .null] 6)) (T3.setTop (mkF m 27 #[.val (.ref a), .val (.ref b), .val (.int (Int32.ofNat o)), .val (.int (Int32.ofNat len)), .val .null, .unset] [])) := (c2.trans (st3 _ (Steps.refl _))).trans (by
    refine XS.iloadN X3.here hexec rfl (hb hbytes d4) rfl ?_
    refine XS.ifYes X3.here hexec rfl (pc0 := 5) rfl (hb hbytes d5) rfl (i0_ne_t (nz32 (by omega) l0)) (by decide) rfl ?_
    exact Steps.refl _)
  obtain ⟨T5, X5, q5, st5⟩ := X3.sget hexec hown (wk W (.fieldLink "java/lang/String" 38 "java/lang/String" "COMPACT_STRINGS" "Z")) s1 (fun _ _ h => by rw [hh3]; exact h) (g := (mkF m 27 #[.val (.ref a), .val (.ref b), .val (.int (Int32.ofNat o)), .val (.int (Int32.ofNat len)), .val .null, .unset] [])) rfl (hb hbytes d27)
  have hh5 := q5.trans hh3
  have c6 : Steps p.tables e below (s₁.setTop (entryFrame m #[.ref a, .ref b, .int (Int32.ofNat o), .int (Int32.ofNat len), .null] 6)) (T5.setTop (mkF m 30 #[.val (.ref a), .val (.ref b), .val (.int (Int32.ofNat o)), .val (.int (Int32.ofNat len)), .val .null, .unset] [.int z])) := c4.trans (st5 _ (Steps.refl _))
  have c7 : Steps p.tables e below (s₁.setTop (entryFrame m #[.ref a, .ref b, .int (Int32.ofNat o), .int (Int32.ofNat len), .null] 6)) (T5.setTop (mkF m 36 #[.val (.ref a), .val (.ref b), .val (.int (Int32.ofNat o)), .val (.int (Int32.ofNat len)), .val .null, .unset] [.int (Int32.ofNat len), .int (Int32.ofNat o), .ref b])) := c6.trans (by
    refine XS.ifNo X5.here hexec rfl (hb hbytes d30) rfl (i0_eq_f hz) ?_
    refine XS.aloadN X5.here hexec rfl (hb hbytes d33) rfl rfl ?_
    refine XS.iloadN X5.here hexec rfl (hb hbytes d34) rfl ?_
    refine XS.iloadN X5.here hexec rfl (hb hbytes d35) rfl ?_
    exact Steps.refl _)
  obtain ⟨v8, T8, X8, E8, g8⟩ := X5.callS hexec (Cmp3.law l b A o len) hown (wks W (staticW "java/lang/String" 177 Cmp3.yN)) (wk W Cmp3.tab) (W := 0) (Nat.le_of_ble_eq_true rfl) (Nat.le_of_ble_eq_true rfl) (Nat.le_refl _) (by show 0 + len ≤ len; omega) (g := (mkF m 36 #[.val (.ref a), .val (.ref b), .val (.int (Int32.ofNat o)), .val (.int (Int32.ofNat len)), .val .null, .unset] [.int (Int32.ofNat len), .int (Int32.ofNat o), .ref b])) rfl (by rw [hml]; rfl) c7 (argsL := [.ref b, .int (Int32.ofNat o), .int (Int32.ofNat len)]) (rest := []) rfl rfl (by show 2 * 0 + 0 ≤ _; decide) (hb hbytes d36) (⟨rfl, hA.mv X5.warmed.alike hh5, l1, l2, hp⟩)
  obtain ⟨e8, z8⟩ := E8
  obtain ⟨rfl, N, n1, n2, n3, n4, n5, n6⟩ := NewArr.mv _ T5 s _ _ hh5.symm (Vm.Alike.refl _) rfl e8
  rw [hh5] at z8
  have hB1 := hB.keep X8.warmed.alike (n6 _ _ hB.1)
  have hne : s.heap.size ≠ a := (Nat.ne_of_lt (Array.getElem?_eq_some_iff.mp hB.1).1).symm
  have c9 : Steps p.tables e below (s₁.setTop (entryFrame m #[.ref a, .ref b, .int (Int32.ofNat o), .int (Int32.ofNat len), .null] 6)) (T8.setTop (mkF m 39 #[.val (.ref a), .val (.ref b), .val (.int (Int32.ofNat o)), .val (.int (Int32.ofNat len)), .val .null, .unset] [.ref s.heap.size])) := g8
  have c10 : Steps p.tables e below (s₁.setTop (entryFrame m #[.ref a, .ref b, .int (Int32.ofNat o), .int (Int32.ofNat len), .null] 6)) (T8.setTop (mkF m 45 #[.val (.ref a), .val (.ref b), .val (.int (Int32.ofNat o)), .val (.int (Int32.ofNat len)), .val .null, .val (.ref s.heap.size)] [.int (Int32.ofNat N.slots.size), .ref s.heap.size, .ref a])) := by
    have hc : Steps p.tables e below (s₁.setTop (entryFrame m #[.ref a, .ref b, .int (Int32.ofNat o), .int (Int32.ofNat len), .null] 6)) (T8.setTop (mkF m 45 #[.val (.ref a), .val (.ref b), .val (.int (Int32.ofNat o)), .val (.int (Int32.ofNat len)), .val .null, .val (.ref s.heap.size)] [.int (Int32.ofNat len), .ref s.heap.size, .ref a])) := c9.trans (by
      refine XS.astore X8.here hexec rfl (hb hbytes d39) rfl rfl rfl ?_
      refine XS.aloadN X8.here hexec rfl (hb hbytes d41) rfl rfl ?_
      refine XS.aload X8.here hexec rfl (hb hbytes d42) rfl rfl ?_
      refine XS.iloadN X8.here hexec rfl (hb hbytes d44) rfl ?_
      exact Steps.refl _)
    rw [n4]; exact hc
  obtain ⟨v11, T11, X11, E11, g11⟩ := X8.callS hexec (CodL.law l s.heap.size N) hown (wks W (staticW "java/lang/String" 47 CodL.yN)) (wk W CodL.tab) (W := 1) (Nat.le_of_ble_eq_true rfl) (Nat.le_of_ble_eq_true rfl) (Nat.le_refl _) (by show 0 + len + 0 ≤ len; omega) (g := (mkF m 45 #[.val (.ref a), .val (.ref b), .val (.int (Int32.ofNat o)), .val (.int (Int32.ofNat len)), .val .null, .val (.ref s.heap.size)] [.int (Int32.ofNat N.slots.size), .ref s.heap.size, .ref a])) rfl (by rw [hml]; rfl) c10 (argsL := [.ref s.heap.size, .int (Int32.ofNat N.slots.size)]) (rest := [.ref a]) rfl rfl (by show 2 * 0 + (1 + 0) ≤ _; decide) (hb hbytes d45) (⟨rfl, n1⟩)
  obtain ⟨rfl, q11⟩ := E11
  have hB11 := hB1.mv (X8.warmed.alike.symm.trans X11.warmed.alike) q11
  have c12 : Steps p.tables e below (s₁.setTop (entryFrame m #[.ref a, .ref b, .int (Int32.ofNat o), .int (Int32.ofNat len), .null] 6)) (T11.setTop (mkF m 48 #[.val (.ref a), .val (.ref b), .val (.int (Int32.ofNat o)), .val (.int (Int32.ofNat len)), .val .null, .val (.ref s.heap.size)] [.int 0, .ref a])) := g11
  obtain ⟨T13, X13, p13, bl13, sl13, st13⟩ := X11.finit hexec hown (wk W (.fieldLink "java/lang/String" 15 "java/lang/String" "coder" "B")) (Or.inr ⟨_, (wk W (.laysFinal "java/lang/String" "java/lang/String" "coder" "B"))⟩) (Or.inl ⟨rfl, hnm⟩) f2 (Or.inl rfl) hB11 (t := .byte) (by decide +kernel) rfl (g := (mkF m 48 #[.val (.ref a), .val (.ref b), .val (.int (Int32.ofNat o)), .val (.int (Int32.ofNat len)), .val .null, .val (.ref s.heap.size)] [.int 0, .ref a])) rfl (rest := []) rfl (hb hbytes d48)
  have c14 : Steps p.tables e below (s₁.setTop (entryFrame m #[.ref a, .ref b, .int (Int32.ofNat o), .int (Int32.ofNat len), .null] 6)) (T13.setTop (mkF m 54 #[.val (.ref a), .val (.ref b), .val (.int (Int32.ofNat o)), .val (.int (Int32.ofNat len)), .val .null, .val (.ref s.heap.size)] [.ref s.heap.size, .ref a])) := (c12.trans (st13 _ (Steps.refl _))).trans (by
    refine XS.aloadN X13.here hexec rfl (hb hbytes d51) rfl rfl ?_
    refine XS.aload X13.here hexec rfl (hb hbytes d52) rfl rfl ?_
    exact Steps.refl _)
  obtain ⟨T15, X15, p15, bl15, sl15, st15⟩ := X13.finit hexec hown (wk W (.fieldLink "java/lang/String" 9 "java/lang/String" "value" "[B")) (Or.inr ⟨_, (wk W (.laysFinal "java/lang/String" "java/lang/String" "value" "[B"))⟩) (Or.inl ⟨rfl, hnm⟩) f1 (Or.inl rfl) bl13 (t := (.array .byte)) (by decide +kernel) rfl (g := (mkF m 54 #[.val (.ref a), .val (.ref b), .val (.int (Int32.ofNat o)), .val (.int (Int32.ofNat len)), .val .null, .val (.ref s.heap.size)] [.ref s.heap.size, .ref a])) rfl (rest := []) rfl (hb hbytes d54)
  have c16 : Steps p.tables e below (s₁.setTop (entryFrame m #[.ref a, .ref b, .int (Int32.ofNat o), .int (Int32.ofNat len), .null] 6)) (T15.setTop (mkF m 57 #[.val (.ref a), .val (.ref b), .val (.int (Int32.ofNat o)), .val (.int (Int32.ofNat len)), .val .null, .val (.ref s.heap.size)] [])) := c14.trans (st15 _ (Steps.refl _))
  have ap := apart (Or.inr ⟨_, (wk W (.laysFinal "java/lang/String" "java/lang/String" "value" "[B"))⟩) (Or.inr ⟨_, (wk W (.laysFinal "java/lang/String" "java/lang/String" "coder" "B"))⟩) f1 f2 (t₁ := .array .byte) (t₂ := .byte) (by decide +kernel) (by decide +kernel) (by decide)
  have al := X8.warmed.alike.symm.trans X15.warmed.alike
  have n7 : T11.heap[s.heap.size]? = some N := by rw [q11]; exact n1.1
  exact ⟨T15, none, _, _, _, X15, by simp, rfl, by omega, (fun _ => rfl), ⟨rfl, _, N, bl15, ((Same.refl D _).set _ (by simp)).set _ (by simp), sl15, (Cell.slots_setSlot_ne _ ap).trans sl13, n1.keep al (p15.other hne (p13.other hne n7)), n2, by rw [al.findClass]; exact n3, n4, n5, fun y c h1 h2 => p15.other h1 (p13.other h1 (by rw [q11]; exact n6 y c h2)), by rw [p15.2.2, p13.2.2, q11]; exact z8⟩, fun fs hl => c16.trans (X15.returnOut hexec hret (hb hbytes d57) hl)⟩
end New4
namespace New1
def yN : MethodName := ⟨"java/lang/String", "<init>", "([C)V"⟩
abbrev yB : ByteArray := jdk_42_method_3_code
theorem d0 : decode yB 0 = .ok (.aload_n 0, 1) := by decide +kernel
theorem d1 : decode yB 1 = .ok (.aload_n 1, 1) := by decide +kernel
theorem d2 : decode yB 2 = .ok (.iconst 0, 1) := by decide +kernel
theorem d3 : decode yB 3 = .ok (.aload_n 1, 1) := by decide +kernel
theorem d4 : decode yB 4 = .ok (.arraylength, 1) := by decide +kernel
theorem d5 : decode yB 5 = .ok (.aconst_null, 1) := by decide +kernel
theorem d6 : decode yB 6 = .ok (.invokespecial 27, 3) := by decide +kernel
theorem d9 : decode yB 9 = .ok (.return_, 1) := by decide +kernel
def site : List Cond := [New4.tab] ++ initW "java/lang/String" 27 New4.yN
def tab : Cond := tabOf yN yB 2 none site
def P (a : Addr) (D : Cell) (fV fC : Field) (b : Addr) (A : Cell) (z : Int32) (args : Array Value) (s : State) : Prop := args = #[.ref a, .ref b] ∧ Blank "java/lang/String" a D s ∧ Found "java/lang/String" "value" "[B" fV s ∧ Found "java/lang/String" "coder" "B" fC s ∧ Ch b A s ∧ StaticIs s "java/lang/String" "COMPACT_STRINGS" "Z" (.int z) ∧ ¬ z = 0 ∧ 0 < A.slots.size ∧ A.slots.size ≤ 536870912 ∧ ∀ i, i < A.slots.size → ¬ 255 < cv A i
def E (a : Addr) (D : Cell) (fV fC : Field) (A : Cell) (r : Option Value) (s u : State) : Prop := Got a D fV fC A 0 A.slots.size r s u
/-- new String(chars), not empty, no char above 255: a Latin-1 String of their low bytes -/
theorem law (l : Launch) (a : Addr) (D : Cell) (fV fC : Field) (b : Addr) (A : Cell) (z : Int32) : Law l yN 2 1 3 52 yB 2 none site (P a D fV fC b A z) (E a D fV fC A) [⟨a, fC.slot⟩, ⟨a, fV.slot⟩] 1 A.slots.size := by
  refine Law.of_walk (plainFor_of_name (by decide +kernel)) (by decide +kernel) (by decide +kernel) (by decide) (fun _ _ h => by rw [h.1]; rfl) (fun _ U U' hal hh h => ⟨h.1, h.2.1.mv hal hh, h.2.2.1.al hal, h.2.2.2.1.al hal, h.2.2.2.2.1.mv hal hh, h.2.2.2.2.2.1.there hal hh, h.2.2.2.2.2.2⟩) (fun r U U' V V' h1 hal h2 h => Got.mv r U U' V V' h1 hal h2 h) ?_
  intro p e s m args below meth c s₁ X0 hexec hbytes hml hret hlk hnm hown hh0 W hP
  obtain ⟨rfl, hB, f1, f2, hA, s1, hz, l0, l2, hp⟩ := hP
  have c1 : Steps p.tables e below (s₁.setTop (entryFrame m #[.ref a, .ref b] 2)) (s₁.setTop (mkF m 0 #[.val (.ref a), .val (.ref b)] [])) := entry rfl
  have c2 : Steps p.tables e below (s₁.setTop (entryFrame m #[.ref a, .ref b] 2)) (s₁.setTop (mkF m 6 #[.val (.ref a), .val (.ref b)] [.null, .int (Int32.ofNat A.slots.size), .int 0, .ref b, .ref a])) := c1.trans (by
    refine XS.aloadN X0.here hexec rfl (hb hbytes d0) rfl rfl ?_
    refine XS.aloadN X0.here hexec rfl (hb hbytes d1) rfl rfl ?_
    refine iconstV X0.here hexec rfl 0 (hb hbytes d2) (by decide) ?_
    refine XS.aloadN X0.here hexec rfl (hb hbytes d3) rfl rfl ?_
    refine X0.alen hexec (hA.1.mv X0.warmed.alike hh0) rfl rfl (hb hbytes d4) ?_
    refine XS.aconstNull X0.here hexec rfl (hb hbytes d5) ?_
    exact Steps.refl _)
  obtain ⟨v3, T3, X3, E3, g3⟩ := X0.callN hexec (New4.law l a D fV fC b A z 0 A.slots.size) rfl hown (wks W (initW "java/lang/String" 27 New4.yN)) (W New4.tab (by simp only [site, List.mem_cons, List.mem_append, true_or, or_true])) (W := 0) (Nat.le_of_ble_eq_true rfl) (Nat.le_of_ble_eq_true rfl) (Nat.le_refl _) (by show 0 + A.slots.size ≤ A.slots.size; omega) (g := (mkF m 6 #[.val (.ref a), .val (.ref b)] [.null, .int (Int32.ofNat A.slots.size), .int (Int32.ofNat 0), .ref b, .ref a])) rfl (by rw [hml]; rfl) c2 (argsL := [.ref b, .int (Int32.ofNat 0), .int (Int32.ofNat A.slots.size), .null]) (rest := []) rfl rfl (by show 2 * 0 + 0 ≤ _; decide) (hb hbytes d6) (⟨rfl, hB.mv X0.warmed.alike hh0, f1.al X0.warmed.alike, f2.al X0.warmed.alike, hA.mv X0.warmed.alike hh0, s1.there X0.warmed.alike hh0, hz, l0, by omega, l2, fun i hi => by rw [Nat.zero_add]; exact hp i hi⟩)
  have e0 := Got.mv _ s₁ s _ _ hh0.symm (Vm.Alike.refl _) rfl E3
  obtain rfl := e0.1
  have c4 : Steps p.tables e below (s₁.setTop (entryFrame m #[.ref a, .ref b] 2)) (T3.setTop (mkF m 9 #[.val (.ref a), .val (.ref b)] [])) := g3
  exact ⟨T3, none, _, _, _, X3, by simp, rfl, by omega, (fun _ => rfl), e0, fun fs hl => c4.trans (X3.returnOut hexec hret (hb hbytes d9) hl)⟩
theorem pays {l : Launch} {R : Room} {p : Program} {e : Env} {below : List Frame} {s : State} {sargs : Array Value} {len W : Nat} (a : Addr) (D : Cell) (fV fC : Field) (b : Addr) (A : Cell) (z : Int32) (htab : tab.before sargs s = true) (hfr : 4 ≤ R.frames) (hlo : W + 65 ≤ R.locals) :
    Back l R p e below s sargs yN len W (fun A₁ a₁ => A₁.cells + 1 ≤ R.cells ∧ A₁.slots + A.slots.size ≤ R.slots ∧ P a D fV fC b A z a₁ A₁.U) (fun A₁ _ v₁ B₁ => E a D fV fC A v₁ A₁.U B₁.U ∧ B₁.locs = A₁.locs ++ [⟨a, fC.slot⟩, ⟨a, fV.slot⟩] ∧ B₁.cells = A₁.cells + 1 ∧ B₁.slots = A₁.slots + A.slots.size) :=
  (law l a D fV fC b A z).pays htab hfr (by omega)
end New1
/-- the byte, read back as charAt reads it, is the char -/
theorem lo8_mask {x : Int32} (h0 : ¬ x < 0) (h1 : ¬ 255 < x) : lo8 x &&& 255 = x := by
  have t : ∀ k : Fin 256, lo8 (Int32.ofNat k.val) &&& 255 = Int32.ofNat k.val := by decide +kernel
  rw [Int32.lt_iff_toInt_lt] at h0 h1
  have e0 : (0 : Int32).toInt = 0 := rfl
  have e1 : (255 : Int32).toInt = 255 := rfl
  obtain ⟨k, hk⟩ : ∃ k : Nat, x.toInt = k := ⟨x.toInt.toNat, by omega⟩
  have hx : x = Int32.ofNat k := Int32.toInt_inj.mp (by rw [hk, Int32.toInt_ofNat_small (by omega)])
  rw [hx]
  exact t ⟨k, by omega⟩
end StrChars
namespace StrChars.Road
open Jvm Sem ClassFile Op Lib Jvm.Stand Jvm.Free Jvm.Free.XT
open Jvm.Lib.Cold (StaticIs)
abbrev ST : String := "java/lang/String"
/-- every table word that New1's law asks, flat -/
abbrev words : List Jvm.Cond := [.code New1.yN New1.yB 2 none, .initialized ST, .methodLink ST 27 New4.yN, .instanceMethod New4.yN,
  .code New4.yN New4.yB 6 none, .fieldLink ST 38 ST "COMPACT_STRINGS" "Z", .laysFinal ST ST "value" "[B", .fieldLink ST 9 ST "value" "[B", .laysFinal ST ST "coder" "B", .fieldLink ST 15 ST "coder" "B",
  .methodLink ST 1 Lib.objectInit, .instanceMethod Lib.objectInit, .code Lib.objectInit ⟨#[0xb1]⟩ 1 none, .methodLink ST 177 Cmp3.yN, .static Cmp3.yN, .methodLink ST 47 CodL.yN, .static CodL.yN,
  .code Cmp3.yN Cmp3.yB 6 (some (.array .byte)), .initialized U16, .arrayClass .byte, .methodLink U16 115 Cmp5.yN, .static Cmp5.yN, .code Cmp5.yN Cmp5.yB 7 (some .int), .code CodL.yN CodL.yB 2 (some .byte)]
theorem tab_of {a : Array Value} {s : State} (h : ∀ w ∈ words, w.before a s = true) : New1.tab.before a s = true := by
  have h5 : Cmp5.tab.before a s = true := unparts (wk h (.code Cmp5.yN Cmp5.yB 7 (some .int))) (wks h (.initialized Cmp5.yN.cls :: Cmp5.site))
  have hc : CodL.tab.before a s = true := unparts (wk h (.code CodL.yN CodL.yB 2 (some .byte))) (wks h (.initialized CodL.yN.cls :: CodL.site))
  have q5 : ∀ w ∈ Cmp5.tab :: words, w.before a s = true := fun w hw => (List.mem_cons.mp hw).elim (fun e => e ▸ h5) (h w)
  have h3 : Cmp3.tab.before a s = true := unparts (wk q5 (.code Cmp3.yN Cmp3.yB 6 (some (.array .byte)))) (wks q5 (.initialized Cmp3.yN.cls :: Cmp3.site))
  have q3 : ∀ w ∈ Cmp3.tab :: CodL.tab :: words, w.before a s = true := fun w hw => (List.mem_cons.mp hw).elim (fun e => e ▸ h3) fun hw => (List.mem_cons.mp hw).elim (fun e => e ▸ hc) (h w)
  have h4 : New4.tab.before a s = true := unparts (wk q3 (.code New4.yN New4.yB 6 none)) (wks q3 (.initialized New4.yN.cls :: New4.site))
  have q4 : ∀ w ∈ New4.tab :: words, w.before a s = true := fun w hw => (List.mem_cons.mp hw).elim (fun e => e ▸ h4) (h w)
  exact unparts (wk q4 (.code New1.yN New1.yB 2 none)) (wks q4 (.initialized New1.yN.cls :: New1.site))
/-- the words ride from the start Z to the walk's own state -/
theorem moved {Z s : State} {a0 args : Array Value} (hZ : Z.Warmed39 s.vm) (hw : ∀ d ∈ words, d.before a0 Z = true) : ∀ d ∈ words, d.before args s = true := fun d hd => by
  have q := hw d hd
  have t : ∀ d ∈ words, d = .arrayClass .byte ∨ (d.onTables && d.keepsFace) = true := by decide +kernel
  rcases t d hd with rfl | t
  · exact RoadKit.mvA hZ q
  · exact RoadKit.mv hZ q t
/-- WHAT COMES BACK, over the tables of the start Z: h the heap at the call, h' behind it -/
def Q (Z : State) (x : Addr) (A : Cell) (h : Heap) (v : Option Value) (h' : Heap) (L : List Loc) : Prop := v = none ∧ (∀ y ∈ L, y.base = x) ∧ RoadKit.Keep h h' [x] ∧ h'.size = h.size + 1 ∧ RoadKit.Exa Z h' x ST ∧ RoadKit.Fld Z h' x ST "value" "[B" (.ref h.size) ∧ RoadKit.Fld Z h' x ST "coder" "B" (.int 0) ∧
  (∃ V : Cell, RoadKit.Arr Z h' h.size V .byte ∧ V.vm = .none ∧ Z.vm.findClass "[B" = some V.cls ∧ V.slots.size = A.slots.size ∧ ∀ j, j < A.slots.size → V.slots[j]? = some (.int (lo8 (cv A j)))) ∧
  ∀ (O n d : String) (w : Value), RoadKit.Fld Z h x O n d w → RoadKit.slotOf Z O n d ≠ RoadKit.slotOf Z ST "value" "[B" → RoadKit.slotOf Z O n d ≠ RoadKit.slotOf Z ST "coder" "B" → RoadKit.Fld Z h' x O n d w
/-- **new String(chars) AT A CALL, IN THE ROAD'S FORM**: for specialBack behind newO: x the fresh String, b the char[] with the cell A -/
theorem back {p : Program} {l : Launch} {e : Env} {R : Room} {s : State} {args : Array Value} {below : List Frame} {len W : Nat} {Z : State} {a0 : Array Value} {h : Heap} (hZ : Z.Warmed39 s.vm) (hw : ∀ d ∈ words, d.before a0 Z = true) {kI : Nat} (wi : (Jvm.Cond.instantiable ST kI).before a0 Z = true)
    {x b : Addr} {A : Cell} {z : Int32} {v0 c0 : Value} (E : RoadKit.Exa Z h x ST) (V : RoadKit.Fld Z h x ST "value" "[B" v0) (C : RoadKit.Fld Z h x ST "coder" "B" c0) (K : RoadKit.Arr Z h b A .char) (hty : Typed .char A) (S : RoadKit.Sta Z h ST "COMPACT_STRINGS" "Z" (.int z)) (hz : ¬ z = 0)
    (l0 : 0 < A.slots.size) (l2 : A.slots.size ≤ 536870912) (hp : ∀ i, i < A.slots.size → ¬ 255 < cv A i) (hfr : 4 ≤ R.frames) (hlo : W + 65 ≤ R.locals) :
    Back l R p e below s args New1.yN len W (fun P a => a = #[.ref x, .ref b] ∧ P.U.heap = h ∧ P.cells + 1 ≤ R.cells ∧ P.slots + A.slots.size ≤ R.slots)
      (fun P _ v B => ∃ L, Q Z x A h v B.U.heap L ∧ B.locs = P.locs ++ L ∧ B.cells = P.cells + 1 ∧ B.slots = P.slots + A.slots.size) := by
  intro m meth c P g ig mk a X hg hsize hdg hW hn hp'
  obtain ⟨rfl, rfl, r1, r2⟩ := hp'
  have al : Z.vm.Alike P.U.vm := hZ.alike.trans X.warmed.alike
  obtain ⟨D, cfV, kV, iV, fV, hD, gV, stV, knV, obV, asV, slV⟩ := id V
  obtain ⟨D', cfC, kC, iC, fC, hD', gC, stC, -, -, asC, slC⟩ := id C
  cases hD.symm.trans hD'
  obtain ⟨D2, kD, e1, e2, e3, e4, e5⟩ := id E
  cases hD.symm.trans e1
  obtain ⟨c2, k2, i1, i2, i3, -⟩ := Cond.instantiable_spec wi
  cases e2.symm.trans i1
  cases e3.symm.trans i2
  obtain ⟨kU, u1, u2⟩ := al.2.2 _ _ e3
  have hB : Blank ST x D P.U := ⟨hD, ⟨knV, fun q hq => by rw [hq] at obV; cases obV⟩, by rw [al.findClass]; exact e2, kU, u1, by rw [u2]; exact i3, by rw [u2]; exact e5 i3⟩
  have F1 : Found ST "value" "[B" fV P.U := ⟨SBG.found_only al ⟨cfV, kV, iV, gV⟩, stV⟩
  have F2 : Found ST "coder" "B" fC P.U := ⟨SBG.found_only al ⟨cfC, kC, iC, gC⟩, stC⟩
  have hA : Ch b A P.U := ⟨⟨K.1, State.isArrayOf_alike al K.2.1, K.2.2, by omega⟩, hty⟩
  have hS : StaticIs P.U ST "COMPACT_STRINGS" "Z" (.int z) := by
    obtain ⟨cfS, iS, kS, fS, st, cS, t1, t2, t3, t4, t5, t6, t7⟩ := S
    exact StaticIs.there (s := { Z with heap := P.U.heap }) ⟨cfS, iS, kS, fS, st, cS, t1, t2, t3, t4, t5, (fun q => by rw [q] at t6; cases t6), t7⟩ al rfl
  obtain ⟨v, B, X', ⟨⟨hv, E', V', q1, q2, q3, q4, q5, q6, q7, q8, q9, q10, q11⟩, hl, hc, hs⟩, st⟩ := New1.pays x D fV fC b A z (tab_of (moved hZ hw)) hfr hlo m meth c P g ig mk _ X hg hsize hdg hW hn ⟨r1, r2, rfl, hB, F1, F2, hA, hS, hz, l0, l2, hp⟩
  have al' : Z.vm.Alike B.U.vm := hZ.alike.trans X'.warmed.alike
  have hsz : E'.slots.size = D.slots.size := by
    obtain ⟨-, -, -, kB, w1, w2, w3⟩ := q1
    obtain ⟨kB', y1, y2⟩ := al'.2.2 _ _ e3
    rw [q2.2.1] at w1
    cases w1.symm.trans y1
    rw [w3, e5 i3, y2]
  refine ⟨v, B, X', ⟨_, ⟨hv, ?_, ⟨by omega, fun y cy hy hn' => q10 y cy (by simpa using hn') hy, fun y cy hy => ?_⟩, q11, ⟨E', _, q1.1, by rw [q2.2.1]; exact e2, by rw [q2.2.1]; exact e3, by rw [q2.1]; exact obV, fun _ => by rw [hsz]; exact e5 i3⟩,
    ⟨E', cfV, kV, iV, fV, q1.1, gV, stV, by rw [q2.1]; exact knV, by rw [q2.1]; exact obV, by rw [q2.2.1]; exact asV, q3⟩, ⟨E', cfC, kC, iC, fC, q1.1, gC, stC, by rw [q2.1]; exact knV, by rw [q2.1]; exact obV, by rw [q2.2.1]; exact asC, q4⟩,
    ⟨V', ⟨q5.1, State.isArrayOf_alike al'.symm q5.2.1, q5.2.2.1⟩, q6, by rw [← al'.findClass]; exact q7, q8, fun j hj => by have := q9 j hj; rwa [Nat.zero_add] at this⟩, fun O n d w F n1 n2 => ?_⟩, hl, hc, hs⟩, st⟩
  · intro y hy
    simp only [List.mem_cons, List.not_mem_nil, or_false] at hy
    rcases hy with rfl | rfl <;> rfl
  · by_cases q : y = x
    · subst q
      cases hD.symm.trans hy
      exact ⟨E', q1.1, q2.2.1, q2.1, hsz⟩
    · exact ⟨cy, q10 y cy q hy, rfl, rfl, rfl⟩
  · obtain ⟨D3, cf, k, i, f, g1, g2, g3, g4, g5, g6, g7⟩ := F
    cases hD.symm.trans g1
    simp only [RoadKit.slotOf, g2, gV, gC, Option.map_some, Option.getD_some] at n1 n2
    exact ⟨E', cf, k, i, f, q1.1, g2, g3, by rw [q2.1]; exact g4, by rw [q2.1]; exact g5, by rw [q2.2.1]; exact g6, by rw [q2.2.2 f.slot (by simp [n1, n2])]; exact g7⟩
end StrChars.Road
namespace StrChars.Road
open Jvm Sem ClassFile Op Lib Jvm.Stand Jvm.Free Jvm.Free.XT
/-- WHAT COMES BACK, the byte[] as a list of values -/
def QA (Z : State) (x : Addr) (zn : Int32) (cs : List Int32) (h : Heap) (v : Option Value) (h' : Heap) (L : List Loc) : Prop := v = none ∧ (∀ y ∈ L, y.base = x) ∧ RoadKit.Keep h h' [x] ∧ h'.size = h.size + 1 ∧ RoadKit.Exa Z h' x ST ∧ RoadKit.Fld Z h' x ST "value" "[B" (.ref h.size) ∧ RoadKit.Fld Z h' x ST "coder" "B" (.int 0) ∧
  (∃ kb, Z.vm.findClass "[B" = some kb ∧ RoadKit.Arv Z h' h.size kb .byte zn (cs.map fun c => .int (lo8 c)) (.int 0)) ∧
  ∀ (O n d : String) (w : Value), RoadKit.Fld Z h x O n d w → RoadKit.slotOf Z O n d ≠ RoadKit.slotOf Z ST "value" "[B" → RoadKit.slotOf Z O n d ≠ RoadKit.slotOf Z ST "coder" "B" → RoadKit.Fld Z h' x O n d w
/-- **new String(chars) AT A CALL, THE ARRAYS AS LISTS**: the char[] at b holds cs, not empty, no char above 255 -/
theorem backArv {p : Program} {l : Launch} {e : Env} {R : Room} {s : State} {args : Array Value} {below : List Frame} {len W : Nat} {Z : State} {a0 : Array Value} {h : Heap} (hZ : Z.Warmed39 s.vm) (hw : ∀ d ∈ words, d.before a0 Z = true) {kI : Nat} (wi : (Jvm.Cond.instantiable ST kI).before a0 Z = true)
    {x b : Addr} {k : ClassId} {zn z : Int32} {cs : List Int32} {dv v0 c0 : Value} (E : RoadKit.Exa Z h x ST) (V : RoadKit.Fld Z h x ST "value" "[B" v0) (C : RoadKit.Fld Z h x ST "coder" "B" c0) (K : RoadKit.Arv Z h b k .char zn (cs.map Value.int) dv) (S : RoadKit.Sta Z h ST "COMPACT_STRINGS" "Z" (.int z)) (hz : ¬ z = 0)
    (hlen : zn.toNatClampNeg = cs.length) (h0 : 0 < cs.length) (hbig : cs.length ≤ 536870912) (hall : ∀ c ∈ cs, ¬ 255 < c) (hfr : 4 ≤ R.frames) (hlo : W + 65 ≤ R.locals) :
    Back l R p e below s args New1.yN len W (fun P a => a = #[.ref x, .ref b] ∧ P.U.heap = h ∧ P.cells + 1 ≤ R.cells ∧ P.slots + cs.length ≤ R.slots)
      (fun P _ v B => ∃ L, QA Z x zn cs h v B.U.heap L ∧ B.locs = P.locs ++ L ∧ B.cells = P.cells + 1 ∧ B.slots = P.slots + cs.length) := by
  obtain ⟨A, K1, K2, K3, K4, K5, K6⟩ := K
  have e : A.slots.size = cs.length := K3.trans hlen
  have hat : ∀ (i : Nat) (hi : i < cs.length), A.slots[i]? = some (.int cs[i]) := fun i hi => by rw [K5 i (by omega)]; simp [List.getD_eq_getElem?_getD, hi]
  have hcv : ∀ (i : Nat) (hi : i < cs.length), cv A i = cs[i] := fun i hi => by unfold cv; rw [hat i hi]
  have hty : Typed .char A := fun i v hv => by
    have hi : i < A.slots.size := (Array.getElem?_eq_some_iff.mp hv).1
    have q := K5 i hi
    rw [hv] at q
    rw [Option.some.inj q]
    exact K6 i hi
  refine Back.mono (back hZ hw wi E V C K1 hty S hz (by omega) (by omega) (fun i hi => by rw [hcv i (by omega)]; exact hall _ (List.getElem_mem _)) hfr hlo) (fun P a hp => ⟨hp.1, hp.2.1, hp.2.2.1, by rw [e]; exact hp.2.2.2⟩) (fun P a v B hp hq => ?_)
  obtain ⟨L, ⟨q1, q2, q3, q4, q5, q6, q7, ⟨V', v1, v2, v3, v4, v5⟩, q9⟩, hl, hc, hs⟩ := hq
  refine ⟨L, ⟨q1, q2, q3, q4, q5, q6, q7, ⟨V'.cls, v3, V', v1, rfl, by rw [v4, e, hlen], K4, fun i hi => ?_, fun i hi => ?_⟩, q9⟩, hl, hc, by rw [hs, e]⟩
  · have hi' : i < cs.length := by omega
    rw [v5 i (by omega), hcv i hi']; simp [List.getD_eq_getElem?_getD, hi']
  · have hi' : i < cs.length := by omega
    simp only [List.getD_eq_getElem?_getD, List.getElem?_map, List.getElem?_eq_getElem hi', Option.map_some, Option.getD_some]
    exact fits_lo8 _
end StrChars.Road
namespace StrChars.Road
open Jvm Sem ClassFile Op Lib Jvm.Stand Jvm.Free Jvm.Free.XT
/-- WHAT COMES BACK, in the writer's own shape -/
def QV (Z : State) (x : Addr) (N : Int32) (bs : List Int32) (h : Heap) (n0 : Nat) (v : Option Value) (h' : Heap) (L : List Loc) : Prop := v = none ∧ RoadKit.Fr n0 L ∧ RoadKit.Keep h h' [x] ∧ RoadKit.Exa Z h' x ST ∧ RoadKit.Fld Z h' x ST "coder" "B" (.int 0) ∧
  ∃ (t : Addr) (kb : ClassId), n0 ≤ t ∧ h.size ≤ t ∧ ¬ t = x ∧ RoadKit.Fld Z h' x ST "value" "[B" (.ref t) ∧ RoadKit.Arv Z h' t kb .byte N (bs.map Value.int) (.int 0)
/-- **new String(chars) AT A CALL, FOR THE WRITER**: a char[] of n known ints, each 0 to 255 -/
theorem backV {p : Program} {l : Launch} {e : Env} {R : Room} {s : State} {args : Array Value} {below : List Frame} {len W : Nat} {Z : State} {a0 : Array Value} {h : Heap} (hZ : Z.Warmed39 s.vm) (hw : ∀ d ∈ words, d.before a0 Z = true) {kI : Nat} (wi : (Jvm.Cond.instantiable ST kI).before a0 Z = true)
    {x b : Addr} {kC : ClassId} {cs bs : List Int32} {d v0 c0 : Value} {z N : Int32} {n n0 : Nat} (hx0 : n0 ≤ x) (hh0 : n0 ≤ h.size) (E : RoadKit.Exa Z h x ST) (V : RoadKit.Fld Z h x ST "value" "[B" v0) (C : RoadKit.Fld Z h x ST "coder" "B" c0) (K : RoadKit.Arv Z h b kC .char N (cs.map Value.int) d) (S : RoadKit.Sta Z h ST "COMPACT_STRINGS" "Z" (.int z)) (hz : ¬ z = 0)
    (hn : cs.length = n) (hN : N = Int32.ofNat n) (l0 : 0 < n) (l2 : n ≤ 4000) (hp : ∀ c ∈ cs, ¬ c < 0 ∧ ¬ (255 : Int32) < c) (hb : bs = cs.map (fun c => c.toInt8.toInt32)) (hfr : 4 ≤ R.frames) (hlo : W + 65 ≤ R.locals) :
    Back l R p e below s args (⟨"java/lang/String", "<init>", "([C)V"⟩ : MethodName) len W (fun P a => a = #[.ref x, .ref b] ∧ P.U.heap = h ∧ P.cells + 1 ≤ R.cells ∧ P.slots + n ≤ R.slots)
      (fun P _ v B => ∃ L, QV Z x N bs h n0 v B.U.heap L ∧ B.locs = P.locs ++ L ∧ B.cells = P.cells + 1 ∧ B.slots = P.slots + n) := by
  subst hn hN hb
  refine Back.mono (backArv hZ hw wi E V C K S hz (n32 (by omega)) l0 (by omega) (fun c hc => (hp c hc).2) hfr hlo) (fun P a hp => hp) (fun P a v B hp hq => ?_)
  obtain ⟨L, ⟨q1, q2, q3, q4, q5, q6, q7, ⟨kb, v1, v2⟩, q9⟩, hl, hc, hs⟩ := hq
  exact ⟨L, ⟨q1, fun y hy => by rw [q2 y hy]; exact hx0, q3, q5, q7, h.size, kb, hh0, Nat.le_refl _, Nat.ne_of_gt E.lt, q6, by rw [List.map_map]; exact v2⟩, hl, hc, hs⟩
end StrChars.Road
namespace StrChars
open Jvm Sem ClassFile Op Lib Jvm.Stand Jvm.Free.XT Jvm.Free.ALB Jvm.Free.JM Jvm.Free
open Jvm.Lib.Cold (StaticIs)
def hi8 (x : Int32) : Int32 := lo8 (x >>> ((8 : Int32) &&& 31))
/-- what StringUTF16.getChar makes of two bytes -/
def pairCh (u v : Int32) : Int32 := (((u &&& 255) <<< ((0 : Int32) &&& 31)) ||| ((v &&& 255) <<< ((8 : Int32) &&& 31))).toUInt32.toUInt16.toUInt32.toInt32
theorem lo8_and (x : Int32) : (lo8 x &&& 255).toBitVec.toNat = x.toBitVec.toNat % 256 := by
  have h : (lo8 x).toBitVec = (x.toBitVec.signExtend 8).signExtend 32 := by rw [lo8, Int8.toBitVec_toInt32, Int32.toBitVec_toInt8]
  rw [Int32.toBitVec_and, BitVec.toNat_and, h]
  have e : ((x.toBitVec.signExtend 8).signExtend 32).toNat % 256 = x.toBitVec.toNat % 256 := by
    rw [BitVec.toNat_signExtend]
    have hlt := x.toBitVec.isLt
    simp only [BitVec.toNat_setWidth, BitVec.toNat_signExtend]
    split <;> split <;> omega
  rw [← e]
  exact Nat.and_two_pow_sub_one_eq_mod _ 8
theorem pair_says {c : Int32} (h0 : ¬ c < 0) (h1 : ¬ 65535 < c) : pairCh (lo8 c) (hi8 c) = c := by
  rw [Int32.lt_iff_toInt_lt] at h0 h1
  have e0 : (0 : Int32).toInt = 0 := rfl
  have e1 : (65535 : Int32).toInt = 65535 := rfl
  have hc : c.toInt = c.toBitVec.toNat := by
    have := c.toBitVec.isLt
    have e : c.toInt = c.toBitVec.toInt := rfl
    rw [e] at h0 h1
    rw [e]
    rw [BitVec.toInt_eq_toNat_cond] at h0 h1 ⊢
    split at h0 <;> split <;> omega
  have hn : c.toBitVec.toNat < 65536 := by omega
  have a1 := lo8_and c
  have a2 : (hi8 c &&& 255).toBitVec.toNat = c.toBitVec.toNat / 256 := by
    rw [hi8, lo8_and]
    have e : ((8 : Int32) &&& 31) = 8 := by decide
    rw [e, Int32.toBitVec_shiftRight]
    have e2 : ((8 : Int32).toBitVec.smod 32) = 8#32 := by decide
    rw [e2, BitVec.sshiftRight_eq', BitVec.toNat_sshiftRight_of_msb_false (by rw [BitVec.msb_eq_false_iff_two_mul_lt]; omega)]
    show c.toBitVec.toNat >>> 8 % 256 = _
    rw [Nat.shiftRight_eq_div_pow]
    omega
  unfold pairCh
  apply Int32.toBitVec_inj.mp
  apply BitVec.eq_of_toNat_eq
  have f0 : ((0 : Int32) &&& 31) = 0 := by decide
  have f8 : ((8 : Int32) &&& 31) = 8 := by decide
  rw [f0, f8]
  have g : (((lo8 c &&& 255) <<< (0 : Int32)) ||| ((hi8 c &&& 255) <<< (8 : Int32))).toBitVec.toNat = c.toBitVec.toNat := by
    rw [Int32.toBitVec_or, Int32.toBitVec_shiftLeft, Int32.toBitVec_shiftLeft]
    have s0 : ((0 : Int32).toBitVec.smod 32) = 0#32 := by decide
    have s8 : ((8 : Int32).toBitVec.smod 32) = 8#32 := by decide
    rw [s0, s8, BitVec.toNat_or]
    simp only [BitVec.shiftLeft_eq', BitVec.toNat_shiftLeft, a1, a2]
    show (c.toBitVec.toNat % 256) <<< 0 % 2 ^ 32 ||| (c.toBitVec.toNat / 256) <<< 8 % 2 ^ 32 = _
    rw [Nat.shiftLeft_zero, Nat.mod_eq_of_lt (show c.toBitVec.toNat % 256 < 2 ^ 32 by omega), Nat.mod_eq_of_lt (show (c.toBitVec.toNat / 256) <<< 8 < 2 ^ 32 by rw [Nat.shiftLeft_eq]; omega), Nat.or_comm, ← Nat.shiftLeft_add_eq_or_of_lt (by omega), Nat.shiftLeft_eq]
    omega
  show BitVec.toNat (((((lo8 c &&& 255) <<< (0 : Int32)) ||| ((hi8 c &&& 255) <<< (8 : Int32))).toBitVec.setWidth 16).setWidth 32) = _
  rw [BitVec.toNat_setWidth, BitVec.toNat_setWidth, g]
  omega
end StrChars
namespace StrChars
open Jvm Sem ClassFile Op Lib Jvm.Stand Jvm.Free.XT Jvm.Free.ALB Jvm.Free.JM Jvm.Free
open Jvm.Lib.Cold (StaticIs)
/-- the array's cell V codes the n chars f 0 .. f (n - 1) by the coder cd, as the JDK does: coder 1 just where some char is above 255 -/
def Cod (cd : Int32) (n : Nat) (f : Nat → Int32) (V : Cell) : Prop := (cd = 0 ∧ V.slots.size = n ∧ ∀ j, j < n → V.slots[j]? = some (.int (lo8 (f j))) ∧ ¬ 255 < f j) ∨ (cd = 1 ∧ V.slots.size = 2 * n ∧ (∀ j, j < n → V.slots[2 * j]? = some (.int (lo8 (f j))) ∧ V.slots[2 * j + 1]? = some (.int (hi8 (f j)))) ∧ ∃ j, j < n ∧ 255 < f j)
/-- **x is a String of the n chars f 0 .. f (n - 1)**, Latin-1 or UTF-16; its array at t has the cell V -/
def Txt (x t : Addr) (V : Cell) (cd : Int32) (n : Nat) (f : Nat → Int32) (U : State) : Prop := Exact "java/lang/String" x U ∧ Has x "java/lang/String" "value" "[B" (.ref t) U ∧ Has x "java/lang/String" "coder" "B" (.int cd) U ∧ XT.Arr .byte t V U ∧ Cod cd n f V ∧ ∀ j, j < n → ¬ f j < 0 ∧ ¬ 65535 < f j
theorem Txt.mv {x t : Addr} {V : Cell} {cd : Int32} {n : Nat} {f : Nat → Int32} {U U' : State} (h : Txt x t V cd n f U) (hal : U.vm.Alike U'.vm) (hh : U'.heap = U.heap) : Txt x t V cd n f U' := ⟨h.1.mv hal hh, h.2.1.mv hal hh, h.2.2.1.mv hal hh, h.2.2.2.1.mv hal hh, h.2.2.2.2⟩
end StrChars
namespace StrChars.Road
open Jvm Sem ClassFile Op Lib Jvm.Stand Jvm.Free Jvm.Free.XT
open Jvm.Lib.Cold (StaticIs)
theorem consq {a : Array Value} {s : State} {c : Jvm.Cond} {L : List Jvm.Cond} (h0 : c.before a s = true) (h : ∀ w ∈ L, w.before a s = true) : ∀ w ∈ c :: L, w.before a s = true := fun w hw => (List.mem_cons.mp hw).elim (fun e => e ▸ h0) (h w)
/-- the bytes of the chars cs, low before high -/
def wideBytes : List Int32 → List Value
  | [] => []
  | c :: cs => .int (lo8 c) :: .int (hi8 c) :: wideBytes cs
theorem wide_lo (d : Value) : ∀ (cs : List Int32) (j : Nat), j < cs.length → (wideBytes cs).getD (2 * j) d = .int (lo8 (cs.getD j 0))
  | [], j, h => absurd h (Nat.not_lt_zero j)
  | c :: cs, 0, _ => rfl
  | c :: cs, j + 1, h => by
    have q := wide_lo d cs j (by simpa using h)
    rw [show 2 * (j + 1) = 2 * j + 1 + 1 from by omega]
    simpa [wideBytes] using q
theorem wide_hi (d : Value) : ∀ (cs : List Int32) (j : Nat), j < cs.length → (wideBytes cs).getD (2 * j + 1) d = .int (hi8 (cs.getD j 0))
  | [], j, h => absurd h (Nat.not_lt_zero j)
  | c :: cs, 0, _ => rfl
  | c :: cs, j + 1, h => by
    have q := wide_hi d cs j (by simpa using h)
    rw [show 2 * (j + 1) + 1 = 2 * j + 1 + 1 + 1 from by omega]
    simpa [wideBytes] using q
theorem low_at (d : Value) (cs : List Int32) (j : Nat) (h : j < cs.length) : (cs.map fun c => Value.int (lo8 c)).getD j d = .int (lo8 (cs.getD j 0)) := by
  simp [List.getD_eq_getElem?_getD, h]
/-- an array of N2 bytes vs codes the chars cs by the coder cd -/
def CodA (cs : List Int32) (cd N2 : Int32) (vs : List Value) : Prop := (cd = 0 ∧ N2 = Int32.ofNat cs.length ∧ vs = (cs.map fun c => Value.int (lo8 c)) ∧ ∀ c ∈ cs, ¬ 255 < c) ∨ (cd = 1 ∧ N2 = Int32.ofNat (2 * cs.length) ∧ vs = wideBytes cs ∧ ∃ c ∈ cs, 255 < c)
theorem CodA.cod {cs : List Int32} {cd N2 : Int32} {vs : List Value} {V : Cell} (h : CodA cs cd N2 vs) (hn : 2 * cs.length < 2 ^ 31) (hs : V.slots.size = N2.toNatClampNeg) (hv : RoadKit.Has V vs (.int 0)) : Cod cd cs.length (fun j => cs.getD j 0) V := by
  rcases h with ⟨rfl, rfl, rfl, h⟩ | ⟨rfl, rfl, rfl, c, hc, hw⟩
  · rw [n32 (by omega)] at hs
    exact Or.inl ⟨rfl, hs, fun j hj => ⟨by rw [hv j (by omega), low_at _ _ _ hj], by
      have e : cs.getD j 0 = cs[j] := by simp [List.getD_eq_getElem?_getD, hj]
      show ¬ 255 < cs.getD j 0
      rw [e]; exact h _ (List.getElem_mem _)⟩⟩
  · rw [n32 (by omega)] at hs
    obtain ⟨j, hj, rfl⟩ := List.getElem_of_mem hc
    exact Or.inr ⟨rfl, hs, fun j hj => ⟨by rw [hv _ (by omega), wide_lo _ _ _ hj], by rw [hv _ (by omega), wide_hi _ _ _ hj]⟩, j, hj, by
      have e : cs.getD j 0 = cs[j] := by simp [List.getD_eq_getElem?_getD, hj]
      show 255 < cs.getD j 0
      rw [e]; exact hw⟩
/-- an object of exactly java/lang/String, its two fields found: as the laws ask it -/
theorem strObj {Z U : State} {a0 : Array Value} {kI : Nat} (wi : (Jvm.Cond.instantiable ST kI).before a0 Z = true) (al : Z.vm.Alike U.vm) {x : Addr} {v0 c0 : Value} (E : RoadKit.Exa Z U.heap x ST) (V : RoadKit.Fld Z U.heap x ST "value" "[B" v0) (C : RoadKit.Fld Z U.heap x ST "coder" "B" c0) :
    ∃ (D : Cell) (fV fC : Field), Blank ST x D U ∧ Found ST "value" "[B" fV U ∧ Found ST "coder" "B" fC U ∧ D.slots[fV.slot]? = some v0 ∧ D.slots[fC.slot]? = some c0 ∧ RoadKit.slotOf Z ST "value" "[B" = fV.slot ∧ RoadKit.slotOf Z ST "coder" "B" = fC.slot := by
  obtain ⟨D, cfV, kV, iV, fV, hD, gV, stV, knV, obV, asV, slV⟩ := V
  obtain ⟨D', cfC, kC, iC, fC, hD', gC, stC, -, -, asC, slC⟩ := C
  cases hD.symm.trans hD'
  obtain ⟨D2, kD, e1, e2, e3, e4, e5⟩ := E
  cases hD.symm.trans e1
  obtain ⟨c2, k2, i1, i2, i3, -⟩ := Cond.instantiable_spec wi
  cases e2.symm.trans i1
  cases e3.symm.trans i2
  obtain ⟨kU, u1, u2⟩ := al.2.2 _ _ e3
  exact ⟨D, fV, fC, ⟨hD, ⟨knV, fun q hq => by rw [hq] at obV; cases obV⟩, by rw [al.findClass]; exact e2, kU, u1, by rw [u2]; exact i3, by rw [u2]; exact e5 i3⟩, ⟨SBG.found_only al ⟨cfV, kV, iV, gV⟩, stV⟩, ⟨SBG.found_only al ⟨cfC, kC, iC, gC⟩, stC⟩, slV, slC, by simp [RoadKit.slotOf, gV], by simp [RoadKit.slotOf, gC]⟩
theorem sta_is {Z U : State} (al : Z.vm.Alike U.vm) {C n d : String} {v : Value} (S : RoadKit.Sta Z U.heap C n d v) : StaticIs U C n d v := by
  obtain ⟨cfS, iS, kS, fS, st, cS, t1, t2, t3, t4, t5, t6, t7⟩ := S
  exact StaticIs.there (s := { Z with heap := U.heap }) ⟨cfS, iS, kS, fS, st, cS, t1, t2, t3, t4, t5, (fun q => by rw [q] at t6; cases t6), t7⟩ al rfl
end StrChars.Road
namespace StrChars
open Jvm Sem ClassFile Op Lib Jvm.Stand Jvm.Free.XT Jvm.Free.ALB Jvm.Free.JM Jvm.Free
open Jvm.Lib.Cold (StaticIs)
/-- what place i of a byte[]'s cell holds -/
def yv (A : Cell) (i : Nat) : Int32 := match A.slots[i]? with | some (.int x) => x | _ => 0
theorem yv_get {a : Addr} {A : Cell} {U : State} (h : XT.Arr .byte a A U) (ht : Typed .byte A) {i : Nat} (hi : i < A.slots.size) : A.slots[i]? = some (.int (yv A i)) := by
  have e := Array.getElem?_eq_getElem hi
  have f := ht i _ e
  unfold yv; rw [e]
  generalize A.slots[i] = v at f
  cases v <;> simp [fits] at f ⊢
/-- the two arrays are equal, place for place -/
def EqC (A B : Cell) : Prop := A.slots.size = B.slots.size ∧ ∀ i, i < A.slots.size → yv A i = yv B i
/-- a boolean that says whether p -/
def Says01 (q : Prop) (r : Option Value) (s u : State) : Prop := ∃ v : Int32, r = some (.int v) ∧ u.heap = s.heap ∧ ((v = 1 ∧ q) ∨ (v = 0 ∧ ¬ q))
theorem Says01.mv {q : Prop} : ∀ r (U U' V V' : State), U'.heap = U.heap → V.vm.Alike V'.vm → V'.heap = V.heap → Says01 q r U V → Says01 q r U' V' :=
  fun r U U' V V' h1 _ h2 ⟨v, a, b, c⟩ => ⟨v, a, by rw [h1, h2]; exact b, c⟩
namespace LEq
def yN : MethodName := ⟨"java/lang/StringLatin1", "equals", "([B[B)Z"⟩
abbrev yB : ByteArray := jdk_43_method_13_code
theorem d0 : decode yB 0 = .ok (.aload_n 0, 1) := by decide +kernel
theorem d1 : decode yB 1 = .ok (.arraylength, 1) := by decide +kernel
theorem d2 : decode yB 2 = .ok (.aload_n 1, 1) := by decide +kernel
theorem d3 : decode yB 3 = .ok (.arraylength, 1) := by decide +kernel
theorem d4 : decode yB 4 = .ok (.if_icmp (.ne) 30, 3) := by decide +kernel
theorem d7 : decode yB 7 = .ok (.iconst 0, 1) := by decide +kernel
theorem d8 : decode yB 8 = .ok (.istore_n 2, 1) := by decide +kernel
theorem d9 : decode yB 9 = .ok (.iload_n 2, 1) := by decide +kernel
theorem d10 : decode yB 10 = .ok (.aload_n 0, 1) := by decide +kernel
theorem d11 : decode yB 11 = .ok (.arraylength, 1) := by decide +kernel
theorem d12 : decode yB 12 = .ok (.if_icmp (.ge) 20, 3) := by decide +kernel
theorem d15 : decode yB 15 = .ok (.aload_n 0, 1) := by decide +kernel
theorem d16 : decode yB 16 = .ok (.iload_n 2, 1) := by decide +kernel
theorem d17 : decode yB 17 = .ok (.baload, 1) := by decide +kernel
theorem d18 : decode yB 18 = .ok (.aload_n 1, 1) := by decide +kernel
theorem d19 : decode yB 19 = .ok (.iload_n 2, 1) := by decide +kernel
theorem d20 : decode yB 20 = .ok (.baload, 1) := by decide +kernel
theorem d21 : decode yB 21 = .ok (.if_icmp (.eq) 5, 3) := by decide +kernel
theorem d24 : decode yB 24 = .ok (.iconst 0, 1) := by decide +kernel
theorem d25 : decode yB 25 = .ok (.ireturn, 1) := by decide +kernel
theorem d26 : decode yB 26 = .ok (.iinc 2 1, 3) := by decide +kernel
theorem d29 : decode yB 29 = .ok (.goto (-20), 3) := by decide +kernel
theorem d32 : decode yB 32 = .ok (.iconst 1, 1) := by decide +kernel
theorem d33 : decode yB 33 = .ok (.ireturn, 1) := by decide +kernel
theorem d34 : decode yB 34 = .ok (.iconst 0, 1) := by decide +kernel
theorem d35 : decode yB 35 = .ok (.ireturn, 1) := by decide +kernel
def site : List Cond := []
def tab : Cond := tabOf yN yB 3 (some .boolean) site
def P (a : Addr) (A : Cell) (b : Addr) (B : Cell) (args : Array Value) (s : State) : Prop := args = #[.ref a, .ref b] ∧ XT.Arr .byte a A s ∧ Typed .byte A ∧ XT.Arr .byte b B s ∧ Typed .byte B
/-- whether two byte[] are equal, place for place -/
theorem law (l : Launch) (a : Addr) (A : Cell) (b : Addr) (B : Cell) : Law l yN 2 2 0 0 yB 3 (some .boolean) site (P a A b B) (Says01 (EqC A B)) [] 0 0 := by
  refine Law.of_walk (plainFor_of_name (by decide +kernel)) (by decide +kernel) (by decide +kernel) (by decide) (fun _ _ h => by rw [h.1]; rfl) (fun _ U U' hal hh h => ⟨h.1, h.2.1.mv hal hh, h.2.2.1, h.2.2.2.1.mv hal hh, h.2.2.2.2⟩) (fun r U U' V V' h1 hal h2 h => Says01.mv r U U' V V' h1 hal h2 h) ?_
  intro p e s m args below meth c s₁ X0 hexec hbytes hml hret hlk hnm hown hh0 W hP
  obtain ⟨rfl, hA, tA, hB, tB⟩ := hP
  have a31 := hA.2.2.2
  have b31 := hB.2.2.2
  have hA0 := hA.mv X0.warmed.alike hh0
  have hB0 := hB.mv X0.warmed.alike hh0
  have c1 : Steps p.tables e below (s₁.setTop (entryFrame m #[.ref a, .ref b] 3)) (s₁.setTop (mkF m 0 #[.val (.ref a), .val (.ref b), .unset] [])) := entry rfl
  have c2 : Steps p.tables e below (s₁.setTop (entryFrame m #[.ref a, .ref b] 3)) (s₁.setTop (mkF m 4 #[.val (.ref a), .val (.ref b), .unset] [.int (Int32.ofNat B.slots.size), .int (Int32.ofNat A.slots.size)])) := c1.trans (by
    refine XS.aloadN X0.here hexec rfl (hb hbytes d0) rfl rfl ?_
    refine X0.alen hexec hA0 rfl rfl (hb hbytes d1) ?_
    refine XS.aloadN X0.here hexec rfl (hb hbytes d2) rfl rfl ?_
    refine X0.alen hexec hB0 rfl rfl (hb hbytes d3) ?_
    exact Steps.refl _)
  by_cases hs : A.slots.size = B.slots.size
  · have c3 : Steps p.tables e below (s₁.setTop (entryFrame m #[.ref a, .ref b] 3)) (s₁.setTop (mkF m 9 #[.val (.ref a), .val (.ref b), .val (.int 0)] [])) := c2.trans (by
      refine XS.icmpNo X0.here hexec rfl (hb hbytes d4) rfl (ii_ne_f (by rw [hs])) ?_
      refine iconstV X0.here hexec rfl 0 (hb hbytes d7) (by decide) ?_
      refine XS.istoreN X0.here hexec rfl (hb hbytes d8) rfl rfl ?_
      exact Steps.refl _)
    have loop : ∀ (r i : Nat), i + r = A.slots.size → (∀ j, j < i → yv A j = yv B j) → Steps p.tables e below (s₁.setTop (entryFrame m #[.ref a, .ref b] 3)) (s₁.setTop (mkF m 9 #[.val (.ref a), .val (.ref b), .val (.int (Int32.ofNat i))] [])) → ∃ (pc : Nat) (Ls : Array Slot) (v : Int32), (pc = 25 ∨ pc = 33) ∧ ((v = 1 ∧ EqC A B) ∨ (v = 0 ∧ ¬ EqC A B)) ∧ Steps p.tables e below (s₁.setTop (entryFrame m #[.ref a, .ref b] 3)) (s₁.setTop (mkF m pc Ls [.int v])) := by
      intro r
      induction r with
      | zero =>
        intro i hi he cl
        exact ⟨33, _, 1, Or.inr rfl, Or.inl ⟨rfl, hs, fun j hj => he j (by omega)⟩, cl.trans (by
          refine XS.iloadN X0.here hexec rfl (hb hbytes d9) rfl ?_
          refine XS.aloadN X0.here hexec rfl (hb hbytes d10) rfl rfl ?_
          refine X0.alen hexec hA0 rfl rfl (hb hbytes d11) ?_
          refine XS.icmpYes X0.here hexec rfl (pc0 := 12) rfl (hb hbytes d12) rfl (ii_ge_t (nlt32 (by omega) (by omega))) (by decide) rfl ?_
          refine iconstV X0.here hexec rfl 1 (hb hbytes d32) (by decide) ?_
          exact Steps.refl _)⟩
      | succ r ih =>
        intro i hi he cl
        have c4 : Steps p.tables e below (s₁.setTop (entryFrame m #[.ref a, .ref b] 3)) (s₁.setTop (mkF m 21 #[.val (.ref a), .val (.ref b), .val (.int (Int32.ofNat i))] [.int (yv B i), .int (yv A i)])) := cl.trans (by
          refine XS.iloadN X0.here hexec rfl (hb hbytes d9) rfl ?_
          refine XS.aloadN X0.here hexec rfl (hb hbytes d10) rfl rfl ?_
          refine X0.alen hexec hA0 rfl rfl (hb hbytes d11) ?_
          refine XS.icmpNo X0.here hexec rfl (hb hbytes d12) rfl (ii_ge_f (lt32 (by omega) (by omega))) ?_
          refine XS.aloadN X0.here hexec rfl (hb hbytes d15) rfl rfl ?_
          refine XS.iloadN X0.here hexec rfl (hb hbytes d16) rfl ?_
          refine X0.aget hexec hA0 rfl (yv_get hA tA (i := i) (by omega)) rfl rfl (hb hbytes d17) ?_
          refine XS.aloadN X0.here hexec rfl (hb hbytes d18) rfl rfl ?_
          refine XS.iloadN X0.here hexec rfl (hb hbytes d19) rfl ?_
          refine X0.aget hexec hB0 rfl (yv_get hB tB (i := i) (by omega)) rfl rfl (hb hbytes d20) ?_
          exact Steps.refl _)
        by_cases hv : yv A i = yv B i
        · have c5 : Steps p.tables e below (s₁.setTop (entryFrame m #[.ref a, .ref b] 3)) (s₁.setTop (mkF m 9 #[.val (.ref a), .val (.ref b), .val (.int (Int32.ofNat i + 1))] [])) := c4.trans (by
            refine XS.icmpYes X0.here hexec rfl (pc0 := 21) rfl (hb hbytes d21) rfl (ii_eq_t hv) (by decide) rfl ?_
            refine iincV X0.here hexec rfl 1 (hb hbytes d26) (by decide) rfl rfl ?_
            refine XS.goto X0.here hexec rfl (pc0 := 29) rfl (hb hbytes d29) (by decide) rfl ?_
            exact Steps.refl _)
          rw [succ32] at c5
          exact ih (i + 1) (by omega) (fun j hj => by
            by_cases e : j = i
            · rw [e]; exact hv
            · exact he j (by omega)) c5
        · exact ⟨25, _, 0, Or.inl rfl, Or.inr ⟨rfl, fun q => hv (q.2 i (by omega))⟩, c4.trans (by
            refine XS.icmpNo X0.here hexec rfl (hb hbytes d21) rfl (ii_eq_f hv) ?_
            refine iconstV X0.here hexec rfl 0 (hb hbytes d24) (by decide) ?_
            exact Steps.refl _)⟩
    obtain ⟨pc, Ls, v, hpc, hv, cz⟩ := loop A.slots.size 0 (by omega) (fun j hj => absurd hj (Nat.not_lt_zero j)) c3
    have nv : narrow .boolean (.int v) = .int v := by rcases hv with ⟨rfl, -⟩ | ⟨rfl, -⟩ <;> rfl
    rcases hpc with rfl | rfl
    · exact ⟨s₁, some (.int v), _, _, _, X0, rfl, rfl, rfl, (fun h => by cases h), ⟨v, rfl, hh0, hv⟩, fun fs hl => cz.trans (X0.ireturnOut hexec hret nv (Or.inr (Or.inl rfl)) (hb hbytes d25) hl)⟩
    · exact ⟨s₁, some (.int v), _, _, _, X0, rfl, rfl, rfl, (fun h => by cases h), ⟨v, rfl, hh0, hv⟩, fun fs hl => cz.trans (X0.ireturnOut hexec hret nv (Or.inr (Or.inl rfl)) (hb hbytes d33) hl)⟩
  · have c3 : Steps p.tables e below (s₁.setTop (entryFrame m #[.ref a, .ref b] 3)) (s₁.setTop (mkF m 35 #[.val (.ref a), .val (.ref b), .unset] [.int 0])) := c2.trans (by
      refine XS.icmpYes X0.here hexec rfl (pc0 := 4) rfl (hb hbytes d4) rfl (ii_ne_t (ne32 a31 b31 hs)) (by decide) rfl ?_
      refine iconstV X0.here hexec rfl 0 (hb hbytes d34) (by decide) ?_
      exact Steps.refl _)
    exact ⟨s₁, some (.int 0), _, _, _, X0, rfl, rfl, rfl, (fun h => by cases h), ⟨0, rfl, hh0, Or.inr ⟨rfl, fun q => hs q.1⟩⟩, fun fs hl => c3.trans (X0.ireturnOut hexec hret rfl (Or.inr (Or.inl rfl)) (hb hbytes d35) hl)⟩
end LEq
theorem Cod.ty {cd : Int32} {n : Nat} {f : Nat → Int32} {V : Cell} (h : Cod cd n f V) : Typed .byte V := fun i v hv => by
  have hi : i < V.slots.size := (Array.getElem?_eq_some_iff.mp hv).1
  rcases h with ⟨-, k1, k2⟩ | ⟨-, k1, k2, -⟩
  · rw [(k2 i (by omega)).1] at hv; cases hv; exact fits_lo8 _
  · rcases Nat.mod_two_eq_zero_or_one i with e | e
    · obtain ⟨j, rfl⟩ : ∃ j, i = 2 * j := ⟨i / 2, by omega⟩
      rw [(k2 j (by omega)).1] at hv; cases hv; exact fits_lo8 _
    · obtain ⟨j, rfl⟩ : ∃ j, i = 2 * j + 1 := ⟨i / 2, by omega⟩
      rw [(k2 j (by omega)).2] at hv; cases hv; exact fits_lo8 _
/-- the same text -/
def SameT (n : Nat) (f : Nat → Int32) (k : Nat) (g : Nat → Int32) : Prop := n = k ∧ ∀ j, j < n → f j = g j
theorem lo8_inj {x y : Int32} (h0 : ¬ x < 0) (h1 : ¬ 255 < x) (k0 : ¬ y < 0) (k1 : ¬ 255 < y) (h : lo8 x = lo8 y) : x = y := by
  rw [← lo8_mask h0 h1, ← lo8_mask k0 k1, h]
/-- arrays coded by one coder are equal just where the texts are -/
theorem Cod.eqv {cd : Int32} {n k : Nat} {f g : Nat → Int32} {V V' : Cell} (h : Cod cd n f V) (h' : Cod cd k g V') (hf : ∀ j, j < n → ¬ f j < 0 ∧ ¬ 65535 < f j) (hg : ∀ j, j < k → ¬ g j < 0 ∧ ¬ 65535 < g j) : EqC V V' ↔ SameT n f k g := by
  have yvv : ∀ {W : Cell} {i : Nat} {x : Int32}, W.slots[i]? = some (.int x) → yv W i = x := fun q => by unfold yv; rw [q]
  rcases h with ⟨rfl, k1, k2⟩ | ⟨rfl, k1, k2, -⟩
  · rcases h' with ⟨-, m1, m2⟩ | ⟨e, -⟩
    · constructor
      · rintro ⟨e1, e2⟩
        refine ⟨by omega, fun j hj => ?_⟩
        have q := e2 j (by omega)
        rw [yvv (k2 j hj).1, yvv (m2 j (by omega)).1] at q
        exact lo8_inj (hf j hj).1 (k2 j hj).2 (hg j (by omega)).1 (m2 j (by omega)).2 q
      · rintro ⟨rfl, e2⟩
        refine ⟨by omega, fun j hj => ?_⟩
        rw [yvv (k2 j (by omega)).1, yvv (m2 j (by omega)).1, e2 j (by omega)]
    · exact absurd e (by decide)
  · rcases h' with ⟨e, -⟩ | ⟨-, m1, m2, -⟩
    · exact absurd e (by decide)
    · constructor
      · rintro ⟨e1, e2⟩
        refine ⟨by omega, fun j hj => ?_⟩
        have q1 := e2 (2 * j) (by omega)
        have q2 := e2 (2 * j + 1) (by omega)
        rw [yvv (k2 j hj).1, yvv (m2 j (by omega)).1] at q1
        rw [yvv (k2 j hj).2, yvv (m2 j (by omega)).2] at q2
        rw [← pair_says (hf j hj).1 (hf j hj).2, ← pair_says (hg j (by omega)).1 (hg j (by omega)).2, q1, q2]
      · rintro ⟨rfl, e2⟩
        refine ⟨by omega, fun i hi => ?_⟩
        rcases Nat.mod_two_eq_zero_or_one i with e | e
        · obtain ⟨j, rfl⟩ : ∃ j, i = 2 * j := ⟨i / 2, by omega⟩
          rw [yvv (k2 j (by omega)).1, yvv (m2 j (by omega)).1, e2 j (by omega)]
        · obtain ⟨j, rfl⟩ : ∃ j, i = 2 * j + 1 := ⟨i / 2, by omega⟩
          rw [yvv (k2 j (by omega)).2, yvv (m2 j (by omega)).2, e2 j (by omega)]
/-- two codings differ: so do the texts -/
theorem Cod.dif {cd cd' : Int32} {n k : Nat} {f g : Nat → Int32} {V V' : Cell} (h : Cod cd n f V) (h' : Cod cd' k g V') (hne : ¬ cd = cd') : ¬ SameT n f k g := by
  rintro ⟨rfl, e⟩
  rcases h with ⟨rfl, -, k2⟩ | ⟨rfl, -, -, j, hj, hw⟩
  · rcases h' with ⟨rfl, -⟩ | ⟨-, -, -, j, hj, hw⟩
    · exact hne rfl
    · exact (k2 j hj).2 (by rw [e j hj]; exact hw)
  · rcases h' with ⟨-, -, m2⟩ | ⟨rfl, -⟩
    · exact (m2 j hj).2 (by rw [← e j hj]; exact hw)
    · exact hne rfl
/-- an object of exactly C is an instance of C -/
theorem cinst {p : Program} {l : Launch} {e : Env} {R : Room} {s : State} {m : MethodId} {args : Array Value} {below : List Frame} {meth : Method} {c : Code} {T : State} {locs : List Loc} {cells slots : Nat} (X : Stand p l e R s m args below meth c T locs cells slots) (hexec : p.tables.exec = Jvm.exec) {own C : String} {index : Nat} (hown : s.vm.findClass own = some m.cls) (hlink : (Cond.classLink own index C).before args s = true) {a : Addr} (hE : Exact C a T)
    {g : JFrame} (hg : g.method = m) {rest : List Value} (hstack : g.stack = .ref a :: rest) (hdg : decode c.code g.pc = .ok (.instanceof index, 3)) :
    ∃ T', Stand p l e R s m args below meth c T' locs cells slots ∧ T'.heap = T.heap ∧ ∀ target, Steps p.tables e below (T'.setTop { g with pc := g.pc + 3, stack := .int 1 :: rest }) target → Steps p.tables e below (T.setTop g) target := by
  obtain ⟨cB, h1, D, h2, h3, h4⟩ := hE
  have h1' : s.vm.findClass C = some cB := by rw [← X.warmed.alike.findClass]; exact h1
  obtain ⟨vm', X', st⟩ := X.instanceofYes hexec hown hlink h2 h4 h1' (by rw [h3]; exact Jvm.Free.SB.assignable_self _ _) hg hstack hdg
  exact ⟨_, X', rfl, st⟩
theorem cself {p : Program} {l : Launch} {e : Env} {R : Room} {s : State} {m : MethodId} {args : Array Value} {below : List Frame} {meth : Method} {c : Code} {T : State} {locs : List Loc} {cells slots : Nat} (X : Stand p l e R s m args below meth c T locs cells slots) (hexec : p.tables.exec = Jvm.exec) {own C : String} {index : Nat} (hown : s.vm.findClass own = some m.cls) (hlink : (Cond.classLink own index C).before args s = true) {a : Addr} (hE : Exact C a T)
    {g : JFrame} (hg : g.method = m) {rest : List Value} (hstack : g.stack = .ref a :: rest) (hdg : decode c.code g.pc = .ok (.checkcast index, 3)) :
    ∃ T', Stand p l e R s m args below meth c T' locs cells slots ∧ T'.heap = T.heap ∧ ∀ target, Steps p.tables e below (T'.setTop { g with pc := g.pc + 3, stack := .ref a :: rest }) target → Steps p.tables e below (T.setTop g) target := by
  obtain ⟨cB, h1, D, h2, h3, h4⟩ := hE
  have h1' : s.vm.findClass C = some cB := by rw [← X.warmed.alike.findClass]; exact h1
  obtain ⟨vm', X', st⟩ := X.checkcastYes hexec hown hlink h2 h4 h1' (by rw [h3]; exact Jvm.Free.SB.assignable_self _ _) hg hstack hdg
  exact ⟨_, X', rfl, fun t h => st t (by rw [← hstack] at h; exact h)⟩
namespace SEq
def yN : MethodName := ⟨"java/lang/String", "equals", "(Ljava/lang/Object;)Z"⟩
abbrev yB : ByteArray := jdk_42_method_66_code
theorem d0 : decode yB 0 = .ok (.aload_n 0, 1) := by decide +kernel
theorem d1 : decode yB 1 = .ok (.aload_n 1, 1) := by decide +kernel
theorem d2 : decode yB 2 = .ok (.if_acmp (.ne) 5, 3) := by decide +kernel
theorem d5 : decode yB 5 = .ok (.iconst 1, 1) := by decide +kernel
theorem d6 : decode yB 6 = .ok (.ireturn, 1) := by decide +kernel
theorem d7 : decode yB 7 = .ok (.aload_n 1, 1) := by decide +kernel
theorem d8 : decode yB 8 = .ok (.instanceof 10, 3) := by decide +kernel
theorem d11 : decode yB 11 = .ok (.ifCond (.eq) 43, 3) := by decide +kernel
theorem d14 : decode yB 14 = .ok (.aload_n 1, 1) := by decide +kernel
theorem d15 : decode yB 15 = .ok (.checkcast 10, 3) := by decide +kernel
theorem d18 : decode yB 18 = .ok (.astore_n 2, 1) := by decide +kernel
theorem d19 : decode yB 19 = .ok (.getstatic 38, 3) := by decide +kernel
theorem d22 : decode yB 22 = .ok (.ifCond (.eq) 14, 3) := by decide +kernel
theorem d25 : decode yB 25 = .ok (.aload_n 0, 1) := by decide +kernel
theorem d26 : decode yB 26 = .ok (.getfield 15, 3) := by decide +kernel
theorem d29 : decode yB 29 = .ok (.aload_n 2, 1) := by decide +kernel
theorem d30 : decode yB 30 = .ok (.getfield 15, 3) := by decide +kernel
theorem d33 : decode yB 33 = .ok (.if_icmp (.ne) 21, 3) := by decide +kernel
theorem d36 : decode yB 36 = .ok (.aload_n 0, 1) := by decide +kernel
theorem d37 : decode yB 37 = .ok (.getfield 9, 3) := by decide +kernel
theorem d40 : decode yB 40 = .ok (.aload_n 2, 1) := by decide +kernel
theorem d41 : decode yB 41 = .ok (.getfield 9, 3) := by decide +kernel
theorem d44 : decode yB 44 = .ok (.invokestatic 541, 3) := by decide +kernel
theorem d47 : decode yB 47 = .ok (.ifCond (.eq) 7, 3) := by decide +kernel
theorem d50 : decode yB 50 = .ok (.iconst 1, 1) := by decide +kernel
theorem d51 : decode yB 51 = .ok (.goto 4, 3) := by decide +kernel
theorem d54 : decode yB 54 = .ok (.iconst 0, 1) := by decide +kernel
theorem d55 : decode yB 55 = .ok (.ireturn, 1) := by decide +kernel
def site : List Cond := [.classLink "java/lang/String" 10 "java/lang/String", .fieldLink "java/lang/String" 38 "java/lang/String" "COMPACT_STRINGS" "Z", .fieldLink "java/lang/String" 15 "java/lang/String" "coder" "B", .fieldLink "java/lang/String" 9 "java/lang/String" "value" "[B", LEq.tab] ++ staticW "java/lang/String" 541 LEq.yN
def tab : Cond := tabOf yN yB 3 (some .boolean) site
def P (x t : Addr) (V : Cell) (cd : Int32) (n : Nat) (f : Nat → Int32) (y t' : Addr) (V' : Cell) (cd' : Int32) (k : Nat) (g : Nat → Int32) (z : Int32) (args : Array Value) (s : State) : Prop := args = #[.ref x, .ref y] ∧ Txt x t V cd n f s ∧ Txt y t' V' cd' k g s ∧ StaticIs s "java/lang/String" "COMPACT_STRINGS" "Z" (.int z) ∧ ¬ z = 0
/-- equals(Object) of two Strings: whether the texts are the same -/
theorem law (l : Launch) (x t : Addr) (V : Cell) (cd : Int32) (n : Nat) (f : Nat → Int32) (y t' : Addr) (V' : Cell) (cd' : Int32) (k : Nat) (g : Nat → Int32) (z : Int32) : Law l yN 2 1 1 14 yB 3 (some .boolean) site (P x t V cd n f y t' V' cd' k g z) (Says01 (SameT n f k g)) [] 0 0 := by
  refine Law.of_walk (plainFor_of_name (by decide +kernel)) (by decide +kernel) (by decide +kernel) (by decide) (fun _ _ h => by rw [h.1]; rfl) (fun _ U U' hal hh h => ⟨h.1, h.2.1.mv hal hh, h.2.2.1.mv hal hh, h.2.2.2.1.there hal hh, h.2.2.2.2⟩) (fun r U U' V V' h1 hal h2 h => Says01.mv r U U' V V' h1 hal h2 h) ?_
  intro p e s m args below meth c s₁ X0 hexec hbytes hml hret hlk hnm hown hh0 W hP
  obtain ⟨rfl, hx, hy, s1, hz⟩ := hP
  have c1 : Steps p.tables e below (s₁.setTop (entryFrame m #[.ref x, .ref y] 3)) (s₁.setTop (mkF m 2 #[.val (.ref x), .val (.ref y), .unset] [.ref y, .ref x])) := Steps.trans (entry rfl) (by
    show Steps p.tables e below (s₁.setTop (mkF m 0 #[.val (.ref x), .val (.ref y), .unset] [])) _
    refine XS.aloadN X0.here hexec rfl (hb hbytes d0) rfl rfl ?_
    refine XS.aloadN X0.here hexec rfl (hb hbytes d1) rfl rfl ?_
    exact Steps.refl _)
  by_cases hxy : x = y
  · have c2 : Steps p.tables e below (s₁.setTop (entryFrame m #[.ref x, .ref y] 3)) (s₁.setTop (mkF m 6 #[.val (.ref x), .val (.ref y), .unset] [.int 1])) := c1.trans (by
      refine acmpNo X0.here hexec rfl (hb hbytes d2) rfl rfl rfl (by simp [acmp, hxy]) ?_
      refine iconstV X0.here hexec rfl 1 (hb hbytes d5) (by decide) ?_
      exact Steps.refl _)
    subst hxy
    have ec : cd = cd' := by
      obtain ⟨D, fd, a1, a2, a3⟩ := hx.2.2.1
      obtain ⟨D', fd', b1, b2, b3⟩ := hy.2.2.1
      cases a1.symm.trans b1
      obtain ⟨q1, q2, q3, q4⟩ := a2.1
      obtain ⟨r1, r2, r3, r4⟩ := b2.1
      cases q4.symm.trans r4
      cases a3.symm.trans b3; rfl
    have et : t = t' := by
      obtain ⟨D, fd, a1, a2, a3⟩ := hx.2.1
      obtain ⟨D', fd', b1, b2, b3⟩ := hy.2.1
      cases a1.symm.trans b1
      obtain ⟨q1, q2, q3, q4⟩ := a2.1
      obtain ⟨r1, r2, r3, r4⟩ := b2.1
      cases q4.symm.trans r4
      cases a3.symm.trans b3; rfl
    subst ec et
    have ev : V = V' := by cases hx.2.2.2.1.1.symm.trans hy.2.2.2.1.1; rfl
    subst ev
    have hs : SameT n f k g := (Cod.eqv hx.2.2.2.2.1 hy.2.2.2.2.1 hx.2.2.2.2.2 hy.2.2.2.2.2).mp ⟨rfl, fun _ _ => rfl⟩
    exact ⟨s₁, some (.int 1), _, _, _, X0, rfl, rfl, rfl, (fun h => by cases h), ⟨1, rfl, hh0, Or.inl ⟨rfl, hs⟩⟩, fun fs hl => c2.trans (X0.ireturnOut hexec hret rfl (Or.inr (Or.inl rfl)) (hb hbytes d6) hl)⟩
  · have c2 : Steps p.tables e below (s₁.setTop (entryFrame m #[.ref x, .ref y] 3)) (s₁.setTop (mkF m 8 #[.val (.ref x), .val (.ref y), .unset] [.ref y])) := c1.trans (by
      refine acmpYes X0.here hexec rfl (pc0 := 2) rfl (hb hbytes d2) rfl rfl rfl (by simp [acmp, hxy]) (by decide) rfl ?_
      refine XS.aloadN X0.here hexec rfl (hb hbytes d7) rfl rfl ?_
      exact Steps.refl _)
    obtain ⟨T3, X3, q3, st3⟩ := cinst X0 hexec hown (wk W (.classLink "java/lang/String" 10 "java/lang/String")) (hy.mv X0.warmed.alike hh0).1 (g := (mkF m 8 #[.val (.ref x), .val (.ref y), .unset] [.ref y])) rfl (rest := []) rfl (hb hbytes d8)
    have hh3 := q3.trans hh0
    have c4 : Steps p.tables e below (s₁.setTop (entryFrame m #[.ref x, .ref y] 3)) (T3.setTop (mkF m 15 #[.val (.ref x), .val (.ref y), .unset] [.ref y])) := (c2.trans (st3 _ (Steps.refl _))).trans (by
      refine XS.ifNo X3.here hexec rfl (hb hbytes d11) rfl (i0_eq_f (by decide)) ?_
      refine XS.aloadN X3.here hexec rfl (hb hbytes d14) rfl rfl ?_
      exact Steps.refl _)
    obtain ⟨T5, X5, q5, st5⟩ := cself X3 hexec hown (wk W (.classLink "java/lang/String" 10 "java/lang/String")) (hy.mv X3.warmed.alike hh3).1 (g := (mkF m 15 #[.val (.ref x), .val (.ref y), .unset] [.ref y])) rfl (rest := []) rfl (hb hbytes d15)
    have hh5 := q5.trans hh3
    have c6 : Steps p.tables e below (s₁.setTop (entryFrame m #[.ref x, .ref y] 3)) (T5.setTop (mkF m 19 #[.val (.ref x), .val (.ref y), .val (.ref y)] [])) := (c4.trans (st5 _ (Steps.refl _))).trans (by
      refine XS.astoreN X5.here hexec rfl (hb hbytes d18) rfl rfl rfl ?_
      exact Steps.refl _)
    obtain ⟨T7, X7, q7, st7⟩ := X5.sget hexec hown (wk W (.fieldLink "java/lang/String" 38 "java/lang/String" "COMPACT_STRINGS" "Z")) s1 (fun _ _ h => by rw [hh5]; exact h) (g := (mkF m 19 #[.val (.ref x), .val (.ref y), .val (.ref y)] [])) rfl (hb hbytes d19)
    have hh7 := q7.trans hh5
    have c8 : Steps p.tables e below (s₁.setTop (entryFrame m #[.ref x, .ref y] 3)) (T7.setTop (mkF m 26 #[.val (.ref x), .val (.ref y), .val (.ref y)] [.ref x])) := (c6.trans (st7 _ (Steps.refl _))).trans (by
      refine XS.ifNo X7.here hexec rfl (hb hbytes d22) rfl (i0_eq_f hz) ?_
      refine XS.aloadN X7.here hexec rfl (hb hbytes d25) rfl rfl ?_
      exact Steps.refl _)
    obtain ⟨T9, X9, q9, st9⟩ := X7.hget hexec hown (wk W (.fieldLink "java/lang/String" 15 "java/lang/String" "coder" "B")) (hx.mv X7.warmed.alike hh7).2.2.1 (g := (mkF m 26 #[.val (.ref x), .val (.ref y), .val (.ref y)] [.ref x])) rfl (rest := []) rfl (hb hbytes d26)
    have hh9 := q9.trans hh7
    have c10 : Steps p.tables e below (s₁.setTop (entryFrame m #[.ref x, .ref y] 3)) (T9.setTop (mkF m 30 #[.val (.ref x), .val (.ref y), .val (.ref y)] [.ref y, .int cd])) := (c8.trans (st9 _ (Steps.refl _))).trans (by
      refine XS.aloadN X9.here hexec rfl (hb hbytes d29) rfl rfl ?_
      exact Steps.refl _)
    obtain ⟨T11, X11, q11, st11⟩ := X9.hget hexec hown (wk W (.fieldLink "java/lang/String" 15 "java/lang/String" "coder" "B")) (hy.mv X9.warmed.alike hh9).2.2.1 (g := (mkF m 30 #[.val (.ref x), .val (.ref y), .val (.ref y)] [.ref y, .int cd])) rfl (rest := [.int cd]) rfl (hb hbytes d30)
    have hh11 := q11.trans hh9
    have c12 : Steps p.tables e below (s₁.setTop (entryFrame m #[.ref x, .ref y] 3)) (T11.setTop (mkF m 33 #[.val (.ref x), .val (.ref y), .val (.ref y)] [.int cd', .int cd])) := c10.trans (st11 _ (Steps.refl _))
    by_cases hcd : cd = cd'
    · subst hcd
      have c13 : Steps p.tables e below (s₁.setTop (entryFrame m #[.ref x, .ref y] 3)) (T11.setTop (mkF m 37 #[.val (.ref x), .val (.ref y), .val (.ref y)] [.ref x])) := c12.trans (by
        refine XS.icmpNo X11.here hexec rfl (hb hbytes d33) rfl (ii_ne_f rfl) ?_
        refine XS.aloadN X11.here hexec rfl (hb hbytes d36) rfl rfl ?_
        exact Steps.refl _)
      obtain ⟨T14, X14, q14, st14⟩ := X11.hget hexec hown (wk W (.fieldLink "java/lang/String" 9 "java/lang/String" "value" "[B")) (hx.mv X11.warmed.alike hh11).2.1 (g := (mkF m 37 #[.val (.ref x), .val (.ref y), .val (.ref y)] [.ref x])) rfl (rest := []) rfl (hb hbytes d37)
      have hh14 := q14.trans hh11
      have c15 : Steps p.tables e below (s₁.setTop (entryFrame m #[.ref x, .ref y] 3)) (T14.setTop (mkF m 41 #[.val (.ref x), .val (.ref y), .val (.ref y)] [.ref y, .ref t])) := (c13.trans (st14 _ (Steps.refl _))).trans (by
        refine XS.aloadN X14.here hexec rfl (hb hbytes d40) rfl rfl ?_
        exact Steps.refl _)
      obtain ⟨T16, X16, q16, st16⟩ := X14.hget hexec hown (wk W (.fieldLink "java/lang/String" 9 "java/lang/String" "value" "[B")) (hy.mv X14.warmed.alike hh14).2.1 (g := (mkF m 41 #[.val (.ref x), .val (.ref y), .val (.ref y)] [.ref y, .ref t])) rfl (rest := [.ref t]) rfl (hb hbytes d41)
      have hh16 := q16.trans hh14
      have c17 : Steps p.tables e below (s₁.setTop (entryFrame m #[.ref x, .ref y] 3)) (T16.setTop (mkF m 44 #[.val (.ref x), .val (.ref y), .val (.ref y)] [.ref t', .ref t])) := c15.trans (st16 _ (Steps.refl _))
      obtain ⟨v18, T18, X18, E18, g18⟩ := X16.callS hexec (LEq.law l t V t' V') hown (wks W (staticW "java/lang/String" 541 LEq.yN)) (wk W LEq.tab) (W := 0) (Nat.le_of_ble_eq_true rfl) (Nat.le_of_ble_eq_true rfl) (Nat.le_refl _) (Nat.le_refl _) (g := (mkF m 44 #[.val (.ref x), .val (.ref y), .val (.ref y)] [.ref t', .ref t])) rfl (by rw [hml]; rfl) c17 (argsL := [.ref t, .ref t']) (rest := []) rfl rfl (by show 2 * 0 + 0 ≤ _; decide) (hb hbytes d44) (⟨rfl, hx.2.2.2.1.mv X16.warmed.alike hh16, hx.2.2.2.2.1.ty, hy.2.2.2.1.mv X16.warmed.alike hh16, hy.2.2.2.2.1.ty⟩)
      obtain ⟨v, rfl, q18, hv⟩ := E18
      have iff := Cod.eqv hx.2.2.2.2.1 hy.2.2.2.2.1 hx.2.2.2.2.2 hy.2.2.2.2.2
      rcases hv with ⟨rfl, he⟩ | ⟨rfl, he⟩
      · have c19 : Steps p.tables e below (s₁.setTop (entryFrame m #[.ref x, .ref y] 3)) (T18.setTop (mkF m 55 #[.val (.ref x), .val (.ref y), .val (.ref y)] [.int 1])) := Steps.trans g18 (by
          refine XS.ifNo X18.here hexec rfl (hb hbytes d47) rfl (i0_eq_f (by decide)) ?_
          refine iconstV X18.here hexec rfl 1 (hb hbytes d50) (by decide) ?_
          refine XS.goto X18.here hexec rfl (pc0 := 51) rfl (hb hbytes d51) (by decide) rfl ?_
          exact Steps.refl _)
        exact ⟨T18, some (.int 1), _, _, _, X18, rfl, rfl, rfl, (fun h => by cases h), ⟨1, rfl, q18.trans hh16, Or.inl ⟨rfl, iff.mp he⟩⟩, fun fs hl => c19.trans (X18.ireturnOut hexec hret rfl (Or.inr (Or.inl rfl)) (hb hbytes d55) hl)⟩
      · have c19 : Steps p.tables e below (s₁.setTop (entryFrame m #[.ref x, .ref y] 3)) (T18.setTop (mkF m 55 #[.val (.ref x), .val (.ref y), .val (.ref y)] [.int 0])) := Steps.trans g18 (by
          refine XS.ifYes X18.here hexec rfl (pc0 := 47) rfl (hb hbytes d47) rfl (i0_eq_t rfl) (by decide) rfl ?_
          refine iconstV X18.here hexec rfl 0 (hb hbytes d54) (by decide) ?_
          exact Steps.refl _)
        exact ⟨T18, some (.int 0), _, _, _, X18, rfl, rfl, rfl, (fun h => by cases h), ⟨0, rfl, q18.trans hh16, Or.inr ⟨rfl, fun q => he (iff.mpr q)⟩⟩, fun fs hl => c19.trans (X18.ireturnOut hexec hret rfl (Or.inr (Or.inl rfl)) (hb hbytes d55) hl)⟩
    · have c13 : Steps p.tables e below (s₁.setTop (entryFrame m #[.ref x, .ref y] 3)) (T11.setTop (mkF m 55 #[.val (.ref x), .val (.ref y), .val (.ref y)] [.int 0])) := c12.trans (by
        refine XS.icmpYes X11.here hexec rfl (pc0 := 33) rfl (hb hbytes d33) rfl (ii_ne_t hcd) (by decide) rfl ?_
        refine iconstV X11.here hexec rfl 0 (hb hbytes d54) (by decide) ?_
        exact Steps.refl _)
      exact ⟨T11, some (.int 0), _, _, _, X11, rfl, rfl, rfl, (fun h => by cases h), ⟨0, rfl, hh11, Or.inr ⟨rfl, Cod.dif hx.2.2.2.2.1 hy.2.2.2.2.1 hcd⟩⟩, fun fs hl => c13.trans (X11.ireturnOut hexec hret rfl (Or.inr (Or.inl rfl)) (hb hbytes d55) hl)⟩
theorem pays {l : Launch} {R : Room} {p : Program} {e : Env} {below : List Frame} {s : State} {sargs : Array Value} {len W : Nat} (x t : Addr) (V : Cell) (cd : Int32) (n : Nat) (f : Nat → Int32) (y t' : Addr) (V' : Cell) (cd' : Int32) (k : Nat) (g : Nat → Int32) (z : Int32) (htab : tab.before sargs s = true) (hfr : 2 ≤ R.frames) (hlo : W + 28 ≤ R.locals) :
    Back l R p e below s sargs yN len W (fun A₁ a₁ => A₁.cells + 0 ≤ R.cells ∧ A₁.slots + 0 ≤ R.slots ∧ P x t V cd n f y t' V' cd' k g z a₁ A₁.U) (fun A₁ _ v₁ B₁ => Says01 (SameT n f k g) v₁ A₁.U B₁.U ∧ B₁.locs = A₁.locs ++ [] ∧ B₁.cells = A₁.cells + 0 ∧ B₁.slots = A₁.slots + 0) :=
  (law l x t V cd n f y t' V' cd' k g z).pays htab hfr (by omega)
end SEq
end StrChars
namespace StrChars.Road
open Jvm Sem ClassFile Op Lib Jvm.Stand Jvm.Free Jvm.Free.XT
open Jvm.Lib.Cold (StaticIs)
/-- the words of String.equals(Object) -/
abbrev wordsEq : List Jvm.Cond := [.code SEq.yN SEq.yB 3 (some .boolean), .initialized ST, .classLink ST 10 ST, .fieldLink ST 38 ST "COMPACT_STRINGS" "Z", .fieldLink ST 15 ST "coder" "B", .fieldLink ST 9 ST "value" "[B", .methodLink ST 541 LEq.yN, .static LEq.yN, .code LEq.yN LEq.yB 3 (some .boolean), .initialized "java/lang/StringLatin1"]
theorem tabEq_of {a : Array Value} {s : State} (h : ∀ w ∈ wordsEq, w.before a s = true) : SEq.tab.before a s = true := by
  have hl : LEq.tab.before a s = true := unparts (wk h (.code LEq.yN LEq.yB 3 (some .boolean))) (wks h (.initialized LEq.yN.cls :: LEq.site))
  have q := consq hl h
  exact unparts (wk q (.code SEq.yN SEq.yB 3 (some .boolean))) (wks q (.initialized SEq.yN.cls :: SEq.site))
theorem movedEq {Z s : State} {a0 args : Array Value} (hZ : Z.Warmed39 s.vm) (hw : ∀ d ∈ wordsEq, d.before a0 Z = true) : ∀ d ∈ wordsEq, d.before args s = true := fun d hd => by
  have t : ∀ d ∈ wordsEq, (d.onTables && d.keepsFace) = true := by decide +kernel
  exact RoadKit.mv hZ (hw d hd) (t d hd)
/-- the road's facts of a String, as the laws ask it -/
theorem txt_of {Z U : State} {a0 : Array Value} {kI : Nat} (wi : (Jvm.Cond.instantiable ST kI).before a0 Z = true) (al : Z.vm.Alike U.vm) {x t : Addr} {kb : ClassId} {cs : List Int32} {cd N2 : Int32} {vs : List Value} (E : RoadKit.Exa Z U.heap x ST) (V : RoadKit.Fld Z U.heap x ST "value" "[B" (.ref t)) (C : RoadKit.Fld Z U.heap x ST "coder" "B" (.int cd)) (K : RoadKit.Arv Z U.heap t kb .byte N2 vs (.int 0)) (hc : CodA cs cd N2 vs) (hb : ∀ c ∈ cs, ¬ c < 0 ∧ ¬ (65535 : Int32) < c) (l2 : cs.length ≤ 4000) :
    ∃ A, Txt x t A cd cs.length (fun j => cs.getD j 0) U := by
  obtain ⟨A, K1, K2, K3, K4, K5, K6⟩ := K
  have hcod := hc.cod (by omega) K3 K5
  obtain ⟨D, fV, fC, hB, F1, F2, g1, g2, -, -⟩ := strObj wi al E V C
  exact ⟨A, ⟨_, hB.2.2.1, D, hB.1, rfl, by cases q : D.vm <;> first | rfl | exact absurd q (hB.2.1.2 _)⟩, Has.of hB F1 g1, Has.of hB F2 g2, ⟨K1.1, State.isArrayOf_alike al K1.2.1, K1.2.2, by rcases hcod with ⟨-, q, -⟩ | ⟨-, q, -⟩ <;> omega⟩, hcod, fun j hj => by
    have e : cs.getD j 0 = cs[j] := by simp [List.getD_eq_getElem?_getD, hj]
    show ¬ cs.getD j 0 < 0 ∧ ¬ 65535 < cs.getD j 0
    rw [e]; exact hb _ (List.getElem_mem _)⟩
theorem same_list (cs ds : List Int32) : SameT cs.length (fun j => cs.getD j 0) ds.length (fun j => ds.getD j 0) ↔ cs = ds := by
  constructor
  · rintro ⟨e, q⟩
    refine List.ext_getElem e fun j h1 h2 => ?_
    have := q j h1
    simpa [List.getD_eq_getElem?_getD, h1, h2] using this
  · rintro rfl
    exact ⟨rfl, fun _ _ => rfl⟩
/-- **equals(Object) OF TWO SUCH STRINGS**: 1 just where the chars are the same -/
theorem eqW {p : Program} {l : Launch} {e : Env} {R : Room} {s : State} {args : Array Value} {below : List Frame} {len W : Nat} {Z : State} {a0 : Array Value} {h : Heap} (hZ : Z.Warmed39 s.vm) (hw : ∀ d ∈ wordsEq, d.before a0 Z = true) {kI : Nat} (wi : (Jvm.Cond.instantiable ST kI).before a0 Z = true)
    {x t : Addr} {kb : ClassId} {cs : List Int32} {cd N2 : Int32} {vs : List Value} (E : RoadKit.Exa Z h x ST) (V : RoadKit.Fld Z h x ST "value" "[B" (.ref t)) (C : RoadKit.Fld Z h x ST "coder" "B" (.int cd)) (K : RoadKit.Arv Z h t kb .byte N2 vs (.int 0)) (hc : CodA cs cd N2 vs) (hb : ∀ c ∈ cs, ¬ c < 0 ∧ ¬ (65535 : Int32) < c) (l2 : cs.length ≤ 4000)
    {y t' : Addr} {kb' : ClassId} {ds : List Int32} {cd' N2' : Int32} {vs' : List Value} (E' : RoadKit.Exa Z h y ST) (V' : RoadKit.Fld Z h y ST "value" "[B" (.ref t')) (C' : RoadKit.Fld Z h y ST "coder" "B" (.int cd')) (K' : RoadKit.Arv Z h t' kb' .byte N2' vs' (.int 0)) (hc' : CodA ds cd' N2' vs') (hb' : ∀ c ∈ ds, ¬ c < 0 ∧ ¬ (65535 : Int32) < c) (l2' : ds.length ≤ 4000)
    {z : Int32} (S : RoadKit.Sta Z h ST "COMPACT_STRINGS" "Z" (.int z)) (hz : ¬ z = 0) (hfr : 2 ≤ R.frames) (hlo : W + 28 ≤ R.locals) :
    Back l R p e below s args (⟨"java/lang/String", "equals", "(Ljava/lang/Object;)Z"⟩ : MethodName) len W (fun P a => a = #[.ref x, .ref y] ∧ P.U.heap = h ∧ P.cells + 0 ≤ R.cells ∧ P.slots + 0 ≤ R.slots)
      (fun P _ v B => ∃ L, (((v = some (.int 1) ∧ cs = ds) ∨ (v = some (.int 0) ∧ ¬ cs = ds)) ∧ L = [] ∧ B.U.heap = h) ∧ B.locs = P.locs ++ L ∧ B.cells = P.cells + 0 ∧ B.slots = P.slots + 0) := by
  intro m meth c P g ig mk a X hg hsize hdg hW hn hp'
  obtain ⟨rfl, rfl, r1, r2⟩ := hp'
  have al : Z.vm.Alike P.U.vm := hZ.alike.trans X.warmed.alike
  obtain ⟨A, hx⟩ := txt_of wi al E V C K hc hb l2
  obtain ⟨A', hy⟩ := txt_of wi al E' V' C' K' hc' hb' l2'
  obtain ⟨v, B, X', ⟨⟨w, hv, hh, hq⟩, hl, hk, hs⟩, st⟩ := SEq.pays x t A cd cs.length (fun j => cs.getD j 0) y t' A' cd' ds.length (fun j => ds.getD j 0) z (tabEq_of (movedEq hZ hw)) hfr hlo m meth c P g ig mk _ X hg hsize hdg hW hn ⟨r1, r2, rfl, hx, hy, sta_is al S, hz⟩
  refine ⟨v, B, X', ⟨[], ⟨?_, rfl, hh⟩, hl, hk, hs⟩, st⟩
  rcases hq with ⟨rfl, q⟩ | ⟨rfl, q⟩
  · exact Or.inl ⟨hv, (same_list cs ds).mp q⟩
  · exact Or.inr ⟨hv, fun e => q ((same_list cs ds).mpr e)⟩
end StrChars.Road
end Jvm.Pilot.@@N@@

namespace Jvm.Pilot.@@N@@
namespace Own
open Jvm Jvm.ClassFile Sem Op Lib Jvm.Free Jvm.Stand Jvm.LawKit Jvm.RoadKit Bundle
section StrB
variable {p : Program} {l : Launch} {e : Env} {R : Room} {s : State} {args : Array Value} {below : List Frame} {W : Nat} {Z : State} {a0 : Array Value} {h : Heap} {z : Int32} {kI n0 : Nat}
def QPure (w : Value) (h : Heap) (n0 : Nat) (v : Option Value) (h' : Heap) (L : List Loc) : Prop := v = some w ∧ Fr n0 L ∧ h' = h
def QNew (Z : State) (x : Addr) (cs : List Int32) (h : Heap) (n0 : Nat) (v : Option Value) (h' : Heap) (L : List Loc) : Prop := v = none ∧ Fr n0 L ∧ Keep h h' [x] ∧ Str Z h' x cs
theorem newB (hZ : Z.Warmed39 s.vm) (hw : ∀ d ∈ StrChars.Road.words, d.before a0 Z = true) (wi : (Jvm.Cond.instantiable "java/lang/String" kI).before a0 Z = true) {x b : Addr} {kC : ClassId} {cs : List Int32} {d v0 c0 : Value} {N : Int32} {n : Nat} (hx0 : n0 ≤ x) (hh0 : n0 ≤ h.size) (E : Exa Z h x "java/lang/String") (V : Fld Z h x "java/lang/String" "value" "[B" v0) (C : Fld Z h x "java/lang/String" "coder" "B" c0) (K : Arv Z h b kC .char N (cs.map Value.int) d) (S : Sta Z h "java/lang/String" "COMPACT_STRINGS" "Z" (.int z)) (hz : ¬ z = 0)
    (hn : cs.length = n) (hN : N = Int32.ofNat n) (l0 : 0 < n) (l2 : n ≤ 4000) (hp : ∀ c ∈ cs, ¬ c < 0 ∧ ¬ (255 : Int32) < c) (hfr : 4 ≤ R.frames) (hlo : W + 65 ≤ R.locals) :
    Back l R p e below s args (⟨"java/lang/String", "<init>", "([C)V"⟩ : MethodName) 3 W (fun A a => a = #[.ref x, .ref b] ∧ A.U.heap = h ∧ A.cells + 1 ≤ R.cells ∧ A.slots + n ≤ R.slots)
      (fun A _ v B => ∃ L, QNew Z x cs h n0 v B.U.heap L ∧ B.locs = A.locs ++ L ∧ B.cells = A.cells + 1 ∧ B.slots = A.slots + n) := by
  subst hn hN
  refine Back.mono (StrChars.Road.backV hZ hw wi (cs := cs) (n0 := n0) hx0 hh0 E V C K S hz rfl rfl l0 l2 hp rfl hfr hlo) (fun _ _ q => q) (fun P a v B _ hq => ?_)
  obtain ⟨L, ⟨q1, q2, q3, q4, q5, t, kb, -, -, -, q6, q7⟩, r⟩ := hq
  exact ⟨L, ⟨q1, q2, q3, ⟨t, kb, q4, q6, q5, q7⟩, hp, l2⟩, r⟩
theorem Str.cod {cs : List Int32} (hb : ∀ c ∈ cs, ¬ c < 0 ∧ ¬ (255 : Int32) < c) : StrChars.Road.CodA cs 0 (Int32.ofNat cs.length) ((cs.map fun c => c.toInt8.toInt32).map Value.int) := Or.inl ⟨rfl, rfl, by rw [List.map_map]; rfl, fun c hc => (hb c hc).2⟩
theorem eqB (hZ : Z.Warmed39 s.vm) (hw : ∀ d ∈ StrChars.Road.wordsEq, d.before a0 Z = true) (wi : (Jvm.Cond.instantiable "java/lang/String" kI).before a0 Z = true) {x y : Addr} {cs ds : List Int32} (X : Str Z h x cs) (Y : Str Z h y ds) (S : Sta Z h "java/lang/String" "COMPACT_STRINGS" "Z" (.int z)) (hz : ¬ z = 0) (hfr : 2 ≤ R.frames) (hlo : W + 28 ≤ R.locals) :
    Back l R p e below s args (⟨"java/lang/String", "equals", "(Ljava/lang/Object;)Z"⟩ : MethodName) 3 W (fun A a => a = #[.ref x, .ref y] ∧ A.U.heap = h ∧ A.cells + 0 ≤ R.cells ∧ A.slots + 0 ≤ R.slots)
      (fun A _ v B => ∃ L, QPure (.int (if cs = ds then 1 else 0)) h n0 v B.U.heap L ∧ B.locs = A.locs ++ L ∧ B.cells = A.cells + 0 ∧ B.slots = A.slots + 0) := by
  have up := X.up
  have up' := Y.up
  obtain ⟨⟨t, kb, x1, x2, x3, x4⟩, hp, hl⟩ := X
  obtain ⟨⟨t', kb', y1, y2, y3, y4⟩, hp', hl'⟩ := Y
  refine Back.mono (StrChars.Road.eqW hZ hw wi x1 x2 x3 x4 (Str.cod hp) up hl y1 y2 y3 y4 (Str.cod hp') up' hl' S hz hfr hlo) (fun _ _ q => q) (fun P a v B _ hq => ?_)
  obtain ⟨L, ⟨q1, q2, q3⟩, r⟩ := hq
  refine ⟨L, ⟨?_, by subst q2; exact Fr.nil _, q3⟩, r⟩
  rcases q1 with ⟨q, g⟩ | ⟨q, g⟩
  · rw [q, if_pos g]
  · rw [q, if_neg g]
end StrB
end Own
end Jvm.Pilot.@@N@@
namespace Jvm.Pilot.@@N@@
namespace Own
open Jvm Jvm.ClassFile Sem Op Lib Jvm.Free Jvm.Stand Jvm.LawKit Jvm.RoadKit Bundle
section Nar
variable {s : State} {args : Array Value} {t u : Term}
theorem eq_int {k : Int32} (h : (Jvm.Cond.eq t (.int k)).value args s none s [] = some true) : t.eval args s none [] s = some (.int k) := by
  obtain ⟨x, y, e1, e2, k1, k2⟩ := cmp_v (Or.inl h)
  have ey : y = .int k := Option.some.inj (e2.symm.trans (Term.int_eval k))
  subst ey
  obtain ⟨z, rfl⟩ := k2
  rw [e1, gotT (Cond.eq_ints e1 (Term.int_eval k)) h]
theorem eq_ref {a : Addr} (h : (Jvm.Cond.eq t u).value args s none s [] = some true) (hu : u.eval args s none [] s = some (.ref a)) : t.eval args s none [] s = some (.ref a) := by
  obtain ⟨x, y, e1, e2, k1, k2⟩ := cmp_v (Or.inl h)
  have ey : y = .ref a := Option.some.inj (e2.symm.trans hu)
  subst ey
  have q : x = .ref a := gotT (eq_R e1 hu k2.2 rfl) h
  rw [e1, q]
theorem small {x : Addr} {cl : Cell} {n : Int32} (h : (Term.length t).eval args s none [] s = some (.int n)) (ht : t.eval args s none [] s = some (.ref x)) (hc : s.heap[x]? = some cl) : cl.slots.size < 2 ^ 31 ∧ cl.slots.size.toInt32 = n := by
  obtain ⟨a, c, e1, e2, e3⟩ := Term.length_spec h
  cases ht.symm.trans e1
  have e4 : s.heap[x]? = some c := by
    revert e2
    simp only [State.arrayAt?]
    cases hq : s.heap[x]? with
    | none => simp
    | some d =>
      intro w
      simp at w
      obtain ⟨k, -, w⟩ := Option.bind_eq_some_iff.mp w
      split at w
      · cases w
      · split at w
        · exact w
        · cases w
  cases hc.symm.trans e4
  refine ⟨?_, (Value.int.inj e3).symm⟩
  simp only [Term.eval, ht, Option.bind_eq_bind, Option.bind_some, e2] at h
  by_cases q : cl.slots.size < 2 ^ 31
  · exact q
  · simp [q] at h
theorem elem_is {x : Addr} {cl : Cell} {i v : Int32} (h : (Jvm.Cond.eq (.elem t (.int i)) (.int v)).value args s none s [] = some true) (ht : t.eval args s none [] s = some (.ref x)) (hc : s.heap[x]? = some cl) : cl.slots[i.toNatClampNeg]? = some (.int v) := (elem_in (eq_int h) ht (Term.int_eval i) hc).2
/-- a String that the sheet describes: its chars, by its bytes -/
theorem strStart {cs bs : List Int32} {n : Int32} (hf : Fit s) (h1 : (Jvm.Cond.exactly t "java/lang/String").value args s none s [] = some true) (h2 : (Jvm.Cond.eq (.field t "java/lang/String" "coder" "B") (.int 0)).value args s none s [] = some true)
    (h3 : (Jvm.Cond.arrayOf (.field t "java/lang/String" "value" "[B") .byte).value args s none s [] = some true) (h4 : (Jvm.Cond.eq (.length (.field t "java/lang/String" "value" "[B")) (.int n)).value args s none s [] = some true)
    (hn : n = Int32.ofNat cs.length) (hl : cs.length ≤ 4000) (hp : ∀ c ∈ cs, ¬ c < 0 ∧ ¬ (255 : Int32) < c) (hb : (cs.map fun c => c.toInt8.toInt32) = bs) (hz : ¬ n < 0) (hz2 : n.toNatClampNeg = (bs.map Value.int).length)
    (he : ∀ x cl, (Term.field t "java/lang/String" "value" "[B").eval args s none [] s = some (.ref x) → s.heap[x]? = some cl → HasL cl 0 (bs.map Value.int)) : ∃ a, t.eval args s none [] s = some (.ref a) ∧ Str s s.heap a cs := by
  obtain ⟨a, ea⟩ := exa_v h1
  obtain ⟨b, eb⟩ := arr_v h3
  obtain ⟨cl, A⟩ := Arr.start eb h3
  obtain ⟨q1, q2⟩ := small (eq_int h4) eb A.1
  have c0 := eq_int h2
  rw [fld_at ea] at c0
  have v0 := eb
  rw [fld_at ea] at v0
  refine ⟨a, ea, ⟨b, cl.cls, Exa.start ea h1, Fld.start v0, Fld.start c0, ?_⟩, hp, hl⟩
  rw [hb, ← hn]
  exact Arv.start hf A q1 q2 hz hz2 (he b cl eb A.1)
end Nar
end Own
end Jvm.Pilot.@@N@@
namespace Jvm.Pilot.@@N@@
open Jvm Jvm.ClassFile Sem Op Lib Jvm.Free Jvm.Stand Jvm.LawKit Jvm.RoadKit Bundle Jvm.Pilot.@@N@@.Jvm.D
set_option maxRecDepth 65536 in
theorem sub_backV : ∀ d ∈ StrChars.Road.words, d ∈ tables_1 := by
  intro d hd
  have h : StrChars.Road.words.all (fun d => tables_1.contains d) = true := by decide +kernel
  exact List.contains_iff_mem.mp (List.all_eq_true.mp h d hd)
set_option maxRecDepth 65536 in
theorem sub_eqW : ∀ d ∈ StrChars.Road.wordsEq, d ∈ tables_1 := by
  intro d hd
  have h : StrChars.Road.wordsEq.all (fun d => tables_1.contains d) = true := by decide +kernel
  exact List.contains_iff_mem.mp (List.all_eq_true.mp h d hd)

abbrev tx0 : List Int32 := [116, 105, 109, 101, 115, 116, 97, 109, 112, 101, 100]
abbrev tx1 : List Int32 := [115, 116, 97, 110, 100, 97, 114, 100, 45, 119, 101, 98, 104, 111, 111, 107, 115]
def EN (Z : State) (h : Heap) (ae0 : Addr) (ae1 : Addr) (se0 : Addr) (se1 : Addr) (av : Addr) (kv : ClassId) : Prop := Sta Z h "com/example/hookwright/hookwright/signing/SigningProfile" "TIMESTAMPED" "Lcom/example/hookwright/hookwright/signing/SigningProfile;" (.ref ae0) ∧ Sta Z h "com/example/hookwright/hookwright/signing/SigningProfile" "STANDARD_WEBHOOKS" "Lcom/example/hookwright/hookwright/signing/SigningProfile;" (.ref ae1) ∧ Sta Z h "com/example/hookwright/hookwright/signing/SigningProfile" "$VALUES" "[Lcom/example/hookwright/hookwright/signing/SigningProfile;" (.ref av) ∧ Exa Z h ae0 "com/example/hookwright/hookwright/signing/SigningProfile$1" ∧ Exa Z h ae1 "com/example/hookwright/hookwright/signing/SigningProfile$2" ∧ Exa Z h av "[Lcom/example/hookwright/hookwright/signing/SigningProfile;" ∧ Arv Z h av kv (.object "com/example/hookwright/hookwright/signing/SigningProfile") 2 [.ref ae0, .ref ae1] .null ∧ Fld Z h ae0 "com/example/hookwright/hookwright/signing/SigningProfile" "label" "Ljava/lang/String;" (.ref se0) ∧ Fld Z h ae1 "com/example/hookwright/hookwright/signing/SigningProfile" "label" "Ljava/lang/String;" (.ref se1) ∧ Own.Str Z h se0 tx0 ∧ Own.Str Z h se1 tx1
theorem EN.ext {Z : State} {h h' : Heap} {ae0 : Addr} {ae1 : Addr} {se0 : Addr} {se1 : Addr} {av : Addr} {kv : ClassId} (X : EN Z h ae0 ae1 se0 se1 av kv) (E : Ext h h') : EN Z h' ae0 ae1 se0 se1 av kv := by
  obtain ⟨xe0, xe1, xe2, xe3, xe4, xe5, xe6, xe7, xe8, xe9, xe10⟩ := X
  exact ⟨xe0.ext E, xe1.ext E, xe2.ext E, xe3.ext E, xe4.ext E, xe5.ext E, xe6.ext E, xe7.ext E, xe8.ext E, xe9.ext E, xe10.ext E⟩

theorem d8_0 : decode prog_35_method_1_code 0 = .ok (.getstatic 10, 3) := by decide +kernel
theorem d8_3 : decode prog_35_method_1_code 3 = .ok (.invokevirtual 14, 3) := by decide +kernel
theorem d8_6 : decode prog_35_method_1_code 6 = .ok (.checkcast 15, 3) := by decide +kernel
theorem d8_9 : decode prog_35_method_1_code 9 = .ok (.areturn, 1) := by decide +kernel
theorem pn_8 : plainName "com/example/hookwright/hookwright/signing/SigningProfile" = true := by first | (simp [plainName, overriddenIn]; done) | decide +kernel
def QrmValues (Z : State) (ae0 : Addr) (ae1 : Addr) (se0 : Addr) (se1 : Addr) (av : Addr) (kv : ClassId) (h0 : Heap) (n0 : Nat) (v : Option Value) (h : Heap) (L : List Loc) : Prop := ∃ r kc, v = some (.ref r) ∧ Fr n0 L ∧ Ext h0 h ∧ h0.size ≤ r ∧ Arv Z h r kc (.object "com/example/hookwright/hookwright/signing/SigningProfile") 2 [.ref ae0, .ref ae1] .null
set_option maxRecDepth 65536 in
set_option maxHeartbeats 40000000 in
theorem rmValues (l : Launch) (Z : State) (a0 : Array Value) (hw : ∀ d ∈ tables_1, d.before a0 Z = true) (ws : List Jvm.Cond) (ae0 : Addr) (ae1 : Addr) (se0 : Addr) (se1 : Addr) (av : Addr) (kv : ClassId) (h0 : Heap) (n0 : Nat) (Z0 : n0 ≤ h0.size) (en : EN Z h0 ae0 ae1 se0 se1 av kv) :
    MetFree l (⟨"com/example/hookwright/hookwright/signing/SigningProfile", "values", "()[Lcom/example/hookwright/hookwright/signing/SigningProfile;"⟩ : MethodName) (head1 (Jvm.Cond.code (⟨"com/example/hookwright/hookwright/signing/SigningProfile", "values", "()[Lcom/example/hookwright/hookwright/signing/SigningProfile;"⟩ : MethodName) prog_35_method_1_code 0 (some (.array (.object "com/example/hookwright/hookwright/signing/SigningProfile"))) :: ws) ({ frames := 1, cells := 1, slots := 2, locals := 14 } : Room)) (fun a U => a = #[] ∧ Z.Warmed39 U.vm ∧ U.heap = h0) (fun _ _ _ _ _ => True) (fun _ U o U' => ∃ v L, o = .returned v ∧ QrmValues Z ae0 ae1 se0 se1 av kv h0 n0 v U'.heap L ∧ FrameEnd U o U' L ({ frames := 1, cells := 1, slots := 2, locals := 14 } : Room).cells ({ frames := 1, cells := 1, slots := 2, locals := 14 } : Room).slots) := by
  refine MetFree.of_bodySF (plainFor_of_name pn_8) hisR ?_
  intro p e s m args below meth c s₁ Bd hml0 hP hK
  obtain ⟨rfl, hZ, hh⟩ := hP
  have hml : c.maxLocals = 0 := hml0
  have hlk : meth.locks = false := Bd.notSynchronized
  have hret := Bd.returns
  have hnm := (name_of_methodNamed Bd.named Bd.method).1
  have P0 : Own.Wk Z "com/example/hookwright/hookwright/signing/SigningProfile" prog_35_method_1_code h0 p l e ({ frames := 1, cells := 1, slots := 2, locals := 14 } : Room) s m #[] below meth c s₁ [] 0 0 := ⟨Stand.of_body Bd, Bd.exec, Bd.bytes, hZ, findClass_of_methodNamed Bd.named, by rw [← hh, Bd.state]; rfl⟩
  have N0 := Fr.nil n0
  show Own.Goes p.tables e below (fun s₂ o => ∃ v L, o = .returned v ∧ QrmValues Z ae0 ae1 se0 se1 av kv h0 n0 v s₂.heap L ∧ FrameEnd s o s₂ L ({ frames := 1, cells := 1, slots := 2, locals := 14 } : Room).cells ({ frames := 1, cells := 1, slots := 2, locals := 14 } : Room).slots) (s₁.setTop (entryFrame m #[] 0))
  rw [show entryFrame m #[] 0 = mkF m 0 #[] [] from by first | rfl | (simp [entryFrame, mkF, argsToLocals, Value.category]; done)]
  obtain ⟨xe0, xe1, xe2, xe3, xe4, xe5, xe6, xe7, xe8, xe9, xe10⟩ := id en
  refine Own.getstatic (q := 3) P0 d8_0 (hw _ (List.mem_of_getElem? (i := 39) rfl)) xe2 rfl ?_
  intro T21 P21
  refine Own.cloneArr (q := 6) (W := 0) (cap := 2) P21 d8_3 (hw _ (List.mem_of_getElem? (i := 41) rfl)) (hw _ (List.mem_of_getElem? (i := 42) rfl)) (hw _ (List.mem_of_getElem? (i := 46) rfl)) (hw _ (List.mem_of_getElem? (i := 44) rfl)) (hw _ (List.mem_of_getElem? (i := 45) rfl)) (hw _ (List.mem_of_getElem? (i := 47) rfl)) xe6 xe5 (by rw [hml]; rfl) (by decide) (by show 2 * 0 + _ ≤ _; exact Nat.le_of_eq rfl) (by decide) (by decide) (by decide) (by decide) rfl ?_
  intro T22 h22 r22 ha22 P22 E22 A22 B22
  refine Own.castTo (q := 9) P22 d8_6 (hw _ (List.mem_of_getElem? (i := 49) rfl)) (Ins.self B22) rfl ?_
  intro T23 P23
  have E0_1_24 : Ext h0 h22 := E22
  refine Own.retA (Q := QrmValues Z ae0 ae1 se0 se1 av kv h0 n0) P23 d8_9 hret rfl rfl rfl hlk (by decide) (by decide) ?_
  exact ⟨_, _, rfl, N0, E0_1_24, (Nat.le_of_eq ha22.symm), A22⟩
theorem d7_0 : decode prog_35_method_4_code 0 = .ok (.invokestatic 46, 3) := by decide +kernel
theorem d7_3 : decode prog_35_method_4_code 3 = .ok (.astore_n 1, 1) := by decide +kernel
theorem d7_4 : decode prog_35_method_4_code 4 = .ok (.aload_n 1, 1) := by decide +kernel
theorem d7_5 : decode prog_35_method_4_code 5 = .ok (.arraylength, 1) := by decide +kernel
theorem d7_6 : decode prog_35_method_4_code 6 = .ok (.istore_n 2, 1) := by decide +kernel
theorem d7_7 : decode prog_35_method_4_code 7 = .ok (.iconst 0, 1) := by decide +kernel
theorem d7_8 : decode prog_35_method_4_code 8 = .ok (.istore_n 3, 1) := by decide +kernel
theorem d7_9 : decode prog_35_method_4_code 9 = .ok (.iload_n 3, 1) := by decide +kernel
theorem d7_10 : decode prog_35_method_4_code 10 = .ok (.iload_n 2, 1) := by decide +kernel
theorem d7_11 : decode prog_35_method_4_code 11 = .ok (.if_icmp .ge 29, 3) := by decide +kernel
theorem d7_14 : decode prog_35_method_4_code 14 = .ok (.aload_n 1, 1) := by decide +kernel
theorem d7_15 : decode prog_35_method_4_code 15 = .ok (.iload_n 3, 1) := by decide +kernel
theorem d7_16 : decode prog_35_method_4_code 16 = .ok (.aaload, 1) := by decide +kernel
theorem d7_17 : decode prog_35_method_4_code 17 = .ok (.astore 4, 2) := by decide +kernel
theorem d7_19 : decode prog_35_method_4_code 19 = .ok (.aload 4, 2) := by decide +kernel
theorem d7_21 : decode prog_35_method_4_code 21 = .ok (.getfield 29, 3) := by decide +kernel
theorem d7_24 : decode prog_35_method_4_code 24 = .ok (.aload_n 0, 1) := by decide +kernel
theorem d7_25 : decode prog_35_method_4_code 25 = .ok (.invokevirtual 50, 3) := by decide +kernel
theorem d7_28 : decode prog_35_method_4_code 28 = .ok (.ifCond .eq 6, 3) := by decide +kernel
theorem d7_31 : decode prog_35_method_4_code 31 = .ok (.aload 4, 2) := by decide +kernel
theorem d7_33 : decode prog_35_method_4_code 33 = .ok (.areturn, 1) := by decide +kernel
theorem d7_34 : decode prog_35_method_4_code 34 = .ok (.iinc 3 1, 3) := by decide +kernel
theorem d7_37 : decode prog_35_method_4_code 37 = .ok (.goto (-28), 3) := by decide +kernel
theorem d7_40 : decode prog_35_method_4_code 40 = .ok (.new 56, 3) := by decide +kernel
theorem d7_43 : decode prog_35_method_4_code 43 = .ok (.dup, 1) := by decide +kernel
theorem d7_44 : decode prog_35_method_4_code 44 = .ok (.ldc 58, 2) := by decide +kernel
theorem d7_46 : decode prog_35_method_4_code 46 = .ok (.invokestatic 46, 3) := by decide +kernel
theorem d7_49 : decode prog_35_method_4_code 49 = .ok (.invokestatic 60, 3) := by decide +kernel
theorem d7_52 : decode prog_35_method_4_code 52 = .ok (.invokedynamic 66, 5) := by decide +kernel
theorem d7_57 : decode prog_35_method_4_code 57 = .ok (.invokeinterface 70 2, 5) := by decide +kernel
theorem d7_62 : decode prog_35_method_4_code 62 = .ok (.invokeinterface 76 1, 5) := by decide +kernel
theorem d7_67 : decode prog_35_method_4_code 67 = .ok (.invokestatic 80, 3) := by decide +kernel
theorem d7_70 : decode prog_35_method_4_code 70 = .ok (.invokedynamic 84, 5) := by decide +kernel
theorem d7_75 : decode prog_35_method_4_code 75 = .ok (.invokespecial 88, 3) := by decide +kernel
theorem d7_78 : decode prog_35_method_4_code 78 = .ok (.athrow, 1) := by decide +kernel
theorem pn_7 : plainName "com/example/hookwright/hookwright/signing/SigningProfile" = true := by first | (simp [plainName, overriddenIn]; done) | decide +kernel
def QrmOf (Z : State) (a1 : Addr) (cs : List Int32) (r : Addr) (zc : Int32) (ae0 : Addr) (ae1 : Addr) (se0 : Addr) (se1 : Addr) (av : Addr) (kv : ClassId) (h0 : Heap) (n0 : Nat) (v : Option Value) (h : Heap) (L : List Loc) : Prop := v = some (.ref r) ∧ Fr n0 L ∧ Ext h0 h
set_option maxRecDepth 65536 in
set_option maxHeartbeats 40000000 in
theorem rmOf (l : Launch) (Z : State) (a0 : Array Value) (hw : ∀ d ∈ tables_1, d.before a0 Z = true) (ws : List Jvm.Cond) (a1 : Addr) (cs : List Int32) (r : Addr) (zc : Int32) (ae0 : Addr) (ae1 : Addr) (se0 : Addr) (se1 : Addr) (av : Addr) (kv : ClassId) (h0 : Heap) (n0 : Nat) (Z0 : n0 ≤ h0.size) (SC : Sta Z h0 "java/lang/String" "COMPACT_STRINGS" "Z" (.int zc)) (hzc : ¬ zc = 0) (en : EN Z h0 ae0 ae1 se0 se1 av kv) (S1 : Own.Str Z h0 a1 cs) (hr : (cs = tx0 ∧ r = ae0) ∨ (cs = tx1 ∧ r = ae1)) :
    MetFree l (⟨"com/example/hookwright/hookwright/signing/SigningProfile", "ofLabel", "(Ljava/lang/String;)Lcom/example/hookwright/hookwright/signing/SigningProfile;"⟩ : MethodName) (head1 (Jvm.Cond.code (⟨"com/example/hookwright/hookwright/signing/SigningProfile", "ofLabel", "(Ljava/lang/String;)Lcom/example/hookwright/hookwright/signing/SigningProfile;"⟩ : MethodName) prog_35_method_4_code 5 (some (.object "com/example/hookwright/hookwright/signing/SigningProfile")) :: ws) ({ frames := 3, cells := 1, slots := 2, locals := 60 } : Room)) (fun a U => a = #[(.ref a1)] ∧ Z.Warmed39 U.vm ∧ U.heap = h0) (fun _ _ _ _ _ => True) (fun _ U o U' => ∃ v L, o = .returned v ∧ QrmOf Z a1 cs r zc ae0 ae1 se0 se1 av kv h0 n0 v U'.heap L ∧ FrameEnd U o U' L ({ frames := 3, cells := 1, slots := 2, locals := 60 } : Room).cells ({ frames := 3, cells := 1, slots := 2, locals := 60 } : Room).slots) := by
  refine MetFree.of_bodySF (plainFor_of_name pn_7) hisR ?_
  intro p e s m args below meth c s₁ Bd hml0 hP hK
  obtain ⟨rfl, hZ, hh⟩ := hP
  have hml : c.maxLocals = 5 := hml0
  have hlk : meth.locks = false := Bd.notSynchronized
  have hret := Bd.returns
  have hnm := (name_of_methodNamed Bd.named Bd.method).1
  have P0 : Own.Wk Z "com/example/hookwright/hookwright/signing/SigningProfile" prog_35_method_4_code h0 p l e ({ frames := 3, cells := 1, slots := 2, locals := 60 } : Room) s m #[(.ref a1)] below meth c s₁ [] 0 0 := ⟨Stand.of_body Bd, Bd.exec, Bd.bytes, hZ, findClass_of_methodNamed Bd.named, by rw [← hh, Bd.state]; rfl⟩
  have N0 := Fr.nil n0
  show Own.Goes p.tables e below (fun s₂ o => ∃ v L, o = .returned v ∧ QrmOf Z a1 cs r zc ae0 ae1 se0 se1 av kv h0 n0 v s₂.heap L ∧ FrameEnd s o s₂ L ({ frames := 3, cells := 1, slots := 2, locals := 60 } : Room).cells ({ frames := 3, cells := 1, slots := 2, locals := 60 } : Room).slots) (s₁.setTop (entryFrame m #[(.ref a1)] 5))
  rw [show entryFrame m #[(.ref a1)] 5 = mkF m 0 #[.val (.ref a1), .unset, .unset, .unset, .unset] [] from by first | rfl | (simp [entryFrame, mkF, argsToLocals, Value.category]; done)]
  obtain ⟨xe0, xe1, xe2, xe3, xe4, xe5, xe6, xe7, xe8, xe9, xe10⟩ := id en
  refine Own.invStatic (q := 3) (W := 0) (y := (⟨"com/example/hookwright/hookwright/signing/SigningProfile", "values", "()[Lcom/example/hookwright/hookwright/signing/SigningProfile;"⟩ : MethodName)) (argsL := []) (rest := []) P0 d7_0 (hw _ (List.mem_of_getElem? (i := 36) rfl)) (hw _ (List.mem_of_getElem? (i := 37) rfl)) (hw _ (List.mem_of_getElem? (i := 31) rfl)) (hw _ (List.mem_of_getElem? (i := 38) rfl)) (by decide) (backOf (W := 0) (rmValues l Z a0 hw [] ae0 ae1 se0 se1 av kv h0 n0 Z0 en) P0.2.2.2.1 (hw _ (List.mem_of_getElem? (i := 38) rfl)) (hw _ (List.mem_of_getElem? (i := 31) rfl)) (by decide) (by decide)) rfl rfl (by rw [hml]; rfl) (lenOf (show parseMethodDescriptor "()[Lcom/example/hookwright/hookwright/signing/SigningProfile;" = some ⟨[], some (.array (.object "com/example/hookwright/hookwright/signing/SigningProfile"))⟩ from by decide +kernel) rfl) (by show 2 * 0 + _ ≤ _; exact Nat.le_of_eq rfl) (by decide) (by decide) rfl ?_
  rintro v21 T21 h21 L21 ⟨r21, kc21, rfl, N21q, E21, gr21, A21⟩ P21
  have N21 := Fr.app N0 N21q
  show Own.Goes _ _ _ _ (T21.setTop (mkF m 3 #[.val (.ref a1), .unset, .unset, .unset, .unset] [(.ref r21)]))
  refine Own.astoreN (q := 4) (L2 := #[.val (.ref a1), .val (.ref r21), .unset, .unset, .unset]) P21 d7_3 rfl rfl rfl ?_
  refine Own.aloadN (q := 5) P21 d7_4 rfl rfl rfl ?_
  refine Own.arraylength (q := 6) P21 d7_5 A21 rfl ?_
  refine Own.istoreN (q := 7) (L2 := #[.val (.ref a1), .val (.ref r21), .val (.int (2 : Int32)), .unset, .unset]) P21 d7_6 rfl rfl ?_
  refine Own.iconst (q := 8) (v := (0 : Int32)) P21 d7_7 rfl rfl ?_
  refine Own.istoreN (q := 9) (L2 := #[.val (.ref a1), .val (.ref r21), .val (.int (2 : Int32)), .val (.int (0 : Int32)), .unset]) P21 d7_8 rfl rfl ?_
  refine Own.iloadN (q := 10) P21 d7_9 rfl rfl ?_
  refine Own.iloadN (q := 11) P21 d7_10 rfl rfl ?_
  refine Own.icmp_ge (q := 14) (qy := 40) P21 d7_11 (by decide) rfl (fun q => absurd (show _ < _ by decide) q) (fun _ => ?_)
  refine Own.aloadN (q := 15) P21 d7_14 rfl rfl rfl ?_
  refine Own.iloadN (q := 16) P21 d7_15 rfl rfl ?_
  refine Own.aaload (q := 17) (v := (.ref ae0)) P21 d7_16 A21 (by decide) (by decide) rfl rfl ?_
  refine Own.astore (q := 19) (L2 := #[.val (.ref a1), .val (.ref r21), .val (.int (2 : Int32)), .val (.int (0 : Int32)), .val (.ref ae0)]) P21 d7_17 rfl rfl rfl ?_
  refine Own.aload (q := 21) P21 d7_19 rfl rfl rfl ?_
  have E0_1_22 : Ext h0 h21 := E21
  refine Own.getfield (q := 24) P21 d7_21 (hw _ (List.mem_of_getElem? (i := 51) rfl)) (xe7.ext E0_1_22) rfl ?_
  intro T23 P23
  refine Own.aloadN (q := 25) P23 d7_24 rfl rfl rfl ?_
  refine Own.invVirtual (q := 28) (W := 0) (y := (⟨"java/lang/String", "equals", "(Ljava/lang/Object;)Z"⟩ : MethodName)) (a := se0) (argsL := [(.ref a1)]) (rest := []) P23 d7_25 (hw _ (List.mem_of_getElem? (i := 53) rfl)) (hw _ (List.mem_of_getElem? (i := 54) rfl)) (hw _ (List.mem_of_getElem? (i := 56) rfl)) (hw _ (List.mem_of_getElem? (i := 55) rfl)) (notFace_of_selects (args := #[]) (mvT P23.2.2.2.1 (hw _ (List.mem_of_getElem? (i := 56) rfl)))) (by decide) (Own.eqB (W := 0) (n0 := n0) P23.2.2.2.1 (fun d hd => hw d (sub_eqW d hd)) (hw _ (List.mem_of_getElem? (i := 2) rfl)) (xe9.ext E0_1_22) (S1.ext E0_1_22) (SC.ext E0_1_22) hzc (by decide) (by decide)) (xe9.ext E0_1_22).exa rfl rfl (by rw [hml]; rfl) (lenOf (show parseMethodDescriptor "(Ljava/lang/Object;)Z" = some ⟨[(.object "java/lang/Object")], some .boolean⟩ from by decide +kernel) rfl) (by show 2 * 0 + _ ≤ _; exact Nat.le_of_eq rfl) (by decide) (by decide) rfl ?_
  rintro v24 T24 h24 L24 ⟨rfl, N24q, e24⟩ P24
  rw [e24] at P24
  have N24 := Fr.app N21 N24q
  show Own.Goes _ _ _ _ (T24.setTop (mkF m 28 #[.val (.ref a1), .val (.ref r21), .val (.int (2 : Int32)), .val (.int (0 : Int32)), .val (.ref ae0)] [(.int (if tx0 = cs then (1 : Int32) else 0))]))
  refine Own.if_eq (q := 31) (qy := 34) P24 d7_28 (by decide) rfl (fun hc => ?_) (fun hc => ?_)
  · have hne : ¬ tx0 = cs := fun q => by rw [if_pos q] at hc; exact absurd hc (by decide)
    have hr1 : cs = tx1 ∧ r = ae1 := by
      rcases hr with ⟨q, -⟩ | q
      · exact absurd q.symm hne
      · exact q
    refine Own.iinc (q := 37) (v := (1 : Int32)) (L2 := #[.val (.ref a1), .val (.ref r21), .val (.int (2 : Int32)), .val (.int ((0 : Int32) + (1 : Int32))), .val (.ref ae0)]) P24 d7_34 rfl rfl rfl rfl ?_
    refine Own.goto (q := 9) P24 d7_37 (by decide) ?_
    refine Own.iloadN (q := 10) P24 d7_9 rfl rfl ?_
    refine Own.iloadN (q := 11) P24 d7_10 rfl rfl ?_
    refine Own.icmp_ge (q := 14) (qy := 40) P24 d7_11 (by decide) rfl (fun q => absurd (show _ < _ by decide) q) (fun _ => ?_)
    refine Own.aloadN (q := 15) P24 d7_14 rfl rfl rfl ?_
    refine Own.iloadN (q := 16) P24 d7_15 rfl rfl ?_
    refine Own.aaload (q := 17) (v := (.ref ae1)) P24 d7_16 A21 (by decide) (by decide) rfl rfl ?_
    refine Own.astore (q := 19) (L2 := #[.val (.ref a1), .val (.ref r21), .val (.int (2 : Int32)), .val (.int ((0 : Int32) + (1 : Int32))), .val (.ref ae1)]) P24 d7_17 rfl rfl rfl ?_
    refine Own.aload (q := 21) P24 d7_19 rfl rfl rfl ?_
    refine Own.getfield (q := 24) P24 d7_21 (hw _ (List.mem_of_getElem? (i := 51) rfl)) (xe8.ext E0_1_22) rfl ?_
    intro T25 P25
    refine Own.aloadN (q := 25) P25 d7_24 rfl rfl rfl ?_
    refine Own.invVirtual (q := 28) (W := 0) (y := (⟨"java/lang/String", "equals", "(Ljava/lang/Object;)Z"⟩ : MethodName)) (a := se1) (argsL := [(.ref a1)]) (rest := []) P25 d7_25 (hw _ (List.mem_of_getElem? (i := 53) rfl)) (hw _ (List.mem_of_getElem? (i := 54) rfl)) (hw _ (List.mem_of_getElem? (i := 56) rfl)) (hw _ (List.mem_of_getElem? (i := 55) rfl)) (notFace_of_selects (args := #[]) (mvT P25.2.2.2.1 (hw _ (List.mem_of_getElem? (i := 56) rfl)))) (by decide) (Own.eqB (W := 0) (n0 := n0) P25.2.2.2.1 (fun d hd => hw d (sub_eqW d hd)) (hw _ (List.mem_of_getElem? (i := 2) rfl)) (xe10.ext E0_1_22) (S1.ext E0_1_22) (SC.ext E0_1_22) hzc (by decide) (by decide)) (xe10.ext E0_1_22).exa rfl rfl (by rw [hml]; rfl) (lenOf (show parseMethodDescriptor "(Ljava/lang/Object;)Z" = some ⟨[(.object "java/lang/Object")], some .boolean⟩ from by decide +kernel) rfl) (by show 2 * 0 + _ ≤ _; exact Nat.le_of_eq rfl) (by decide) (by decide) rfl ?_
    rintro v26 T26 h26 L26 ⟨rfl, N26q, e26⟩ P26
    rw [e26] at P26
    have N26 := Fr.app N24 N26q
    show Own.Goes _ _ _ _ (T26.setTop (mkF m 28 #[.val (.ref a1), .val (.ref r21), .val (.int (2 : Int32)), .val (.int ((0 : Int32) + (1 : Int32))), .val (.ref ae1)] [(.int (if tx1 = cs then (1 : Int32) else 0))]))
    refine Own.if_eq (q := 31) (qy := 34) P26 d7_28 (by decide) rfl (fun q => absurd q (by rw [if_pos hr1.1.symm]; decide)) (fun _ => ?_)
    refine Own.aload (q := 33) P26 d7_31 rfl rfl rfl ?_
    refine Own.retA (Q := QrmOf Z a1 cs r zc ae0 ae1 se0 se1 av kv h0 n0) P26 d7_33 hret rfl rfl rfl hlk (by decide) (by decide) ?_
    exact ⟨by rw [hr1.2], N26, E0_1_22⟩
  · have hq : tx0 = cs := Decidable.of_not_not fun q => hc (if_neg q)
    have hr1 : cs = tx0 ∧ r = ae0 := by
      rcases hr with q | ⟨q, -⟩
      · exact q
      · exact absurd (hq.trans q) (by decide)
    refine Own.aload (q := 33) P24 d7_31 rfl rfl rfl ?_
    refine Own.retA (Q := QrmOf Z a1 cs r zc ae0 ae1 se0 se1 av kv h0 n0) P24 d7_33 hret rfl rfl rfl hlk (by decide) (by decide) ?_
    exact ⟨by rw [hr1.2], N24, E0_1_22⟩
theorem d11_0 : decode prog_35_method_5_code 0 = .ok (.aload_n 0, 1) := by decide +kernel
theorem d11_1 : decode prog_35_method_5_code 1 = .ok (.getfield 29, 3) := by decide +kernel
theorem d11_4 : decode prog_35_method_5_code 4 = .ok (.areturn, 1) := by decide +kernel
theorem pn_11 : plainName "com/example/hookwright/hookwright/signing/SigningProfile" = true := by first | (simp [plainName, overriddenIn]; done) | decide +kernel
def QrmGet (Z : State) (a1 : Addr) (b1 : Addr) (h0 : Heap) (n0 : Nat) (v : Option Value) (h : Heap) (L : List Loc) : Prop := v = some (.ref b1) ∧ Fr n0 L ∧ h = h0
set_option maxRecDepth 65536 in
set_option maxHeartbeats 40000000 in
theorem rmGet (l : Launch) (Z : State) (a0 : Array Value) (hw : ∀ d ∈ tables_1, d.before a0 Z = true) (ws : List Jvm.Cond) (a1 : Addr) (b1 : Addr) (h0 : Heap) (n0 : Nat) (Z0 : n0 ≤ h0.size) (f1 : Fld Z h0 a1 "com/example/hookwright/hookwright/signing/SigningProfile" "label" "Ljava/lang/String;" (.ref b1)) :
    MetFree l (⟨"com/example/hookwright/hookwright/signing/SigningProfile", "label", "()Ljava/lang/String;"⟩ : MethodName) (head1 (Jvm.Cond.code (⟨"com/example/hookwright/hookwright/signing/SigningProfile", "label", "()Ljava/lang/String;"⟩ : MethodName) prog_35_method_5_code 1 (some (.object "java/lang/String")) :: ws) ({ frames := 0, cells := 0, slots := 0, locals := 0 } : Room)) (fun a U => a = #[(.ref a1)] ∧ Z.Warmed39 U.vm ∧ U.heap = h0) (fun _ _ _ _ _ => True) (fun _ U o U' => ∃ v L, o = .returned v ∧ QrmGet Z a1 b1 h0 n0 v U'.heap L ∧ FrameEnd U o U' L ({ frames := 0, cells := 0, slots := 0, locals := 0 } : Room).cells ({ frames := 0, cells := 0, slots := 0, locals := 0 } : Room).slots) := by
  refine MetFree.of_bodySF (plainFor_of_name pn_11) hisR ?_
  intro p e s m args below meth c s₁ Bd hml0 hP hK
  obtain ⟨rfl, hZ, hh⟩ := hP
  have hml : c.maxLocals = 1 := hml0
  have hlk : meth.locks = false := Bd.notSynchronized
  have hret := Bd.returns
  have hnm := (name_of_methodNamed Bd.named Bd.method).1
  have P0 : Own.Wk Z "com/example/hookwright/hookwright/signing/SigningProfile" prog_35_method_5_code h0 p l e ({ frames := 0, cells := 0, slots := 0, locals := 0 } : Room) s m #[(.ref a1)] below meth c s₁ [] 0 0 := ⟨Stand.of_body Bd, Bd.exec, Bd.bytes, hZ, findClass_of_methodNamed Bd.named, by rw [← hh, Bd.state]; rfl⟩
  have N0 := Fr.nil n0
  show Own.Goes p.tables e below (fun s₂ o => ∃ v L, o = .returned v ∧ QrmGet Z a1 b1 h0 n0 v s₂.heap L ∧ FrameEnd s o s₂ L ({ frames := 0, cells := 0, slots := 0, locals := 0 } : Room).cells ({ frames := 0, cells := 0, slots := 0, locals := 0 } : Room).slots) (s₁.setTop (entryFrame m #[(.ref a1)] 1))
  rw [show entryFrame m #[(.ref a1)] 1 = mkF m 0 #[.val (.ref a1)] [] from by first | rfl | (simp [entryFrame, mkF, argsToLocals, Value.category]; done)]
  refine Own.aloadN (q := 1) P0 d11_0 rfl rfl rfl ?_
  refine Own.getfield (q := 4) P0 d11_1 (hw _ (List.mem_of_getElem? (i := 51) rfl)) f1 rfl ?_
  intro T21 P21
  refine Own.retA (Q := QrmGet Z a1 b1 h0 n0) P21 d11_4 hret rfl rfl rfl hlk (by decide) (by decide) ?_
  exact ⟨rfl, N0, rfl⟩
theorem pn_0 : plainName "com/example/hookwright/hookwright/signing/SigningProfileOfLabelPinLaw" = true := by first | (simp [plainName, overriddenIn]; done) | decide +kernel
def QrmLaw (Z : State) (x0 : Int32) (zc : Int32) (ae0 : Addr) (ae1 : Addr) (se0 : Addr) (se1 : Addr) (av : Addr) (kv : ClassId) (h0 : Heap) (n0 : Nat) (v : Option Value) (h : Heap) (L : List Loc) : Prop := v = some (.int 1) ∧ Fr n0 L
set_option maxRecDepth 65536 in
set_option maxHeartbeats 40000000 in
theorem rmLaw (l : Launch) (Z : State) (a0 : Array Value) (hw : ∀ d ∈ tables_1, d.before a0 Z = true) (ws : List Jvm.Cond) (x0 : Int32) (zc : Int32) (ae0 : Addr) (ae1 : Addr) (se0 : Addr) (se1 : Addr) (av : Addr) (kv : ClassId) (h0 : Heap) (n0 : Nat) (Z0 : n0 ≤ h0.size) (SC : Sta Z h0 "java/lang/String" "COMPACT_STRINGS" "Z" (.int zc)) (hzc : ¬ zc = 0) (en : EN Z h0 ae0 ae1 se0 se1 av kv) :
    MetFree l x (head1 (Jvm.Cond.code x code maxLocals ret :: ws) room_1) (fun a U => a = #[(.int x0)] ∧ Z.Warmed39 U.vm ∧ U.heap = h0) (fun _ _ _ _ _ => True) (fun _ U o U' => ∃ v L, o = .returned v ∧ QrmLaw Z x0 zc ae0 ae1 se0 se1 av kv h0 n0 v U'.heap L ∧ FrameEnd U o U' L room_1.cells room_1.slots) := by
  refine MetFree.of_bodySF (plainFor_of_name pn_0) hisR ?_
  intro p e s m args below meth c s₁ Bd hml0 hP hK
  obtain ⟨rfl, hZ, hh⟩ := hP
  have hml : c.maxLocals = 7 := hml0
  have hlk : meth.locks = false := Bd.notSynchronized
  have hret := Bd.returns
  have hnm := (name_of_methodNamed Bd.named Bd.method).1
  have P0 : Own.Wk Z "com/example/hookwright/hookwright/signing/SigningProfileOfLabelPinLaw" code h0 p l e room_1 s m #[(.int x0)] below meth c s₁ [] 0 0 := ⟨Stand.of_body Bd, Bd.exec, Bd.bytes, hZ, findClass_of_methodNamed Bd.named, by rw [← hh, Bd.state]; rfl⟩
  have N0 := Fr.nil n0
  show Own.Goes p.tables e below (fun s₂ o => ∃ v L, o = .returned v ∧ QrmLaw Z x0 zc ae0 ae1 se0 se1 av kv h0 n0 v s₂.heap L ∧ FrameEnd s o s₂ L room_1.cells room_1.slots) (s₁.setTop (entryFrame m #[(.int x0)] maxLocals))
  rw [show entryFrame m #[(.int x0)] maxLocals = mkF m 0 #[.val (.int x0), .unset, .unset, .unset, .unset, .unset, .unset] [] from by first | rfl | (simp [entryFrame, mkF, argsToLocals, Value.category, maxLocals]; done)]
  obtain ⟨xe0, xe1, xe2, xe3, xe4, xe5, xe6, xe7, xe8, xe9, xe10⟩ := id en
  refine Own.iloadN (q := 1) P0 at_0 rfl rfl ?_
  refine Own.iconst (q := 2) (v := (1 : Int32)) P0 at_1 rfl rfl ?_
  refine Own.iand (q := 3) P0 at_2  rfl ?_
  refine Own.if_eq (q := 6) (qy := 10) P0 at_3 (by decide) rfl (fun hq => ?_) (fun hq => ?_)
  · refine Own.iconst (q := 11) (v := (0 : Int32)) P0 at_10 rfl rfl ?_
    refine Own.istoreN (q := 12) (L2 := #[.val (.int x0), .val (.int (0 : Int32)), .unset, .unset, .unset, .unset, .unset]) P0 at_11 rfl rfl ?_
    refine Own.iloadN (q := 13) P0 at_12 rfl rfl ?_
    refine Own.if_eq (q := 16) (qy := 120) P0 at_13 (by decide) rfl (fun _ => ?_) (fun q => absurd rfl q)
    refine Own.bipush (q := 122) (v := (11 : Int32)) P0 at_120 rfl rfl ?_
    refine Own.newarr (q := 124) (cap := 11) P0 at_122 (hw _ (List.mem_of_getElem? (i := 0) rfl)) (by decide) (by decide) (by decide) (by decide) (by decide) rfl ?_
    intro T21 h21 a21 k21 ha21 P21 E21 A21
    have V21 : Arv Z h21 a21 k21 .char (11 : Int32) [(.int 0), (.int 0), (.int 0), (.int 0), (.int 0), (.int 0), (.int 0), (.int 0), (.int 0), (.int 0), (.int 0)] (.int 0) := Arv.pad A21 (pad_rep [] _ 11)
    refine Own.dup (q := 125) P21 at_124 rfl rfl ?_
    refine Own.iconst (q := 126) (v := (0 : Int32)) P21 at_125 rfl rfl ?_
    refine Own.bipush (q := 128) (v := (116 : Int32)) P21 at_126 rfl rfl ?_
    refine Own.castore (q := 129) (i := 0) (x2 := (116 : Int32)) P21 at_128 V21 (by decide) (by decide) (by decide) (by decide) (by decide) (Own.ltb rfl) rfl ?_
    intro T22 h22 lc22 hl22 P22 W22 A22
    have V22 : Arv Z h22 a21 k21 .char (11 : Int32) [(.int (116 : Int32)), (.int 0), (.int 0), (.int 0), (.int 0), (.int 0), (.int 0), (.int 0), (.int 0), (.int 0), (.int 0)] (.int 0) := A22
    have N22 := Own.Fr.one N0 hl22 (Nat.le_trans Z0 (Nat.le_of_eq ha21.symm))
    refine Own.dup (q := 130) P22 at_129 rfl rfl ?_
    refine Own.iconst (q := 131) (v := (1 : Int32)) P22 at_130 rfl rfl ?_
    refine Own.bipush (q := 133) (v := (105 : Int32)) P22 at_131 rfl rfl ?_
    refine Own.castore (q := 134) (i := 1) (x2 := (105 : Int32)) P22 at_133 V22 (by decide) (by decide) (by decide) (by decide) (by decide) (Own.ltb rfl) rfl ?_
    intro T23 h23 lc23 hl23 P23 W23 A23
    have V23 : Arv Z h23 a21 k21 .char (11 : Int32) [(.int (116 : Int32)), (.int (105 : Int32)), (.int 0), (.int 0), (.int 0), (.int 0), (.int 0), (.int 0), (.int 0), (.int 0), (.int 0)] (.int 0) := A23
    have N23 := Own.Fr.one N22 hl23 (Nat.le_trans Z0 (Nat.le_of_eq ha21.symm))
    refine Own.dup (q := 135) P23 at_134 rfl rfl ?_
    refine Own.iconst (q := 136) (v := (2 : Int32)) P23 at_135 rfl rfl ?_
    refine Own.bipush (q := 138) (v := (109 : Int32)) P23 at_136 rfl rfl ?_
    refine Own.castore (q := 139) (i := 2) (x2 := (109 : Int32)) P23 at_138 V23 (by decide) (by decide) (by decide) (by decide) (by decide) (Own.ltb rfl) rfl ?_
    intro T24 h24 lc24 hl24 P24 W24 A24
    have V24 : Arv Z h24 a21 k21 .char (11 : Int32) [(.int (116 : Int32)), (.int (105 : Int32)), (.int (109 : Int32)), (.int 0), (.int 0), (.int 0), (.int 0), (.int 0), (.int 0), (.int 0), (.int 0)] (.int 0) := A24
    have N24 := Own.Fr.one N23 hl24 (Nat.le_trans Z0 (Nat.le_of_eq ha21.symm))
    refine Own.dup (q := 140) P24 at_139 rfl rfl ?_
    refine Own.iconst (q := 141) (v := (3 : Int32)) P24 at_140 rfl rfl ?_
    refine Own.bipush (q := 143) (v := (101 : Int32)) P24 at_141 rfl rfl ?_
    refine Own.castore (q := 144) (i := 3) (x2 := (101 : Int32)) P24 at_143 V24 (by decide) (by decide) (by decide) (by decide) (by decide) (Own.ltb rfl) rfl ?_
    intro T25 h25 lc25 hl25 P25 W25 A25
    have V25 : Arv Z h25 a21 k21 .char (11 : Int32) [(.int (116 : Int32)), (.int (105 : Int32)), (.int (109 : Int32)), (.int (101 : Int32)), (.int 0), (.int 0), (.int 0), (.int 0), (.int 0), (.int 0), (.int 0)] (.int 0) := A25
    have N25 := Own.Fr.one N24 hl25 (Nat.le_trans Z0 (Nat.le_of_eq ha21.symm))
    refine Own.dup (q := 145) P25 at_144 rfl rfl ?_
    refine Own.iconst (q := 146) (v := (4 : Int32)) P25 at_145 rfl rfl ?_
    refine Own.bipush (q := 148) (v := (115 : Int32)) P25 at_146 rfl rfl ?_
    refine Own.castore (q := 149) (i := 4) (x2 := (115 : Int32)) P25 at_148 V25 (by decide) (by decide) (by decide) (by decide) (by decide) (Own.ltb rfl) rfl ?_
    intro T26 h26 lc26 hl26 P26 W26 A26
    have V26 : Arv Z h26 a21 k21 .char (11 : Int32) [(.int (116 : Int32)), (.int (105 : Int32)), (.int (109 : Int32)), (.int (101 : Int32)), (.int (115 : Int32)), (.int 0), (.int 0), (.int 0), (.int 0), (.int 0), (.int 0)] (.int 0) := A26
    have N26 := Own.Fr.one N25 hl26 (Nat.le_trans Z0 (Nat.le_of_eq ha21.symm))
    refine Own.dup (q := 150) P26 at_149 rfl rfl ?_
    refine Own.iconst (q := 151) (v := (5 : Int32)) P26 at_150 rfl rfl ?_
    refine Own.bipush (q := 153) (v := (116 : Int32)) P26 at_151 rfl rfl ?_
    refine Own.castore (q := 154) (i := 5) (x2 := (116 : Int32)) P26 at_153 V26 (by decide) (by decide) (by decide) (by decide) (by decide) (Own.ltb rfl) rfl ?_
    intro T27 h27 lc27 hl27 P27 W27 A27
    have V27 : Arv Z h27 a21 k21 .char (11 : Int32) [(.int (116 : Int32)), (.int (105 : Int32)), (.int (109 : Int32)), (.int (101 : Int32)), (.int (115 : Int32)), (.int (116 : Int32)), (.int 0), (.int 0), (.int 0), (.int 0), (.int 0)] (.int 0) := A27
    have N27 := Own.Fr.one N26 hl27 (Nat.le_trans Z0 (Nat.le_of_eq ha21.symm))
    refine Own.dup (q := 155) P27 at_154 rfl rfl ?_
    refine Own.bipush (q := 157) (v := (6 : Int32)) P27 at_155 rfl rfl ?_
    refine Own.bipush (q := 159) (v := (97 : Int32)) P27 at_157 rfl rfl ?_
    refine Own.castore (q := 160) (i := 6) (x2 := (97 : Int32)) P27 at_159 V27 (by decide) (by decide) (by decide) (by decide) (by decide) (Own.ltb rfl) rfl ?_
    intro T28 h28 lc28 hl28 P28 W28 A28
    have V28 : Arv Z h28 a21 k21 .char (11 : Int32) [(.int (116 : Int32)), (.int (105 : Int32)), (.int (109 : Int32)), (.int (101 : Int32)), (.int (115 : Int32)), (.int (116 : Int32)), (.int (97 : Int32)), (.int 0), (.int 0), (.int 0), (.int 0)] (.int 0) := A28
    have N28 := Own.Fr.one N27 hl28 (Nat.le_trans Z0 (Nat.le_of_eq ha21.symm))
    refine Own.dup (q := 161) P28 at_160 rfl rfl ?_
    refine Own.bipush (q := 163) (v := (7 : Int32)) P28 at_161 rfl rfl ?_
    refine Own.bipush (q := 165) (v := (109 : Int32)) P28 at_163 rfl rfl ?_
    refine Own.castore (q := 166) (i := 7) (x2 := (109 : Int32)) P28 at_165 V28 (by decide) (by decide) (by decide) (by decide) (by decide) (Own.ltb rfl) rfl ?_
    intro T29 h29 lc29 hl29 P29 W29 A29
    have V29 : Arv Z h29 a21 k21 .char (11 : Int32) [(.int (116 : Int32)), (.int (105 : Int32)), (.int (109 : Int32)), (.int (101 : Int32)), (.int (115 : Int32)), (.int (116 : Int32)), (.int (97 : Int32)), (.int (109 : Int32)), (.int 0), (.int 0), (.int 0)] (.int 0) := A29
    have N29 := Own.Fr.one N28 hl29 (Nat.le_trans Z0 (Nat.le_of_eq ha21.symm))
    refine Own.dup (q := 167) P29 at_166 rfl rfl ?_
    refine Own.bipush (q := 169) (v := (8 : Int32)) P29 at_167 rfl rfl ?_
    refine Own.bipush (q := 171) (v := (112 : Int32)) P29 at_169 rfl rfl ?_
    refine Own.castore (q := 172) (i := 8) (x2 := (112 : Int32)) P29 at_171 V29 (by decide) (by decide) (by decide) (by decide) (by decide) (Own.ltb rfl) rfl ?_
    intro T30 h30 lc30 hl30 P30 W30 A30
    have V30 : Arv Z h30 a21 k21 .char (11 : Int32) [(.int (116 : Int32)), (.int (105 : Int32)), (.int (109 : Int32)), (.int (101 : Int32)), (.int (115 : Int32)), (.int (116 : Int32)), (.int (97 : Int32)), (.int (109 : Int32)), (.int (112 : Int32)), (.int 0), (.int 0)] (.int 0) := A30
    have N30 := Own.Fr.one N29 hl30 (Nat.le_trans Z0 (Nat.le_of_eq ha21.symm))
    refine Own.dup (q := 173) P30 at_172 rfl rfl ?_
    refine Own.bipush (q := 175) (v := (9 : Int32)) P30 at_173 rfl rfl ?_
    refine Own.bipush (q := 177) (v := (101 : Int32)) P30 at_175 rfl rfl ?_
    refine Own.castore (q := 178) (i := 9) (x2 := (101 : Int32)) P30 at_177 V30 (by decide) (by decide) (by decide) (by decide) (by decide) (Own.ltb rfl) rfl ?_
    intro T31 h31 lc31 hl31 P31 W31 A31
    have V31 : Arv Z h31 a21 k21 .char (11 : Int32) [(.int (116 : Int32)), (.int (105 : Int32)), (.int (109 : Int32)), (.int (101 : Int32)), (.int (115 : Int32)), (.int (116 : Int32)), (.int (97 : Int32)), (.int (109 : Int32)), (.int (112 : Int32)), (.int (101 : Int32)), (.int 0)] (.int 0) := A31
    have N31 := Own.Fr.one N30 hl31 (Nat.le_trans Z0 (Nat.le_of_eq ha21.symm))
    refine Own.dup (q := 179) P31 at_178 rfl rfl ?_
    refine Own.bipush (q := 181) (v := (10 : Int32)) P31 at_179 rfl rfl ?_
    refine Own.bipush (q := 183) (v := (100 : Int32)) P31 at_181 rfl rfl ?_
    refine Own.castore (q := 184) (i := 10) (x2 := (100 : Int32)) P31 at_183 V31 (by decide) (by decide) (by decide) (by decide) (by decide) (Own.ltb rfl) rfl ?_
    intro T32 h32 lc32 hl32 P32 W32 A32
    have V32 : Arv Z h32 a21 k21 .char (11 : Int32) [(.int (116 : Int32)), (.int (105 : Int32)), (.int (109 : Int32)), (.int (101 : Int32)), (.int (115 : Int32)), (.int (116 : Int32)), (.int (97 : Int32)), (.int (109 : Int32)), (.int (112 : Int32)), (.int (101 : Int32)), (.int (100 : Int32))] (.int 0) := A32
    have N32 := Own.Fr.one N31 hl32 (Nat.le_trans Z0 (Nat.le_of_eq ha21.symm))
    refine Own.astoreN (q := 185) (L2 := #[.val (.int x0), .val (.int (0 : Int32)), .val (.ref a21), .unset, .unset, .unset, .unset]) P32 at_184 rfl rfl rfl ?_
    refine Own.newobj (q := 188) P32 at_185 (hw _ (List.mem_of_getElem? (i := 1) rfl)) (hw _ (List.mem_of_getElem? (i := 2) rfl)) (hw _ (List.mem_of_getElem? (i := 3) rfl)) (by decide) (by decide) rfl ?_
    intro T33 h33 a33 ha33 P33 E33 A33 D33
    have F33_coder : Fld Z h33 a33 "java/lang/String" "coder" "B" (.int (0 : Int32)) := D33 (Or.inr (hw _ (List.mem_of_getElem? (i := 27) rfl))) (ty := .byte) (by decide)
    have F33_value : Fld Z h33 a33 "java/lang/String" "value" "[B" .null := D33 (Or.inr (hw _ (List.mem_of_getElem? (i := 29) rfl))) (ty := (.array .byte)) (by decide)
    refine Own.dup (q := 189) P33 at_188 rfl rfl ?_
    refine Own.aloadN (q := 190) P33 at_189 rfl rfl rfl ?_
    have E0_1_34 : Ext h0 h21 := E21
    have E0_2_35 : Ext h0 h22 := (Own.Ext.wr E0_1_34 W22 (Nat.le_of_eq ha21.symm))
    have E0_3_36 : Ext h0 h23 := (Own.Ext.wr E0_2_35 W23 (Nat.le_of_eq ha21.symm))
    have E0_4_37 : Ext h0 h24 := (Own.Ext.wr E0_3_36 W24 (Nat.le_of_eq ha21.symm))
    have E0_5_38 : Ext h0 h25 := (Own.Ext.wr E0_4_37 W25 (Nat.le_of_eq ha21.symm))
    have E0_6_39 : Ext h0 h26 := (Own.Ext.wr E0_5_38 W26 (Nat.le_of_eq ha21.symm))
    have E0_7_40 : Ext h0 h27 := (Own.Ext.wr E0_6_39 W27 (Nat.le_of_eq ha21.symm))
    have E0_8_41 : Ext h0 h28 := (Own.Ext.wr E0_7_40 W28 (Nat.le_of_eq ha21.symm))
    have E0_9_42 : Ext h0 h29 := (Own.Ext.wr E0_8_41 W29 (Nat.le_of_eq ha21.symm))
    have E0_10_43 : Ext h0 h30 := (Own.Ext.wr E0_9_42 W30 (Nat.le_of_eq ha21.symm))
    have E0_11_44 : Ext h0 h31 := (Own.Ext.wr E0_10_43 W31 (Nat.le_of_eq ha21.symm))
    have E0_12_45 : Ext h0 h32 := (Own.Ext.wr E0_11_44 W32 (Nat.le_of_eq ha21.symm))
    have E0_13_46 : Ext h0 h33 := (Own.Ext.tr E0_12_45 E33)
    have E12_13_47 : Ext h32 h33 := E33
    refine Own.invSpecial (q := 193) (W := 1) (y := (⟨"java/lang/String", "<init>", "([C)V"⟩ : MethodName)) (a := a33) (argsL := [(.ref a21)]) (rest := [(.ref a33)]) P33 at_190 rfl (hw _ (List.mem_of_getElem? (i := 4) rfl)) (hw _ (List.mem_of_getElem? (i := 5) rfl)) (hw _ (List.mem_of_getElem? (i := 6) rfl)) (by decide) (Own.newB (W := 1) (n0 := n0) (cs := [(116 : Int32), (105 : Int32), (109 : Int32), (101 : Int32), (115 : Int32), (116 : Int32), (97 : Int32), (109 : Int32), (112 : Int32), (101 : Int32), (100 : Int32)]) (n := 11) P33.2.2.2.1 (fun d hd => hw d (sub_backV d hd)) (hw _ (List.mem_of_getElem? (i := 2) rfl)) (Nat.le_trans Z0 (Nat.le_trans E0_12_45.1 (Nat.le_of_eq ha33.symm))) (Nat.le_trans Z0 E0_13_46.1) A33 F33_value F33_coder (V32.ext E12_13_47) (SC.ext E0_13_46) hzc rfl rfl (by decide) (by decide) (Own.chS (by decide) (Own.chS (by decide) (Own.chS (by decide) (Own.chS (by decide) (Own.chS (by decide) (Own.chS (by decide) (Own.chS (by decide) (Own.chS (by decide) (Own.chS (by decide) (Own.chS (by decide) (Own.chS (by decide) Own.ch0))))))))))) (by decide) (by decide)) rfl rfl (by rw [hml]; rfl) (lenOf (show parseMethodDescriptor "([C)V" = some ⟨[(.array .char)], none⟩ from by decide +kernel) rfl) (by show 2 * 0 + _ ≤ _; exact Nat.le_of_eq rfl) (by decide) (by decide) rfl ?_
    rintro v48 T48 h48 L48 ⟨rfl, N48q, K48, St48⟩ P48
    have N48 := Fr.app N32 N48q
    show Own.Goes _ _ _ _ (T48.setTop (mkF m 193 #[.val (.int x0), .val (.int (0 : Int32)), .val (.ref a21), .unset, .unset, .unset, .unset] [(.ref a33)]))
    refine Own.astoreN (q := 194) (L2 := #[.val (.int x0), .val (.int (0 : Int32)), .val (.ref a21), .val (.ref a33), .unset, .unset, .unset]) P48 at_193 rfl rfl rfl ?_
    refine Own.iloadN (q := 195) P48 at_194 rfl rfl ?_
    refine Own.if_eq (q := 198) (qy := 204) P48 at_195 (by decide) rfl (fun _ => ?_) (fun q => absurd rfl q)
    have E0_14_49 : Ext h0 h48 := (Own.Ext.kp E0_13_46 K48 (allS (Nat.le_trans E0_12_45.1 (Nat.le_of_eq ha33.symm)) all0))
    refine Own.getstatic (q := 207) P48 at_204 (hw _ (List.mem_of_getElem? (i := 30) rfl)) (xe0.ext E0_14_49) rfl ?_
    intro T50 P50
    refine Own.astore (q := 209) (L2 := #[.val (.int x0), .val (.int (0 : Int32)), .val (.ref a21), .val (.ref a33), .val (.ref ae0), .unset, .unset]) P50 at_207 rfl rfl rfl ?_
    refine Own.aloadN (q := 210) P50 at_209 rfl rfl rfl ?_
    refine Own.invStatic (q := 213) (W := 0) (y := (⟨"com/example/hookwright/hookwright/signing/SigningProfile", "ofLabel", "(Ljava/lang/String;)Lcom/example/hookwright/hookwright/signing/SigningProfile;"⟩ : MethodName)) (argsL := [(.ref a33)]) (rest := []) P50 at_210 (hw _ (List.mem_of_getElem? (i := 33) rfl)) (hw _ (List.mem_of_getElem? (i := 34) rfl)) (hw _ (List.mem_of_getElem? (i := 31) rfl)) (hw _ (List.mem_of_getElem? (i := 35) rfl)) (by decide) (backOf (W := 0) (rmOf l Z a0 hw [] a33 tx0 ae0 zc ae0 ae1 se0 se1 av kv h48 n0 (Nat.le_trans Z0 E0_14_49.1) (SC.ext E0_14_49) hzc (en.ext E0_14_49) St48 (Or.inl ⟨rfl, rfl⟩)) P50.2.2.2.1 (hw _ (List.mem_of_getElem? (i := 35) rfl)) (hw _ (List.mem_of_getElem? (i := 31) rfl)) (by decide) (by decide)) rfl rfl (by rw [hml]; rfl) (lenOf (show parseMethodDescriptor "(Ljava/lang/String;)Lcom/example/hookwright/hookwright/signing/SigningProfile;" = some ⟨[(.object "java/lang/String")], some (.object "com/example/hookwright/hookwright/signing/SigningProfile")⟩ from by decide +kernel) rfl) (by show 2 * 0 + _ ≤ _; exact Nat.le_of_eq rfl) (by decide) (by decide) rfl ?_
    rintro v51 T51 h51 L51 ⟨rfl, N51q, E51⟩ P51
    have N51 := Fr.app N48 N51q
    show Own.Goes _ _ _ _ (T51.setTop (mkF m 213 #[.val (.int x0), .val (.int (0 : Int32)), .val (.ref a21), .val (.ref a33), .val (.ref ae0), .unset, .unset] [(.ref ae0)]))
    refine Own.astore (q := 215) (L2 := #[.val (.int x0), .val (.int (0 : Int32)), .val (.ref a21), .val (.ref a33), .val (.ref ae0), .val (.ref ae0), .unset]) P51 at_213 rfl rfl rfl ?_
    refine Own.aload (q := 217) P51 at_215 rfl rfl rfl ?_
    have E0_15_52 : Ext h0 h51 := (Own.Ext.tr E0_14_49 E51)
    refine Own.invVirtual (q := 220) (W := 0) (y := (⟨"com/example/hookwright/hookwright/signing/SigningProfile", "label", "()Ljava/lang/String;"⟩ : MethodName)) (a := ae0) (argsL := []) (rest := []) P51 at_217 (hw _ (List.mem_of_getElem? (i := 63) rfl)) (hw _ (List.mem_of_getElem? (i := 64) rfl)) (hw _ (List.mem_of_getElem? (i := 66) rfl)) (hw _ (List.mem_of_getElem? (i := 65) rfl)) (notFace_of_selects (args := #[]) (mvT P51.2.2.2.1 (hw _ (List.mem_of_getElem? (i := 66) rfl)))) (by decide) (backOf (W := 0) (rmGet l Z a0 hw [] ae0 se0 h51 n0 (Nat.le_trans Z0 E0_15_52.1) (xe7.ext E0_15_52)) P51.2.2.2.1 (hw _ (List.mem_of_getElem? (i := 67) rfl)) (hw _ (List.mem_of_getElem? (i := 31) rfl)) (by decide) (by decide)) (xe3.ext E0_15_52) rfl rfl (by rw [hml]; rfl) (lenOf (show parseMethodDescriptor "()Ljava/lang/String;" = some ⟨[], some (.object "java/lang/String")⟩ from by decide +kernel) rfl) (by show 2 * 0 + _ ≤ _; exact Nat.le_of_eq rfl) (by decide) (by decide) rfl ?_
    rintro v53 T53 h53 L53 ⟨rfl, N53q, e53⟩ P53
    rw [e53] at P53
    have N53 := Fr.app N51 N53q
    show Own.Goes _ _ _ _ (T53.setTop (mkF m 220 #[.val (.int x0), .val (.int (0 : Int32)), .val (.ref a21), .val (.ref a33), .val (.ref ae0), .val (.ref ae0), .unset] [(.ref se0)]))
    refine Own.invStatic (q := 223) (W := 0) (y := (⟨"com/example/hookwright/hookwright/signing/SigningProfile", "ofLabel", "(Ljava/lang/String;)Lcom/example/hookwright/hookwright/signing/SigningProfile;"⟩ : MethodName)) (argsL := [(.ref se0)]) (rest := []) P53 at_220 (hw _ (List.mem_of_getElem? (i := 33) rfl)) (hw _ (List.mem_of_getElem? (i := 34) rfl)) (hw _ (List.mem_of_getElem? (i := 31) rfl)) (hw _ (List.mem_of_getElem? (i := 35) rfl)) (by decide) (backOf (W := 0) (rmOf l Z a0 hw [] se0 tx0 ae0 zc ae0 ae1 se0 se1 av kv h51 n0 (Nat.le_trans Z0 E0_15_52.1) (SC.ext E0_15_52) hzc (en.ext E0_15_52) (xe9.ext E0_15_52) (Or.inl ⟨rfl, rfl⟩)) P53.2.2.2.1 (hw _ (List.mem_of_getElem? (i := 35) rfl)) (hw _ (List.mem_of_getElem? (i := 31) rfl)) (by decide) (by decide)) rfl rfl (by rw [hml]; rfl) (lenOf (show parseMethodDescriptor "(Ljava/lang/String;)Lcom/example/hookwright/hookwright/signing/SigningProfile;" = some ⟨[(.object "java/lang/String")], some (.object "com/example/hookwright/hookwright/signing/SigningProfile")⟩ from by decide +kernel) rfl) (by show 2 * 0 + _ ≤ _; exact Nat.le_of_eq rfl) (by decide) (by decide) rfl ?_
    rintro v54 T54 h54 L54 ⟨rfl, N54q, E54⟩ P54
    have N54 := Fr.app N53 N54q
    show Own.Goes _ _ _ _ (T54.setTop (mkF m 223 #[.val (.int x0), .val (.int (0 : Int32)), .val (.ref a21), .val (.ref a33), .val (.ref ae0), .val (.ref ae0), .unset] [(.ref ae0)]))
    refine Own.astore (q := 225) (L2 := #[.val (.int x0), .val (.int (0 : Int32)), .val (.ref a21), .val (.ref a33), .val (.ref ae0), .val (.ref ae0), .val (.ref ae0)]) P54 at_223 rfl rfl rfl ?_
    refine Own.aload (q := 227) P54 at_225 rfl rfl rfl ?_
    refine Own.aload (q := 229) P54 at_227 rfl rfl rfl ?_
    refine Own.acmp_ne (q := 232) (qy := 243) P54 at_229 rfl rfl (by decide) rfl (fun q => absurd rfl q) (fun _ => ?_)
    refine Own.aload (q := 234) P54 at_232 rfl rfl rfl ?_
    refine Own.aload (q := 236) P54 at_234 rfl rfl rfl ?_
    refine Own.acmp_ne (q := 239) (qy := 243) P54 at_236 rfl rfl (by decide) rfl (fun q => absurd rfl q) (fun _ => ?_)
    refine Own.iconst (q := 240) (v := (1 : Int32)) P54 at_239 rfl rfl ?_
    refine Own.goto (q := 244) P54 at_240 (by decide) ?_
    refine Own.retZ (Q := QrmLaw Z x0 zc ae0 ae1 se0 se1 av kv h0 n0) P54 at_244 hret (by simp) hlk (by decide) (by decide) ?_
    exact ⟨rfl, N54⟩
  · refine Own.iconst (q := 7) (v := (1 : Int32)) P0 at_6 rfl rfl ?_
    refine Own.goto (q := 11) P0 at_7 (by decide) ?_
    refine Own.istoreN (q := 12) (L2 := #[.val (.int x0), .val (.int (1 : Int32)), .unset, .unset, .unset, .unset, .unset]) P0 at_11 rfl rfl ?_
    refine Own.iloadN (q := 13) P0 at_12 rfl rfl ?_
    refine Own.if_eq (q := 16) (qy := 120) P0 at_13 (by decide) rfl (fun q => absurd q (by decide)) (fun _ => ?_)
    refine Own.bipush (q := 18) (v := (17 : Int32)) P0 at_16 rfl rfl ?_
    refine Own.newarr (q := 20) (cap := 17) P0 at_18 (hw _ (List.mem_of_getElem? (i := 0) rfl)) (by decide) (by decide) (by decide) (by decide) (by decide) rfl ?_
    intro T55 h55 a55 k55 ha55 P55 E55 A55
    have V55 : Arv Z h55 a55 k55 .char (17 : Int32) [(.int 0), (.int 0), (.int 0), (.int 0), (.int 0), (.int 0), (.int 0), (.int 0), (.int 0), (.int 0), (.int 0), (.int 0), (.int 0), (.int 0), (.int 0), (.int 0), (.int 0)] (.int 0) := Arv.pad A55 (pad_rep [] _ 17)
    refine Own.dup (q := 21) P55 at_20 rfl rfl ?_
    refine Own.iconst (q := 22) (v := (0 : Int32)) P55 at_21 rfl rfl ?_
    refine Own.bipush (q := 24) (v := (115 : Int32)) P55 at_22 rfl rfl ?_
    refine Own.castore (q := 25) (i := 0) (x2 := (115 : Int32)) P55 at_24 V55 (by decide) (by decide) (by decide) (by decide) (by decide) (Own.ltb rfl) rfl ?_
    intro T56 h56 lc56 hl56 P56 W56 A56
    have V56 : Arv Z h56 a55 k55 .char (17 : Int32) [(.int (115 : Int32)), (.int 0), (.int 0), (.int 0), (.int 0), (.int 0), (.int 0), (.int 0), (.int 0), (.int 0), (.int 0), (.int 0), (.int 0), (.int 0), (.int 0), (.int 0), (.int 0)] (.int 0) := A56
    have N56 := Own.Fr.one N0 hl56 (Nat.le_trans Z0 (Nat.le_of_eq ha55.symm))
    refine Own.dup (q := 26) P56 at_25 rfl rfl ?_
    refine Own.iconst (q := 27) (v := (1 : Int32)) P56 at_26 rfl rfl ?_
    refine Own.bipush (q := 29) (v := (116 : Int32)) P56 at_27 rfl rfl ?_
    refine Own.castore (q := 30) (i := 1) (x2 := (116 : Int32)) P56 at_29 V56 (by decide) (by decide) (by decide) (by decide) (by decide) (Own.ltb rfl) rfl ?_
    intro T57 h57 lc57 hl57 P57 W57 A57
    have V57 : Arv Z h57 a55 k55 .char (17 : Int32) [(.int (115 : Int32)), (.int (116 : Int32)), (.int 0), (.int 0), (.int 0), (.int 0), (.int 0), (.int 0), (.int 0), (.int 0), (.int 0), (.int 0), (.int 0), (.int 0), (.int 0), (.int 0), (.int 0)] (.int 0) := A57
    have N57 := Own.Fr.one N56 hl57 (Nat.le_trans Z0 (Nat.le_of_eq ha55.symm))
    refine Own.dup (q := 31) P57 at_30 rfl rfl ?_
    refine Own.iconst (q := 32) (v := (2 : Int32)) P57 at_31 rfl rfl ?_
    refine Own.bipush (q := 34) (v := (97 : Int32)) P57 at_32 rfl rfl ?_
    refine Own.castore (q := 35) (i := 2) (x2 := (97 : Int32)) P57 at_34 V57 (by decide) (by decide) (by decide) (by decide) (by decide) (Own.ltb rfl) rfl ?_
    intro T58 h58 lc58 hl58 P58 W58 A58
    have V58 : Arv Z h58 a55 k55 .char (17 : Int32) [(.int (115 : Int32)), (.int (116 : Int32)), (.int (97 : Int32)), (.int 0), (.int 0), (.int 0), (.int 0), (.int 0), (.int 0), (.int 0), (.int 0), (.int 0), (.int 0), (.int 0), (.int 0), (.int 0), (.int 0)] (.int 0) := A58
    have N58 := Own.Fr.one N57 hl58 (Nat.le_trans Z0 (Nat.le_of_eq ha55.symm))
    refine Own.dup (q := 36) P58 at_35 rfl rfl ?_
    refine Own.iconst (q := 37) (v := (3 : Int32)) P58 at_36 rfl rfl ?_
    refine Own.bipush (q := 39) (v := (110 : Int32)) P58 at_37 rfl rfl ?_
    refine Own.castore (q := 40) (i := 3) (x2 := (110 : Int32)) P58 at_39 V58 (by decide) (by decide) (by decide) (by decide) (by decide) (Own.ltb rfl) rfl ?_
    intro T59 h59 lc59 hl59 P59 W59 A59
    have V59 : Arv Z h59 a55 k55 .char (17 : Int32) [(.int (115 : Int32)), (.int (116 : Int32)), (.int (97 : Int32)), (.int (110 : Int32)), (.int 0), (.int 0), (.int 0), (.int 0), (.int 0), (.int 0), (.int 0), (.int 0), (.int 0), (.int 0), (.int 0), (.int 0), (.int 0)] (.int 0) := A59
    have N59 := Own.Fr.one N58 hl59 (Nat.le_trans Z0 (Nat.le_of_eq ha55.symm))
    refine Own.dup (q := 41) P59 at_40 rfl rfl ?_
    refine Own.iconst (q := 42) (v := (4 : Int32)) P59 at_41 rfl rfl ?_
    refine Own.bipush (q := 44) (v := (100 : Int32)) P59 at_42 rfl rfl ?_
    refine Own.castore (q := 45) (i := 4) (x2 := (100 : Int32)) P59 at_44 V59 (by decide) (by decide) (by decide) (by decide) (by decide) (Own.ltb rfl) rfl ?_
    intro T60 h60 lc60 hl60 P60 W60 A60
    have V60 : Arv Z h60 a55 k55 .char (17 : Int32) [(.int (115 : Int32)), (.int (116 : Int32)), (.int (97 : Int32)), (.int (110 : Int32)), (.int (100 : Int32)), (.int 0), (.int 0), (.int 0), (.int 0), (.int 0), (.int 0), (.int 0), (.int 0), (.int 0), (.int 0), (.int 0), (.int 0)] (.int 0) := A60
    have N60 := Own.Fr.one N59 hl60 (Nat.le_trans Z0 (Nat.le_of_eq ha55.symm))
    refine Own.dup (q := 46) P60 at_45 rfl rfl ?_
    refine Own.iconst (q := 47) (v := (5 : Int32)) P60 at_46 rfl rfl ?_
    refine Own.bipush (q := 49) (v := (97 : Int32)) P60 at_47 rfl rfl ?_
    refine Own.castore (q := 50) (i := 5) (x2 := (97 : Int32)) P60 at_49 V60 (by decide) (by decide) (by decide) (by decide) (by decide) (Own.ltb rfl) rfl ?_
    intro T61 h61 lc61 hl61 P61 W61 A61
    have V61 : Arv Z h61 a55 k55 .char (17 : Int32) [(.int (115 : Int32)), (.int (116 : Int32)), (.int (97 : Int32)), (.int (110 : Int32)), (.int (100 : Int32)), (.int (97 : Int32)), (.int 0), (.int 0), (.int 0), (.int 0), (.int 0), (.int 0), (.int 0), (.int 0), (.int 0), (.int 0), (.int 0)] (.int 0) := A61
    have N61 := Own.Fr.one N60 hl61 (Nat.le_trans Z0 (Nat.le_of_eq ha55.symm))
    refine Own.dup (q := 51) P61 at_50 rfl rfl ?_
    refine Own.bipush (q := 53) (v := (6 : Int32)) P61 at_51 rfl rfl ?_
    refine Own.bipush (q := 55) (v := (114 : Int32)) P61 at_53 rfl rfl ?_
    refine Own.castore (q := 56) (i := 6) (x2 := (114 : Int32)) P61 at_55 V61 (by decide) (by decide) (by decide) (by decide) (by decide) (Own.ltb rfl) rfl ?_
    intro T62 h62 lc62 hl62 P62 W62 A62
    have V62 : Arv Z h62 a55 k55 .char (17 : Int32) [(.int (115 : Int32)), (.int (116 : Int32)), (.int (97 : Int32)), (.int (110 : Int32)), (.int (100 : Int32)), (.int (97 : Int32)), (.int (114 : Int32)), (.int 0), (.int 0), (.int 0), (.int 0), (.int 0), (.int 0), (.int 0), (.int 0), (.int 0), (.int 0)] (.int 0) := A62
    have N62 := Own.Fr.one N61 hl62 (Nat.le_trans Z0 (Nat.le_of_eq ha55.symm))
    refine Own.dup (q := 57) P62 at_56 rfl rfl ?_
    refine Own.bipush (q := 59) (v := (7 : Int32)) P62 at_57 rfl rfl ?_
    refine Own.bipush (q := 61) (v := (100 : Int32)) P62 at_59 rfl rfl ?_
    refine Own.castore (q := 62) (i := 7) (x2 := (100 : Int32)) P62 at_61 V62 (by decide) (by decide) (by decide) (by decide) (by decide) (Own.ltb rfl) rfl ?_
    intro T63 h63 lc63 hl63 P63 W63 A63
    have V63 : Arv Z h63 a55 k55 .char (17 : Int32) [(.int (115 : Int32)), (.int (116 : Int32)), (.int (97 : Int32)), (.int (110 : Int32)), (.int (100 : Int32)), (.int (97 : Int32)), (.int (114 : Int32)), (.int (100 : Int32)), (.int 0), (.int 0), (.int 0), (.int 0), (.int 0), (.int 0), (.int 0), (.int 0), (.int 0)] (.int 0) := A63
    have N63 := Own.Fr.one N62 hl63 (Nat.le_trans Z0 (Nat.le_of_eq ha55.symm))
    refine Own.dup (q := 63) P63 at_62 rfl rfl ?_
    refine Own.bipush (q := 65) (v := (8 : Int32)) P63 at_63 rfl rfl ?_
    refine Own.bipush (q := 67) (v := (45 : Int32)) P63 at_65 rfl rfl ?_
    refine Own.castore (q := 68) (i := 8) (x2 := (45 : Int32)) P63 at_67 V63 (by decide) (by decide) (by decide) (by decide) (by decide) (Own.ltb rfl) rfl ?_
    intro T64 h64 lc64 hl64 P64 W64 A64
    have V64 : Arv Z h64 a55 k55 .char (17 : Int32) [(.int (115 : Int32)), (.int (116 : Int32)), (.int (97 : Int32)), (.int (110 : Int32)), (.int (100 : Int32)), (.int (97 : Int32)), (.int (114 : Int32)), (.int (100 : Int32)), (.int (45 : Int32)), (.int 0), (.int 0), (.int 0), (.int 0), (.int 0), (.int 0), (.int 0), (.int 0)] (.int 0) := A64
    have N64 := Own.Fr.one N63 hl64 (Nat.le_trans Z0 (Nat.le_of_eq ha55.symm))
    refine Own.dup (q := 69) P64 at_68 rfl rfl ?_
    refine Own.bipush (q := 71) (v := (9 : Int32)) P64 at_69 rfl rfl ?_
    refine Own.bipush (q := 73) (v := (119 : Int32)) P64 at_71 rfl rfl ?_
    refine Own.castore (q := 74) (i := 9) (x2 := (119 : Int32)) P64 at_73 V64 (by decide) (by decide) (by decide) (by decide) (by decide) (Own.ltb rfl) rfl ?_
    intro T65 h65 lc65 hl65 P65 W65 A65
    have V65 : Arv Z h65 a55 k55 .char (17 : Int32) [(.int (115 : Int32)), (.int (116 : Int32)), (.int (97 : Int32)), (.int (110 : Int32)), (.int (100 : Int32)), (.int (97 : Int32)), (.int (114 : Int32)), (.int (100 : Int32)), (.int (45 : Int32)), (.int (119 : Int32)), (.int 0), (.int 0), (.int 0), (.int 0), (.int 0), (.int 0), (.int 0)] (.int 0) := A65
    have N65 := Own.Fr.one N64 hl65 (Nat.le_trans Z0 (Nat.le_of_eq ha55.symm))
    refine Own.dup (q := 75) P65 at_74 rfl rfl ?_
    refine Own.bipush (q := 77) (v := (10 : Int32)) P65 at_75 rfl rfl ?_
    refine Own.bipush (q := 79) (v := (101 : Int32)) P65 at_77 rfl rfl ?_
    refine Own.castore (q := 80) (i := 10) (x2 := (101 : Int32)) P65 at_79 V65 (by decide) (by decide) (by decide) (by decide) (by decide) (Own.ltb rfl) rfl ?_
    intro T66 h66 lc66 hl66 P66 W66 A66
    have V66 : Arv Z h66 a55 k55 .char (17 : Int32) [(.int (115 : Int32)), (.int (116 : Int32)), (.int (97 : Int32)), (.int (110 : Int32)), (.int (100 : Int32)), (.int (97 : Int32)), (.int (114 : Int32)), (.int (100 : Int32)), (.int (45 : Int32)), (.int (119 : Int32)), (.int (101 : Int32)), (.int 0), (.int 0), (.int 0), (.int 0), (.int 0), (.int 0)] (.int 0) := A66
    have N66 := Own.Fr.one N65 hl66 (Nat.le_trans Z0 (Nat.le_of_eq ha55.symm))
    refine Own.dup (q := 81) P66 at_80 rfl rfl ?_
    refine Own.bipush (q := 83) (v := (11 : Int32)) P66 at_81 rfl rfl ?_
    refine Own.bipush (q := 85) (v := (98 : Int32)) P66 at_83 rfl rfl ?_
    refine Own.castore (q := 86) (i := 11) (x2 := (98 : Int32)) P66 at_85 V66 (by decide) (by decide) (by decide) (by decide) (by decide) (Own.ltb rfl) rfl ?_
    intro T67 h67 lc67 hl67 P67 W67 A67
    have V67 : Arv Z h67 a55 k55 .char (17 : Int32) [(.int (115 : Int32)), (.int (116 : Int32)), (.int (97 : Int32)), (.int (110 : Int32)), (.int (100 : Int32)), (.int (97 : Int32)), (.int (114 : Int32)), (.int (100 : Int32)), (.int (45 : Int32)), (.int (119 : Int32)), (.int (101 : Int32)), (.int (98 : Int32)), (.int 0), (.int 0), (.int 0), (.int 0), (.int 0)] (.int 0) := A67
    have N67 := Own.Fr.one N66 hl67 (Nat.le_trans Z0 (Nat.le_of_eq ha55.symm))
    refine Own.dup (q := 87) P67 at_86 rfl rfl ?_
    refine Own.bipush (q := 89) (v := (12 : Int32)) P67 at_87 rfl rfl ?_
    refine Own.bipush (q := 91) (v := (104 : Int32)) P67 at_89 rfl rfl ?_
    refine Own.castore (q := 92) (i := 12) (x2 := (104 : Int32)) P67 at_91 V67 (by decide) (by decide) (by decide) (by decide) (by decide) (Own.ltb rfl) rfl ?_
    intro T68 h68 lc68 hl68 P68 W68 A68
    have V68 : Arv Z h68 a55 k55 .char (17 : Int32) [(.int (115 : Int32)), (.int (116 : Int32)), (.int (97 : Int32)), (.int (110 : Int32)), (.int (100 : Int32)), (.int (97 : Int32)), (.int (114 : Int32)), (.int (100 : Int32)), (.int (45 : Int32)), (.int (119 : Int32)), (.int (101 : Int32)), (.int (98 : Int32)), (.int (104 : Int32)), (.int 0), (.int 0), (.int 0), (.int 0)] (.int 0) := A68
    have N68 := Own.Fr.one N67 hl68 (Nat.le_trans Z0 (Nat.le_of_eq ha55.symm))
    refine Own.dup (q := 93) P68 at_92 rfl rfl ?_
    refine Own.bipush (q := 95) (v := (13 : Int32)) P68 at_93 rfl rfl ?_
    refine Own.bipush (q := 97) (v := (111 : Int32)) P68 at_95 rfl rfl ?_
    refine Own.castore (q := 98) (i := 13) (x2 := (111 : Int32)) P68 at_97 V68 (by decide) (by decide) (by decide) (by decide) (by decide) (Own.ltb rfl) rfl ?_
    intro T69 h69 lc69 hl69 P69 W69 A69
    have V69 : Arv Z h69 a55 k55 .char (17 : Int32) [(.int (115 : Int32)), (.int (116 : Int32)), (.int (97 : Int32)), (.int (110 : Int32)), (.int (100 : Int32)), (.int (97 : Int32)), (.int (114 : Int32)), (.int (100 : Int32)), (.int (45 : Int32)), (.int (119 : Int32)), (.int (101 : Int32)), (.int (98 : Int32)), (.int (104 : Int32)), (.int (111 : Int32)), (.int 0), (.int 0), (.int 0)] (.int 0) := A69
    have N69 := Own.Fr.one N68 hl69 (Nat.le_trans Z0 (Nat.le_of_eq ha55.symm))
    refine Own.dup (q := 99) P69 at_98 rfl rfl ?_
    refine Own.bipush (q := 101) (v := (14 : Int32)) P69 at_99 rfl rfl ?_
    refine Own.bipush (q := 103) (v := (111 : Int32)) P69 at_101 rfl rfl ?_
    refine Own.castore (q := 104) (i := 14) (x2 := (111 : Int32)) P69 at_103 V69 (by decide) (by decide) (by decide) (by decide) (by decide) (Own.ltb rfl) rfl ?_
    intro T70 h70 lc70 hl70 P70 W70 A70
    have V70 : Arv Z h70 a55 k55 .char (17 : Int32) [(.int (115 : Int32)), (.int (116 : Int32)), (.int (97 : Int32)), (.int (110 : Int32)), (.int (100 : Int32)), (.int (97 : Int32)), (.int (114 : Int32)), (.int (100 : Int32)), (.int (45 : Int32)), (.int (119 : Int32)), (.int (101 : Int32)), (.int (98 : Int32)), (.int (104 : Int32)), (.int (111 : Int32)), (.int (111 : Int32)), (.int 0), (.int 0)] (.int 0) := A70
    have N70 := Own.Fr.one N69 hl70 (Nat.le_trans Z0 (Nat.le_of_eq ha55.symm))
    refine Own.dup (q := 105) P70 at_104 rfl rfl ?_
    refine Own.bipush (q := 107) (v := (15 : Int32)) P70 at_105 rfl rfl ?_
    refine Own.bipush (q := 109) (v := (107 : Int32)) P70 at_107 rfl rfl ?_
    refine Own.castore (q := 110) (i := 15) (x2 := (107 : Int32)) P70 at_109 V70 (by decide) (by decide) (by decide) (by decide) (by decide) (Own.ltb rfl) rfl ?_
    intro T71 h71 lc71 hl71 P71 W71 A71
    have V71 : Arv Z h71 a55 k55 .char (17 : Int32) [(.int (115 : Int32)), (.int (116 : Int32)), (.int (97 : Int32)), (.int (110 : Int32)), (.int (100 : Int32)), (.int (97 : Int32)), (.int (114 : Int32)), (.int (100 : Int32)), (.int (45 : Int32)), (.int (119 : Int32)), (.int (101 : Int32)), (.int (98 : Int32)), (.int (104 : Int32)), (.int (111 : Int32)), (.int (111 : Int32)), (.int (107 : Int32)), (.int 0)] (.int 0) := A71
    have N71 := Own.Fr.one N70 hl71 (Nat.le_trans Z0 (Nat.le_of_eq ha55.symm))
    refine Own.dup (q := 111) P71 at_110 rfl rfl ?_
    refine Own.bipush (q := 113) (v := (16 : Int32)) P71 at_111 rfl rfl ?_
    refine Own.bipush (q := 115) (v := (115 : Int32)) P71 at_113 rfl rfl ?_
    refine Own.castore (q := 116) (i := 16) (x2 := (115 : Int32)) P71 at_115 V71 (by decide) (by decide) (by decide) (by decide) (by decide) (Own.ltb rfl) rfl ?_
    intro T72 h72 lc72 hl72 P72 W72 A72
    have V72 : Arv Z h72 a55 k55 .char (17 : Int32) [(.int (115 : Int32)), (.int (116 : Int32)), (.int (97 : Int32)), (.int (110 : Int32)), (.int (100 : Int32)), (.int (97 : Int32)), (.int (114 : Int32)), (.int (100 : Int32)), (.int (45 : Int32)), (.int (119 : Int32)), (.int (101 : Int32)), (.int (98 : Int32)), (.int (104 : Int32)), (.int (111 : Int32)), (.int (111 : Int32)), (.int (107 : Int32)), (.int (115 : Int32))] (.int 0) := A72
    have N72 := Own.Fr.one N71 hl72 (Nat.le_trans Z0 (Nat.le_of_eq ha55.symm))
    refine Own.astoreN (q := 117) (L2 := #[.val (.int x0), .val (.int (1 : Int32)), .val (.ref a55), .unset, .unset, .unset, .unset]) P72 at_116 rfl rfl rfl ?_
    refine Own.goto (q := 185) P72 at_117 (by decide) ?_
    refine Own.newobj (q := 188) P72 at_185 (hw _ (List.mem_of_getElem? (i := 1) rfl)) (hw _ (List.mem_of_getElem? (i := 2) rfl)) (hw _ (List.mem_of_getElem? (i := 3) rfl)) (by decide) (by decide) rfl ?_
    intro T73 h73 a73 ha73 P73 E73 A73 D73
    have F73_coder : Fld Z h73 a73 "java/lang/String" "coder" "B" (.int (0 : Int32)) := D73 (Or.inr (hw _ (List.mem_of_getElem? (i := 27) rfl))) (ty := .byte) (by decide)
    have F73_value : Fld Z h73 a73 "java/lang/String" "value" "[B" .null := D73 (Or.inr (hw _ (List.mem_of_getElem? (i := 29) rfl))) (ty := (.array .byte)) (by decide)
    refine Own.dup (q := 189) P73 at_188 rfl rfl ?_
    refine Own.aloadN (q := 190) P73 at_189 rfl rfl rfl ?_
    have E0_1_74 : Ext h0 h55 := E55
    have E0_2_75 : Ext h0 h56 := (Own.Ext.wr E0_1_74 W56 (Nat.le_of_eq ha55.symm))
    have E0_3_76 : Ext h0 h57 := (Own.Ext.wr E0_2_75 W57 (Nat.le_of_eq ha55.symm))
    have E0_4_77 : Ext h0 h58 := (Own.Ext.wr E0_3_76 W58 (Nat.le_of_eq ha55.symm))
    have E0_5_78 : Ext h0 h59 := (Own.Ext.wr E0_4_77 W59 (Nat.le_of_eq ha55.symm))
    have E0_6_79 : Ext h0 h60 := (Own.Ext.wr E0_5_78 W60 (Nat.le_of_eq ha55.symm))
    have E0_7_80 : Ext h0 h61 := (Own.Ext.wr E0_6_79 W61 (Nat.le_of_eq ha55.symm))
    have E0_8_81 : Ext h0 h62 := (Own.Ext.wr E0_7_80 W62 (Nat.le_of_eq ha55.symm))
    have E0_9_82 : Ext h0 h63 := (Own.Ext.wr E0_8_81 W63 (Nat.le_of_eq ha55.symm))
    have E0_10_83 : Ext h0 h64 := (Own.Ext.wr E0_9_82 W64 (Nat.le_of_eq ha55.symm))
    have E0_11_84 : Ext h0 h65 := (Own.Ext.wr E0_10_83 W65 (Nat.le_of_eq ha55.symm))
    have E0_12_85 : Ext h0 h66 := (Own.Ext.wr E0_11_84 W66 (Nat.le_of_eq ha55.symm))
    have E0_13_86 : Ext h0 h67 := (Own.Ext.wr E0_12_85 W67 (Nat.le_of_eq ha55.symm))
    have E0_14_87 : Ext h0 h68 := (Own.Ext.wr E0_13_86 W68 (Nat.le_of_eq ha55.symm))
    have E0_15_88 : Ext h0 h69 := (Own.Ext.wr E0_14_87 W69 (Nat.le_of_eq ha55.symm))
    have E0_16_89 : Ext h0 h70 := (Own.Ext.wr E0_15_88 W70 (Nat.le_of_eq ha55.symm))
    have E0_17_90 : Ext h0 h71 := (Own.Ext.wr E0_16_89 W71 (Nat.le_of_eq ha55.symm))
    have E0_18_91 : Ext h0 h72 := (Own.Ext.wr E0_17_90 W72 (Nat.le_of_eq ha55.symm))
    have E0_19_92 : Ext h0 h73 := (Own.Ext.tr E0_18_91 E73)
    have E18_19_93 : Ext h72 h73 := E73
    refine Own.invSpecial (q := 193) (W := 1) (y := (⟨"java/lang/String", "<init>", "([C)V"⟩ : MethodName)) (a := a73) (argsL := [(.ref a55)]) (rest := [(.ref a73)]) P73 at_190 rfl (hw _ (List.mem_of_getElem? (i := 4) rfl)) (hw _ (List.mem_of_getElem? (i := 5) rfl)) (hw _ (List.mem_of_getElem? (i := 6) rfl)) (by decide) (Own.newB (W := 1) (n0 := n0) (cs := [(115 : Int32), (116 : Int32), (97 : Int32), (110 : Int32), (100 : Int32), (97 : Int32), (114 : Int32), (100 : Int32), (45 : Int32), (119 : Int32), (101 : Int32), (98 : Int32), (104 : Int32), (111 : Int32), (111 : Int32), (107 : Int32), (115 : Int32)]) (n := 17) P73.2.2.2.1 (fun d hd => hw d (sub_backV d hd)) (hw _ (List.mem_of_getElem? (i := 2) rfl)) (Nat.le_trans Z0 (Nat.le_trans E0_18_91.1 (Nat.le_of_eq ha73.symm))) (Nat.le_trans Z0 E0_19_92.1) A73 F73_value F73_coder (V72.ext E18_19_93) (SC.ext E0_19_92) hzc rfl rfl (by decide) (by decide) (Own.chS (by decide) (Own.chS (by decide) (Own.chS (by decide) (Own.chS (by decide) (Own.chS (by decide) (Own.chS (by decide) (Own.chS (by decide) (Own.chS (by decide) (Own.chS (by decide) (Own.chS (by decide) (Own.chS (by decide) (Own.chS (by decide) (Own.chS (by decide) (Own.chS (by decide) (Own.chS (by decide) (Own.chS (by decide) (Own.chS (by decide) Own.ch0))))))))))))))))) (by decide) (by decide)) rfl rfl (by rw [hml]; rfl) (lenOf (show parseMethodDescriptor "([C)V" = some ⟨[(.array .char)], none⟩ from by decide +kernel) rfl) (by show 2 * 0 + _ ≤ _; exact Nat.le_of_eq rfl) (by decide) (by decide) rfl ?_
    rintro v94 T94 h94 L94 ⟨rfl, N94q, K94, St94⟩ P94
    have N94 := Fr.app N72 N94q
    show Own.Goes _ _ _ _ (T94.setTop (mkF m 193 #[.val (.int x0), .val (.int (1 : Int32)), .val (.ref a55), .unset, .unset, .unset, .unset] [(.ref a73)]))
    refine Own.astoreN (q := 194) (L2 := #[.val (.int x0), .val (.int (1 : Int32)), .val (.ref a55), .val (.ref a73), .unset, .unset, .unset]) P94 at_193 rfl rfl rfl ?_
    refine Own.iloadN (q := 195) P94 at_194 rfl rfl ?_
    refine Own.if_eq (q := 198) (qy := 204) P94 at_195 (by decide) rfl (fun q => absurd q (by decide)) (fun _ => ?_)
    have E0_20_95 : Ext h0 h94 := (Own.Ext.kp E0_19_92 K94 (allS (Nat.le_trans E0_18_91.1 (Nat.le_of_eq ha73.symm)) all0))
    refine Own.getstatic (q := 201) P94 at_198 (hw _ (List.mem_of_getElem? (i := 68) rfl)) (xe1.ext E0_20_95) rfl ?_
    intro T96 P96
    refine Own.goto (q := 207) P96 at_201 (by decide) ?_
    refine Own.astore (q := 209) (L2 := #[.val (.int x0), .val (.int (1 : Int32)), .val (.ref a55), .val (.ref a73), .val (.ref ae1), .unset, .unset]) P96 at_207 rfl rfl rfl ?_
    refine Own.aloadN (q := 210) P96 at_209 rfl rfl rfl ?_
    refine Own.invStatic (q := 213) (W := 0) (y := (⟨"com/example/hookwright/hookwright/signing/SigningProfile", "ofLabel", "(Ljava/lang/String;)Lcom/example/hookwright/hookwright/signing/SigningProfile;"⟩ : MethodName)) (argsL := [(.ref a73)]) (rest := []) P96 at_210 (hw _ (List.mem_of_getElem? (i := 33) rfl)) (hw _ (List.mem_of_getElem? (i := 34) rfl)) (hw _ (List.mem_of_getElem? (i := 31) rfl)) (hw _ (List.mem_of_getElem? (i := 35) rfl)) (by decide) (backOf (W := 0) (rmOf l Z a0 hw [] a73 tx1 ae1 zc ae0 ae1 se0 se1 av kv h94 n0 (Nat.le_trans Z0 E0_20_95.1) (SC.ext E0_20_95) hzc (en.ext E0_20_95) St94 (Or.inr ⟨rfl, rfl⟩)) P96.2.2.2.1 (hw _ (List.mem_of_getElem? (i := 35) rfl)) (hw _ (List.mem_of_getElem? (i := 31) rfl)) (by decide) (by decide)) rfl rfl (by rw [hml]; rfl) (lenOf (show parseMethodDescriptor "(Ljava/lang/String;)Lcom/example/hookwright/hookwright/signing/SigningProfile;" = some ⟨[(.object "java/lang/String")], some (.object "com/example/hookwright/hookwright/signing/SigningProfile")⟩ from by decide +kernel) rfl) (by show 2 * 0 + _ ≤ _; exact Nat.le_of_eq rfl) (by decide) (by decide) rfl ?_
    rintro v97 T97 h97 L97 ⟨rfl, N97q, E97⟩ P97
    have N97 := Fr.app N94 N97q
    show Own.Goes _ _ _ _ (T97.setTop (mkF m 213 #[.val (.int x0), .val (.int (1 : Int32)), .val (.ref a55), .val (.ref a73), .val (.ref ae1), .unset, .unset] [(.ref ae1)]))
    refine Own.astore (q := 215) (L2 := #[.val (.int x0), .val (.int (1 : Int32)), .val (.ref a55), .val (.ref a73), .val (.ref ae1), .val (.ref ae1), .unset]) P97 at_213 rfl rfl rfl ?_
    refine Own.aload (q := 217) P97 at_215 rfl rfl rfl ?_
    have E0_21_98 : Ext h0 h97 := (Own.Ext.tr E0_20_95 E97)
    refine Own.invVirtual (q := 220) (W := 0) (y := (⟨"com/example/hookwright/hookwright/signing/SigningProfile", "label", "()Ljava/lang/String;"⟩ : MethodName)) (a := ae1) (argsL := []) (rest := []) P97 at_217 (hw _ (List.mem_of_getElem? (i := 63) rfl)) (hw _ (List.mem_of_getElem? (i := 64) rfl)) (hw _ (List.mem_of_getElem? (i := 71) rfl)) (hw _ (List.mem_of_getElem? (i := 65) rfl)) (notFace_of_selects (args := #[]) (mvT P97.2.2.2.1 (hw _ (List.mem_of_getElem? (i := 71) rfl)))) (by decide) (backOf (W := 0) (rmGet l Z a0 hw [] ae1 se1 h97 n0 (Nat.le_trans Z0 E0_21_98.1) (xe8.ext E0_21_98)) P97.2.2.2.1 (hw _ (List.mem_of_getElem? (i := 67) rfl)) (hw _ (List.mem_of_getElem? (i := 31) rfl)) (by decide) (by decide)) (xe4.ext E0_21_98) rfl rfl (by rw [hml]; rfl) (lenOf (show parseMethodDescriptor "()Ljava/lang/String;" = some ⟨[], some (.object "java/lang/String")⟩ from by decide +kernel) rfl) (by show 2 * 0 + _ ≤ _; exact Nat.le_of_eq rfl) (by decide) (by decide) rfl ?_
    rintro v99 T99 h99 L99 ⟨rfl, N99q, e99⟩ P99
    rw [e99] at P99
    have N99 := Fr.app N97 N99q
    show Own.Goes _ _ _ _ (T99.setTop (mkF m 220 #[.val (.int x0), .val (.int (1 : Int32)), .val (.ref a55), .val (.ref a73), .val (.ref ae1), .val (.ref ae1), .unset] [(.ref se1)]))
    refine Own.invStatic (q := 223) (W := 0) (y := (⟨"com/example/hookwright/hookwright/signing/SigningProfile", "ofLabel", "(Ljava/lang/String;)Lcom/example/hookwright/hookwright/signing/SigningProfile;"⟩ : MethodName)) (argsL := [(.ref se1)]) (rest := []) P99 at_220 (hw _ (List.mem_of_getElem? (i := 33) rfl)) (hw _ (List.mem_of_getElem? (i := 34) rfl)) (hw _ (List.mem_of_getElem? (i := 31) rfl)) (hw _ (List.mem_of_getElem? (i := 35) rfl)) (by decide) (backOf (W := 0) (rmOf l Z a0 hw [] se1 tx1 ae1 zc ae0 ae1 se0 se1 av kv h97 n0 (Nat.le_trans Z0 E0_21_98.1) (SC.ext E0_21_98) hzc (en.ext E0_21_98) (xe10.ext E0_21_98) (Or.inr ⟨rfl, rfl⟩)) P99.2.2.2.1 (hw _ (List.mem_of_getElem? (i := 35) rfl)) (hw _ (List.mem_of_getElem? (i := 31) rfl)) (by decide) (by decide)) rfl rfl (by rw [hml]; rfl) (lenOf (show parseMethodDescriptor "(Ljava/lang/String;)Lcom/example/hookwright/hookwright/signing/SigningProfile;" = some ⟨[(.object "java/lang/String")], some (.object "com/example/hookwright/hookwright/signing/SigningProfile")⟩ from by decide +kernel) rfl) (by show 2 * 0 + _ ≤ _; exact Nat.le_of_eq rfl) (by decide) (by decide) rfl ?_
    rintro v100 T100 h100 L100 ⟨rfl, N100q, E100⟩ P100
    have N100 := Fr.app N99 N100q
    show Own.Goes _ _ _ _ (T100.setTop (mkF m 223 #[.val (.int x0), .val (.int (1 : Int32)), .val (.ref a55), .val (.ref a73), .val (.ref ae1), .val (.ref ae1), .unset] [(.ref ae1)]))
    refine Own.astore (q := 225) (L2 := #[.val (.int x0), .val (.int (1 : Int32)), .val (.ref a55), .val (.ref a73), .val (.ref ae1), .val (.ref ae1), .val (.ref ae1)]) P100 at_223 rfl rfl rfl ?_
    refine Own.aload (q := 227) P100 at_225 rfl rfl rfl ?_
    refine Own.aload (q := 229) P100 at_227 rfl rfl rfl ?_
    refine Own.acmp_ne (q := 232) (qy := 243) P100 at_229 rfl rfl (by decide) rfl (fun q => absurd rfl q) (fun _ => ?_)
    refine Own.aload (q := 234) P100 at_232 rfl rfl rfl ?_
    refine Own.aload (q := 236) P100 at_234 rfl rfl rfl ?_
    refine Own.acmp_ne (q := 239) (qy := 243) P100 at_236 rfl rfl (by decide) rfl (fun q => absurd rfl q) (fun _ => ?_)
    refine Own.iconst (q := 240) (v := (1 : Int32)) P100 at_239 rfl rfl ?_
    refine Own.goto (q := 244) P100 at_240 (by decide) ?_
    refine Own.retZ (Q := QrmLaw Z x0 zc ae0 ae1 se0 se1 av kv h0 n0) P100 at_244 hret (by simp) hlk (by decide) (by decide) ?_
    exact ⟨rfl, N100⟩
set_option maxRecDepth 65536 in
set_option maxHeartbeats 40000000 in
theorem comes_1 {Post : Tables → Env → Array Value → State → Outcome → State → Prop} (hpost : ∀ tb e args s v u, (limb_1_1.after args s (.returned v) u = true ∧ limb_1_2.after args s (.returned v) u = true ∧ True) → FrameEnd s (.returned v) u (Jvm.fieldLocs frame_1_writes args s ++ Jvm.arrayLocs frame_1_arrays args s ++ Jvm.staticLocs frame_1_statics s) 24 192 → Post tb e args s (.returned v) u) :
    ArmFor flags0 classFile x code maxLocals ret World_1 tables_1 room_1 Calls_1 rest_1 Pre_1 Post := by
  intro l hfl _ _ p e ha hc hk s m args below hf hA hF happ hP
  obtain ⟨hcalls, hrest, hpre⟩ := hP
  obtain ⟨-, -, -, hnamed, -, -, -, hat⟩ := (Spec.applies_iff hf).mp happ
  obtain ⟨hg, hn⟩ := and_e (Cond.before_iff.mp (show (Jvm.Cond.and given_1 narrow_1).before args s = true from hpre))
  obtain ⟨hg0, hg1⟩ := and_e hg
  obtain ⟨w0, rfl⟩ : ∃ w0 : Value, args = #[w0] := by
    have hs : args.size = 1 := by simpa [Cond.value, given_1] using hg0
    obtain ⟨L⟩ := args
    match L, hs with
    | [w0], _ => exact ⟨w0, rfl⟩
  have hw := fun d (hd : d ∈ tables_1) => atoms_spec (ws := Jvm.Cond.code x code maxLocals ret :: tables_1) hat d (List.mem_cons_of_mem _ hd)
  obtain ⟨hsets, hown0⟩ := atoms_of _ (rest_1_c_eq ▸ (show rest_1_c.before _ s = true from hrest))
  have hfit : Fit s := fun {y c} hc i hi => by
    obtain ⟨ha, rfl⟩ := Array.getElem?_eq_some_iff.mp hc
    have q := List.all_eq_true.mp ((Array.all_eq_true_iff_forall_mem.mp hF) _ (Array.getElem_mem ha)) i (List.mem_range.mpr hi)
    simpa [Array.getElem?_eq_getElem hi] using q
  obtain ⟨i0, ei0⟩ := is_v hg1
  obtain rfl : w0 = (.int i0) := Option.some.inj ei0
  have n5 := not_v (Cond.before_iff.mp (hsets _ (List.mem_of_getElem? (i := 2) rfl)))
  obtain ⟨zc, ezc⟩ := is_v (Cond.before_iff.mp (hsets _ (List.mem_of_getElem? (i := 1) rfl)))
  have SC : Sta s s.heap "java/lang/String" "COMPACT_STRINGS" "Z" (.int zc) := Sta.start ezc (Or.inl (hsets _ (List.mem_of_getElem? (i := 0) rfl)))
  have hzc : ¬ (zc = (0 : Int32)) := gotF (Cond.eq_ints ezc (Term.int_eval (0))) n5
  obtain ⟨fm, efm, rfm⟩ := isR_v (Cond.before_iff.mp (hsets _ (List.mem_of_getElem? (i := 8) rfl)))
  have SF : Sta s s.heap "jdk/internal/util/Preconditions" "SIOOBE_FORMATTER" "Ljava/util/function/BiFunction;" fm := Sta.start efm (Or.inl (hsets _ (List.mem_of_getElem? (i := 7) rfl)))
  obtain ⟨nn0, nr0⟩ := and_e hn
  obtain ⟨nn1, nr1⟩ := and_e nr0
  obtain ⟨nn2, nr2⟩ := and_e nr1
  obtain ⟨nn3, nr3⟩ := and_e nr2
  obtain ⟨nn4, nr4⟩ := and_e nr3
  obtain ⟨nn5, nr5⟩ := and_e nr4
  obtain ⟨nn6, nr6⟩ := and_e nr5
  obtain ⟨nn7, nr7⟩ := and_e nr6
  obtain ⟨nn8, nr8⟩ := and_e nr7
  obtain ⟨nn9, nr9⟩ := and_e nr8
  obtain ⟨nn10, nr10⟩ := and_e nr9
  obtain ⟨nn11, nr11⟩ := and_e nr10
  obtain ⟨nn12, nr12⟩ := and_e nr11
  obtain ⟨nn13, nr13⟩ := and_e nr12
  obtain ⟨nn14, nr14⟩ := and_e nr13
  obtain ⟨nn15, nr15⟩ := and_e nr14
  obtain ⟨nn16, nr16⟩ := and_e nr15
  obtain ⟨nn17, nr17⟩ := and_e nr16
  obtain ⟨nn18, nr18⟩ := and_e nr17
  obtain ⟨nn19, nr19⟩ := and_e nr18
  obtain ⟨nn20, nr20⟩ := and_e nr19
  obtain ⟨nn21, nr21⟩ := and_e nr20
  obtain ⟨nn22, nr22⟩ := and_e nr21
  obtain ⟨nn23, nr23⟩ := and_e nr22
  obtain ⟨nn24, nr24⟩ := and_e nr23
  obtain ⟨nn25, nr25⟩ := and_e nr24
  obtain ⟨nn26, nr26⟩ := and_e nr25
  obtain ⟨nn27, nr27⟩ := and_e nr26
  obtain ⟨nn28, nr28⟩ := and_e nr27
  obtain ⟨nn29, nr29⟩ := and_e nr28
  obtain ⟨nn30, nr30⟩ := and_e nr29
  obtain ⟨nn31, nr31⟩ := and_e nr30
  obtain ⟨nn32, nr32⟩ := and_e nr31
  obtain ⟨nn33, nr33⟩ := and_e nr32
  obtain ⟨nn34, nr34⟩ := and_e nr33
  obtain ⟨nn35, nr35⟩ := and_e nr34
  obtain ⟨nn36, nr36⟩ := and_e nr35
  obtain ⟨nn37, nr37⟩ := and_e nr36
  obtain ⟨nn38, nr38⟩ := and_e nr37
  obtain ⟨nn39, nr39⟩ := and_e nr38
  obtain ⟨nn40, nr40⟩ := and_e nr39
  obtain ⟨nn41, nr41⟩ := and_e nr40
  obtain ⟨nn42, nn43⟩ := and_e nr41
  obtain ⟨ae0, ev0⟩ := exa_v nn0
  have T0 : Sta s s.heap "com/example/hookwright/hookwright/signing/SigningProfile" "TIMESTAMPED" "Lcom/example/hookwright/hookwright/signing/SigningProfile;" (.ref ae0) := Sta.start ev0 (Or.inr ⟨hw _ (List.mem_of_getElem? (i := 31) rfl), hw _ (List.mem_of_getElem? (i := 32) rfl)⟩)
  have X0 := Exa.start ev0 nn0
  obtain ⟨ae1, el1⟩ := exa_v nn5
  have ev1 := Own.eq_ref nn10 el1
  have T1 : Sta s s.heap "com/example/hookwright/hookwright/signing/SigningProfile" "STANDARD_WEBHOOKS" "Lcom/example/hookwright/hookwright/signing/SigningProfile;" (.ref ae1) := Sta.start ev1 (Or.inr ⟨hw _ (List.mem_of_getElem? (i := 31) rfl), hw _ (List.mem_of_getElem? (i := 69) rfl)⟩)
  have X1 := Exa.start el1 nn5
  obtain ⟨av, eva⟩ := arr_v nn1
  obtain ⟨cl, Ar⟩ := Arr.start eva nn1
  have TV : Sta s s.heap "com/example/hookwright/hookwright/signing/SigningProfile" "$VALUES" "[Lcom/example/hookwright/hookwright/signing/SigningProfile;" (.ref av) := Sta.start eva (Or.inl (hw _ (List.mem_of_getElem? (i := 48) rfl)))
  have XV := Exa.start eva nn2
  obtain ⟨sz1, sz2⟩ := Own.small (Own.eq_int nn3) eva Ar.1
  have sl0 := (elem_in (Own.eq_ref nn4 ev0) eva (Term.int_eval 0) Ar.1).2
  have sl1 := (elem_in el1 eva (Term.int_eval 1) Ar.1).2
  have AV : Arv s s.heap av cl.cls (.object "com/example/hookwright/hookwright/signing/SigningProfile") 2 [.ref ae0, .ref ae1] .null := Arv.start hfit Ar sz1 sz2 (by decide) rfl ⟨sl0, sl1, trivial⟩
  obtain ⟨se0, es0, SS0⟩ := Own.strStart (cs := tx0) (bs := tx0) hfit nn6 nn7 nn8 nn9 (by decide) (by decide) (Own.chS (by decide) (Own.chS (by decide) (Own.chS (by decide) (Own.chS (by decide) (Own.chS (by decide) (Own.chS (by decide) (Own.chS (by decide) (Own.chS (by decide) (Own.chS (by decide) (Own.chS (by decide) (Own.chS (by decide) Own.ch0))))))))))) (by decide) (by decide) (by decide) (fun _ _ ht hcl => ⟨Own.elem_is nn16 ht hcl, Own.elem_is nn17 ht hcl, Own.elem_is nn18 ht hcl, Own.elem_is nn19 ht hcl, Own.elem_is nn20 ht hcl, Own.elem_is nn21 ht hcl, Own.elem_is nn22 ht hcl, Own.elem_is nn23 ht hcl, Own.elem_is nn24 ht hcl, Own.elem_is nn25 ht hcl, Own.elem_is nn26 ht hcl, trivial⟩)
  have FF0 : Fld s s.heap ae0 "com/example/hookwright/hookwright/signing/SigningProfile" "label" "Ljava/lang/String;" (.ref se0) := Fld.start (by rw [← es0, fld_at ev0])
  obtain ⟨se1, es1, SS1⟩ := Own.strStart (cs := tx1) (bs := tx1) hfit nn11 nn12 nn13 nn14 (by decide) (by decide) (Own.chS (by decide) (Own.chS (by decide) (Own.chS (by decide) (Own.chS (by decide) (Own.chS (by decide) (Own.chS (by decide) (Own.chS (by decide) (Own.chS (by decide) (Own.chS (by decide) (Own.chS (by decide) (Own.chS (by decide) (Own.chS (by decide) (Own.chS (by decide) (Own.chS (by decide) (Own.chS (by decide) (Own.chS (by decide) (Own.chS (by decide) Own.ch0))))))))))))))))) (by decide) (by decide) (by decide) (fun _ _ ht hcl => ⟨Own.elem_is nn27 ht hcl, Own.elem_is nn28 ht hcl, Own.elem_is nn29 ht hcl, Own.elem_is nn30 ht hcl, Own.elem_is nn31 ht hcl, Own.elem_is nn32 ht hcl, Own.elem_is nn33 ht hcl, Own.elem_is nn34 ht hcl, Own.elem_is nn35 ht hcl, Own.elem_is nn36 ht hcl, Own.elem_is nn37 ht hcl, Own.elem_is nn38 ht hcl, Own.elem_is nn39 ht hcl, Own.elem_is nn40 ht hcl, Own.elem_is nn41 ht hcl, Own.elem_is nn42 ht hcl, Own.elem_is nn43 ht hcl, trivial⟩)
  have FF1 : Fld s s.heap ae1 "com/example/hookwright/hookwright/signing/SigningProfile" "label" "Ljava/lang/String;" (.ref se1) := Fld.start (by rw [← es1, fld_at el1])
  have en : EN s s.heap ae0 ae1 se0 se1 av cl.cls := ⟨T0, T1, TV, X0, X1, XV, AV, FF0, FF1, SS0, SS1⟩
  obtain ⟨n, o, h1, h2, h3, _, L, rfl, ⟨rfl, N⟩, hq⟩ := rmLaw l s _ hw tables_1 i0 zc ae0 ae1 se0 se1 av cl.cls s.heap s.heap.size (Nat.le_refl _) SC hzc en p e ha hc hk s m _ below hf ((Spec.applies_iff_loose hf).mp happ).1 ⟨rfl, State.Warmed39.refl s, rfl⟩ trivial
  refine ⟨n, _, h1, h2, h3, hpost _ _ _ _ _ _ ⟨Cond.after_iff.mpr rfl, Cond.after_iff.mpr (eq_i res_at (Term.int_eval (1)) rfl), trivial⟩ ⟨hq.1, hq.2.1, (hq.2.2.sift fun y hy => Or.inr (N y hy)).mono (by decide) (by decide)⟩⟩
theorem main_1_1 : Claimed_1_1 := comes_1 fun _ _ _ _ _ _ h hF => ⟨h.1, hF⟩
theorem main_1_2 : Claimed_1_2 := comes_1 fun _ _ _ _ _ _ h hF => ⟨h.2.1, hF⟩
end Jvm.Pilot.@@N@@
namespace Jvm.Pilot.@@N@@
open Jvm Jvm.ClassFile Sem Op Lib Jvm.Free Jvm.Stand Jvm.Pilot.@@N@@.Jvm.D
/-! MADE BY PROGRAM (witnessworld.py) out of the Statement's table words and the real class files: 24 classes; the members and pool entries that the words name. The judged class is class 1, her method 1. -/
namespace start1
open Jvm.ClassFile
def u (s : String) : CpInfo := .utf8 (stringToUtf16 s)
/-- a pool by its gaps: so many unusable entries, then the entry; so many at the end -/
def gap : Nat → List CpInfo → List CpInfo
  | 0, r => r
  | n + 1, r => .unusable :: gap n r
def poolList (es : List (Nat × CpInfo)) (last : Nat) : List CpInfo := es.foldr (fun e r => gap e.1 (e.2 :: r)) (gap last [])
def pool (es : List (Nat × CpInfo)) (last : Nat) : Array CpInfo := ⟨poolList es last⟩
def fileOf (pool : Array CpInfo) (this : Nat) (attrs : Array Attribute := #[]) (ms : Array MethodInfo := #[]) (fl : Nat := 33) (sup : Nat := 0) (ifs : Array Nat := #[]) (fds : Array FieldInfo := #[]) : ClassFile where
  minorVersion := 0
  majorVersion := 65
  constantPool := pool
  accessFlags := fl
  thisClass := this
  superClass := sup
  interfaces := ifs
  fields := fds
  methods := ms
  attributes := attrs
def plain (name : String) (sup : Option ClassId) : Class where
  name := name
  kind := .ordinary
  loader := none
  accessFlags := 33
  super := sup
  interfaces := #[]
  cf := none
  fields := #[]
  methods := #[]
  instanceTypes := #[]
  staticTypes := #[]
  resolved := #[]
  callSites := []
  init := .initialized
  statics := none
  mirror := none

def pool0 : Array CpInfo := pool [(5, u "<init>"), (0, u "()V"), (1, .class_ 10), (1, u "java/lang/Object"), (85, u "clone"), (0, u "()Ljava/lang/Object;")] 26

def k0c0 : Code := { maxStack := 0, maxLocals := 1, code := object_method_1_code, exceptionTable := #[], attributes := #[] }
def k0m0 : Method := { name := "<init>", desc := "()V", sig := { parameters := [], returnType := none }, accessFlags := 1, code := some k0c0 }
def k0m1 : Method := { name := "clone", desc := "()Ljava/lang/Object;", sig := { parameters := [], returnType := some (.object "java/lang/Object") }, accessFlags := 260, code := none }
/-- java/lang/Object -/
def k0 : Class := { plain "java/lang/Object" none with
  accessFlags := 33
  interfaces := #[]
  cf := some (fileOf pool0 8 #[] #[{ accessFlags := 1, nameIndex := 5, descriptorIndex := 6, attributes := #[] }, { accessFlags := 260, nameIndex := 96, descriptorIndex := 97, attributes := #[] }] 33 0 #[] #[])
  fields := #[]
  methods := #[k0m0, k0m1]
  instanceTypes := #[]
  staticTypes := #[]
  resolved := Array.replicate 124 none
  statics := none }

def pool1 : Array CpInfo := pool [(2, .class_ 4), (1, u "java/lang/Object"), (0, u "<init>"), (0, u "()V"), (0, .class_ 8), (0, u "java/lang/String"), (0, .methodref 7 10), (0, .nameAndType 5 11), (0, u "([C)V"), (0, .fieldref 13 14), (0, .class_ 15), (0, .nameAndType 16 17), (0, u "com/example/hookwright/hookwright/signing/SigningProfile"), (0, u "STANDARD_WEBHOOKS"), (0, u "Lcom/example/hookwright/hookwright/signing/SigningProfile;"), (0, .fieldref 13 19), (0, .nameAndType 20 17), (0, u "TIMESTAMPED"), (0, .methodref 13 22), (0, .nameAndType 23 24), (0, u "ofLabel"), (0, u "(Ljava/lang/String;)Lcom/example/hookwright/hookwright/signing/SigningProfile;"), (0, .methodref 13 26), (0, .nameAndType 27 28), (0, u "label"), (0, u "()Ljava/lang/String;"), (0, .class_ 30), (0, u "com/example/hookwright/hookwright/signing/SigningProfileOfLabelPinLaw"), (2, u "law"), (0, u "(I)Z")] 5

def k1m0 : Method := { name := "<init>", desc := "()V", sig := { parameters := [], returnType := none }, accessFlags := 2, code := none }
def k1c1 : Code := { maxStack := 4, maxLocals := 7, code := code, exceptionTable := #[], attributes := #[] }
def k1m1 : Method := { name := "law", desc := "(I)Z", sig := { parameters := [.int], returnType := some .boolean }, accessFlags := 9, code := some k1c1 }
/-- com/example/hookwright/hookwright/signing/SigningProfileOfLabelPinLaw -/
def k1 : Class := { plain "com/example/hookwright/hookwright/signing/SigningProfileOfLabelPinLaw" (some 0) with
  accessFlags := 49
  interfaces := #[]
  cf := some (fileOf pool1 29 #[] #[{ accessFlags := 2, nameIndex := 5, descriptorIndex := 6, attributes := #[] }, { accessFlags := 9, nameIndex := 33, descriptorIndex := 34, attributes := #[] }] 49 2 #[] #[])
  fields := #[]
  methods := #[k1m0, k1m1]
  instanceTypes := #[]
  staticTypes := #[]
  resolved := Array.replicate 40 none
  statics := none }

def pool2 : Array CpInfo := pool [(1, .class_ 2), (0, u "java/io/Serializable"), (0, .class_ 4), (0, u "java/lang/Object")] 2

/-- java/io/Serializable -/
def k2 : Class := { plain "java/io/Serializable" (some 0) with
  accessFlags := 1537
  interfaces := #[]
  cf := some (fileOf pool2 1 #[] #[] 1537 3 #[] #[])
  fields := #[]
  methods := #[]
  instanceTypes := #[]
  staticTypes := #[]
  resolved := Array.replicate 7 none
  statics := none }

def pool3 : Array CpInfo := pool [(1, .class_ 2), (0, u "java/lang/Comparable"), (0, .class_ 4), (0, u "java/lang/Object")] 7

/-- java/lang/Comparable -/
def k3 : Class := { plain "java/lang/Comparable" (some 0) with
  accessFlags := 1537
  interfaces := #[]
  cf := some (fileOf pool3 1 #[] #[] 1537 3 #[] #[])
  fields := #[]
  methods := #[]
  instanceTypes := #[]
  staticTypes := #[]
  resolved := Array.replicate 12 none
  statics := none }

def pool4 : Array CpInfo := pool [(2, .class_ 4), (1, u "java/lang/CharSequence"), (42, .class_ 48), (0, u "java/lang/CharSequence$1CodePointIterator"), (10, .class_ 60), (0, u "java/lang/CharSequence$1CharIterator"), (5, .class_ 67), (0, u "java/lang/Object")] 63

/-- java/lang/CharSequence -/
def k4 : Class := { plain "java/lang/CharSequence" (some 0) with
  accessFlags := 1537
  interfaces := #[]
  cf := some (fileOf pool4 2 #[.nestMembers #[47, 59]] #[] 1537 66 #[] #[])
  fields := #[]
  methods := #[]
  instanceTypes := #[]
  staticTypes := #[]
  resolved := Array.replicate 131 none
  statics := none }

def pool5 : Array CpInfo := pool [(1, .class_ 2), (0, u "java/lang/constant/Constable"), (0, .class_ 4), (0, u "java/lang/Object")] 6

/-- java/lang/constant/Constable -/
def k5 : Class := { plain "java/lang/constant/Constable" (some 0) with
  accessFlags := 1537
  interfaces := #[]
  cf := some (fileOf pool5 1 #[] #[] 1537 3 #[] #[])
  fields := #[]
  methods := #[]
  instanceTypes := #[]
  staticTypes := #[]
  resolved := Array.replicate 11 none
  statics := none }

def pool6 : Array CpInfo := pool [(1, .class_ 2), (0, u "java/lang/constant/ConstantDesc"), (0, .class_ 4), (0, u "java/lang/Object")] 32

/-- java/lang/constant/ConstantDesc -/
def k6 : Class := { plain "java/lang/constant/ConstantDesc" (some 0) with
  accessFlags := 1537
  interfaces := #[]
  cf := some (fileOf pool6 1 #[] #[] 1537 3 #[] #[])
  fields := #[]
  methods := #[]
  instanceTypes := #[]
  staticTypes := #[]
  resolved := Array.replicate 37 none
  statics := none }

def pool7 : Array CpInfo := pool [(1, .methodref 2 3), (0, .class_ 4), (0, .nameAndType 5 6), (0, u "java/lang/Object"), (0, u "<init>"), (0, u "()V"), (2, .fieldref 10 11), (0, .class_ 12), (0, .nameAndType 13 14), (0, u "java/lang/String"), (0, u "value"), (0, u "[B"), (0, .fieldref 10 16), (0, .nameAndType 17 18), (0, u "coder"), (0, u "B"), (2, u "hash"), (0, u "I"), (2, u "hashIsZero"), (0, u "Z"), (0, .methodref 10 28), (0, .nameAndType 5 29), (0, u "([CIILjava/lang/Void;)V"), (8, .fieldref 10 39), (0, .nameAndType 40 26), (0, u "COMPACT_STRINGS"), (1, .class_ 44), (1, u "java/lang/StringUTF16"), (0, u "compress"), (1, .methodref 42 48), (0, .nameAndType 49 50), (0, u "coderFromArrayLen"), (0, u "([BI)B"), (56, .class_ 109), (1, u "java/lang/StringLatin1"), (67, .methodref 42 178), (0, .nameAndType 45 179), (0, u "([CII)[B"), (361, .methodref 107 542), (0, .nameAndType 543 544), (0, u "equals"), (0, u "([B[B)Z"), (28, u "(Ljava/lang/Object;)Z"), (1, .class_ 576), (0, u "java/lang/CharSequence"), (22, u "CASE_INSENSITIVE_ORDER"), (0, u "Ljava/util/Comparator;"), (409, u "([C)V"), (90, u "serialPersistentFields"), (0, u "[Ljava/io/ObjectStreamField;"), (0, .class_ 1104), (0, u "java/lang/String$CaseInsensitiveComparator"), (1, .class_ 1107), (0, u "java/io/Serializable"), (0, .class_ 1109), (0, u "java/lang/Comparable"), (0, .class_ 1111), (0, u "java/lang/constant/Constable"), (0, .class_ 1113), (0, u "java/lang/constant/ConstantDesc"), (2, u "serialVersionUID"), (0, u "J"), (3, u "REPL"), (0, u "C"), (2, u "LATIN1"), (1, u "UTF16")] 323

def k7m0 : Method := { name := "<init>", desc := "()V", sig := { parameters := [], returnType := none }, accessFlags := 1, code := none }
def k7c1 : Code := { maxStack := 5, maxLocals := 2, code := jdk_42_method_3_code, exceptionTable := #[], attributes := #[] }
def k7m1 : Method := { name := "<init>", desc := "([C)V", sig := { parameters := [(.array .char)], returnType := none }, accessFlags := 1, code := some k7c1 }
def k7c2 : Code := { maxStack := 2, maxLocals := 3, code := jdk_42_method_66_code, exceptionTable := #[], attributes := #[] }
def k7m2 : Method := { name := "equals", desc := "(Ljava/lang/Object;)Z", sig := { parameters := [(.object "java/lang/Object")], returnType := some .boolean }, accessFlags := 1, code := some k7c2 }
def k7c3 : Code := { maxStack := 4, maxLocals := 6, code := jdk_42_method_149_code, exceptionTable := #[], attributes := #[] }
def k7m3 : Method := { name := "<init>", desc := "([CIILjava/lang/Void;)V", sig := { parameters := [(.array .char), .int, .int, (.object "java/lang/Void")], returnType := none }, accessFlags := 2, code := some k7c3 }
/-- java/lang/String -/
def k7 : Class := { plain "java/lang/String" (some 0) with
  accessFlags := 49
  interfaces := #[2, 3, 4, 5, 6]
  cf := some (fileOf pool7 10 #[.nestMembers #[1103]] #[{ accessFlags := 1, nameIndex := 5, descriptorIndex := 6, attributes := #[] }, { accessFlags := 1, nameIndex := 5, descriptorIndex := 1010, attributes := #[] }, { accessFlags := 1, nameIndex := 543, descriptorIndex := 573, attributes := #[] }, { accessFlags := 2, nameIndex := 5, descriptorIndex := 29, attributes := #[] }] 49 2 #[1106, 1108, 575, 1110, 1112] #[{ accessFlags := 18, nameIndex := 13, descriptorIndex := 14, attributes := #[] }, { accessFlags := 18, nameIndex := 17, descriptorIndex := 18, attributes := #[] }, { accessFlags := 2, nameIndex := 21, descriptorIndex := 22, attributes := #[] }, { accessFlags := 2, nameIndex := 25, descriptorIndex := 26, attributes := #[] }, { accessFlags := 26, nameIndex := 1116, descriptorIndex := 1117, attributes := #[] }, { accessFlags := 24, nameIndex := 40, descriptorIndex := 26, attributes := #[] }, { accessFlags := 26, nameIndex := 1101, descriptorIndex := 1102, attributes := #[] }, { accessFlags := 26, nameIndex := 1121, descriptorIndex := 1122, attributes := #[] }, { accessFlags := 25, nameIndex := 599, descriptorIndex := 600, attributes := #[] }, { accessFlags := 24, nameIndex := 1125, descriptorIndex := 18, attributes := #[] }, { accessFlags := 24, nameIndex := 1127, descriptorIndex := 18, attributes := #[] }])
  fields := #[{ name := "value", type := (.array .byte), accessFlags := 18, slot := 0, constantValue := 0 }, { name := "coder", type := .byte, accessFlags := 18, slot := 1, constantValue := 0 }, { name := "hash", type := .int, accessFlags := 2, slot := 2, constantValue := 0 }, { name := "hashIsZero", type := .boolean, accessFlags := 2, slot := 3, constantValue := 0 }, { name := "serialVersionUID", type := .long, accessFlags := 26, slot := 0, constantValue := 0 }, { name := "COMPACT_STRINGS", type := .boolean, accessFlags := 24, slot := 1, constantValue := 0 }, { name := "serialPersistentFields", type := (.array (.object "java/io/ObjectStreamField")), accessFlags := 26, slot := 2, constantValue := 0 }, { name := "REPL", type := .char, accessFlags := 26, slot := 3, constantValue := 0 }, { name := "CASE_INSENSITIVE_ORDER", type := (.object "java/util/Comparator"), accessFlags := 25, slot := 4, constantValue := 0 }, { name := "LATIN1", type := .byte, accessFlags := 24, slot := 5, constantValue := 0 }, { name := "UTF16", type := .byte, accessFlags := 24, slot := 6, constantValue := 0 }]
  methods := #[k7m0, k7m1, k7m2, k7m3]
  instanceTypes := #[(.array .byte), .byte, .int, .boolean]
  staticTypes := #[.long, .boolean, (.array (.object "java/io/ObjectStreamField")), .char, (.object "java/util/Comparator"), .byte, .byte]
  resolved := Array.replicate 1451 none
  statics := some 0 }

def pool8 : Array CpInfo := pool [(6, .class_ 8), (1, u "java/lang/Object"), (0, u "<init>"), (0, u "()V"), (1, .class_ 14), (1, u "java/lang/StringUTF16"), (31, u "$assertionsDisabled"), (0, u "Z"), (13, u "HI_BYTE_SHIFT"), (0, u "I"), (2, u "LO_BYTE_SHIFT"), (49, .methodref 12 116), (0, .nameAndType 117 118), (0, u "compress"), (0, u "([CI[BII)I"), (3, u "([CII)[B"), (138, u "coderFromArrayLen"), (0, u "([BI)B"), (106, .class_ 371), (1, u "java/lang/StringUTF16$LinesSpliterator"), (58, u "MAX_LENGTH"), (196, .class_ 628), (0, u "java/lang/StringUTF16$CodePointsSpliterator"), (0, .class_ 630), (0, u "java/lang/StringUTF16$CharsSpliterator")] 4

def k8m0 : Method := { name := "<init>", desc := "()V", sig := { parameters := [], returnType := none }, accessFlags := 0, code := none }
def k8c1 : Code := { maxStack := 2, maxLocals := 2, code := jdk_52_method_15_code, exceptionTable := #[], attributes := #[] }
def k8m1 : Method := { name := "coderFromArrayLen", desc := "([BI)B", sig := { parameters := [(.array .byte), .int], returnType := some .byte }, accessFlags := 8, code := some k8c1 }
def k8c2 : Code := { maxStack := 5, maxLocals := 6, code := jdk_52_method_16_code, exceptionTable := #[], attributes := #[] }
def k8m2 : Method := { name := "compress", desc := "([CII)[B", sig := { parameters := [(.array .char), .int, .int], returnType := some (.array .byte) }, accessFlags := 9, code := some k8c2 }
def k8c3 : Code := { maxStack := 3, maxLocals := 7, code := jdk_52_method_21_code, exceptionTable := #[], attributes := #[] }
def k8m3 : Method := { name := "compress", desc := "([CI[BII)I", sig := { parameters := [(.array .char), .int, (.array .byte), .int, .int], returnType := some .int }, accessFlags := 9, code := some k8c3 }
/-- java/lang/StringUTF16 -/
def k8 : Class := { plain "java/lang/StringUTF16" (some 0) with
  accessFlags := 48
  interfaces := #[]
  cf := some (fileOf pool8 12 #[.nestMembers #[627, 629, 369]] #[{ accessFlags := 0, nameIndex := 9, descriptorIndex := 10, attributes := #[] }, { accessFlags := 8, nameIndex := 261, descriptorIndex := 262, attributes := #[] }, { accessFlags := 9, nameIndex := 117, descriptorIndex := 122, attributes := #[] }, { accessFlags := 9, nameIndex := 117, descriptorIndex := 118, attributes := #[] }] 48 6 #[] #[{ accessFlags := 26, nameIndex := 61, descriptorIndex := 62, attributes := #[] }, { accessFlags := 26, nameIndex := 65, descriptorIndex := 62, attributes := #[] }, { accessFlags := 24, nameIndex := 430, descriptorIndex := 62, attributes := #[] }, { accessFlags := 4120, nameIndex := 46, descriptorIndex := 47, attributes := #[] }])
  fields := #[{ name := "HI_BYTE_SHIFT", type := .int, accessFlags := 26, slot := 0, constantValue := 0 }, { name := "LO_BYTE_SHIFT", type := .int, accessFlags := 26, slot := 1, constantValue := 0 }, { name := "MAX_LENGTH", type := .int, accessFlags := 24, slot := 2, constantValue := 0 }, { name := "$assertionsDisabled", type := .boolean, accessFlags := 4120, slot := 3, constantValue := 0 }]
  methods := #[k8m0, k8m1, k8m2, k8m3]
  instanceTypes := #[]
  staticTypes := #[.int, .int, .int, .boolean]
  resolved := Array.replicate 635 none
  statics := none }

def pool9 : Array CpInfo := pool [(2, .class_ 4), (1, u "java/lang/Enum"), (0, u "name"), (0, u "Ljava/lang/String;"), (2, u "ordinal"), (0, u "I"), (1, .class_ 14), (1, u "java/lang/Object"), (4, u "hash"), (86, .class_ 108), (1, u "java/lang/Enum$EnumDesc"), (2, .class_ 112), (0, u "java/lang/constant/Constable"), (0, .class_ 114), (0, u "java/lang/Comparable"), (0, .class_ 116), (0, u "java/io/Serializable")] 87

/-- java/lang/Enum -/
def k9 : Class := { plain "java/lang/Enum" (some 0) with
  accessFlags := 1057
  interfaces := #[5, 3, 2]
  cf := some (fileOf pool9 2 #[.nestMembers #[106]] #[] 1057 12 #[111, 113, 115] #[{ accessFlags := 18, nameIndex := 5, descriptorIndex := 6, attributes := #[] }, { accessFlags := 18, nameIndex := 9, descriptorIndex := 10, attributes := #[] }, { accessFlags := 2, nameIndex := 19, descriptorIndex := 10, attributes := #[] }])
  fields := #[{ name := "name", type := (.object "java/lang/String"), accessFlags := 18, slot := 0, constantValue := 0 }, { name := "ordinal", type := .int, accessFlags := 18, slot := 1, constantValue := 0 }, { name := "hash", type := .int, accessFlags := 2, slot := 2, constantValue := 0 }]
  methods := #[]
  instanceTypes := #[(.object "java/lang/String"), .int, .int]
  staticTypes := #[]
  resolved := Array.replicate 204 none
  statics := none }

def pool10 : Array CpInfo := pool [(1, .class_ 2), (0, u "com/example/hookwright/hookwright/signing/SigningProfile"), (2, u "TIMESTAMPED"), (0, u "Lcom/example/hookwright/hookwright/signing/SigningProfile;"), (2, u "STANDARD_WEBHOOKS"), (0, .fieldref 1 11), (0, .nameAndType 12 13), (0, u "$VALUES"), (0, u "[Lcom/example/hookwright/hookwright/signing/SigningProfile;"), (0, .methodref 15 16), (0, .class_ 13), (0, .nameAndType 17 18), (0, u "clone"), (0, u "()Ljava/lang/Object;"), (1, .class_ 22), (1, u "java/lang/Enum"), (6, .fieldref 1 30), (0, .nameAndType 31 32), (0, u "label"), (0, u "Ljava/lang/String;"), (2, u "signsId"), (0, u "Z"), (2, u "idHeader"), (2, u "timestampHeader"), (2, u "signatureHeader"), (0, .methodref 1 47), (0, .nameAndType 48 49), (0, u "values"), (0, u "()[Lcom/example/hookwright/hookwright/signing/SigningProfile;"), (0, .methodref 51 52), (0, .class_ 53), (0, .nameAndType 54 55), (0, u "java/lang/String"), (0, u "equals"), (0, u "(Ljava/lang/Object;)Z"), (107, .class_ 164), (0, u "com/example/hookwright/hookwright/signing/SigningProfile$1"), (12, .class_ 178), (0, u "com/example/hookwright/hookwright/signing/SigningProfile$2"), (15, u "(Ljava/lang/String;)Lcom/example/hookwright/hookwright/signing/SigningProfile;"), (3, u "ofLabel"), (1, u "()Ljava/lang/String;")] 44

def k10c0 : Code := { maxStack := 1, maxLocals := 0, code := prog_35_method_1_code, exceptionTable := #[], attributes := #[] }
def k10m0 : Method := { name := "values", desc := "()[Lcom/example/hookwright/hookwright/signing/SigningProfile;", sig := { parameters := [], returnType := some (.array (.object "com/example/hookwright/hookwright/signing/SigningProfile")) }, accessFlags := 9, code := some k10c0 }
def k10c1 : Code := { maxStack := 5, maxLocals := 5, code := prog_35_method_4_code, exceptionTable := #[], attributes := #[] }
def k10m1 : Method := { name := "ofLabel", desc := "(Ljava/lang/String;)Lcom/example/hookwright/hookwright/signing/SigningProfile;", sig := { parameters := [(.object "java/lang/String")], returnType := some (.object "com/example/hookwright/hookwright/signing/SigningProfile") }, accessFlags := 9, code := some k10c1 }
def k10c2 : Code := { maxStack := 1, maxLocals := 1, code := prog_35_method_5_code, exceptionTable := #[], attributes := #[] }
def k10m2 : Method := { name := "label", desc := "()Ljava/lang/String;", sig := { parameters := [], returnType := some (.object "java/lang/String") }, accessFlags := 1, code := some k10c2 }
/-- com/example/hookwright/hookwright/signing/SigningProfile -/
def k10 : Class := { plain "com/example/hookwright/hookwright/signing/SigningProfile" (some 9) with
  accessFlags := 17441
  interfaces := #[]
  cf := some (fileOf pool10 1 #[.nestMembers #[177, 163]] #[{ accessFlags := 9, nameIndex := 48, descriptorIndex := 49, attributes := #[] }, { accessFlags := 9, nameIndex := 198, descriptorIndex := 194, attributes := #[] }, { accessFlags := 1, nameIndex := 31, descriptorIndex := 200, attributes := #[] }] 17441 20 #[] #[{ accessFlags := 16409, nameIndex := 5, descriptorIndex := 6, attributes := #[] }, { accessFlags := 16409, nameIndex := 9, descriptorIndex := 6, attributes := #[] }, { accessFlags := 18, nameIndex := 31, descriptorIndex := 32, attributes := #[] }, { accessFlags := 18, nameIndex := 35, descriptorIndex := 36, attributes := #[] }, { accessFlags := 18, nameIndex := 39, descriptorIndex := 32, attributes := #[] }, { accessFlags := 18, nameIndex := 42, descriptorIndex := 32, attributes := #[] }, { accessFlags := 18, nameIndex := 45, descriptorIndex := 32, attributes := #[] }, { accessFlags := 4122, nameIndex := 12, descriptorIndex := 13, attributes := #[] }])
  fields := #[{ name := "TIMESTAMPED", type := (.object "com/example/hookwright/hookwright/signing/SigningProfile"), accessFlags := 16409, slot := 0, constantValue := 0 }, { name := "STANDARD_WEBHOOKS", type := (.object "com/example/hookwright/hookwright/signing/SigningProfile"), accessFlags := 16409, slot := 1, constantValue := 0 }, { name := "label", type := (.object "java/lang/String"), accessFlags := 18, slot := 3, constantValue := 0 }, { name := "signsId", type := .boolean, accessFlags := 18, slot := 4, constantValue := 0 }, { name := "idHeader", type := (.object "java/lang/String"), accessFlags := 18, slot := 5, constantValue := 0 }, { name := "timestampHeader", type := (.object "java/lang/String"), accessFlags := 18, slot := 6, constantValue := 0 }, { name := "signatureHeader", type := (.object "java/lang/String"), accessFlags := 18, slot := 7, constantValue := 0 }, { name := "$VALUES", type := (.array (.object "com/example/hookwright/hookwright/signing/SigningProfile")), accessFlags := 4122, slot := 2, constantValue := 0 }]
  methods := #[k10m0, k10m1, k10m2]
  instanceTypes := #[(.object "java/lang/String"), .int, .int, (.object "java/lang/String"), .boolean, (.object "java/lang/String"), (.object "java/lang/String"), (.object "java/lang/String")]
  staticTypes := #[(.object "com/example/hookwright/hookwright/signing/SigningProfile"), (.object "com/example/hookwright/hookwright/signing/SigningProfile"), (.array (.object "com/example/hookwright/hookwright/signing/SigningProfile"))]
  resolved := Array.replicate 245 none
  statics := some 1 }

def pool11 : Array CpInfo := pool [(1, .class_ 2), (0, u "java/lang/Cloneable"), (0, .class_ 4), (0, u "java/lang/Object")] 2

/-- java/lang/Cloneable -/
def k11 : Class := { plain "java/lang/Cloneable" (some 0) with
  accessFlags := 1537
  interfaces := #[]
  cf := some (fileOf pool11 1 #[] #[] 1537 3 #[] #[])
  fields := #[]
  methods := #[]
  instanceTypes := #[]
  staticTypes := #[]
  resolved := Array.replicate 7 none
  statics := none }

def pool12 : Array CpInfo := pool [(2, .class_ 4), (1, u "com/example/hookwright/hookwright/signing/SigningProfile"), (34, .class_ 40), (0, u "com/example/hookwright/hookwright/signing/SigningProfile$1")] 12

/-- com/example/hookwright/hookwright/signing/SigningProfile$1 -/
def k12 : Class := { plain "com/example/hookwright/hookwright/signing/SigningProfile$1" (some 10) with
  accessFlags := 16432
  interfaces := #[]
  cf := some (fileOf pool12 39 #[.nestHost 2] #[] 16432 2 #[] #[])
  fields := #[]
  methods := #[]
  instanceTypes := #[(.object "java/lang/String"), .int, .int, (.object "java/lang/String"), .boolean, (.object "java/lang/String"), (.object "java/lang/String"), (.object "java/lang/String")]
  staticTypes := #[]
  resolved := Array.replicate 53 none
  statics := none }

def pool13 : Array CpInfo := pool [(4, .class_ 6), (1, u "java/lang/Object"), (0, u "<init>"), (0, u "()V"), (5, .class_ 16), (1, u "java/lang/StringLatin1"), (104, u "$assertionsDisabled"), (0, u "Z"), (98, .class_ 223), (1, u "java/lang/StringLatin1$LinesSpliterator"), (57, u "equals"), (0, u "([B[B)Z"), (107, .class_ 391), (0, u "java/lang/StringLatin1$CharsSpliterator")] 3

def k13m0 : Method := { name := "<init>", desc := "()V", sig := { parameters := [], returnType := none }, accessFlags := 0, code := none }
def k13c1 : Code := { maxStack := 3, maxLocals := 3, code := jdk_43_method_13_code, exceptionTable := #[], attributes := #[] }
def k13m1 : Method := { name := "equals", desc := "([B[B)Z", sig := { parameters := [(.array .byte), (.array .byte)], returnType := some .boolean }, accessFlags := 9, code := some k13c1 }
/-- java/lang/StringLatin1 -/
def k13 : Class := { plain "java/lang/StringLatin1" (some 0) with
  accessFlags := 48
  interfaces := #[]
  cf := some (fileOf pool13 14 #[.nestMembers #[390, 221]] #[{ accessFlags := 0, nameIndex := 7, descriptorIndex := 8, attributes := #[] }, { accessFlags := 9, nameIndex := 281, descriptorIndex := 282, attributes := #[] }] 48 4 #[] #[{ accessFlags := 4120, nameIndex := 121, descriptorIndex := 122, attributes := #[] }])
  fields := #[{ name := "$assertionsDisabled", type := .boolean, accessFlags := 4120, slot := 0, constantValue := 0 }]
  methods := #[k13m0, k13m1]
  instanceTypes := #[]
  staticTypes := #[.boolean]
  resolved := Array.replicate 395 none
  statics := none }

def pool14 : Array CpInfo := pool [(2, .class_ 4), (1, u "com/example/hookwright/hookwright/signing/SigningProfile"), (28, .class_ 34), (0, u "com/example/hookwright/hookwright/signing/SigningProfile$2")] 11

/-- com/example/hookwright/hookwright/signing/SigningProfile$2 -/
def k14 : Class := { plain "com/example/hookwright/hookwright/signing/SigningProfile$2" (some 10) with
  accessFlags := 16432
  interfaces := #[]
  cf := some (fileOf pool14 33 #[.nestHost 2] #[] 16432 2 #[] #[])
  fields := #[]
  methods := #[]
  instanceTypes := #[(.object "java/lang/String"), .int, .int, (.object "java/lang/String"), .boolean, (.object "java/lang/String"), (.object "java/lang/String"), (.object "java/lang/String")]
  staticTypes := #[]
  resolved := Array.replicate 46 none
  statics := none }

def pool15 : Array CpInfo := pool [(2, .class_ 4), (1, u "java/lang/Object"), (0, u "<init>"), (0, u "()V"), (17, .class_ 26), (1, u "jdk/internal/util/Preconditions"), (28, .class_ 56), (0, u "jdk/internal/util/Preconditions$4"), (57, .class_ 115), (0, u "jdk/internal/util/Preconditions$1"), (7, u "SIOOBE_FORMATTER"), (0, u "Ljava/util/function/BiFunction;"), (0, .class_ 126), (0, u "jdk/internal/util/Preconditions$2"), (3, u "AIOOBE_FORMATTER"), (0, .class_ 132), (0, u "jdk/internal/util/Preconditions$3"), (3, u "IOOBE_FORMATTER")] 57

def k15m0 : Method := { name := "<init>", desc := "()V", sig := { parameters := [], returnType := none }, accessFlags := 1, code := none }
/-- jdk/internal/util/Preconditions -/
def k15 : Class := { plain "jdk/internal/util/Preconditions" (some 0) with
  accessFlags := 33
  interfaces := #[]
  cf := some (fileOf pool15 24 #[.nestMembers #[55, 131, 125, 114]] #[{ accessFlags := 1, nameIndex := 5, descriptorIndex := 6, attributes := #[] }] 33 2 #[] #[{ accessFlags := 25, nameIndex := 123, descriptorIndex := 124, attributes := #[] }, { accessFlags := 25, nameIndex := 130, descriptorIndex := 124, attributes := #[] }, { accessFlags := 25, nameIndex := 136, descriptorIndex := 124, attributes := #[] }])
  fields := #[{ name := "SIOOBE_FORMATTER", type := (.object "java/util/function/BiFunction"), accessFlags := 25, slot := 0, constantValue := 0 }, { name := "AIOOBE_FORMATTER", type := (.object "java/util/function/BiFunction"), accessFlags := 25, slot := 1, constantValue := 0 }, { name := "IOOBE_FORMATTER", type := (.object "java/util/function/BiFunction"), accessFlags := 25, slot := 2, constantValue := 0 }]
  methods := #[k15m0]
  instanceTypes := #[]
  staticTypes := #[(.object "java/util/function/BiFunction"), (.object "java/util/function/BiFunction"), (.object "java/util/function/BiFunction")]
  resolved := Array.replicate 194 none
  statics := some 2 }

def pool16 : Array CpInfo := pool [(9, u "<init>"), (6, .class_ 18), (1, u "java/lang/Object"), (0, u "()V"), (1, .class_ 23), (1, u "jdk/internal/util/ArraysSupport"), (0, u "LOG2_ARRAY_LONG_INDEX_SCALE"), (0, u "I"), (2, u "U"), (0, u "Ljdk/internal/misc/Unsafe;"), (8, u "BIG_ENDIAN"), (0, u "Z"), (8, u "LOG2_BYTE_BIT_SIZE"), (4, u "LOG2_ARRAY_INT_INDEX_SCALE"), (54, u "JLA"), (0, u "Ljdk/internal/access/JavaLangAccess;"), (11, u "LOG2_ARRAY_BOOLEAN_INDEX_SCALE"), (9, u "LOG2_ARRAY_BYTE_INDEX_SCALE"), (5, u "LOG2_ARRAY_CHAR_INDEX_SCALE"), (5, u "LOG2_ARRAY_SHORT_INDEX_SCALE"), (18, u "LOG2_ARRAY_FLOAT_INDEX_SCALE"), (24, u "LOG2_ARRAY_DOUBLE_INDEX_SCALE"), (89, u "T_BOOLEAN"), (2, u "T_CHAR"), (1, u "T_FLOAT"), (1, u "T_DOUBLE"), (1, u "T_BYTE"), (1, u "T_SHORT"), (1, u "T_INT"), (1, u "T_LONG"), (1, u "SOFT_MAX_ARRAY_LENGTH")] 83

def k16m0 : Method := { name := "<init>", desc := "()V", sig := { parameters := [], returnType := none }, accessFlags := 2, code := none }
/-- jdk/internal/util/ArraysSupport -/
def k16 : Class := { plain "jdk/internal/util/ArraysSupport" (some 0) with
  accessFlags := 33
  interfaces := #[]
  cf := some (fileOf pool16 21 #[] #[{ accessFlags := 2, nameIndex := 9, descriptorIndex := 19, attributes := #[] }] 33 16 #[] #[{ accessFlags := 24, nameIndex := 28, descriptorIndex := 29, attributes := #[] }, { accessFlags := 26, nameIndex := 38, descriptorIndex := 39, attributes := #[] }, { accessFlags := 25, nameIndex := 121, descriptorIndex := 25, attributes := #[] }, { accessFlags := 25, nameIndex := 131, descriptorIndex := 25, attributes := #[] }, { accessFlags := 25, nameIndex := 137, descriptorIndex := 25, attributes := #[] }, { accessFlags := 25, nameIndex := 143, descriptorIndex := 25, attributes := #[] }, { accessFlags := 25, nameIndex := 53, descriptorIndex := 25, attributes := #[] }, { accessFlags := 25, nameIndex := 24, descriptorIndex := 25, attributes := #[] }, { accessFlags := 25, nameIndex := 162, descriptorIndex := 25, attributes := #[] }, { accessFlags := 25, nameIndex := 187, descriptorIndex := 25, attributes := #[] }, { accessFlags := 26, nameIndex := 48, descriptorIndex := 25, attributes := #[] }, { accessFlags := 25, nameIndex := 277, descriptorIndex := 25, attributes := #[] }, { accessFlags := 25, nameIndex := 280, descriptorIndex := 25, attributes := #[] }, { accessFlags := 25, nameIndex := 282, descriptorIndex := 25, attributes := #[] }, { accessFlags := 25, nameIndex := 284, descriptorIndex := 25, attributes := #[] }, { accessFlags := 25, nameIndex := 286, descriptorIndex := 25, attributes := #[] }, { accessFlags := 25, nameIndex := 288, descriptorIndex := 25, attributes := #[] }, { accessFlags := 25, nameIndex := 290, descriptorIndex := 25, attributes := #[] }, { accessFlags := 25, nameIndex := 292, descriptorIndex := 25, attributes := #[] }, { accessFlags := 26, nameIndex := 108, descriptorIndex := 109, attributes := #[] }, { accessFlags := 25, nameIndex := 294, descriptorIndex := 25, attributes := #[] }])
  fields := #[{ name := "U", type := (.object "jdk/internal/misc/Unsafe"), accessFlags := 24, slot := 0, constantValue := 0 }, { name := "BIG_ENDIAN", type := .boolean, accessFlags := 26, slot := 1, constantValue := 0 }, { name := "LOG2_ARRAY_BOOLEAN_INDEX_SCALE", type := .int, accessFlags := 25, slot := 2, constantValue := 0 }, { name := "LOG2_ARRAY_BYTE_INDEX_SCALE", type := .int, accessFlags := 25, slot := 3, constantValue := 0 }, { name := "LOG2_ARRAY_CHAR_INDEX_SCALE", type := .int, accessFlags := 25, slot := 4, constantValue := 0 }, { name := "LOG2_ARRAY_SHORT_INDEX_SCALE", type := .int, accessFlags := 25, slot := 5, constantValue := 0 }, { name := "LOG2_ARRAY_INT_INDEX_SCALE", type := .int, accessFlags := 25, slot := 6, constantValue := 0 }, { name := "LOG2_ARRAY_LONG_INDEX_SCALE", type := .int, accessFlags := 25, slot := 7, constantValue := 0 }, { name := "LOG2_ARRAY_FLOAT_INDEX_SCALE", type := .int, accessFlags := 25, slot := 8, constantValue := 0 }, { name := "LOG2_ARRAY_DOUBLE_INDEX_SCALE", type := .int, accessFlags := 25, slot := 9, constantValue := 0 }, { name := "LOG2_BYTE_BIT_SIZE", type := .int, accessFlags := 26, slot := 10, constantValue := 0 }, { name := "T_BOOLEAN", type := .int, accessFlags := 25, slot := 11, constantValue := 0 }, { name := "T_CHAR", type := .int, accessFlags := 25, slot := 12, constantValue := 0 }, { name := "T_FLOAT", type := .int, accessFlags := 25, slot := 13, constantValue := 0 }, { name := "T_DOUBLE", type := .int, accessFlags := 25, slot := 14, constantValue := 0 }, { name := "T_BYTE", type := .int, accessFlags := 25, slot := 15, constantValue := 0 }, { name := "T_SHORT", type := .int, accessFlags := 25, slot := 16, constantValue := 0 }, { name := "T_INT", type := .int, accessFlags := 25, slot := 17, constantValue := 0 }, { name := "T_LONG", type := .int, accessFlags := 25, slot := 18, constantValue := 0 }, { name := "JLA", type := (.object "jdk/internal/access/JavaLangAccess"), accessFlags := 26, slot := 19, constantValue := 0 }, { name := "SOFT_MAX_ARRAY_LENGTH", type := .int, accessFlags := 25, slot := 20, constantValue := 0 }]
  methods := #[k16m0]
  instanceTypes := #[]
  staticTypes := #[(.object "jdk/internal/misc/Unsafe"), .boolean, .int, .int, .int, .int, .int, .int, .int, .int, .int, .int, .int, .int, .int, .int, .int, .int, .int, (.object "jdk/internal/access/JavaLangAccess"), .int]
  resolved := Array.replicate 378 none
  statics := none }

/-- the primitive byte -/
def k17 : Class := { plain "byte" none with kind := .primitive 'B', accessFlags := 0x411 }
/-- [B -/
def k18 : Class := { plain "[B" (some 0) with kind := .array 17 .byte, interfaces := #[11, 2], accessFlags := 1041 }

/-- the primitive char -/
def k19 : Class := { plain "char" none with kind := .primitive 'C', accessFlags := 0x411 }
/-- [C -/
def k20 : Class := { plain "[C" (some 0) with kind := .array 19 .char, interfaces := #[11, 2], accessFlags := 1041 }

/-- the primitive int -/
def k21 : Class := { plain "int" none with kind := .primitive 'I', accessFlags := 0x411 }
/-- [I -/
def k22 : Class := { plain "[I" (some 0) with kind := .array 21 .int, interfaces := #[11, 2], accessFlags := 1041 }

/-- [Lcom/example/hookwright/hookwright/signing/SigningProfile; -/
def k23 : Class := { plain "[Lcom/example/hookwright/hookwright/signing/SigningProfile;" (some 0) with kind := .array 10 (.object "com/example/hookwright/hookwright/signing/SigningProfile"), interfaces := #[11, 2], accessFlags := 1041 }

def heap : Heap := #[{ cls := 7, slots := #[.long 0, .int 1, .null, .int 0, .null, .int 0, .int 0], vm := .statics 7 },
  { cls := 10, slots := #[.ref 4, .ref 5, .ref 3], vm := .statics 10 },
  { cls := 15, slots := #[.null, .null, .null], vm := .statics 15 },
  { cls := 23, slots := #[.ref 4, .ref 5], vm := .none },
  { cls := 12, slots := #[.null, .int 0, .int 0, .ref 6, .int 0, .null, .null, .null], vm := .none },
  { cls := 14, slots := #[.null, .int 0, .int 0, .ref 7, .int 0, .null, .null, .null], vm := .none },
  { cls := 7, slots := #[.ref 8, .int 0, .int 0, .int 0], vm := .none },
  { cls := 7, slots := #[.ref 9, .int 0, .int 0, .int 0], vm := .none },
  { cls := 18, slots := #[.int 116, .int 105, .int 109, .int 101, .int 115, .int 116, .int 97, .int 109, .int 112, .int 101, .int 100], vm := .none },
  { cls := 18, slots := #[.int 115, .int 116, .int 97, .int 110, .int 100, .int 97, .int 114, .int 100, .int 45, .int 119, .int 101, .int 98, .int 104, .int 111, .int 111, .int 107, .int 115], vm := .none }]
def classes : Array Class := #[k0, k1, k2, k3, k4, k5, k6, k7, k8, k9, k10, k11, k12, k13, k14, k15, k16, k17, k18, k19, k20, k21, k22, k23]
def interned : List (Array UInt16 × Addr) := []
def slotsUsed : Nat := 67
def theMethod : MethodId := ⟨1, 1⟩
def args0 : Array Value := #[.int 5]
def aboutOver (below : List Frame) : State where
  vm := { classes := classes, interned := interned.toArray }
  heap := heap
  slotsUsed := slotsUsed
  threads := #[{ frames := .invoking theMethod args0 :: below }]
def below0 : List Frame := [.native { method := ⟨0, 0⟩, args := #[] }]
def about1 : State := aboutOver below0
def p0 : Program := .bare "" "" ""
def e0 : Env := launch0.env 0 0 0
theorem w_frames : about1.frames = Frame.invoking theMethod args0 :: below0 := rfl
set_option maxRecDepth 65536 in
theorem w_args : argsFit about1.vm theMethod args0 = true := by decide +kernel
set_option maxRecDepth 65536 in
theorem w_heap : heapFits about1 = true := by decide +kernel
set_option maxRecDepth 65536 in
theorem w_runnable : about1.curStatus? = some .runnable := by decide +kernel
set_option maxRecDepth 65536 in
theorem w_alone : about1.alone = true := by decide +kernel
set_option maxRecDepth 65536 in
theorem w_named : about1.methodNamed? x = some theMethod := by decide +kernel
set_option maxRecDepth 65536 in
theorem w_hears : about1.hears theMethod below0 = true := by decide +kernel
set_option maxRecDepth 65536 in
theorem w_ripe : about1.ripe theMethod args0 below0 = true := by decide +kernel
theorem w_running : about1.status = .running := rfl
set_option maxRecDepth 65536 in
theorem w_room : about1.hasRoom e0.platform room_1 = true :=
  launch0.hasRoom_least _ room_1 (by decide +kernel) (by decide +kernel) (by decide +kernel) (by decide +kernel) (by decide +kernel) (by decide +kernel)
theorem allAtoms_all (ts : List Jvm.Cond) (a : Array Jvm.Value) (st : Jvm.State) : (allAtoms ts).before a st = ts.all (fun c => c.before a st) := by
  induction ts with
  | nil => rfl
  | cons c t ih =>
    show (Jvm.Cond.and c (allAtoms t)).before a st = _
    rw [Jvm.Cond.before_and, ih, List.all_cons]
def words1 : List Jvm.Cond := Jvm.Cond.code x code maxLocals ret :: tables_1
/-- a 'code' word, met by the world's own term for the bytes: nothing is compared byte by byte -/
theorem code_word {y : MethodName} {bytes : ByteArray} {mx : Nat} {rt : Option FieldType} {a : Array Value} {s : State} {m : MethodId} {meth : Method} {c : Code} (h1 : s.methodNamed? y = some m) (h2 : s.vm.method? m = some meth) (h3 : meth.code = some c) (h4 : c.code = bytes)
    (h5 : (c.maxLocals == mx && c.exceptionTable.isEmpty && decide (c.maxStack ≤ mostOperands) && decide (meth.sig.returnType = rt) && !meth.locks && decide (parseMethodDescriptor y.desc = some meth.sig)) = true) : (Jvm.Cond.code y bytes mx rt).before a s = true := by
  simp only [Bool.and_eq_true, beq_iff_eq, Bool.not_eq_true', decide_eq_true_eq] at h5
  obtain ⟨⟨⟨⟨⟨g1, g2⟩, g3⟩, g4⟩, g5⟩, g6⟩ := h5
  simp [Cond.before, Cond.holds, Cond.value, h1, h2, h3, h4, g1, g2, g3, g4, g5, g6]
def isCode : Jvm.Cond → Bool
  | .code _ _ _ _ => true
  | _ => false
theorem all_split {L : List Jvm.Cond} {P : Jvm.Cond → Bool} (h1 : L.all (fun c => isCode c || P c) = true) (h2 : ∀ c ∈ L.filter isCode, P c = true) : L.all P = true := by
  refine List.all_eq_true.mpr fun c hc => ?_
  have h := List.all_eq_true.mp h1 c hc
  rcases Bool.eq_false_or_eq_true (isCode c) with hi | hi
  · exact h2 c (List.mem_filter.mpr ⟨hc, hi⟩)
  · simpa [hi] using h
set_option maxRecDepth 65536 in
theorem w_c0 : (Jvm.Cond.code x code maxLocals ret).before args0 about1 = true := code_word (m := ⟨1, 1⟩) (meth := k1m1) (c := k1c1) (by decide +kernel) rfl rfl rfl (by decide +kernel)
set_option maxRecDepth 65536 in
theorem w_c1 : (Jvm.Cond.code ({ cls := "java/lang/String", name := "<init>", desc := "([C)V" } : Jvm.MethodName) jdk_42_method_3_code (2 : Nat) (Option.none : Option Jvm.ClassFile.FieldType)).before args0 about1 = true := code_word (m := ⟨7, 1⟩) (meth := k7m1) (c := k7c1) (by decide +kernel) rfl rfl rfl (by decide +kernel)
set_option maxRecDepth 65536 in
theorem w_c2 : (Jvm.Cond.code ({ cls := "java/lang/String", name := "<init>", desc := "([CIILjava/lang/Void;)V" } : Jvm.MethodName) jdk_42_method_149_code (6 : Nat) (Option.none : Option Jvm.ClassFile.FieldType)).before args0 about1 = true := code_word (m := ⟨7, 3⟩) (meth := k7m3) (c := k7c3) (by decide +kernel) rfl rfl rfl (by decide +kernel)
set_option maxRecDepth 65536 in
theorem w_c3 : (Jvm.Cond.code ({ cls := "java/lang/Object", name := "<init>", desc := "()V" } : Jvm.MethodName) object_method_1_code (1 : Nat) (Option.none : Option Jvm.ClassFile.FieldType)).before args0 about1 = true := code_word (m := ⟨0, 0⟩) (meth := k0m0) (c := k0c0) (by decide +kernel) rfl rfl rfl (by decide +kernel)
set_option maxRecDepth 65536 in
theorem w_c4 : (Jvm.Cond.code ({ cls := "java/lang/StringUTF16", name := "compress", desc := "([CII)[B" } : Jvm.MethodName) jdk_52_method_16_code (6 : Nat) (Option.some (Jvm.ClassFile.FieldType.array Jvm.ClassFile.FieldType.byte))).before args0 about1 = true := code_word (m := ⟨8, 2⟩) (meth := k8m2) (c := k8c2) (by decide +kernel) rfl rfl rfl (by decide +kernel)
set_option maxRecDepth 65536 in
theorem w_c5 : (Jvm.Cond.code ({ cls := "java/lang/StringUTF16", name := "compress", desc := "([CI[BII)I" } : Jvm.MethodName) jdk_52_method_21_code (7 : Nat) (Option.some Jvm.ClassFile.FieldType.int)).before args0 about1 = true := code_word (m := ⟨8, 3⟩) (meth := k8m3) (c := k8c3) (by decide +kernel) rfl rfl rfl (by decide +kernel)
set_option maxRecDepth 65536 in
theorem w_c6 : (Jvm.Cond.code ({ cls := "java/lang/StringUTF16", name := "coderFromArrayLen", desc := "([BI)B" } : Jvm.MethodName) jdk_52_method_15_code (2 : Nat) (Option.some Jvm.ClassFile.FieldType.byte)).before args0 about1 = true := code_word (m := ⟨8, 1⟩) (meth := k8m1) (c := k8c1) (by decide +kernel) rfl rfl rfl (by decide +kernel)
set_option maxRecDepth 65536 in
theorem w_c7 : (Jvm.Cond.code ({ cls := "com/example/hookwright/hookwright/signing/SigningProfile", name := "ofLabel", desc := "(Ljava/lang/String;)Lcom/example/hookwright/hookwright/signing/SigningProfile;" } : Jvm.MethodName) prog_35_method_4_code (5 : Nat) (Option.some (Jvm.ClassFile.FieldType.object "com/example/hookwright/hookwright/signing/SigningProfile"))).before args0 about1 = true := code_word (m := ⟨10, 1⟩) (meth := k10m1) (c := k10c1) (by decide +kernel) rfl rfl rfl (by decide +kernel)
set_option maxRecDepth 65536 in
theorem w_c8 : (Jvm.Cond.code ({ cls := "com/example/hookwright/hookwright/signing/SigningProfile", name := "values", desc := "()[Lcom/example/hookwright/hookwright/signing/SigningProfile;" } : Jvm.MethodName) prog_35_method_1_code (0 : Nat) (Option.some (Jvm.ClassFile.FieldType.array (Jvm.ClassFile.FieldType.object "com/example/hookwright/hookwright/signing/SigningProfile")))).before args0 about1 = true := code_word (m := ⟨10, 0⟩) (meth := k10m0) (c := k10c0) (by decide +kernel) rfl rfl rfl (by decide +kernel)
set_option maxRecDepth 65536 in
theorem w_c9 : (Jvm.Cond.code ({ cls := "java/lang/String", name := "equals", desc := "(Ljava/lang/Object;)Z" } : Jvm.MethodName) jdk_42_method_66_code (3 : Nat) (Option.some Jvm.ClassFile.FieldType.boolean)).before args0 about1 = true := code_word (m := ⟨7, 2⟩) (meth := k7m2) (c := k7c2) (by decide +kernel) rfl rfl rfl (by decide +kernel)
set_option maxRecDepth 65536 in
theorem w_c10 : (Jvm.Cond.code ({ cls := "java/lang/StringLatin1", name := "equals", desc := "([B[B)Z" } : Jvm.MethodName) jdk_43_method_13_code (3 : Nat) (Option.some Jvm.ClassFile.FieldType.boolean)).before args0 about1 = true := code_word (m := ⟨13, 1⟩) (meth := k13m1) (c := k13c1) (by decide +kernel) rfl rfl rfl (by decide +kernel)
set_option maxRecDepth 65536 in
theorem w_c11 : (Jvm.Cond.code ({ cls := "com/example/hookwright/hookwright/signing/SigningProfile", name := "label", desc := "()Ljava/lang/String;" } : Jvm.MethodName) prog_35_method_5_code (1 : Nat) (Option.some (Jvm.ClassFile.FieldType.object "java/lang/String"))).before args0 about1 = true := code_word (m := ⟨10, 2⟩) (meth := k10m2) (c := k10c2) (by decide +kernel) rfl rfl rfl (by decide +kernel)
def codes1 : List Jvm.Cond := [Jvm.Cond.code x code maxLocals ret, Jvm.Cond.code ({ cls := "java/lang/String", name := "<init>", desc := "([C)V" } : Jvm.MethodName) jdk_42_method_3_code (2 : Nat) (Option.none : Option Jvm.ClassFile.FieldType), Jvm.Cond.code ({ cls := "java/lang/String", name := "<init>", desc := "([CIILjava/lang/Void;)V" } : Jvm.MethodName) jdk_42_method_149_code (6 : Nat) (Option.none : Option Jvm.ClassFile.FieldType), Jvm.Cond.code ({ cls := "java/lang/Object", name := "<init>", desc := "()V" } : Jvm.MethodName) object_method_1_code (1 : Nat) (Option.none : Option Jvm.ClassFile.FieldType), Jvm.Cond.code ({ cls := "java/lang/StringUTF16", name := "compress", desc := "([CII)[B" } : Jvm.MethodName) jdk_52_method_16_code (6 : Nat) (Option.some (Jvm.ClassFile.FieldType.array Jvm.ClassFile.FieldType.byte)), Jvm.Cond.code ({ cls := "java/lang/StringUTF16", name := "compress", desc := "([CI[BII)I" } : Jvm.MethodName) jdk_52_method_21_code (7 : Nat) (Option.some Jvm.ClassFile.FieldType.int), Jvm.Cond.code ({ cls := "java/lang/StringUTF16", name := "coderFromArrayLen", desc := "([BI)B" } : Jvm.MethodName) jdk_52_method_15_code (2 : Nat) (Option.some Jvm.ClassFile.FieldType.byte), Jvm.Cond.code ({ cls := "com/example/hookwright/hookwright/signing/SigningProfile", name := "ofLabel", desc := "(Ljava/lang/String;)Lcom/example/hookwright/hookwright/signing/SigningProfile;" } : Jvm.MethodName) prog_35_method_4_code (5 : Nat) (Option.some (Jvm.ClassFile.FieldType.object "com/example/hookwright/hookwright/signing/SigningProfile")), Jvm.Cond.code ({ cls := "com/example/hookwright/hookwright/signing/SigningProfile", name := "values", desc := "()[Lcom/example/hookwright/hookwright/signing/SigningProfile;" } : Jvm.MethodName) prog_35_method_1_code (0 : Nat) (Option.some (Jvm.ClassFile.FieldType.array (Jvm.ClassFile.FieldType.object "com/example/hookwright/hookwright/signing/SigningProfile"))), Jvm.Cond.code ({ cls := "java/lang/String", name := "equals", desc := "(Ljava/lang/Object;)Z" } : Jvm.MethodName) jdk_42_method_66_code (3 : Nat) (Option.some Jvm.ClassFile.FieldType.boolean), Jvm.Cond.code ({ cls := "java/lang/StringLatin1", name := "equals", desc := "([B[B)Z" } : Jvm.MethodName) jdk_43_method_13_code (3 : Nat) (Option.some Jvm.ClassFile.FieldType.boolean), Jvm.Cond.code ({ cls := "com/example/hookwright/hookwright/signing/SigningProfile", name := "label", desc := "()Ljava/lang/String;" } : Jvm.MethodName) prog_35_method_5_code (1 : Nat) (Option.some (Jvm.ClassFile.FieldType.object "java/lang/String"))]
set_option maxRecDepth 65536 in
theorem codes_eq : words1.filter isCode = codes1 := rfl
theorem w_codes : ∀ c ∈ words1.filter isCode, c.before args0 about1 = true := by
  rw [codes_eq]
  intro c hc
  simp only [codes1, List.mem_cons, List.not_mem_nil, or_false] at hc
  rcases hc with rfl | rfl | rfl | rfl | rfl | rfl | rfl | rfl | rfl | rfl | rfl | rfl
  · exact w_c0
  · exact w_c1
  · exact w_c2
  · exact w_c3
  · exact w_c4
  · exact w_c5
  · exact w_c6
  · exact w_c7
  · exact w_c8
  · exact w_c9
  · exact w_c10
  · exact w_c11
set_option maxRecDepth 65536 in
theorem w_t1 : (words1.take 24).all (fun c => isCode c || c.before args0 about1) = true := by decide +kernel
set_option maxRecDepth 65536 in
theorem w_t2 : ((words1.drop 24).take 24).all (fun c => isCode c || c.before args0 about1) = true := by decide +kernel
set_option maxRecDepth 65536 in
theorem w_t3 : (((words1.drop 24).drop 24).take 24).all (fun c => isCode c || c.before args0 about1) = true := by decide +kernel
set_option maxRecDepth 65536 in
theorem w_t4 : (((words1.drop 24).drop 24).drop 24).all (fun c => isCode c || c.before args0 about1) = true := by decide +kernel
theorem w_tables : (allAtoms (Jvm.Cond.code x code maxLocals ret :: tables_1)).before args0 about1 = true := by
  rw [allAtoms_all]
  show words1.all (fun c => c.before args0 about1) = true
  refine all_split ?_ w_codes
  rw [← List.take_append_drop 24 words1, List.all_append, w_t1, ← List.take_append_drop 24 (words1.drop 24), List.all_append, w_t2, ← List.take_append_drop 24 ((words1.drop 24).drop 24), List.all_append, w_t3, w_t4]
  rfl
set_option maxRecDepth 65536 in
theorem w_rest : rest_1_c.before args0 about1 = true := by decide +kernel
set_option maxRecDepth 65536 in
theorem w_case : (Jvm.Cond.and given_1 narrow_1).before args0 about1 = true := by decide +kernel
theorem w_applies : (headSpec (Jvm.Cond.code x code maxLocals ret :: tables_1) room_1).applies x e0.platform about1 = true :=
  (Spec.applies_iff w_frames).mpr ⟨w_running, w_runnable, w_alone, w_named, w_hears, w_ripe, w_room, w_tables⟩
theorem atStart : AtStart classFile x code maxLocals ret World_1 tables_1 room_1 Calls_1 rest_1 Pre_1 launch0 p0 e0 about1 theMethod args0 below0 :=
  ⟨lists_1, trivial, launch0.admits_env _ _ _, launch0.least_env, fairChoices_fair.cas, fairChoices_fair.clock, w_frames, w_args, w_heap, w_applies, trivial, w_rest, w_case⟩
end start1
theorem witness_1 : WitnessClaimed_1 := ⟨start1.p0, start1.e0, start1.about1, start1.theMethod, start1.args0, start1.below0, start1.atStart⟩
end Jvm.Pilot.@@N@@
