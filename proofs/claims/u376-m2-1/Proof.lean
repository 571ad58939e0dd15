import JvmDerived
import JvmDerived.Pilot.@@N@@Statement
import JvmDerived.Pilot.@@N@@Code
set_option linter.unusedVariables false
set_option linter.unusedSimpArgs false
namespace Jvm.Pilot.@@N@@
namespace Own
open Jvm Jvm.ClassFile Sem Op Lib Jvm.Free Jvm.Stand Jvm.LawKit Jvm.RoadKit Bundle
/-- from the state s the invocation comes to its end, and K holds there -/
def Goes (tb : Tables) (e : Env) (below : List Frame) (K : State → Outcome → Prop) (s : State) : Prop := ∃ s₂ o, Steps tb e below s s₂ ∧ s₂.status = .running ∧ Ended s₂ below o ∧ K s₂ o
theorem Goes.go {tb : Tables} {e : Env} {below : List Frame} {K : State → Outcome → Prop} {s s' : State} (st : ∀ t, Steps tb e below s' t → Steps tb e below s t) (h : Goes tb e below K s') : Goes tb e below K s := by
  obtain ⟨s₂, o, h1, h2⟩ := h
  exact ⟨s₂, o, st _ h1, h2⟩
theorem Goes.tr {tb : Tables} {e : Env} {below : List Frame} {K : State → Outcome → Prop} {s s' : State} (st : Steps tb e below s s') (h : Goes tb e below K s') : Goes tb e below K s := Goes.go (fun _ k => st.trans k) h
/-- where the walk stands, with all that the laws ask beside it -/
def Wk (Z : State) (own : String) (bytes : ByteArray) (h : Heap) (p : Program) (l : Launch) (e : Env) (R : Room) (s : State) (m : MethodId) (args : Array Value) (below : List Frame) (meth : Method) (c : Code) (T : State) (locs : List Loc) (cells slots : Nat) : Prop :=
  Stand p l e R s m args below meth c T locs cells slots ∧ p.tables.exec = Jvm.exec ∧ c.code = bytes ∧ Z.Warmed39 s.vm ∧ s.vm.findClass own = some m.cls ∧ T.heap = h
section Steps
variable {Z : State} {own : String} {bytes : ByteArray} {h : Heap} {p : Program} {l : Launch} {e : Env} {R : Room} {s : State} {m : MethodId} {args : Array Value} {below : List Frame} {meth : Method} {c : Code} {T : State} {locs : List Loc} {cells slots : Nat}
  {K : State → Outcome → Prop} {a0 : Array Value} {pc q : Nat} {Ls : Array Slot} {st : List Value}
theorem iconst {i : Int} {v : Int32} (P : Wk Z own bytes h p l e R s m args below meth c T locs cells slots) (hd : decode bytes pc = .ok (.iconst i, 1)) (hv : Int32.ofInt i = v) (hq : pc + 1 = q) (k : Goes p.tables e below K (T.setTop (mkF m q Ls (.int v :: st)))) : Goes p.tables e below K (T.setTop (mkF m pc Ls (st))) := by
  subst hq
  exact Goes.go (fun _ r => XS.iconst P.1.here P.2.1 rfl (hb P.2.2.1 hd) (hv ▸ r)) k
theorem bipush {i : Int} {v : Int32} (P : Wk Z own bytes h p l e R s m args below meth c T locs cells slots) (hd : decode bytes pc = .ok (.bipush i, 2)) (hv : (Int8.ofInt i).toInt32 = v) (hq : pc + 2 = q) (k : Goes p.tables e below K (T.setTop (mkF m q Ls (.int v :: st)))) : Goes p.tables e below K (T.setTop (mkF m pc Ls (st))) := by
  subst hq
  exact Goes.go (fun _ r => XS.bipush P.1.here P.2.1 rfl (hb P.2.2.1 hd) (hv ▸ r)) k
theorem sipush {i : Int} {v : Int32} (P : Wk Z own bytes h p l e R s m args below meth c T locs cells slots) (hd : decode bytes pc = .ok (.sipush i, 3)) (hv : (Int16.ofInt i).toInt32 = v) (hq : pc + 3 = q) (k : Goes p.tables e below K (T.setTop (mkF m q Ls (.int v :: st)))) : Goes p.tables e below K (T.setTop (mkF m pc Ls (st))) := by
  subst hq
  exact Goes.go (fun _ r => XS.sipush P.1.here P.2.1 rfl (hb P.2.2.1 hd) (hv ▸ r)) k
theorem aconst  (P : Wk Z own bytes h p l e R s m args below meth c T locs cells slots) (hd : decode bytes pc = .ok (.aconst_null, 1))  (hq : pc + 1 = q) (k : Goes p.tables e below K (T.setTop (mkF m q Ls (.null :: st)))) : Goes p.tables e below K (T.setTop (mkF m pc Ls (st))) := by
  subst hq
  exact Goes.go (fun _ r => XS.aconstNull P.1.here P.2.1 rfl (hb P.2.2.1 hd) r) k
theorem iload {k : Nat} {v : Int32} (P : Wk Z own bytes h p l e R s m args below meth c T locs cells slots) (hd : decode bytes pc = .ok (.iload k, 2)) (hl : Ls[k]? = some (.val (.int v))) (hq : pc + 2 = q) (k : Goes p.tables e below K (T.setTop (mkF m q Ls (.int v :: st)))) : Goes p.tables e below K (T.setTop (mkF m pc Ls (st))) := by
  subst hq
  exact Goes.go (fun _ r => XS.iload P.1.here P.2.1 rfl (hb P.2.2.1 hd) hl r) k
theorem iloadN {k : _} {v : Int32} (P : Wk Z own bytes h p l e R s m args below meth c T locs cells slots) (hd : decode bytes pc = .ok (.iload_n k, 1)) (hl : Ls[k.val]? = some (.val (.int v))) (hq : pc + 1 = q) (k : Goes p.tables e below K (T.setTop (mkF m q Ls (.int v :: st)))) : Goes p.tables e below K (T.setTop (mkF m pc Ls (st))) := by
  subst hq
  exact Goes.go (fun _ r => XS.iloadN P.1.here P.2.1 rfl (hb P.2.2.1 hd) hl r) k
theorem aload {k : Nat} {v : Value} (P : Wk Z own bytes h p l e R s m args below meth c T locs cells slots) (hd : decode bytes pc = .ok (.aload k, 2)) (hl : Ls[k]? = some (.val v)) (hv : v.isRef = true) (hq : pc + 2 = q) (k : Goes p.tables e below K (T.setTop (mkF m q Ls (v :: st)))) : Goes p.tables e below K (T.setTop (mkF m pc Ls (st))) := by
  subst hq
  exact Goes.go (fun _ r => XS.aload P.1.here P.2.1 rfl (hb P.2.2.1 hd) hl hv r) k
theorem aloadN {k : _} {v : Value} (P : Wk Z own bytes h p l e R s m args below meth c T locs cells slots) (hd : decode bytes pc = .ok (.aload_n k, 1)) (hl : Ls[k.val]? = some (.val v)) (hv : v.isRef = true) (hq : pc + 1 = q) (k : Goes p.tables e below K (T.setTop (mkF m q Ls (v :: st)))) : Goes p.tables e below K (T.setTop (mkF m pc Ls (st))) := by
  subst hq
  exact Goes.go (fun _ r => XS.aloadN P.1.here P.2.1 rfl (hb P.2.2.1 hd) hl hv r) k
theorem lload {k : Nat} {v : Int64} (P : Wk Z own bytes h p l e R s m args below meth c T locs cells slots) (hd : decode bytes pc = .ok (.lload k, 2)) (hl : Ls[k]? = some (.val (.long v))) (hq : pc + 2 = q) (k : Goes p.tables e below K (T.setTop (mkF m q Ls (.long v :: st)))) : Goes p.tables e below K (T.setTop (mkF m pc Ls (st))) := by
  subst hq
  exact Goes.go (fun _ r => XT.lload P.1.here P.2.1 rfl (hb P.2.2.1 hd) hl r) k
theorem lloadN {k : _} {v : Int64} (P : Wk Z own bytes h p l e R s m args below meth c T locs cells slots) (hd : decode bytes pc = .ok (.lload_n k, 1)) (hl : Ls[k.val]? = some (.val (.long v))) (hq : pc + 1 = q) (k : Goes p.tables e below K (T.setTop (mkF m q Ls (.long v :: st)))) : Goes p.tables e below K (T.setTop (mkF m pc Ls (st))) := by
  subst hq
  exact Goes.go (fun _ r => XT.lloadN P.1.here P.2.1 rfl (hb P.2.2.1 hd) hl r) k
theorem istore {k : Nat} {x : Int32} {L2 : Array Slot} (P : Wk Z own bytes h p l e R s m args below meth c T locs cells slots) (hd : decode bytes pc = .ok (.istore k, 2)) (hl : storeLocals Ls k (.int x) = some L2) (hq : pc + 2 = q) (k : Goes p.tables e below K (T.setTop (mkF m q L2 (st)))) : Goes p.tables e below K (T.setTop (mkF m pc Ls (.int x :: st))) := by
  subst hq
  exact Goes.go (fun _ r => XS.istore P.1.here P.2.1 rfl (hb P.2.2.1 hd) rfl hl r) k
theorem istoreN {k : _} {x : Int32} {L2 : Array Slot} (P : Wk Z own bytes h p l e R s m args below meth c T locs cells slots) (hd : decode bytes pc = .ok (.istore_n k, 1)) (hl : storeLocals Ls k.val (.int x) = some L2) (hq : pc + 1 = q) (k : Goes p.tables e below K (T.setTop (mkF m q L2 (st)))) : Goes p.tables e below K (T.setTop (mkF m pc Ls (.int x :: st))) := by
  subst hq
  exact Goes.go (fun _ r => XS.istoreN P.1.here P.2.1 rfl (hb P.2.2.1 hd) rfl hl r) k
theorem astore {k : Nat} {x : Value} {L2 : Array Slot} (P : Wk Z own bytes h p l e R s m args below meth c T locs cells slots) (hd : decode bytes pc = .ok (.astore k, 2)) (hv : x.isRef = true) (hl : storeLocals Ls k x = some L2) (hq : pc + 2 = q) (k : Goes p.tables e below K (T.setTop (mkF m q L2 (st)))) : Goes p.tables e below K (T.setTop (mkF m pc Ls (x :: st))) := by
  subst hq
  exact Goes.go (fun _ r => XS.astore P.1.here P.2.1 rfl (hb P.2.2.1 hd) rfl hv hl r) k
theorem astoreN {k : _} {x : Value} {L2 : Array Slot} (P : Wk Z own bytes h p l e R s m args below meth c T locs cells slots) (hd : decode bytes pc = .ok (.astore_n k, 1)) (hv : x.isRef = true) (hl : storeLocals Ls k.val x = some L2) (hq : pc + 1 = q) (k : Goes p.tables e below K (T.setTop (mkF m q L2 (st)))) : Goes p.tables e below K (T.setTop (mkF m pc Ls (x :: st))) := by
  subst hq
  exact Goes.go (fun _ r => XS.astoreN P.1.here P.2.1 rfl (hb P.2.2.1 hd) rfl hv hl r) k
theorem iinc {k : Nat} {i : Int} {x v : Int32} {L2 : Array Slot} (P : Wk Z own bytes h p l e R s m args below meth c T locs cells slots) (hd : decode bytes pc = .ok (.iinc k i, 3)) (hl : Ls[k]? = some (.val (.int x))) (hv : Int32.ofInt i = v) (hs : storeLocals Ls k (.int (x + v)) = some L2) (hq : pc + 3 = q) (k : Goes p.tables e below K (T.setTop (mkF m q L2 (st)))) : Goes p.tables e below K (T.setTop (mkF m pc Ls (st))) := by
  subst hq
  exact Goes.go (fun _ r => XS.iinc P.1.here P.2.1 rfl (hb P.2.2.1 hd) hl (hv ▸ hs) r) k
theorem dup {x : Value} (P : Wk Z own bytes h p l e R s m args below meth c T locs cells slots) (hd : decode bytes pc = .ok (.dup, 1)) (hc : x.category = 1) (hq : pc + 1 = q) (k : Goes p.tables e below K (T.setTop (mkF m q Ls (x :: x :: st)))) : Goes p.tables e below K (T.setTop (mkF m pc Ls (x :: st))) := by
  subst hq
  exact Goes.go (fun _ r => XS.dup P.1.here P.2.1 rfl (hb P.2.2.1 hd) rfl hc r) k
theorem pop {x : Value} (P : Wk Z own bytes h p l e R s m args below meth c T locs cells slots) (hd : decode bytes pc = .ok (.pop, 1)) (hc : x.category = 1) (hq : pc + 1 = q) (k : Goes p.tables e below K (T.setTop (mkF m q Ls (st)))) : Goes p.tables e below K (T.setTop (mkF m pc Ls (x :: st))) := by
  subst hq
  exact Goes.go (fun _ r => XT.pop P.1.here P.2.1 rfl (hb P.2.2.1 hd) rfl hc r) k
theorem iadd {x y : Int32} (P : Wk Z own bytes h p l e R s m args below meth c T locs cells slots) (hd : decode bytes pc = .ok (.iadd, 1))  (hq : pc + 1 = q) (k : Goes p.tables e below K (T.setTop (mkF m q Ls (.int (x + y) :: st)))) : Goes p.tables e below K (T.setTop (mkF m pc Ls (.int y :: .int x :: st))) := by
  subst hq
  exact Goes.go (fun _ r => XS.iadd P.1.here P.2.1 rfl (hb P.2.2.1 hd) rfl r) k
theorem isub {x y : Int32} (P : Wk Z own bytes h p l e R s m args below meth c T locs cells slots) (hd : decode bytes pc = .ok (.isub, 1))  (hq : pc + 1 = q) (k : Goes p.tables e below K (T.setTop (mkF m q Ls (.int (x - y) :: st)))) : Goes p.tables e below K (T.setTop (mkF m pc Ls (.int y :: .int x :: st))) := by
  subst hq
  exact Goes.go (fun _ r => XS.isub P.1.here P.2.1 rfl (hb P.2.2.1 hd) rfl r) k
theorem iand {x y : Int32} (P : Wk Z own bytes h p l e R s m args below meth c T locs cells slots) (hd : decode bytes pc = .ok (.iand, 1))  (hq : pc + 1 = q) (k : Goes p.tables e below K (T.setTop (mkF m q Ls (.int (x &&& y) :: st)))) : Goes p.tables e below K (T.setTop (mkF m pc Ls (.int y :: .int x :: st))) := by
  subst hq
  exact Goes.go (fun _ r => XS.iand P.1.here P.2.1 rfl (hb P.2.2.1 hd) rfl r) k
theorem imul {x y : Int32} (P : Wk Z own bytes h p l e R s m args below meth c T locs cells slots) (hd : decode bytes pc = .ok (.imul, 1))  (hq : pc + 1 = q) (k : Goes p.tables e below K (T.setTop (mkF m q Ls (.int (x * y) :: st)))) : Goes p.tables e below K (T.setTop (mkF m pc Ls (.int y :: .int x :: st))) := by
  subst hq
  exact Goes.go (fun _ r => XS.imul P.1.here P.2.1 rfl (hb P.2.2.1 hd) rfl r) k
theorem ixor {x y : Int32} (P : Wk Z own bytes h p l e R s m args below meth c T locs cells slots) (hd : decode bytes pc = .ok (.ixor, 1))  (hq : pc + 1 = q) (k : Goes p.tables e below K (T.setTop (mkF m q Ls (.int (x ^^^ y) :: st)))) : Goes p.tables e below K (T.setTop (mkF m pc Ls (.int y :: .int x :: st))) := by
  subst hq
  exact Goes.go (fun _ r => XT.ixor P.1.here P.2.1 rfl (hb P.2.2.1 hd) rfl r) k
theorem ior {x y : Int32} (P : Wk Z own bytes h p l e R s m args below meth c T locs cells slots) (hd : decode bytes pc = .ok (.ior, 1))  (hq : pc + 1 = q) (k : Goes p.tables e below K (T.setTop (mkF m q Ls (.int (x ||| y) :: st)))) : Goes p.tables e below K (T.setTop (mkF m pc Ls (.int y :: .int x :: st))) := by
  subst hq
  exact Goes.go (fun _ r => XT.ior P.1.here P.2.1 rfl (hb P.2.2.1 hd) rfl r) k
theorem ishl {x y : Int32} (P : Wk Z own bytes h p l e R s m args below meth c T locs cells slots) (hd : decode bytes pc = .ok (.ishl, 1))  (hq : pc + 1 = q) (k : Goes p.tables e below K (T.setTop (mkF m q Ls (.int (x <<< (y &&& 31)) :: st)))) : Goes p.tables e below K (T.setTop (mkF m pc Ls (.int y :: .int x :: st))) := by
  subst hq
  exact Goes.go (fun _ r => XT.ishl P.1.here P.2.1 rfl (hb P.2.2.1 hd) rfl r) k
theorem ishr {x y : Int32} (P : Wk Z own bytes h p l e R s m args below meth c T locs cells slots) (hd : decode bytes pc = .ok (.ishr, 1))  (hq : pc + 1 = q) (k : Goes p.tables e below K (T.setTop (mkF m q Ls (.int (x >>> (y &&& 31)) :: st)))) : Goes p.tables e below K (T.setTop (mkF m pc Ls (.int y :: .int x :: st))) := by
  subst hq
  exact Goes.go (fun _ r => XT.ishr P.1.here P.2.1 rfl (hb P.2.2.1 hd) rfl r) k
theorem iushr {x y : Int32} (P : Wk Z own bytes h p l e R s m args below meth c T locs cells slots) (hd : decode bytes pc = .ok (.iushr, 1))  (hq : pc + 1 = q) (k : Goes p.tables e below K (T.setTop (mkF m q Ls (.int (XT.ushr x y) :: st)))) : Goes p.tables e below K (T.setTop (mkF m pc Ls (.int y :: .int x :: st))) := by
  subst hq
  exact Goes.go (fun _ r => XT.iushr P.1.here P.2.1 rfl (hb P.2.2.1 hd) rfl r) k
theorem irem {x y : Int32} (P : Wk Z own bytes h p l e R s m args below meth c T locs cells slots) (hd : decode bytes pc = .ok (.irem, 1)) (hy : y ≠ 0) (hq : pc + 1 = q) (k : Goes p.tables e below K (T.setTop (mkF m q Ls (.int (x % y) :: st)))) : Goes p.tables e below K (T.setTop (mkF m pc Ls (.int y :: .int x :: st))) := by
  subst hq
  exact Goes.go (fun _ r => iremM P.1 P.2.1 rfl (hb P.2.2.1 hd) rfl hy r) k
theorem idiv {x y : Int32} (P : Wk Z own bytes h p l e R s m args below meth c T locs cells slots) (hd : decode bytes pc = .ok (.idiv, 1)) (hy : y ≠ 0) (hq : pc + 1 = q) (k : Goes p.tables e below K (T.setTop (mkF m q Ls (.int (x / y) :: st)))) : Goes p.tables e below K (T.setTop (mkF m pc Ls (.int y :: .int x :: st))) := by
  subst hq
  exact Goes.go (fun _ r => XS.idiv P.1.here P.2.1 rfl (hb P.2.2.1 hd) rfl hy r) k
theorem i2c {x : Int32} (P : Wk Z own bytes h p l e R s m args below meth c T locs cells slots) (hd : decode bytes pc = .ok (.i2c, 1))  (hq : pc + 1 = q) (k : Goes p.tables e below K (T.setTop (mkF m q Ls (.int x.toUInt32.toUInt16.toUInt32.toInt32 :: st)))) : Goes p.tables e below K (T.setTop (mkF m pc Ls (.int x :: st))) := by
  subst hq
  exact Goes.go (fun _ r => XT.i2c P.1.here P.2.1 rfl (hb P.2.2.1 hd) rfl r) k
theorem i2cV {x v : Int32} (P : Wk Z own bytes h p l e R s m args below meth c T locs cells slots) (hd : decode bytes pc = .ok (.i2c, 1)) (hv : x.toUInt32.toUInt16.toUInt32.toInt32 = v) (hq : pc + 1 = q) (k : Goes p.tables e below K (T.setTop (mkF m q Ls (.int v :: st)))) : Goes p.tables e below K (T.setTop (mkF m pc Ls (.int x :: st))) := by
  subst hq
  exact Goes.go (fun _ r => XT.i2c P.1.here P.2.1 rfl (hb P.2.2.1 hd) rfl (hv ▸ r)) k
theorem i2b {x : Int32} (P : Wk Z own bytes h p l e R s m args below meth c T locs cells slots) (hd : decode bytes pc = .ok (.i2b, 1))  (hq : pc + 1 = q) (k : Goes p.tables e below K (T.setTop (mkF m q Ls (.int x.toInt8.toInt32 :: st)))) : Goes p.tables e below K (T.setTop (mkF m pc Ls (.int x :: st))) := by
  subst hq
  exact Goes.go (fun _ r => XT.i2b P.1.here P.2.1 rfl (hb P.2.2.1 hd) rfl r) k
theorem i2l {x : Int32} (P : Wk Z own bytes h p l e R s m args below meth c T locs cells slots) (hd : decode bytes pc = .ok (.i2l, 1))  (hq : pc + 1 = q) (k : Goes p.tables e below K (T.setTop (mkF m q Ls (.long x.toInt64 :: st)))) : Goes p.tables e below K (T.setTop (mkF m pc Ls (.int x :: st))) := by
  subst hq
  exact Goes.go (fun _ r => XT.i2l P.1.here P.2.1 rfl (hb P.2.2.1 hd) rfl r) k
theorem l2i {x : Int64} (P : Wk Z own bytes h p l e R s m args below meth c T locs cells slots) (hd : decode bytes pc = .ok (.l2i, 1))  (hq : pc + 1 = q) (k : Goes p.tables e below K (T.setTop (mkF m q Ls (.int x.toInt32 :: st)))) : Goes p.tables e below K (T.setTop (mkF m pc Ls (.long x :: st))) := by
  subst hq
  exact Goes.go (fun _ r => XT.l2i P.1.here P.2.1 rfl (hb P.2.2.1 hd) rfl r) k
theorem lushr {x : Int64} {y : Int32} (P : Wk Z own bytes h p l e R s m args below meth c T locs cells slots) (hd : decode bytes pc = .ok (.lushr, 1))  (hq : pc + 1 = q) (k : Goes p.tables e below K (T.setTop (mkF m q Ls (.long (XT.ushrL x y) :: st)))) : Goes p.tables e below K (T.setTop (mkF m pc Ls (.int y :: .long x :: st))) := by
  subst hq
  exact Goes.go (fun _ r => XT.lushr P.1.here P.2.1 rfl (hb P.2.2.1 hd) rfl r) k
theorem land {x y : Int64} (P : Wk Z own bytes h p l e R s m args below meth c T locs cells slots) (hd : decode bytes pc = .ok (.land, 1))  (hq : pc + 1 = q) (k : Goes p.tables e below K (T.setTop (mkF m q Ls (.long (x &&& y) :: st)))) : Goes p.tables e below K (T.setTop (mkF m pc Ls (.long y :: .long x :: st))) := by
  subst hq
  exact Goes.go (fun _ r => XT.land P.1.here P.2.1 rfl (hb P.2.2.1 hd) rfl r) k
theorem lsub {x y : Int64} (P : Wk Z own bytes h p l e R s m args below meth c T locs cells slots) (hd : decode bytes pc = .ok (.lsub, 1))  (hq : pc + 1 = q) (k : Goes p.tables e below K (T.setTop (mkF m q Ls (.long (x - y) :: st)))) : Goes p.tables e below K (T.setTop (mkF m pc Ls (.long y :: .long x :: st))) := by
  subst hq
  exact Goes.go (fun _ r => XT.lsub P.1.here P.2.1 rfl (hb P.2.2.1 hd) rfl r) k
theorem lcmp {x y : Int64} (P : Wk Z own bytes h p l e R s m args below meth c T locs cells slots) (hd : decode bytes pc = .ok (.lcmp, 1))  (hq : pc + 1 = q) (k : Goes p.tables e below K (T.setTop (mkF m q Ls (.int (XT.cmpL x y) :: st)))) : Goes p.tables e below K (T.setTop (mkF m pc Ls (.long y :: .long x :: st))) := by
  subst hq
  exact Goes.go (fun _ r => XT.lcmp P.1.here P.2.1 rfl (hb P.2.2.1 hd) rfl r) k
theorem ldcI {i : Nat} {v : Int32} (P : Wk Z own bytes h p l e R s m args below meth c T locs cells slots) (hd : decode bytes pc = .ok (.ldc i, 2)) (w : (Cond.constant own i v).before a0 Z = true) (hq : pc + 2 = q) (k : Goes p.tables e below K (T.setTop (mkF m q Ls (.int v :: st)))) : Goes p.tables e below K (T.setTop (mkF m pc Ls (st))) := by
  subst hq
  exact Goes.go (fun _ r => Jvm.Stand.ldcI P.1 P.2.1 P.2.2.2.2.1 (mvT P.2.2.2.1 w) rfl (hb P.2.2.1 hd) r) k
theorem ldcJ {i : Nat} {v : Int64} (P : Wk Z own bytes h p l e R s m args below meth c T locs cells slots) (hd : decode bytes pc = .ok (.ldc2_w i, 3)) (w : (Cond.constantLong own i v).before a0 Z = true) (hq : pc + 3 = q) (k : Goes p.tables e below K (T.setTop (mkF m q Ls (.long v :: st)))) : Goes p.tables e below K (T.setTop (mkF m pc Ls (st))) := by
  subst hq
  exact Goes.go (fun _ r => Jvm.Stand.ldc2J P.1 P.2.1 P.2.2.2.2.1 (mvT P.2.2.2.1 w) rfl (hb P.2.2.1 hd) r) k
theorem jmp {o : Int} {n : Nat} (h : (n : Int) + o = (q : Int)) : 0 ≤ (n : Int) + o ∧ ((n : Int) + o).toNat = q := by omega
theorem goto {o : Int} (P : Wk Z own bytes h p l e R s m args below meth c T locs cells slots) (hd : decode bytes pc = .ok (.goto o, 3)) (hq : (pc : Int) + o = (q : Int)) (k : Goes p.tables e below K (T.setTop (mkF m q Ls (st)))) : Goes p.tables e below K (T.setTop (mkF m pc Ls (st))) :=
  Goes.go (fun _ r => XS.goto P.1.here P.2.1 rfl (pc0 := pc) rfl (hb P.2.2.1 hd) (jmp hq).1 (jmp hq).2 r) k
theorem icmp_eq {x y : Int32} {o : Int} {qy : Nat} (P : Wk Z own bytes h p l e R s m args below meth c T locs cells slots) (hd : decode bytes pc = .ok (.if_icmp .eq o, 3)) (hy : (pc : Int) + o = (qy : Int)) (hq : pc + 3 = q) (ky : x = y → Goes p.tables e below K (T.setTop (mkF m qy Ls (st)))) (kn : ¬ x = y → Goes p.tables e below K (T.setTop (mkF m q Ls (st)))) : Goes p.tables e below K (T.setTop (mkF m pc Ls (.int y :: .int x :: st))) := by
  subst hq
  by_cases c0 : x = y
  · exact Goes.go (fun _ r => XS.icmpYes P.1.here P.2.1 rfl (pc0 := pc) rfl (hb P.2.2.1 hd) rfl (XT.ii_eq_t c0) (jmp hy).1 (jmp hy).2 r) (ky c0)
  · exact Goes.go (fun _ r => XS.icmpNo P.1.here P.2.1 rfl (hb P.2.2.1 hd) rfl (XT.ii_eq_f c0) r) (kn c0)
theorem if_eq {x : Int32} {o : Int} {qy : Nat} (P : Wk Z own bytes h p l e R s m args below meth c T locs cells slots) (hd : decode bytes pc = .ok (.ifCond .eq o, 3)) (hy : (pc : Int) + o = (qy : Int)) (hq : pc + 3 = q) (ky : x = 0 → Goes p.tables e below K (T.setTop (mkF m qy Ls (st)))) (kn : ¬ x = 0 → Goes p.tables e below K (T.setTop (mkF m q Ls (st)))) : Goes p.tables e below K (T.setTop (mkF m pc Ls (.int x :: st))) := by
  subst hq
  by_cases c0 : x = 0
  · exact Goes.go (fun _ r => XS.ifYes P.1.here P.2.1 rfl (pc0 := pc) rfl (hb P.2.2.1 hd) rfl (XT.i0_eq_t c0) (jmp hy).1 (jmp hy).2 r) (ky c0)
  · exact Goes.go (fun _ r => XS.ifNo P.1.here P.2.1 rfl (hb P.2.2.1 hd) rfl (XT.i0_eq_f c0) r) (kn c0)
theorem icmp_ne {x y : Int32} {o : Int} {qy : Nat} (P : Wk Z own bytes h p l e R s m args below meth c T locs cells slots) (hd : decode bytes pc = .ok (.if_icmp .ne o, 3)) (hy : (pc : Int) + o = (qy : Int)) (hq : pc + 3 = q) (ky : ¬ x = y → Goes p.tables e below K (T.setTop (mkF m qy Ls (st)))) (kn : x = y → Goes p.tables e below K (T.setTop (mkF m q Ls (st)))) : Goes p.tables e below K (T.setTop (mkF m pc Ls (.int y :: .int x :: st))) := by
  subst hq
  by_cases c0 : x = y
  · exact Goes.go (fun _ r => XS.icmpNo P.1.here P.2.1 rfl (hb P.2.2.1 hd) rfl (XT.ii_ne_f c0) r) (kn c0)
  · exact Goes.go (fun _ r => XS.icmpYes P.1.here P.2.1 rfl (pc0 := pc) rfl (hb P.2.2.1 hd) rfl (XT.ii_ne_t c0) (jmp hy).1 (jmp hy).2 r) (ky c0)
theorem if_ne {x : Int32} {o : Int} {qy : Nat} (P : Wk Z own bytes h p l e R s m args below meth c T locs cells slots) (hd : decode bytes pc = .ok (.ifCond .ne o, 3)) (hy : (pc : Int) + o = (qy : Int)) (hq : pc + 3 = q) (ky : ¬ x = 0 → Goes p.tables e below K (T.setTop (mkF m qy Ls (st)))) (kn : x = 0 → Goes p.tables e below K (T.setTop (mkF m q Ls (st)))) : Goes p.tables e below K (T.setTop (mkF m pc Ls (.int x :: st))) := by
  subst hq
  by_cases c0 : x = 0
  · exact Goes.go (fun _ r => XS.ifNo P.1.here P.2.1 rfl (hb P.2.2.1 hd) rfl (XT.i0_ne_f c0) r) (kn c0)
  · exact Goes.go (fun _ r => XS.ifYes P.1.here P.2.1 rfl (pc0 := pc) rfl (hb P.2.2.1 hd) rfl (XT.i0_ne_t c0) (jmp hy).1 (jmp hy).2 r) (ky c0)
theorem icmp_lt {x y : Int32} {o : Int} {qy : Nat} (P : Wk Z own bytes h p l e R s m args below meth c T locs cells slots) (hd : decode bytes pc = .ok (.if_icmp .lt o, 3)) (hy : (pc : Int) + o = (qy : Int)) (hq : pc + 3 = q) (ky : x < y → Goes p.tables e below K (T.setTop (mkF m qy Ls (st)))) (kn : ¬ x < y → Goes p.tables e below K (T.setTop (mkF m q Ls (st)))) : Goes p.tables e below K (T.setTop (mkF m pc Ls (.int y :: .int x :: st))) := by
  subst hq
  by_cases c0 : x < y
  · exact Goes.go (fun _ r => XS.icmpYes P.1.here P.2.1 rfl (pc0 := pc) rfl (hb P.2.2.1 hd) rfl (XT.ii_lt_t c0) (jmp hy).1 (jmp hy).2 r) (ky c0)
  · exact Goes.go (fun _ r => XS.icmpNo P.1.here P.2.1 rfl (hb P.2.2.1 hd) rfl (XT.ii_lt_f c0) r) (kn c0)
theorem if_lt {x : Int32} {o : Int} {qy : Nat} (P : Wk Z own bytes h p l e R s m args below meth c T locs cells slots) (hd : decode bytes pc = .ok (.ifCond .lt o, 3)) (hy : (pc : Int) + o = (qy : Int)) (hq : pc + 3 = q) (ky : x < 0 → Goes p.tables e below K (T.setTop (mkF m qy Ls (st)))) (kn : ¬ x < 0 → Goes p.tables e below K (T.setTop (mkF m q Ls (st)))) : Goes p.tables e below K (T.setTop (mkF m pc Ls (.int x :: st))) := by
  subst hq
  by_cases c0 : x < 0
  · exact Goes.go (fun _ r => XS.ifYes P.1.here P.2.1 rfl (pc0 := pc) rfl (hb P.2.2.1 hd) rfl (XT.i0_lt_t c0) (jmp hy).1 (jmp hy).2 r) (ky c0)
  · exact Goes.go (fun _ r => XS.ifNo P.1.here P.2.1 rfl (hb P.2.2.1 hd) rfl (XT.i0_lt_f c0) r) (kn c0)
theorem icmp_ge {x y : Int32} {o : Int} {qy : Nat} (P : Wk Z own bytes h p l e R s m args below meth c T locs cells slots) (hd : decode bytes pc = .ok (.if_icmp .ge o, 3)) (hy : (pc : Int) + o = (qy : Int)) (hq : pc + 3 = q) (ky : ¬ x < y → Goes p.tables e below K (T.setTop (mkF m qy Ls (st)))) (kn : x < y → Goes p.tables e below K (T.setTop (mkF m q Ls (st)))) : Goes p.tables e below K (T.setTop (mkF m pc Ls (.int y :: .int x :: st))) := by
  subst hq
  by_cases c0 : x < y
  · exact Goes.go (fun _ r => XS.icmpNo P.1.here P.2.1 rfl (hb P.2.2.1 hd) rfl (XT.ii_ge_f c0) r) (kn c0)
  · exact Goes.go (fun _ r => XS.icmpYes P.1.here P.2.1 rfl (pc0 := pc) rfl (hb P.2.2.1 hd) rfl (XT.ii_ge_t c0) (jmp hy).1 (jmp hy).2 r) (ky c0)
theorem if_ge {x : Int32} {o : Int} {qy : Nat} (P : Wk Z own bytes h p l e R s m args below meth c T locs cells slots) (hd : decode bytes pc = .ok (.ifCond .ge o, 3)) (hy : (pc : Int) + o = (qy : Int)) (hq : pc + 3 = q) (ky : ¬ x < 0 → Goes p.tables e below K (T.setTop (mkF m qy Ls (st)))) (kn : x < 0 → Goes p.tables e below K (T.setTop (mkF m q Ls (st)))) : Goes p.tables e below K (T.setTop (mkF m pc Ls (.int x :: st))) := by
  subst hq
  by_cases c0 : x < 0
  · exact Goes.go (fun _ r => XS.ifNo P.1.here P.2.1 rfl (hb P.2.2.1 hd) rfl (XT.i0_ge_f c0) r) (kn c0)
  · exact Goes.go (fun _ r => XS.ifYes P.1.here P.2.1 rfl (pc0 := pc) rfl (hb P.2.2.1 hd) rfl (XT.i0_ge_t c0) (jmp hy).1 (jmp hy).2 r) (ky c0)
theorem icmp_gt {x y : Int32} {o : Int} {qy : Nat} (P : Wk Z own bytes h p l e R s m args below meth c T locs cells slots) (hd : decode bytes pc = .ok (.if_icmp .gt o, 3)) (hy : (pc : Int) + o = (qy : Int)) (hq : pc + 3 = q) (ky : y < x → Goes p.tables e below K (T.setTop (mkF m qy Ls (st)))) (kn : ¬ y < x → Goes p.tables e below K (T.setTop (mkF m q Ls (st)))) : Goes p.tables e below K (T.setTop (mkF m pc Ls (.int y :: .int x :: st))) := by
  subst hq
  by_cases c0 : y < x
  · exact Goes.go (fun _ r => XS.icmpYes P.1.here P.2.1 rfl (pc0 := pc) rfl (hb P.2.2.1 hd) rfl (XT.ii_gt_t c0) (jmp hy).1 (jmp hy).2 r) (ky c0)
  · exact Goes.go (fun _ r => XS.icmpNo P.1.here P.2.1 rfl (hb P.2.2.1 hd) rfl (XT.ii_gt_f c0) r) (kn c0)
theorem if_gt {x : Int32} {o : Int} {qy : Nat} (P : Wk Z own bytes h p l e R s m args below meth c T locs cells slots) (hd : decode bytes pc = .ok (.ifCond .gt o, 3)) (hy : (pc : Int) + o = (qy : Int)) (hq : pc + 3 = q) (ky : 0 < x → Goes p.tables e below K (T.setTop (mkF m qy Ls (st)))) (kn : ¬ 0 < x → Goes p.tables e below K (T.setTop (mkF m q Ls (st)))) : Goes p.tables e below K (T.setTop (mkF m pc Ls (.int x :: st))) := by
  subst hq
  by_cases c0 : 0 < x
  · exact Goes.go (fun _ r => XS.ifYes P.1.here P.2.1 rfl (pc0 := pc) rfl (hb P.2.2.1 hd) rfl (XT.i0_gt_t c0) (jmp hy).1 (jmp hy).2 r) (ky c0)
  · exact Goes.go (fun _ r => XS.ifNo P.1.here P.2.1 rfl (hb P.2.2.1 hd) rfl (XT.i0_gt_f c0) r) (kn c0)
theorem icmp_le {x y : Int32} {o : Int} {qy : Nat} (P : Wk Z own bytes h p l e R s m args below meth c T locs cells slots) (hd : decode bytes pc = .ok (.if_icmp .le o, 3)) (hy : (pc : Int) + o = (qy : Int)) (hq : pc + 3 = q) (ky : ¬ y < x → Goes p.tables e below K (T.setTop (mkF m qy Ls (st)))) (kn : y < x → Goes p.tables e below K (T.setTop (mkF m q Ls (st)))) : Goes p.tables e below K (T.setTop (mkF m pc Ls (.int y :: .int x :: st))) := by
  subst hq
  by_cases c0 : y < x
  · exact Goes.go (fun _ r => XS.icmpNo P.1.here P.2.1 rfl (hb P.2.2.1 hd) rfl (XT.ii_le_f c0) r) (kn c0)
  · exact Goes.go (fun _ r => XS.icmpYes P.1.here P.2.1 rfl (pc0 := pc) rfl (hb P.2.2.1 hd) rfl (XT.ii_le_t c0) (jmp hy).1 (jmp hy).2 r) (ky c0)
theorem if_le {x : Int32} {o : Int} {qy : Nat} (P : Wk Z own bytes h p l e R s m args below meth c T locs cells slots) (hd : decode bytes pc = .ok (.ifCond .le o, 3)) (hy : (pc : Int) + o = (qy : Int)) (hq : pc + 3 = q) (ky : ¬ 0 < x → Goes p.tables e below K (T.setTop (mkF m qy Ls (st)))) (kn : 0 < x → Goes p.tables e below K (T.setTop (mkF m q Ls (st)))) : Goes p.tables e below K (T.setTop (mkF m pc Ls (.int x :: st))) := by
  subst hq
  by_cases c0 : 0 < x
  · exact Goes.go (fun _ r => XS.ifNo P.1.here P.2.1 rfl (hb P.2.2.1 hd) rfl (XT.i0_le_f c0) r) (kn c0)
  · exact Goes.go (fun _ r => XS.ifYes P.1.here P.2.1 rfl (pc0 := pc) rfl (hb P.2.2.1 hd) rfl (XT.i0_le_t c0) (jmp hy).1 (jmp hy).2 r) (ky c0)
theorem acmp_eq {x y : Value} {o : Int} {qy : Nat} (P : Wk Z own bytes h p l e R s m args below meth c T locs cells slots) (hd : decode bytes pc = .ok (.if_acmp .eq o, 3)) (h1 : x.isRef = true) (h2 : y.isRef = true) (hy : (pc : Int) + o = (qy : Int)) (hq : pc + 3 = q) (ky : x = y → Goes p.tables e below K (T.setTop (mkF m qy Ls (st)))) (kn : ¬ x = y → Goes p.tables e below K (T.setTop (mkF m q Ls (st)))) : Goes p.tables e below K (T.setTop (mkF m pc Ls (y :: x :: st))) := by
  subst hq
  by_cases c0 : x = y
  · exact Goes.go (fun _ r => XT.acmpYes P.1.here P.2.1 rfl (pc0 := pc) rfl (hb P.2.2.1 hd) rfl h1 h2 (XT.aa_eq_t c0) (jmp hy).1 (jmp hy).2 r) (ky c0)
  · exact Goes.go (fun _ r => XT.acmpNo P.1.here P.2.1 rfl (hb P.2.2.1 hd) rfl h1 h2 (XT.aa_eq_f c0) r) (kn c0)
theorem acmp_ne {x y : Value} {o : Int} {qy : Nat} (P : Wk Z own bytes h p l e R s m args below meth c T locs cells slots) (hd : decode bytes pc = .ok (.if_acmp .ne o, 3)) (h1 : x.isRef = true) (h2 : y.isRef = true) (hy : (pc : Int) + o = (qy : Int)) (hq : pc + 3 = q) (ky : ¬ x = y → Goes p.tables e below K (T.setTop (mkF m qy Ls (st)))) (kn : x = y → Goes p.tables e below K (T.setTop (mkF m q Ls (st)))) : Goes p.tables e below K (T.setTop (mkF m pc Ls (y :: x :: st))) := by
  subst hq
  by_cases c0 : x = y
  · exact Goes.go (fun _ r => XT.acmpNo P.1.here P.2.1 rfl (hb P.2.2.1 hd) rfl h1 h2 (XT.aa_ne_f c0) r) (kn c0)
  · exact Goes.go (fun _ r => XT.acmpYes P.1.here P.2.1 rfl (pc0 := pc) rfl (hb P.2.2.1 hd) rfl h1 h2 (XT.aa_ne_t c0) (jmp hy).1 (jmp hy).2 r) (ky c0)
theorem nullY {o : Int} (P : Wk Z own bytes h p l e R s m args below meth c T locs cells slots) (hd : decode bytes pc = .ok (.ifnull o, 3)) (hy : (pc : Int) + o = (q : Int)) (k : Goes p.tables e below K (T.setTop (mkF m q Ls (st)))) : Goes p.tables e below K (T.setTop (mkF m pc Ls (.null :: st))) := Goes.go (fun _ r => XS.ifnullYes P.1.here P.2.1 rfl (pc0 := pc) rfl (hb P.2.2.1 hd) rfl (jmp hy).1 (jmp hy).2 r) k
theorem nullN {o : Int} {b : Addr} (P : Wk Z own bytes h p l e R s m args below meth c T locs cells slots) (hd : decode bytes pc = .ok (.ifnull o, 3)) (hq : pc + 3 = q) (k : Goes p.tables e below K (T.setTop (mkF m q Ls (st)))) : Goes p.tables e below K (T.setTop (mkF m pc Ls (.ref b :: st))) := by
  subst hq
  exact Goes.go (fun _ r => XS.ifnullNo P.1.here P.2.1 rfl (hb P.2.2.1 hd) rfl r) k
theorem nonnullY {o : Int} {b : Addr} (P : Wk Z own bytes h p l e R s m args below meth c T locs cells slots) (hd : decode bytes pc = .ok (.ifnonnull o, 3)) (hy : (pc : Int) + o = (q : Int)) (k : Goes p.tables e below K (T.setTop (mkF m q Ls (st)))) : Goes p.tables e below K (T.setTop (mkF m pc Ls (.ref b :: st))) := Goes.go (fun _ r => XT.ifnonnullYes P.1.here P.2.1 rfl (pc0 := pc) rfl (hb P.2.2.1 hd) rfl (jmp hy).1 (jmp hy).2 r) k
theorem nonnullN {o : Int} (P : Wk Z own bytes h p l e R s m args below meth c T locs cells slots) (hd : decode bytes pc = .ok (.ifnonnull o, 3)) (hq : pc + 3 = q) (k : Goes p.tables e below K (T.setTop (mkF m q Ls (st)))) : Goes p.tables e below K (T.setTop (mkF m pc Ls (.null :: st))) := by
  subst hq
  exact Goes.go (fun _ r => XT.ifnonnullNo P.1.here P.2.1 rfl (hb P.2.2.1 hd) rfl r) k
theorem getfield {O n d : String} {i : Nat} {a : Addr} {v : Value} (P : Wk Z own bytes h p l e R s m args below meth c T locs cells slots) (hd : decode bytes pc = .ok (.getfield i, 3)) (w : (Cond.fieldLink own i O n d).before a0 Z = true) (F : Fld Z h a O n d v) (hq : pc + 3 = q) (k : ∀ T₂, Wk Z own bytes h p l e R s m args below meth c T₂ locs cells slots → Goes p.tables e below K (T₂.setTop (mkF m q Ls (v :: st)))) : Goes p.tables e below K (T.setTop (mkF m pc Ls (.ref a :: st))) := by
  subst hq
  obtain ⟨T₂, X2, e2, st2⟩ := getF P.1 P.2.1 P.2.2.2.1 P.2.2.2.2.1 (host := "") (Or.inl w) Via.refl P.2.2.2.2.2 F (g := mkF m pc Ls (.ref a :: st)) rfl rfl (hb P.2.2.1 hd)
  exact Goes.go st2 (k T₂ ⟨X2, P.2.1, P.2.2.1, P.2.2.2.1, P.2.2.2.2.1, e2⟩)
theorem getstatic {O n d : String} {i : Nat} {v : Value} (P : Wk Z own bytes h p l e R s m args below meth c T locs cells slots) (hd : decode bytes pc = .ok (.getstatic i, 3)) (w : (Cond.fieldLink own i O n d).before a0 Z = true) (F : Sta Z h O n d v) (hq : pc + 3 = q) (k : ∀ T₂, Wk Z own bytes h p l e R s m args below meth c T₂ locs cells slots → Goes p.tables e below K (T₂.setTop (mkF m q Ls (v :: st)))) : Goes p.tables e below K (T.setTop (mkF m pc Ls (st))) := by
  subst hq
  obtain ⟨T₂, X2, e2, st2⟩ := getS P.1 P.2.1 P.2.2.2.1 (host := "") P.2.2.2.2.1 w Via.refl P.2.2.2.2.2 F (g := mkF m pc Ls st) rfl (hb P.2.2.1 hd)
  exact Goes.go st2 (k T₂ ⟨X2, P.2.1, P.2.2.1, P.2.2.2.1, P.2.2.2.2.1, e2⟩)
theorem castTo {C : String} {i : Nat} {a : Addr} (P : Wk Z own bytes h p l e R s m args below meth c T locs cells slots) (hd : decode bytes pc = .ok (.checkcast i, 3)) (w : (Cond.classLink own i C).before a0 Z = true) (F : Ins Z h a C true) (hq : pc + 3 = q) (k : ∀ T₂, Wk Z own bytes h p l e R s m args below meth c T₂ locs cells slots → Goes p.tables e below K (T₂.setTop (mkF m q Ls (.ref a :: st)))) : Goes p.tables e below K (T.setTop (mkF m pc Ls (.ref a :: st))) := by
  subst hq
  obtain ⟨T₂, X2, e2, st2⟩ := castY P.1 P.2.1 P.2.2.2.1 P.2.2.2.2.1 w P.2.2.2.2.2 F (g := mkF m pc Ls (.ref a :: st)) rfl rfl (hb P.2.2.1 hd)
  exact Goes.go st2 (k T₂ ⟨X2, P.2.1, P.2.2.1, P.2.2.2.1, P.2.2.2.2.1, e2⟩)
theorem instOf {C : String} {i : Nat} {a : Addr} (P : Wk Z own bytes h p l e R s m args below meth c T locs cells slots) (hd : decode bytes pc = .ok (.instanceof i, 3)) (w : (Cond.classLink own i C).before a0 Z = true) (F : Ins Z h a C true) (hq : pc + 3 = q) (k : ∀ T₂, Wk Z own bytes h p l e R s m args below meth c T₂ locs cells slots → Goes p.tables e below K (T₂.setTop (mkF m q Ls (.int 1 :: st)))) : Goes p.tables e below K (T.setTop (mkF m pc Ls (.ref a :: st))) := by
  subst hq
  obtain ⟨T₂, X2, e2, st2⟩ := instY P.1 P.2.1 P.2.2.2.1 P.2.2.2.2.1 w P.2.2.2.2.2 F (g := mkF m pc Ls (.ref a :: st)) rfl rfl (hb P.2.2.1 hd)
  exact Goes.go st2 (k T₂ ⟨X2, P.2.1, P.2.2.1, P.2.2.2.1, P.2.2.2.2.1, e2⟩)
theorem caload {a : Addr} {kc : ClassId} {n j : Int32} {vs : List Value} {d v : Value} (P : Wk Z own bytes h p l e R s m args below meth c T locs cells slots) (hd : decode bytes pc = .ok (.caload, 1)) (A : Arv Z h a kc .char n vs d) (h0 : ¬ j < 0) (h1 : j < n) (hv : vs.getD j.toNatClampNeg d = v) (hq : pc + 1 = q) (k : Goes p.tables e below K (T.setTop (mkF m q Ls (v :: st)))) : Goes p.tables e below K (T.setTop (mkF m pc Ls (.int j :: .ref a :: st))) := by
  subst hq
  obtain ⟨cl, Ar, -, S, -, H, -⟩ := A
  have hin := inb_of S ⟨h0, h1⟩
  exact Goes.go (P.1.caload P.2.1 (by rw [P.2.2.2.2.2]; exact Ar.1) (State.isArrayOf_alike P.2.2.2.1.alike Ar.2.1) Ar.2.2 hin (H.at hin hv) (g := mkF m pc Ls (.int j :: .ref a :: st)) rfl rfl (hb P.2.2.1 hd)) k
theorem baload {a : Addr} {kc : ClassId} {n j : Int32} {vs : List Value} {d v : Value} (P : Wk Z own bytes h p l e R s m args below meth c T locs cells slots) (hd : decode bytes pc = .ok (.baload, 1)) (A : Arv Z h a kc .byte n vs d) (h0 : ¬ j < 0) (h1 : j < n) (hv : vs.getD j.toNatClampNeg d = v) (hq : pc + 1 = q) (k : Goes p.tables e below K (T.setTop (mkF m q Ls (v :: st)))) : Goes p.tables e below K (T.setTop (mkF m pc Ls (.int j :: .ref a :: st))) := by
  subst hq
  obtain ⟨cl, Ar, -, S, -, H, -⟩ := A
  have hin := inb_of S ⟨h0, h1⟩
  exact Goes.go (P.1.baloadBytes P.2.1 (by rw [P.2.2.2.2.2]; exact Ar.1) (State.isArrayOf_alike P.2.2.2.1.alike Ar.2.1) Ar.2.2 hin (H.at hin hv) (g := mkF m pc Ls (.int j :: .ref a :: st)) rfl rfl (hb P.2.2.1 hd)) k
theorem aaload {a : Addr} {kc : ClassId} {C : String} {n j : Int32} {vs : List Value} {d v : Value} (P : Wk Z own bytes h p l e R s m args below meth c T locs cells slots) (hd : decode bytes pc = .ok (.aaload, 1)) (A : Arv Z h a kc (.object C) n vs d) (h0 : ¬ j < 0) (h1 : j < n) (hv : vs.getD j.toNatClampNeg d = v) (hq : pc + 1 = q) (k : Goes p.tables e below K (T.setTop (mkF m q Ls (v :: st)))) : Goes p.tables e below K (T.setTop (mkF m pc Ls (.int j :: .ref a :: st))) := by
  subst hq
  obtain ⟨cl, Ar, -, S, -, H, -⟩ := A
  have hin := inb_of S ⟨h0, h1⟩
  exact Goes.go (P.1.aaload P.2.1 (by rw [P.2.2.2.2.2]; exact Ar.1) (State.isArrayOf_alike P.2.2.2.1.alike Ar.2.1) rfl Ar.2.2 hin (H.at hin hv) (g := mkF m pc Ls (.int j :: .ref a :: st)) rfl rfl (hb P.2.2.1 hd)) k
theorem arraylength {a : Addr} {kc : ClassId} {ty : FieldType} {n : Int32} {vs : List Value} {d : Value} (P : Wk Z own bytes h p l e R s m args below meth c T locs cells slots) (hd : decode bytes pc = .ok (.arraylength, 1)) (A : Arv Z h a kc ty n vs d) (hq : pc + 1 = q) (k : Goes p.tables e below K (T.setTop (mkF m q Ls (.int n :: st)))) : Goes p.tables e below K (T.setTop (mkF m pc Ls (.ref a :: st))) := by
  subst hq
  obtain ⟨cl, Ar, -, S, N, H, -⟩ := A
  refine Goes.go (P.1.arraylength P.2.1 (by rw [P.2.2.2.2.2]; exact Ar.1) (State.isArrayOf_alike P.2.2.2.1.alike Ar.2.1) (g := mkF m pc Ls (.ref a :: st)) rfl rfl (hb P.2.2.1 hd)) ?_
  rw [len_of S N]
  exact k
theorem instNull {i : Nat} (P : Wk Z own bytes h p l e R s m args below meth c T locs cells slots) (hd : decode bytes pc = .ok (.instanceof i, 3)) (hq : pc + 3 = q) (k : Goes p.tables e below K (T.setTop (mkF m q Ls (.int 0 :: st)))) : Goes p.tables e below K (T.setTop (mkF m pc Ls (.null :: st))) := by
  subst hq
  exact Goes.go (fun t r => P.1.instanceofNull P.2.1 (g := mkF m pc Ls (.null :: st)) rfl (rest := st) rfl (hb P.2.2.1 hd) t r) k
theorem instNope {C C2 : String} {i : Nat} {a : Addr} (P : Wk Z own bytes h p l e R s m args below meth c T locs cells slots) (hd : decode bytes pc = .ok (.instanceof i, 3)) (w : (Cond.classLink own i C).before a0 Z = true) (E : Exa Z h a C2) (F : ∃ c t, Z.vm.findClass C2 = some c ∧ Z.vm.findClass C = some t ∧ Z.vm.assignable c t = false) (hq : pc + 3 = q) (k : ∀ T₂, Wk Z own bytes h p l e R s m args below meth c T₂ locs cells slots → Goes p.tables e below K (T₂.setTop (mkF m q Ls (.int 0 :: st)))) : Goes p.tables e below K (T.setTop (mkF m pc Ls (.ref a :: st))) := by
  subst hq
  obtain ⟨T₂, X2, e2, st2⟩ := instNo P.1 P.2.1 P.2.2.2.1 P.2.2.2.2.1 w P.2.2.2.2.2 E F (g := mkF m pc Ls (.ref a :: st)) rfl rfl (hb P.2.2.1 hd)
  exact Goes.go st2 (k T₂ ⟨X2, P.2.1, P.2.2.1, P.2.2.2.1, P.2.2.2.2.1, e2⟩)
theorem newobj {C : String} {i n : Nat} (P : Wk Z own bytes h p l e R s m args below meth c T locs cells slots) (hd : decode bytes pc = .ok (.new i, 3)) (w : (Cond.classLink own i C).before a0 Z = true) (wi : (Cond.instantiable C n).before a0 Z = true) (wz : (Cond.initialized C).before a0 Z = true) (hc : cells + 1 ≤ R.cells) (hl : slots + n ≤ R.slots) (hq : pc + 3 = q)
    (k : ∀ T₂ h₂ a, a = h.size → Wk Z own bytes h₂ p l e R s m args below meth c T₂ locs (cells + 1) (slots + n) → Ext h h₂ → Exa Z h₂ a C → (∀ {O nm d : String} {ty : FieldType}, Laid Z a0 C O nm d → parseFieldDescriptor d = some ty → Fld Z h₂ a O nm d (defaultValue ty)) → Goes p.tables e below K (T₂.setTop (mkF m q Ls (.ref a :: st)))) : Goes p.tables e below K (T.setTop (mkF m pc Ls (st))) := by
  subst hq
  obtain ⟨T₂, h₂, X2, e2, E2, A2, D2, -, st2⟩ := newO P.1 P.2.1 P.2.2.2.1 P.2.2.2.2.1 w wi wz P.2.2.2.2.2 (g := mkF m pc Ls st) rfl (hb P.2.2.1 hd) hc hl
  exact Goes.go st2 (k T₂ h₂ h.size rfl ⟨X2, P.2.1, P.2.2.1, P.2.2.2.1, P.2.2.2.2.1, e2⟩ E2 A2 D2)
theorem newarr {aty : ArrayType} {n : Int32} {cap : Nat} (P : Wk Z own bytes h p l e R s m args below meth c T locs cells slots) (hd : decode bytes pc = .ok (.newarray aty, 2)) (w : (Cond.arrayClass (newarray.typeOf aty)).before a0 Z = true) (hn : ¬ n < 0) (hcap : n.toNatClampNeg ≤ cap) (hcb : cap * 8 ≤ 536870912) (hc : cells + 1 ≤ R.cells) (hl : slots + cap ≤ R.slots) (hq : pc + 2 = q)
    (k : ∀ T₂ h₂ a kc, a = h.size → Wk Z own bytes h₂ p l e R s m args below meth c T₂ locs (cells + 1) (slots + cap) → Ext h h₂ → Arv Z h₂ a kc (newarray.typeOf aty) n [] (defaultValue (newarray.typeOf aty)) → Goes p.tables e below K (T₂.setTop (mkF m q Ls (.ref a :: st)))) : Goes p.tables e below K (T.setTop (mkF m pc Ls (.int n :: st))) := by
  subst hq
  obtain ⟨T₂, h₂, kc, X2, e2, E2, A2, st2⟩ := newP P.1 P.2.1 P.2.2.2.1 w P.2.2.2.2.2 (g := mkF m pc Ls (.int n :: st)) rfl (hb P.2.2.1 hd) rfl hn hcap hcb hc hl
  exact Goes.go st2 (k T₂ h₂ h.size kc rfl ⟨X2, P.2.1, P.2.2.1, P.2.2.2.1, P.2.2.2.2.1, e2⟩ E2 (Arv.new A2 hn))
theorem castore {a : Addr} {kc : ClassId} {n j x x2 : Int32} {i : Nat} {vs : List Value} {d : Value} (P : Wk Z own bytes h p l e R s m args below meth c T locs cells slots) (hd : decode bytes pc = .ok (.castore, 1)) (A : Arv Z h a kc .char n vs d) (h0 : ¬ j < 0) (h1 : j < n) (hx2 : nar .char x = x2) (hf : fits .char (.int x2) = true) (hi : j.toNatClampNeg = i) (hi2 : i < vs.length) (hq : pc + 1 = q)
    (k : ∀ T₂ h₂ lc, lc.base = a → Wk Z own bytes h₂ p l e R s m args below meth c T₂ (locs ++ [lc]) cells slots → Wr h h₂ a i (.int x2) → Arv Z h₂ a kc .char n (vs.set i (.int x2)) d → Goes p.tables e below K (T₂.setTop (mkF m q Ls (st)))) : Goes p.tables e below K (T.setTop (mkF m pc Ls (.int x :: .int j :: .ref a :: st))) := by
  subst hq hx2 hi
  obtain ⟨cl, Ar, q1, S, q3, H, G⟩ := A
  have hin := inb_of S ⟨h0, h1⟩
  obtain ⟨T₂, h₂, X2, e2, W2, st2⟩ := stC P.1 P.2.1 P.2.2.2.1 P.2.2.2.2.2 Ar hin (g := mkF m pc Ls (.int x :: .int j :: .ref a :: st)) rfl rfl (hb P.2.2.1 hd)
  exact Goes.go st2 (k T₂ h₂ ⟨a, j.toNatClampNeg⟩ rfl ⟨X2, P.2.1, P.2.2.1, P.2.2.2.1, P.2.2.2.2.1, e2⟩ W2 (Arv.set Ar q1 S q3 H G hf W2 _ rfl hi2))
theorem bastore {a : Addr} {kc : ClassId} {n j x x2 : Int32} {i : Nat} {vs : List Value} {d : Value} (P : Wk Z own bytes h p l e R s m args below meth c T locs cells slots) (hd : decode bytes pc = .ok (.bastore, 1)) (A : Arv Z h a kc .byte n vs d) (h0 : ¬ j < 0) (h1 : j < n) (hx2 : nar .byte x = x2) (hf : fits .byte (.int x2) = true) (hi : j.toNatClampNeg = i) (hi2 : i < vs.length) (hq : pc + 1 = q)
    (k : ∀ T₂ h₂ lc, lc.base = a → Wk Z own bytes h₂ p l e R s m args below meth c T₂ (locs ++ [lc]) cells slots → Wr h h₂ a i (.int x2) → Arv Z h₂ a kc .byte n (vs.set i (.int x2)) d → Goes p.tables e below K (T₂.setTop (mkF m q Ls (st)))) : Goes p.tables e below K (T.setTop (mkF m pc Ls (.int x :: .int j :: .ref a :: st))) := by
  subst hq hx2 hi
  obtain ⟨cl, Ar, q1, S, q3, H, G⟩ := A
  have hin := inb_of S ⟨h0, h1⟩
  obtain ⟨T₂, h₂, X2, e2, W2, st2⟩ := stB P.1 P.2.1 P.2.2.2.1 P.2.2.2.2.2 Ar hin (g := mkF m pc Ls (.int x :: .int j :: .ref a :: st)) rfl rfl (hb P.2.2.1 hd)
  exact Goes.go st2 (k T₂ h₂ ⟨a, j.toNatClampNeg⟩ rfl ⟨X2, P.2.1, P.2.2.1, P.2.2.2.1, P.2.2.2.2.1, e2⟩ W2 (Arv.set Ar q1 S q3 H G hf W2 _ rfl hi2))
theorem putfield {O n d C : String} {i kk : Nat} {ty : FieldType} {a : Addr} {v old : Value} (P : Wk Z own bytes h p l e R s m args below meth c T locs cells slots) (hd : decode bytes pc = .ok (.putfield i, 3)) (w : (Cond.fieldLink own i O n d).before a0 Z = true) (F : Fld Z h a O n d old) (E : Exa Z h a C) (L : (Cond.lays C O n d).before a0 Z = true ∨ ((Cond.laysFinal C O n d).before a0 Z = true ∧ own = O ∧ meth.name = "<init>")) (wi : (Cond.instantiable C kk).before a0 Z = true) (hty : parseFieldDescriptor d = some ty) (hn : narrow ty v = v) (hf : fits ty v = true) (hq : pc + 3 = q)
    (k : ∀ T₂ h₂ lc, lc.base = a → Wk Z own bytes h₂ p l e R s m args below meth c T₂ (locs ++ [lc]) cells slots → Wr h h₂ a (Jvm.RoadKit.slotOf Z O n d) v → Goes p.tables e below K (T₂.setTop (mkF m q Ls (st)))) : Goes p.tables e below K (T.setTop (mkF m pc Ls (v :: .ref a :: st))) := by
  subst hq
  obtain ⟨T₂, h₂, X2, e2, W2, st2⟩ := putF P.1 P.2.1 P.2.2.2.1 P.2.2.2.2.1 (host := "") (Or.inl w) Via.refl P.2.2.2.2.2 F E L wi hty hn hf (g := mkF m pc Ls (v :: .ref a :: st)) rfl rfl (hb P.2.2.1 hd)
  exact Goes.go st2 (k T₂ h₂ ⟨a, Jvm.RoadKit.slotOf Z O n d⟩ rfl ⟨X2, P.2.1, P.2.2.1, P.2.2.2.1, P.2.2.2.2.1, e2⟩ W2)
theorem objinit {i W : Nat} {a : Addr} (P : Wk Z own bytes h p l e R s m args below meth c T locs cells slots) (hd : decode bytes pc = .ok (.invokespecial i, 3)) (w1 : (Cond.methodLink own i Lib.objectInit).before a0 Z = true) (w2 : (Cond.instanceMethod Lib.objectInit).before a0 Z = true) (w3 : (Cond.code Lib.objectInit ⟨#[0xb1]⟩ 1 none).before a0 Z = true) (hz : Ls.size = c.maxLocals) (hf : 1 ≤ R.frames) (hW : 2 * (mkF m pc Ls (.ref a :: st)).monitorRoom + (st.map fun v => v.category).sum ≤ W) (hl : W + 12 ≤ R.locals) (hq : pc + 3 = q) (k : ∀ T₂, Wk Z own bytes h p l e R s m args below meth c T₂ locs cells slots → Goes p.tables e below K (T₂.setTop (mkF m q Ls (st)))) : Goes p.tables e below K (T.setTop (mkF m pc Ls (.ref a :: st))) := by
  subst hq
  obtain ⟨T₂, X2, e2, st2⟩ := initO P.1 P.2.1 P.2.2.2.1 P.2.2.2.2.1 w1 w2 w3 P.2.2.2.2.2 (g := mkF m pc Ls (.ref a :: st)) rfl hz rfl (hb P.2.2.1 hd) hf hW hl
  exact Goes.go st2 (k T₂ ⟨X2, P.2.1, P.2.2.1, P.2.2.2.1, P.2.2.2.2.1, e2⟩)
theorem cloneArr {ad : String} {ty : FieldType} {i W cap : Nat} {a : Addr} {kc : ClassId} {z : Int32} {vs : List Value} {d : Value} (P : Wk Z own bytes h p l e R s m args below meth c T locs cells slots) (hd : decode bytes pc = .ok (.invokevirtual i, 3)) (w1 : (Cond.methodLink own i ⟨ad, "clone", "()Ljava/lang/Object;"⟩).before a0 Z = true) (w2 : (Cond.sameMethod ad "java/lang/Object" "clone" "()Ljava/lang/Object;").before a0 Z = true) (w3 : (Cond.native ⟨"java/lang/Object", "clone", "()Ljava/lang/Object;"⟩).before a0 Z = true) (w4 : (Cond.instanceMethod ⟨"java/lang/Object", "clone", "()Ljava/lang/Object;"⟩).before a0 Z = true) (w5 : (Cond.selects ad ⟨ad, "clone", "()Ljava/lang/Object;"⟩ ⟨"java/lang/Object", "clone", "()Ljava/lang/Object;"⟩).before a0 Z = true) (w6 : (Cond.castable ad "java/lang/Cloneable").before a0 Z = true) (A : Arv Z h a kc ty z vs d) (E : Exa Z h a ad) (hz : Ls.size = c.maxLocals) (hf : 1 ≤ R.frames) (hW : 2 * (mkF m pc Ls (.ref a :: st)).monitorRoom + (st.map fun v => v.category).sum ≤ W) (hl : W + 14 ≤ R.locals) (hcap : z.toNatClampNeg ≤ cap) (hc : cells + 1 ≤ R.cells) (hs : slots + cap ≤ R.slots) (hq : pc + 3 = q)
    (k : ∀ T₂ h₂ r, r = h.size → Wk Z own bytes h₂ p l e R s m args below meth c T₂ locs (cells + 1) (slots + cap) → Ext h h₂ → Arv Z h₂ r kc ty z vs d → Exa Z h₂ r ad → Goes p.tables e below K (T₂.setTop (mkF m q Ls (.ref r :: st)))) : Goes p.tables e below K (T.setTop (mkF m pc Ls (.ref a :: st))) := by
  subst hq
  obtain ⟨T₂, h₂, X2, e2, E2, A2, B2, st2⟩ := cloneH P.1 P.2.1 P.2.2.2.1 P.2.2.2.2.1 w1 w2 w3 w4 w5 w6 P.2.2.2.2.2 (hs := []) A E (g := mkF m pc Ls (.ref a :: st)) rfl hz rfl (hb P.2.2.1 hd) hf hW hl hcap hc hs
  exact Goes.go st2 (k T₂ h₂ h.size rfl ⟨X2, P.2.1, P.2.2.1, P.2.2.2.1, P.2.2.2.2.1, e2⟩ E2 A2 B2)
theorem invStatic {y : MethodName} {cb : ByteArray} {mL : Nat} {ret : Option FieldType} {i W kc ks : Nat} {as' : Array Value} {Q : Option Value → Heap → List Loc → Prop} {argsL rest : List Value} (P : Wk Z own bytes h p l e R s m args below meth c T locs cells slots) (hd : decode bytes pc = .ok (.invokestatic i, 3)) (w1 : (Cond.methodLink own i y).before a0 Z = true) (w2 : (Cond.static y).before a0 Z = true) (w3 : (Cond.initialized y.cls).before a0 Z = true) (w4 : (Cond.code y cb mL ret).before a0 Z = true) (hy : y.cls ≠ "java/lang/invoke/MethodHandle" ∧ y.cls ≠ "java/lang/invoke/VarHandle") (B : Back l R p e below s args y 3 W (fun A a => a = as' ∧ A.U.heap = h ∧ A.cells + kc ≤ R.cells ∧ A.slots + ks ≤ R.slots) (fun A _ v B => ∃ L, Q v B.U.heap L ∧ B.locs = A.locs ++ L ∧ B.cells = A.cells + kc ∧ B.slots = A.slots + ks)) (ha : argsL.toArray = as') (hst : st = argsL.reverse ++ rest) (hz : Ls.size = c.maxLocals) (hlen : ∀ sig, parseMethodDescriptor y.desc = some sig → argsL.length = sig.parameters.length) (hW : 2 * (mkF m pc Ls st).monitorRoom + (rest.map fun v => v.category).sum ≤ W) (hcc : cells + kc ≤ R.cells) (hss : slots + ks ≤ R.slots) (hq : pc + 3 = q) (k : ∀ v T₂ h₂ L, Q v h₂ L → Wk Z own bytes h₂ p l e R s m args below meth c T₂ (locs ++ L) (cells + kc) (slots + ks) → Goes p.tables e below K (T₂.setTop (mkF m q Ls (v.toList ++ rest)))) : Goes p.tables e below K (T.setTop (mkF m pc Ls (st))) := by
  subst hq
  obtain ⟨v, _, ⟨T₂, L₂, c₂, n₂⟩, -, X2, ⟨L, hQ, hl, hc2, hs2⟩, st2⟩ := Jvm.LawKit.callS P.1 P.2.1 (y := y) P.2.2.2.2.1 (mvT P.2.2.2.1 w1) (mvT P.2.2.2.1 w2) (mvT P.2.2.2.1 w3) (mvT P.2.2.2.1 w4) hy B (g := mkF m pc Ls st) rfl hz (argsL := argsL) (rest := rest) hlen hst hW (hb P.2.2.1 hd) (fun _ _ => ⟨ha, P.2.2.2.2.2, hcc, hss⟩)
  dsimp only [Pt.U, Pt.locs, Pt.cells, Pt.slots] at X2 hl hc2 hs2 st2 hQ
  subst hl hc2 hs2
  exact Goes.go st2 (k v T₂ _ L hQ ⟨X2, P.2.1, P.2.2.1, P.2.2.2.1, P.2.2.2.2.1, rfl⟩)
theorem invSpecial {y : MethodName} {cb : ByteArray} {mL : Nat} {i W kc ks : Nat} {as' : Array Value} {Q : Option Value → Heap → List Loc → Prop} {a : Addr} {argsL rest : List Value} (P : Wk Z own bytes h p l e R s m args below meth c T locs cells slots) (hd : decode bytes pc = .ok (.invokespecial i, 3)) (hin : y.name = "<init>") (w1 : (Cond.methodLink own i y).before a0 Z = true) (w2 : (Cond.instanceMethod y).before a0 Z = true) (w4 : (Cond.code y cb mL none).before a0 Z = true) (hy : y.cls ≠ "java/lang/invoke/MethodHandle" ∧ y.cls ≠ "java/lang/invoke/VarHandle") (B : Back l R p e below s args y 3 W (fun A a => a = as' ∧ A.U.heap = h ∧ A.cells + kc ≤ R.cells ∧ A.slots + ks ≤ R.slots) (fun A _ v B => ∃ L, Q v B.U.heap L ∧ B.locs = A.locs ++ L ∧ B.cells = A.cells + kc ∧ B.slots = A.slots + ks)) (ha : (.ref a :: argsL).toArray = as') (hst : st = argsL.reverse ++ .ref a :: rest) (hz : Ls.size = c.maxLocals) (hlen : ∀ sig, parseMethodDescriptor y.desc = some sig → argsL.length = sig.parameters.length) (hW : 2 * (mkF m pc Ls st).monitorRoom + (rest.map fun v => v.category).sum ≤ W) (hcc : cells + kc ≤ R.cells) (hss : slots + ks ≤ R.slots) (hq : pc + 3 = q) (k : ∀ v T₂ h₂ L, Q v h₂ L → Wk Z own bytes h₂ p l e R s m args below meth c T₂ (locs ++ L) (cells + kc) (slots + ks) → Goes p.tables e below K (T₂.setTop (mkF m q Ls (v.toList ++ rest)))) : Goes p.tables e below K (T.setTop (mkF m pc Ls (st))) := by
  subst hq
  obtain ⟨v, _, ⟨T₂, L₂, c₂, n₂⟩, -, X2, ⟨L, hQ, hl, hc2, hs2⟩, st2⟩ := P.1.specialBack P.2.1 (y := y) hin P.2.2.2.2.1 (mvT P.2.2.2.1 w1) (mvT P.2.2.2.1 w2) (mvT P.2.2.2.1 w4) hy B (g := mkF m pc Ls st) rfl hz (Steps.refl _) (a := a) (argsL := argsL) (rest := rest) hlen hst hW (hb P.2.2.1 hd) (fun _ _ => ⟨ha, P.2.2.2.2.2, hcc, hss⟩)
  dsimp only [Pt.U, Pt.locs, Pt.cells, Pt.slots] at X2 hl hc2 hs2 st2 hQ
  subst hl hc2 hs2
  exact Goes.tr st2 (k v T₂ _ L hQ ⟨X2, P.2.1, P.2.2.1, P.2.2.2.1, P.2.2.2.2.1, rfl⟩)
theorem invVirtual {y z : MethodName} {C : String} {i W kc ks : Nat} {as' : Array Value} {Q : Option Value → Heap → List Loc → Prop} {a : Addr} {argsL rest : List Value} (P : Wk Z own bytes h p l e R s m args below meth c T locs cells slots) (hd : decode bytes pc = .ok (.invokevirtual i, 3)) (w1 : (Cond.methodLink own i y).before a0 Z = true) (w2 : (Cond.declares y).before a0 Z = true) (w3 : (Cond.selects C y z).before a0 Z = true) (w4 : (Cond.instanceMethod z).before a0 Z = true) (nf : NotFace s y) (hy : y.cls ≠ "java/lang/invoke/MethodHandle" ∧ y.cls ≠ "java/lang/invoke/VarHandle") (B : Back l R p e below s args z 3 W (fun A a => a = as' ∧ A.U.heap = h ∧ A.cells + kc ≤ R.cells ∧ A.slots + ks ≤ R.slots) (fun A _ v B => ∃ L, Q v B.U.heap L ∧ B.locs = A.locs ++ L ∧ B.cells = A.cells + kc ∧ B.slots = A.slots + ks)) (E : Exa Z h a C) (ha : (.ref a :: argsL).toArray = as') (hst : st = argsL.reverse ++ .ref a :: rest) (hz : Ls.size = c.maxLocals) (hlen : ∀ sig, parseMethodDescriptor y.desc = some sig → argsL.length = sig.parameters.length) (hW : 2 * (mkF m pc Ls st).monitorRoom + (rest.map fun v => v.category).sum ≤ W) (hcc : cells + kc ≤ R.cells) (hss : slots + ks ≤ R.slots) (hq : pc + 3 = q) (k : ∀ v T₂ h₂ L, Q v h₂ L → Wk Z own bytes h₂ p l e R s m args below meth c T₂ (locs ++ L) (cells + kc) (slots + ks) → Goes p.tables e below K (T₂.setTop (mkF m q Ls (v.toList ++ rest)))) : Goes p.tables e below K (T.setTop (mkF m pc Ls (st))) := by
  subst hq
  obtain ⟨cB, kB, r1, -, r3⟩ := isOf P.2.2.2.1 P.2.2.2.2.2 E
  obtain ⟨v, _, ⟨T₂, L₂, c₂, n₂⟩, -, X2, ⟨L, hQ, hl, hc2, hs2⟩, st2⟩ := P.1.virtualBack P.2.1 (y := y) (z := z) P.2.2.2.2.1 (mvT P.2.2.2.1 w1) (mvT P.2.2.2.1 w2) nf (mvT P.2.2.2.1 w3) (mvT P.2.2.2.1 w4) hy B r1 r3 (g := mkF m pc Ls st) rfl hz (Steps.refl _) (argsL := argsL) (rest := rest) hlen hst hW (hb P.2.2.1 hd) (fun _ _ => ⟨ha, P.2.2.2.2.2, hcc, hss⟩)
  dsimp only [Pt.U, Pt.locs, Pt.cells, Pt.slots] at X2 hl hc2 hs2 st2 hQ
  subst hl hc2 hs2
  exact Goes.tr st2 (k v T₂ _ L hQ ⟨X2, P.2.1, P.2.2.1, P.2.2.2.1, P.2.2.2.2.1, rfl⟩)
theorem retV {kc ks : Nat} {Q : Option Value → Heap → List Loc → Prop}  (P : Wk Z own bytes h p l e R s m args below meth c T locs cells slots) (hd : decode bytes pc = .ok (.return_, 1)) (hret : meth.sig.returnType = none) (hlk : meth.locks = false) (hc : cells ≤ kc) (hs : slots ≤ ks) (hQ : Q none h locs) : Goes p.tables e below (fun s₂ o => ∃ v L, o = .returned v ∧ Q v s₂.heap L ∧ FrameEnd s o s₂ L kc ks) (T.setTop (mkF m pc Ls ([]))) := by
  obtain ⟨fs, hr, hrun, hended, hW, hsame⟩ := P.1.leave (v := none) (fun h => by first | rfl | (rw [hret] at h; cases h)) hlk
  exact ⟨_, _, P.1.returnOut P.2.1 hret (hb P.2.2.1 hd) hr, hrun, hended, _, _, rfl, by show Q _ T.heap _; rw [P.2.2.2.2.2]; exact hQ, ⟨_, rfl⟩, hW, hsame.mono hc hs⟩
theorem retZ {kc ks : Nat} {Q : Option Value → Heap → List Loc → Prop} {t : FieldType} {z : Int32} (P : Wk Z own bytes h p l e R s m args below meth c T locs cells slots) (hd : decode bytes pc = .ok (.ireturn, 1)) (hret : meth.sig.returnType = some t) (ht : t = .boolean ∨ t = .byte ∨ t = .char ∨ t = .short) (hlk : meth.locks = false) (hc : cells ≤ kc) (hs : slots ≤ ks) (hQ : Q (some (.int (nar t z))) h locs) : Goes p.tables e below (fun s₂ o => ∃ v L, o = .returned v ∧ Q v s₂.heap L ∧ FrameEnd s o s₂ L kc ks) (T.setTop (mkF m pc Ls (.int z :: st))) := by
  obtain ⟨fs, hr, hrun, hended, hW, hsame⟩ := P.1.leave (v := (some (.int (nar t z)))) (fun h => by first | rfl | (rw [hret] at h; cases h)) hlk
  exact ⟨_, _, retN P.1 P.2.1 hret ht (hb P.2.2.1 hd) hr, hrun, hended, _, _, rfl, by show Q _ T.heap _; rw [P.2.2.2.2.2]; exact hQ, ⟨_, rfl⟩, hW, hsame.mono hc hs⟩
theorem retI {kc ks : Nat} {Q : Option Value → Heap → List Loc → Prop} {z : Int32} (P : Wk Z own bytes h p l e R s m args below meth c T locs cells slots) (hd : decode bytes pc = .ok (.ireturn, 1)) (hret : meth.sig.returnType = some .int) (hlk : meth.locks = false) (hc : cells ≤ kc) (hs : slots ≤ ks) (hQ : Q (some (.int z)) h locs) : Goes p.tables e below (fun s₂ o => ∃ v L, o = .returned v ∧ Q v s₂.heap L ∧ FrameEnd s o s₂ L kc ks) (T.setTop (mkF m pc Ls (.int z :: st))) := by
  obtain ⟨fs, hr, hrun, hended, hW, hsame⟩ := P.1.leave (v := (some (.int z))) (fun h => by first | rfl | (rw [hret] at h; cases h)) hlk
  exact ⟨_, _, retOut P.1 P.2.1 hret rfl (Or.inl ⟨rfl, Or.inl rfl, _, rfl⟩) (hb P.2.2.1 hd) hr, hrun, hended, _, _, rfl, by show Q _ T.heap _; rw [P.2.2.2.2.2]; exact hQ, ⟨_, rfl⟩, hW, hsame.mono hc hs⟩
theorem retA {kc ks : Nat} {Q : Option Value → Heap → List Loc → Prop} {t : FieldType} {v : Value} (P : Wk Z own bytes h p l e R s m args below meth c T locs cells slots) (hd : decode bytes pc = .ok (.areturn, 1)) (hret : meth.sig.returnType = some t) (ht : t.isReference = true) (hv : v.isRef = true) (hn : narrow t v = v) (hlk : meth.locks = false) (hc : cells ≤ kc) (hs : slots ≤ ks) (hQ : Q (some v) h locs) : Goes p.tables e below (fun s₂ o => ∃ v L, o = .returned v ∧ Q v s₂.heap L ∧ FrameEnd s o s₂ L kc ks) (T.setTop (mkF m pc Ls (v :: st))) := by
  obtain ⟨fs, hr, hrun, hended, hW, hsame⟩ := P.1.leave (v := (some v)) (fun h => by first | rfl | (rw [hret] at h; cases h)) hlk
  exact ⟨_, _, retOut P.1 P.2.1 hret hn (Or.inr (Or.inr (Or.inr (Or.inr ⟨rfl, ht, hv⟩)))) (hb P.2.2.1 hd) hr, hrun, hended, _, _, rfl, by show Q _ T.heap _; rw [P.2.2.2.2.2]; exact hQ, ⟨_, rfl⟩, hW, hsame.mono hc hs⟩
theorem Wk.up {c2 s2 : Nat} (P : Wk Z own bytes h p l e R s m args below meth c T locs cells slots) (hc : cells ≤ c2) (hs : slots ≤ s2) : Wk Z own bytes h p l e R s m args below meth c T locs c2 s2 := ⟨P.1.mono hc hs, P.2⟩
end Steps
theorem ltb {i n : Nat} (h : Nat.ble (i + 1) n = true) : i < n := Nat.le_of_ble_eq_true h
theorem leb {i n : Nat} (h : Nat.ble i n = true) : i ≤ n := Nat.le_of_ble_eq_true h
theorem Ext.rf (h : Heap) : Ext h h := ⟨Nat.le_refl _, fun _ _ q => q⟩
theorem Ext.tr {h h' h2 : Heap} (A : Ext h h') (B : Ext h' h2) : Ext h h2 := ⟨Nat.le_trans A.1 B.1, fun a c q => B.2 a c (A.2 a c q)⟩
theorem Ext.wr {h h' h2 : Heap} {a : Addr} {sl : Nat} {v : Value} (A : Ext h h') (W : Wr h' h2 a sl v) (q : h.size ≤ a) : Ext h h2 := ⟨by rw [W.size]; exact A.1, fun b c hb => by
  have hb2 := A.2 b c hb
  obtain ⟨c2, g1, -, -, -, g5, -⟩ := wr_at W hb2
  have hne : b ≠ a := fun e => by subst e; exact absurd (Array.getElem?_eq_some_iff.mp hb).1 (Nat.not_lt.mpr q)
  rw [g1, g5 hne]⟩
theorem Ext.kp {h h' h2 : Heap} {ws : List Addr} (A : Ext h h') (K : Keep h' h2 ws) (q : ∀ x ∈ ws, h.size ≤ x) : Ext h h2 := ⟨Nat.le_trans A.1 K.1, fun b c hb => K.2.1 b c (A.2 b c hb) fun hm => absurd (Array.getElem?_eq_some_iff.mp hb).1 (Nat.not_lt.mpr (q b hm))⟩
theorem Fr.one {k : Nat} {L : List Loc} {lc : Loc} {a : Addr} (N : Fr k L) (e : lc.base = a) (q : k ≤ a) : Fr k (L ++ [lc]) := N.app fun y hy => by cases List.mem_singleton.mp hy; rw [e]; exact q
end Own
end Jvm.Pilot.@@N@@
namespace Jvm.Pilot.@@N@@
namespace Own
open Jvm Jvm.ClassFile Sem Op Lib Jvm.Free Jvm.Stand Jvm.LawKit Jvm.RoadKit Bundle
theorem lo_rng (x : Int32) : ¬ (x &&& 255) < 0 ∧ ¬ (255 : Int32) < (x &&& 255) := by
  have h := c_mask x 255 8 (by decide) (by decide)
  have h0 : (0 : Int32).toInt = 0 := rfl
  have h5 : (255 : Int32).toInt = 255 := rfl
  constructor
  · rw [Int32.lt_iff_toInt_lt, h0, h]; omega
  · rw [Int32.lt_iff_toInt_lt, h5, h]; omega
theorem i2c_id16 {x : Int32} (h : ¬ x < 0 ∧ ¬ (65535 : Int32) < x) : x.toUInt32.toUInt16.toUInt32.toInt32 = x := by
  obtain ⟨g1, g2, g3⟩ := c_i2c x
  have h0 : (0 : Int32).toInt = 0 := rfl
  have h5 : (65535 : Int32).toInt = 65535 := rfl
  obtain ⟨a, b⟩ := h
  rw [Int32.lt_iff_toInt_lt, h0] at a
  rw [Int32.lt_iff_toInt_lt, h5] at b
  exact Int32.toInt_inj.mp (by omega)
theorem up16 {x : Int32} (h : ¬ x < 0 ∧ ¬ (255 : Int32) < x) : ¬ x < 0 ∧ ¬ (65535 : Int32) < x := by
  refine ⟨h.1, fun q => h.2 ?_⟩
  have h5 : (65535 : Int32).toInt = 65535 := rfl
  have h2 : (255 : Int32).toInt = 255 := rfl
  rw [Int32.lt_iff_toInt_lt] at q ⊢
  omega
theorem i2c_id {x : Int32} (h : ¬ x < 0 ∧ ¬ (255 : Int32) < x) : x.toUInt32.toUInt16.toUInt32.toInt32 = x := i2c_id16 (up16 h)
theorem nar_id {x : Int32} (h : ¬ x < 0 ∧ ¬ (255 : Int32) < x) : nar .char x = x := i2c_id h
theorem nar_id16 {x : Int32} (h : ¬ x < 0 ∧ ¬ (65535 : Int32) < x) : nar .char x = x := i2c_id16 h
theorem fits_ch {x : Int32} (h : ¬ x < 0 ∧ ¬ (255 : Int32) < x) : fits .char (.int x) = true := by
  have q := fits_nar_char x
  rwa [nar_id h] at q
theorem nar_b (x : Int32) : nar .byte x.toInt8.toInt32 = x.toInt8.toInt32 := by simp [nar]
theorem fits_b (x : Int32) : fits .byte (.int x.toInt8.toInt32) = true := fits_nar_byte x
theorem ch0 {P : Int32 → Prop} : ∀ c ∈ ([] : List Int32), P c := fun _ q => nomatch q
theorem chS {P : Int32 → Prop} {a : Int32} {cs : List Int32} (h : P a) (r : ∀ c ∈ cs, P c) : ∀ c ∈ a :: cs, P c := fun c q => (List.mem_cons.mp q).elim (fun u => u ▸ h) (r c)
/-- the object at a is a compact String of the chars cs, each 0 to 255 -/
def Str (Z : State) (h : Heap) (a : Addr) (cs : List Int32) : Prop :=
  (∃ t kb, Exa Z h a "java/lang/String" ∧ Fld Z h a "java/lang/String" "value" "[B" (.ref t) ∧ Fld Z h a "java/lang/String" "coder" "B" (.int 0) ∧ Arv Z h t kb .byte (Int32.ofNat cs.length) ((cs.map fun c => c.toInt8.toInt32).map Value.int) (.int 0)) ∧ (∀ c ∈ cs, ¬ c < 0 ∧ ¬ (255 : Int32) < c) ∧ cs.length ≤ 4000
theorem Str.ext {Z : State} {h h' : Heap} {a : Addr} {cs : List Int32} (S : Str Z h a cs) (E : Ext h h') : Str Z h' a cs := by
  obtain ⟨⟨t, kb, s1, s2, s3, s4⟩, r⟩ := S
  exact ⟨⟨t, kb, s1.ext E, s2.ext E, s3.ext E, s4.ext E⟩, r⟩
theorem Str.exa {Z : State} {h : Heap} {a : Addr} {cs : List Int32} (S : Str Z h a cs) : Exa Z h a "java/lang/String" := by obtain ⟨⟨t, kb, s1, -⟩, -⟩ := S; exact s1
theorem Str.kp1 {Z : State} {h h' : Heap} {a x : Addr} {cs : List Int32} {C : String} {a0 : Array Value} {n : Nat} (S : Str Z h a cs) (K : Keep h h' [x]) (E : Exa Z h x C) (hC : C ≠ "java/lang/String") (wi : (Jvm.Cond.instantiable C n).before a0 Z = true) : Str Z h' a cs := by
  obtain ⟨⟨t, kb, s1, s2, s3, s4⟩, r⟩ := S
  have n1 : a ≠ x := fun e => Exa.ne E s1 hC e.symm
  have n2 : t ≠ x := fun e => Exa.neArv E s4 wi e.symm
  exact ⟨⟨t, kb, s1.keep K, s2.keep K (ninS n1 nin0), s3.keep K (ninS n1 nin0), s4.keep K (ninS n2 nin0)⟩, r⟩
theorem Sta_kp1 {Z : State} {h h' : Heap} {x : Addr} {C D n d : String} {v : Value} (S : Sta Z h D n d v) (K : Keep h h' [x]) (E : Exa Z h x C) : Sta Z h' D n d v := by
  obtain ⟨cf, i, k, f, st, cell, t1, t2, t3, t4, t5, t6, t7⟩ := S
  obtain ⟨cx, kx, e1, -, -, e4, -⟩ := E
  have ne : st ≠ x := fun q => by
    subst q
    cases t5.symm.trans e1
    rw [e4] at t6
    cases t6
  exact ⟨cf, i, k, f, st, cell, t1, t2, t3, t4, K.2.1 _ _ t5 (ninS ne nin0), t6, t7⟩
theorem byte_inj {x y : Int32} (hx : ¬ x < 0 ∧ ¬ (255 : Int32) < x) (hy : ¬ y < 0 ∧ ¬ (255 : Int32) < y) (h : x.toInt8.toInt32 = y.toInt8.toInt32) : x = y := by
  obtain ⟨a1, -, -⟩ := c_i2b x
  obtain ⟨b1, -, -⟩ := c_i2b y
  have h0 : (0 : Int32).toInt = 0 := rfl
  have h5 : (255 : Int32).toInt = 255 := rfl
  have e : x.toInt8.toInt32.toInt = y.toInt8.toInt32.toInt := by rw [h]
  obtain ⟨u1, u2⟩ := hx
  obtain ⟨v1, v2⟩ := hy
  rw [Int32.lt_iff_toInt_lt] at u1 u2 v1 v2
  exact Int32.toInt_inj.mp (by omega)
theorem bytes_inj : ∀ {cs ds : List Int32}, (∀ c ∈ cs, ¬ c < 0 ∧ ¬ (255 : Int32) < c) → (∀ c ∈ ds, ¬ c < 0 ∧ ¬ (255 : Int32) < c) → (cs.map fun c => c.toInt8.toInt32) = (ds.map fun c => c.toInt8.toInt32) → cs = ds
  | [], [], _, _, _ => rfl
  | [], _ :: _, _, _, h => by simp at h
  | _ :: _, [], _, _, h => by simp at h
  | c :: cs, d :: ds, hc, hd, h => by
    simp only [List.map_cons, List.cons.injEq] at h
    rw [byte_inj (hc c (by simp)) (hd d (by simp)) h.1, bytes_inj (fun x hx => hc x (by simp [hx])) (fun x hx => hd x (by simp [hx])) h.2]
theorem ofNat_inj {n k : Nat} (hn : n ≤ 4000) (hk : k ≤ 4000) (h : Int32.ofNat n = Int32.ofNat k) : n = k := by
  have a : (Int32.ofNat n).toInt = n := Int32.toInt_ofNat_of_lt (by omega)
  have b : (Int32.ofNat k).toInt = k := Int32.toInt_ofNat_of_lt (by omega)
  rw [h, b] at a
  omega
theorem Str.inj {Z : State} {h : Heap} {a : Addr} {cs ds : List Int32} (S : Str Z h a cs) (T : Str Z h a ds) : cs = ds := by
  obtain ⟨⟨t, kb, -, s2, -, c1, A1, -, z1, -, H1, -⟩, p1, l1⟩ := S
  obtain ⟨⟨u, ku, -, t2, -, c2, A2, -, z2, -, H2, -⟩, p2, l2⟩ := T
  have e : (Value.ref t) = .ref u := Classical.byContradiction fun q => Fld.ne s2 t2 q rfl
  cases e
  cases A1.1.symm.trans A2.1
  have m1 : (Int32.ofNat cs.length).toNatClampNeg = cs.length := by simp only [Int32.toNatClampNeg, Int32.toInt_ofNat_of_lt (show cs.length < 2 ^ 31 by omega)]; rfl
  have m2 : (Int32.ofNat ds.length).toNatClampNeg = ds.length := by simp only [Int32.toNatClampNeg, Int32.toInt_ofNat_of_lt (show ds.length < 2 ^ 31 by omega)]; rfl
  have n1 : cs.length = ds.length := by omega
  refine bytes_inj p1 p2 (List.ext_getElem (by simp [n1]) fun i g1 g2 => ?_)
  have q1 := H1 i (by simp at g1; omega)
  have q2 := H2 i (by simp at g1; omega)
  rw [q1] at q2
  have q3 := Option.some.inj q2
  simp only [List.getD_eq_getElem?_getD] at q3
  simp at g1
  simp [g1, n1 ▸ g1] at q3
  simpa using q3
theorem Str.up {Z : State} {h : Heap} {a : Addr} {cs : List Int32} (S : Str Z h a cs) : ∀ c ∈ cs, ¬ c < 0 ∧ ¬ (65535 : Int32) < c := fun c hc => up16 (S.2.1 c hc)
end Own
end Jvm.Pilot.@@N@@
/- laws to paste: Road.backV, Road.lenW, Road.chN, Road.eqW (cut by pick.py; bodies as the Statement names them) -/
namespace Jvm.Pilot.@@N@@
namespace StrChars
open Jvm Sem ClassFile Op Lib Jvm.Stand Jvm.Free.XT Jvm.Free.ALB Jvm.Free.JM Jvm.Free
open Jvm.Lib.Cold (StaticIs)
/-- a char array whose places are chars -/
def Ch (a : Addr) (A : Cell) (U : State) : Prop := Arr .char a A U ∧ Typed .char A
theorem Ch.mv {a : Addr} {A : Cell} {U U' : State} (h : Ch a A U) (hal : U.vm.Alike U'.vm) (hh : U'.heap = U.heap) : Ch a A U' := ⟨h.1.mv hal hh, h.2⟩
theorem Ch.keep {a : Addr} {A : Cell} {U U' : State} (h : Ch a A U) (hal : U.vm.Alike U'.vm) (hk : U'.heap[a]? = some A) : Ch a A U' := ⟨h.1.keep hal hk, h.2⟩
/-- what place i of a char[]'s cell holds -/
def cv (A : Cell) (i : Nat) : Int32 := match A.slots[i]? with | some (.int x) => x | _ => 0
theorem Ch.get {a : Addr} {A : Cell} {U : State} (h : Ch a A U) {i : Nat} (hi : i < A.slots.size) : A.slots[i]? = some (.int (cv A i)) := by
  have e := Array.getElem?_eq_getElem hi
  have f := h.2 i _ e
  unfold cv; rw [e]
  generalize A.slots[i] = v at f
  cases v <;> simp [fits] at f ⊢
/-- the byte that i2b leaves of a char -/
def lo8 (x : Int32) : Int32 := x.toInt8.toInt32
theorem fits_lo8 (y : Int32) : fits .byte (.int (lo8 y)) = true := by
  have h1 := y.toInt8.le_toInt
  have h2 := y.toInt8.toInt_lt
  simp only [lo8, fits, Bool.and_eq_true, decide_eq_true_eq, Int32.le_iff_toInt_le, Int8.toInt_toInt32, show (-128 : Int32).toInt = -128 from by decide, show (127 : Int32).toInt = 127 from by decide]
  omega
/-- A' is A but that each place j of lo .. hi - 1 holds f j -/
def Laid (A A' : Cell) (lo hi : Nat) (f : Nat → Value) : Prop := A'.cls = A.cls ∧ A'.vm = A.vm ∧ A'.slots.size = A.slots.size ∧ ∀ i, A'.slots[i]? = if lo ≤ i ∧ i < hi then some (f i) else A.slots[i]?
theorem Laid.zero (A : Cell) (lo : Nat) (f : Nat → Value) : Laid A A lo (lo + 0) f := ⟨rfl, rfl, rfl, fun i => by rw [if_neg (by omega)]⟩
theorem Laid.step {A Ak : Cell} {lo k : Nat} {f : Nat → Value} {v : Value} (h : Laid A Ak lo k f) (hlo : lo ≤ k) (hk : k < Ak.slots.size) (hv : v = f k) : Laid A (Ak.setSlot k v) lo (k + 1) f := by
  refine ⟨h.1, h.2.1, by simpa [Cell.setSlot] using h.2.2.1, fun i => ?_⟩
  by_cases e : k = i
  · subst e; rw [Cell.slots_setSlot_self v hk, if_pos (by omega), hv]
  · rw [Cell.slots_setSlot_ne v e, h.2.2.2 i]
    by_cases q : lo ≤ i ∧ i < k
    · rw [if_pos q, if_pos (by omega)]
    · rw [if_neg q, if_neg (by omega)]
def U16 : String := "java/lang/StringUTF16"
namespace Cmp5
def yN : MethodName := ⟨"java/lang/StringUTF16", "compress", "([CI[BII)I"⟩
abbrev yB : ByteArray := jdk_52_method_21_code
theorem d0 : decode yB 0 = .ok (.iconst 0, 1) := by decide +kernel
theorem d1 : decode yB 1 = .ok (.istore 5, 2) := by decide +kernel
theorem d3 : decode yB 3 = .ok (.iload 5, 2) := by decide +kernel
theorem d5 : decode yB 5 = .ok (.iload 4, 2) := by decide +kernel
theorem d7 : decode yB 7 = .ok (.if_icmp (.ge) 37, 3) := by decide +kernel
theorem d10 : decode yB 10 = .ok (.aload_n 0, 1) := by decide +kernel
theorem d11 : decode yB 11 = .ok (.iload_n 1, 1) := by decide +kernel
theorem d12 : decode yB 12 = .ok (.caload, 1) := by decide +kernel
theorem d13 : decode yB 13 = .ok (.istore 6, 2) := by decide +kernel
theorem d15 : decode yB 15 = .ok (.iload 6, 2) := by decide +kernel
theorem d17 : decode yB 17 = .ok (.sipush 255, 3) := by decide +kernel
theorem d20 : decode yB 20 = .ok (.if_icmp (.le) 6, 3) := by decide +kernel
theorem d26 : decode yB 26 = .ok (.aload_n 2, 1) := by decide +kernel
theorem d27 : decode yB 27 = .ok (.iload_n 3, 1) := by decide +kernel
theorem d28 : decode yB 28 = .ok (.iload 6, 2) := by decide +kernel
theorem d30 : decode yB 30 = .ok (.i2b, 1) := by decide +kernel
theorem d31 : decode yB 31 = .ok (.bastore, 1) := by decide +kernel
theorem d32 : decode yB 32 = .ok (.iinc 1 1, 3) := by decide +kernel
theorem d35 : decode yB 35 = .ok (.iinc 3 1, 3) := by decide +kernel
theorem d38 : decode yB 38 = .ok (.iinc 5 1, 3) := by decide +kernel
theorem d41 : decode yB 41 = .ok (.goto (-38), 3) := by decide +kernel
theorem d44 : decode yB 44 = .ok (.iload 4, 2) := by decide +kernel
theorem d46 : decode yB 46 = .ok (.ireturn, 1) := by decide +kernel
def site : List Cond := []
def tab : Cond := tabOf yN yB 7 (some .int) site
def P (b : Addr) (A : Cell) (d : Addr) (B : Cell) (o q len : Nat) (args : Array Value) (s : State) : Prop := args = #[.ref b, .int (Int32.ofNat o), .ref d, .int (Int32.ofNat q), .int (Int32.ofNat len)] ∧ Ch b A s ∧ Arr .byte d B s ∧ b ≠ d ∧ o + len ≤ A.slots.size ∧ q + len ≤ B.slots.size ∧ ∀ i, i < len → ¬ 255 < cv A (o + i)
def E (b : Addr) (A : Cell) (d : Addr) (B : Cell) (o q len : Nat) (r : Option Value) (s u : State) : Prop := r = some (.int (Int32.ofNat len)) ∧ ∃ B', Put d B' s u ∧ Laid B B' q (q + len) (fun j => Value.int (lo8 (cv A (o + (j - q)))))
/-- no char of the range above 255: len; the places written hold each char's low byte -/
theorem law (l : Launch) (b : Addr) (A : Cell) (d : Addr) (B : Cell) (o q len : Nat) : Law l yN 5 5 0 0 yB 7 (some .int) site (P b A d B o q len) (E b A d B o q len) (copyLocs d q len) 0 0 := by
  refine Law.of_walk (plainFor_of_name (by decide +kernel)) (by decide +kernel) (by decide +kernel) (by decide) (fun _ _ h => by rw [h.1]; rfl) (fun _ U U' hal hh h => ⟨h.1, h.2.1.mv hal hh, h.2.2.1.mv hal hh, h.2.2.2⟩) (fun r U U' V V' h1 hal h2 h => ⟨h.1, h.2.elim fun B' q => ⟨B', q.1.mv h1 h2, q.2⟩⟩) ?_
  intro p e s m args below meth c s₁ X0 hexec hbytes hml hret hlk hnm hown hh0 W hP
  obtain ⟨rfl, hA, hB, hne, l1, l2, hp⟩ := hP
  have c1 : Steps p.tables e below (s₁.setTop (entryFrame m #[.ref b, .int (Int32.ofNat o), .ref d, .int (Int32.ofNat q), .int (Int32.ofNat len)] 7)) (s₁.setTop (mkF m 0 #[.val (.ref b), .val (.int (Int32.ofNat o)), .val (.ref d), .val (.int (Int32.ofNat q)), .val (.int (Int32.ofNat len)), .unset, .unset] [])) := entry rfl
  have hA0 := hA.1.mv X0.warmed.alike hh0
  have hB0 := hB.mv X0.warmed.alike hh0
  have a31 := hA.1.2.2.2
  have c2 : Steps p.tables e below (s₁.setTop (entryFrame m #[.ref b, .int (Int32.ofNat o), .ref d, .int (Int32.ofNat q), .int (Int32.ofNat len)] 7)) (s₁.setTop (mkF m 3 #[.val (.ref b), .val (.int (Int32.ofNat o)), .val (.ref d), .val (.int (Int32.ofNat q)), .val (.int (Int32.ofNat len)), .val (.int 0), .unset] [])) := c1.trans (by
    refine iconstV X0.here hexec rfl 0 (hb hbytes d0) (by decide) ?_
    refine XS.istore X0.here hexec rfl (hb hbytes d1) rfl rfl ?_
    exact Steps.refl _)
  have loop : ∀ (r i : Nat), i + r = len → ∀ (z : Slot), (z = .unset ∨ ∃ w, z = .val w ∧ w.category = 1) → ∀ (Tl : State) (Bk : Cell), Stand p l e { frames := 0, locals := 0, cells := 0, slots := 0 } s m #[.ref b, .int (Int32.ofNat o), .ref d, .int (Int32.ofNat q), .int (Int32.ofNat len)] below meth c Tl ([] ++ copyLocs d q i) 0 0 → Put d Bk s₁ Tl → Laid B Bk q (q + i) (fun j => Value.int (lo8 (cv A (o + (j - q))))) →
      Steps p.tables e below (s₁.setTop (entryFrame m #[.ref b, .int (Int32.ofNat o), .ref d, .int (Int32.ofNat q), .int (Int32.ofNat len)] 7)) (Tl.setTop (mkF m 3 #[.val (.ref b), .val (.int (Int32.ofNat (o + i))), .val (.ref d), .val (.int (Int32.ofNat (q + i))), .val (.int (Int32.ofNat len)), .val (.int (Int32.ofNat i)), z] [])) → ∃ (T' : State) (B' : Cell) (z' : Slot), Stand p l e { frames := 0, locals := 0, cells := 0, slots := 0 } s m #[.ref b, .int (Int32.ofNat o), .ref d, .int (Int32.ofNat q), .int (Int32.ofNat len)] below meth c T' ([] ++ copyLocs d q len) 0 0 ∧ Put d B' s₁ T' ∧ Laid B B' q (q + len) (fun j => Value.int (lo8 (cv A (o + (j - q))))) ∧
      Steps p.tables e below (s₁.setTop (entryFrame m #[.ref b, .int (Int32.ofNat o), .ref d, .int (Int32.ofNat q), .int (Int32.ofNat len)] 7)) (T'.setTop (mkF m 3 #[.val (.ref b), .val (.int (Int32.ofNat (o + len))), .val (.ref d), .val (.int (Int32.ofNat (q + len))), .val (.int (Int32.ofNat len)), .val (.int (Int32.ofNat len)), z'] [])) := by
    intro r
    induction r with
    | zero =>
      intro i hi z hz Tl Bk Xl pl fl cl
      have hil : i = len := by omega
      rw [hil] at Xl fl cl
      exact ⟨Tl, Bk, z, Xl, pl, fl, cl⟩
    | succ r ih =>
      intro i hi z hz Tl Bk Xl pl fl cl
      have all := X0.warmed.alike.symm.trans Xl.warmed.alike
      have hAl := hA0.keep all (pl.other hne hA0.1)
      have hBk := hB0.like all pl.1 fl.1 fl.2.1 fl.2.2.1
      have hlt : q + i < Bk.slots.size := by rw [fl.2.2.1]; omega
      have c3 : Steps p.tables e below (s₁.setTop (entryFrame m #[.ref b, .int (Int32.ofNat o), .ref d, .int (Int32.ofNat q), .int (Int32.ofNat len)] 7)) (Tl.setTop (mkF m 12 #[.val (.ref b), .val (.int (Int32.ofNat (o + i))), .val (.ref d), .val (.int (Int32.ofNat (q + i))), .val (.int (Int32.ofNat len)), .val (.int (Int32.ofNat i)), z] [.int (Int32.ofNat (o + i)), .ref b])) := cl.trans (by
        refine XS.iload Xl.here hexec rfl (hb hbytes d3) rfl ?_
        refine XS.iload Xl.here hexec rfl (hb hbytes d5) rfl ?_
        refine XS.icmpNo Xl.here hexec rfl (hb hbytes d7) rfl (ii_ge_f (lt32 (by omega) (by omega))) ?_
        refine XS.aloadN Xl.here hexec rfl (hb hbytes d10) rfl rfl ?_
        refine XS.iloadN Xl.here hexec rfl (hb hbytes d11) rfl ?_
        exact Steps.refl _)
      have c4 : Steps p.tables e below (s₁.setTop (entryFrame m #[.ref b, .int (Int32.ofNat o), .ref d, .int (Int32.ofNat q), .int (Int32.ofNat len)] 7)) (Tl.setTop (mkF m 13 #[.val (.ref b), .val (.int (Int32.ofNat (o + i))), .val (.ref d), .val (.int (Int32.ofNat (q + i))), .val (.int (Int32.ofNat len)), .val (.int (Int32.ofNat i)), z] [.int (cv A (o + i))])) := c3.trans (by
        refine Xl.aget hexec hAl rfl (hA.get (i := o + i) (by omega)) rfl rfl (hb hbytes d12) ?_
        exact Steps.refl _)
      have c5 : Steps p.tables e below (s₁.setTop (entryFrame m #[.ref b, .int (Int32.ofNat o), .ref d, .int (Int32.ofNat q), .int (Int32.ofNat len)] 7)) (Tl.setTop (mkF m 15 #[.val (.ref b), .val (.int (Int32.ofNat (o + i))), .val (.ref d), .val (.int (Int32.ofNat (q + i))), .val (.int (Int32.ofNat len)), .val (.int (Int32.ofNat i)), .val (.int (cv A (o + i)))] [])) := c4.trans (by
        refine XS.istoreS Xl.here hexec rfl (hb hbytes d13) rfl rfl hz ?_
        exact Steps.refl _)
      have c6 : Steps p.tables e below (s₁.setTop (entryFrame m #[.ref b, .int (Int32.ofNat o), .ref d, .int (Int32.ofNat q), .int (Int32.ofNat len)] 7)) (Tl.setTop (mkF m 31 #[.val (.ref b), .val (.int (Int32.ofNat (o + i))), .val (.ref d), .val (.int (Int32.ofNat (q + i))), .val (.int (Int32.ofNat len)), .val (.int (Int32.ofNat i)), .val (.int (cv A (o + i)))] [.int (lo8 (cv A (o + i))), .int (Int32.ofNat (q + i)), .ref d])) := c5.trans (by
        refine XS.iload Xl.here hexec rfl (hb hbytes d15) rfl ?_
        refine sipushV Xl.here hexec rfl 255 (hb hbytes d17) (by decide) ?_
        refine XS.icmpYes Xl.here hexec rfl (pc0 := 20) rfl (hb hbytes d20) rfl (ii_le_t (hp i (by omega))) (by decide) rfl ?_
        refine XS.aloadN Xl.here hexec rfl (hb hbytes d26) rfl rfl ?_
        refine XS.iloadN Xl.here hexec rfl (hb hbytes d27) rfl ?_
        refine XS.iload Xl.here hexec rfl (hb hbytes d28) rfl ?_
        refine i2b Xl.here hexec rfl (hb hbytes d30) rfl ?_
        exact Steps.refl _)
      obtain ⟨T7, X7, p7, st7⟩ := Xl.aput hexec hBk rfl hlt rfl (fits_lo8 (cv A (o + i))) (g := (mkF m 31 #[.val (.ref b), .val (.int (Int32.ofNat (o + i))), .val (.ref d), .val (.int (Int32.ofNat (q + i))), .val (.int (Int32.ofNat len)), .val (.int (Int32.ofNat i)), .val (.int (cv A (o + i)))] [.int (lo8 (cv A (o + i))), .int (Int32.ofNat (q + i)), .ref d])) rfl (rest := []) rfl (hb hbytes d31)
      have c8 : Steps p.tables e below (s₁.setTop (entryFrame m #[.ref b, .int (Int32.ofNat o), .ref d, .int (Int32.ofNat q), .int (Int32.ofNat len)] 7)) (T7.setTop (mkF m 32 #[.val (.ref b), .val (.int (Int32.ofNat (o + i))), .val (.ref d), .val (.int (Int32.ofNat (q + i))), .val (.int (Int32.ofNat len)), .val (.int (Int32.ofNat i)), .val (.int (cv A (o + i)))] [])) := c6.trans (st7 _ (Steps.refl _))
      have c9 : Steps p.tables e below (s₁.setTop (entryFrame m #[.ref b, .int (Int32.ofNat o), .ref d, .int (Int32.ofNat q), .int (Int32.ofNat len)] 7)) (T7.setTop (mkF m 3 #[.val (.ref b), .val (.int (Int32.ofNat (o + i) + 1)), .val (.ref d), .val (.int (Int32.ofNat (q + i) + 1)), .val (.int (Int32.ofNat len)), .val (.int (Int32.ofNat i + 1)), .val (.int (cv A (o + i)))] [])) := c8.trans (by
        refine iincV X7.here hexec rfl 1 (hb hbytes d32) (by decide) rfl rfl ?_
        refine iincV X7.here hexec rfl 1 (hb hbytes d35) (by decide) rfl rfl ?_
        refine iincV X7.here hexec rfl 1 (hb hbytes d38) (by decide) rfl rfl ?_
        refine XS.goto X7.here hexec rfl (pc0 := 41) rfl (hb hbytes d41) (by decide) rfl ?_
        exact Steps.refl _)
      have c10 : Steps p.tables e below (s₁.setTop (entryFrame m #[.ref b, .int (Int32.ofNat o), .ref d, .int (Int32.ofNat q), .int (Int32.ofNat len)] 7)) (T7.setTop (mkF m 3 #[.val (.ref b), .val (.int (Int32.ofNat (o + (i + 1)))), .val (.ref d), .val (.int (Int32.ofNat (q + (i + 1)))), .val (.int (Int32.ofNat len)), .val (.int (Int32.ofNat (i + 1))), .val (.int (cv A (o + i)))] [])) := by
        have := c9
        rw [succ32, succ32, succ32] at this
        exact this
      exact ih (i + 1) (by omega) _ (Or.inr ⟨_, rfl, rfl⟩) T7 _ (by rw [copyLocs_step, ← List.append_assoc]; exact X7) (pl.trans p7) (fl.step (by omega) hlt (by simp)) c10
  obtain ⟨T9, B9, z9, X9, p9, f9, g9⟩ := loop len 0 (by omega) .unset (Or.inl rfl) s₁ B (by simpa [copyLocs] using X0) ⟨hB0.1, fun _ _ => rfl, rfl⟩ (Laid.zero _ _ _) c2
  have c11 : Steps p.tables e below (s₁.setTop (entryFrame m #[.ref b, .int (Int32.ofNat o), .ref d, .int (Int32.ofNat q), .int (Int32.ofNat len)] 7)) (T9.setTop (mkF m 46 #[.val (.ref b), .val (.int (Int32.ofNat (o + len))), .val (.ref d), .val (.int (Int32.ofNat (q + len))), .val (.int (Int32.ofNat len)), .val (.int (Int32.ofNat len)), z9] [.int (Int32.ofNat len)])) := g9.trans (by
    refine XS.iload X9.here hexec rfl (hb hbytes d3) rfl ?_
    refine XS.iload X9.here hexec rfl (hb hbytes d5) rfl ?_
    refine XS.icmpYes X9.here hexec rfl (pc0 := 7) rfl (hb hbytes d7) rfl (ii_ge_t (nlt32 (by omega) (Nat.le_refl _))) (by decide) rfl ?_
    refine XS.iload X9.here hexec rfl (hb hbytes d44) rfl ?_
    exact Steps.refl _)
  exact ⟨T9, some (.int (Int32.ofNat len)), _, _, _, X9, by simp, rfl, rfl, (fun h => by cases h), ⟨rfl, B9, p9.from hh0, f9⟩, fun fs hl => c11.trans (X9.ireturnOut hexec hret rfl (Or.inl rfl) (hb hbytes d46) hl)⟩
end Cmp5
namespace Cmp3
def yN : MethodName := ⟨"java/lang/StringUTF16", "compress", "([CII)[B"⟩
abbrev yB : ByteArray := jdk_52_method_16_code
theorem d0 : decode yB 0 = .ok (.iload_n 2, 1) := by decide +kernel
theorem d1 : decode yB 1 = .ok (.newarray .byte, 2) := by decide +kernel
theorem d3 : decode yB 3 = .ok (.astore_n 3, 1) := by decide +kernel
theorem d4 : decode yB 4 = .ok (.aload_n 0, 1) := by decide +kernel
theorem d5 : decode yB 5 = .ok (.iload_n 1, 1) := by decide +kernel
theorem d6 : decode yB 6 = .ok (.aload_n 3, 1) := by decide +kernel
theorem d7 : decode yB 7 = .ok (.iconst 0, 1) := by decide +kernel
theorem d8 : decode yB 8 = .ok (.iload_n 2, 1) := by decide +kernel
theorem d9 : decode yB 9 = .ok (.invokestatic 115, 3) := by decide +kernel
theorem d12 : decode yB 12 = .ok (.istore 4, 2) := by decide +kernel
theorem d14 : decode yB 14 = .ok (.iload 4, 2) := by decide +kernel
theorem d16 : decode yB 16 = .ok (.iload_n 2, 1) := by decide +kernel
theorem d17 : decode yB 17 = .ok (.if_icmp (.eq) 40, 3) := by decide +kernel
theorem d57 : decode yB 57 = .ok (.aload_n 3, 1) := by decide +kernel
theorem d58 : decode yB 58 = .ok (.areturn, 1) := by decide +kernel
def site : List Cond := [.arrayClass .byte, Cmp5.tab] ++ staticW U16 115 Cmp5.yN
def tab : Cond := tabOf yN yB 6 (some (.array .byte)) site
def P (b : Addr) (A : Cell) (o len : Nat) (args : Array Value) (s : State) : Prop := args = #[.ref b, .int (Int32.ofNat o), .int (Int32.ofNat len)] ∧ Ch b A s ∧ o + len ≤ A.slots.size ∧ len ≤ 536870912 ∧ ∀ i, i < len → ¬ 255 < cv A (o + i)
def E (b : Addr) (A : Cell) (o len : Nat) (r : Option Value) (s u : State) : Prop := NewArr .byte "[B" len (fun j => .int (lo8 (cv A (o + j)))) r s u ∧ u.heap.size = s.heap.size + 1
/-- no char of the range above 255: a new byte[] of their low bytes -/
theorem law (l : Launch) (b : Addr) (A : Cell) (o len : Nat) : Law l yN 3 3 1 18 yB 6 (some (.array .byte)) site (P b A o len) (E b A o len) [] 1 len := by
  refine Law.of_walk (plainFor_of_name (by decide +kernel)) (by decide +kernel) (by decide +kernel) (by decide) (fun _ _ h => by rw [h.1]; rfl) (fun _ U U' hal hh h => ⟨h.1, h.2.1.mv hal hh, h.2.2⟩) (fun r U U' V V' h1 hal h2 h => ⟨NewArr.mv r U U' V V' h1 hal h2 h.1, by rw [h1, h2]; exact h.2⟩) ?_
  intro p e s m args below meth c s₁ X0 hexec hbytes hml hret hlk hnm hown hh0 W hP
  obtain ⟨rfl, hA, l1, l2, hp⟩ := hP
  have a31 := hA.1.2.2.2
  have c1 : Steps p.tables e below (s₁.setTop (entryFrame m #[.ref b, .int (Int32.ofNat o), .int (Int32.ofNat len)] 6)) (s₁.setTop (mkF m 0 #[.val (.ref b), .val (.int (Int32.ofNat o)), .val (.int (Int32.ofNat len)), .unset, .unset, .unset] [])) := entry rfl
  have c2 : Steps p.tables e below (s₁.setTop (entryFrame m #[.ref b, .int (Int32.ofNat o), .int (Int32.ofNat len)] 6)) (s₁.setTop (mkF m 1 #[.val (.ref b), .val (.int (Int32.ofNat o)), .val (.int (Int32.ofNat len)), .unset, .unset, .unset] [.int (Int32.ofNat len)])) := c1.trans (by
    refine XS.iloadN X0.here hexec rfl (hb hbytes d0) rfl ?_
    exact Steps.refl _)
  obtain ⟨T3, B3, X3, ba3, bs3, bv3, bh3, bf3, st3⟩ := X0.anew hexec (atype := .byte) (wk W (.arrayClass .byte)) rfl (by show len * 1 ≤ _; omega) (by omega) (g := (mkF m 1 #[.val (.ref b), .val (.int (Int32.ofNat o)), .val (.int (Int32.ofNat len)), .unset, .unset, .unset] [.int (Int32.ofNat len)])) rfl (hb hbytes d1) (rest := []) rfl (Nat.le_refl _) (by show 0 + len ≤ len; omega)
  rw [hh0] at ba3 st3
  have kp3 : XT.Kept s T3 := (XT.Kept.of_eq hh0).push bh3
  have hA3 := hA.keep X3.warmed.alike (kp3 _ _ hA.1.1)
  have hne : b ≠ s.heap.size := hA.1.ne
  have c4 : Steps p.tables e below (s₁.setTop (entryFrame m #[.ref b, .int (Int32.ofNat o), .int (Int32.ofNat len)] 6)) (T3.setTop (mkF m 3 #[.val (.ref b), .val (.int (Int32.ofNat o)), .val (.int (Int32.ofNat len)), .unset, .unset, .unset] [.ref s.heap.size])) := c2.trans (st3 _ (Steps.refl _))
  have c5 : Steps p.tables e below (s₁.setTop (entryFrame m #[.ref b, .int (Int32.ofNat o), .int (Int32.ofNat len)] 6)) (T3.setTop (mkF m 9 #[.val (.ref b), .val (.int (Int32.ofNat o)), .val (.int (Int32.ofNat len)), .val (.ref s.heap.size), .unset, .unset] [.int (Int32.ofNat len), .int 0, .ref s.heap.size, .int (Int32.ofNat o), .ref b])) := c4.trans (by
    refine XS.astoreN X3.here hexec rfl (hb hbytes d3) rfl rfl rfl ?_
    refine XS.aloadN X3.here hexec rfl (hb hbytes d4) rfl rfl ?_
    refine XS.iloadN X3.here hexec rfl (hb hbytes d5) rfl ?_
    refine XS.aloadN X3.here hexec rfl (hb hbytes d6) rfl rfl ?_
    refine iconstV X3.here hexec rfl 0 (hb hbytes d7) (by decide) ?_
    refine XS.iloadN X3.here hexec rfl (hb hbytes d8) rfl ?_
    exact Steps.refl _)
  obtain ⟨v6, T6, X6, E6, g6⟩ := X3.callS hexec (Cmp5.law l b A s.heap.size B3 o 0 len) hown (wks W (staticW U16 115 Cmp5.yN)) (wk W Cmp5.tab) (W := 0) (Nat.le_of_ble_eq_true rfl) (Nat.le_of_ble_eq_true rfl) (Nat.le_refl _) (by show 0 + len + 0 ≤ len; omega) (g := (mkF m 9 #[.val (.ref b), .val (.int (Int32.ofNat o)), .val (.int (Int32.ofNat len)), .val (.ref s.heap.size), .unset, .unset] [.int (Int32.ofNat len), .int (Int32.ofNat 0), .ref s.heap.size, .int (Int32.ofNat o), .ref b])) rfl (by rw [hml]; rfl) c5 (argsL := [.ref b, .int (Int32.ofNat o), .ref s.heap.size, .int (Int32.ofNat 0), .int (Int32.ofNat len)]) (rest := []) rfl rfl (by show 2 * 0 + 0 ≤ _; decide) (hb hbytes d9) (⟨rfl, hA3, ba3, hne, l1, by rw [bs3]; simp, hp⟩)
  obtain ⟨rfl, B6, p6, f6⟩ := E6
  have c7 : Steps p.tables e below (s₁.setTop (entryFrame m #[.ref b, .int (Int32.ofNat o), .int (Int32.ofNat len)] 6)) (T6.setTop (mkF m 12 #[.val (.ref b), .val (.int (Int32.ofNat o)), .val (.int (Int32.ofNat len)), .val (.ref s.heap.size), .unset, .unset] [.int (Int32.ofNat len)])) := g6
  have c8 : Steps p.tables e below (s₁.setTop (entryFrame m #[.ref b, .int (Int32.ofNat o), .int (Int32.ofNat len)] 6)) (T6.setTop (mkF m 58 #[.val (.ref b), .val (.int (Int32.ofNat o)), .val (.int (Int32.ofNat len)), .val (.ref s.heap.size), .val (.int (Int32.ofNat len)), .unset] [.ref s.heap.size])) := c7.trans (by
    refine XS.istore X6.here hexec rfl (hb hbytes d12) rfl rfl ?_
    refine XS.iload X6.here hexec rfl (hb hbytes d14) rfl ?_
    refine XS.iloadN X6.here hexec rfl (hb hbytes d16) rfl ?_
    refine XS.icmpYes X6.here hexec rfl (pc0 := 17) rfl (hb hbytes d17) rfl (ii_eq_t rfl) (by decide) rfl ?_
    refine XS.aloadN X6.here hexec rfl (hb hbytes d57) rfl rfl ?_
    exact Steps.refl _)
  have X8 := X6.wide (L' := []) (cells' := 1) (slots' := len) (fun x hx hlt => by
    simp only [List.nil_append, copyLocs, List.mem_map, List.mem_range] at hx
    obtain ⟨i, -, rfl⟩ := hx
    exact absurd hlt (Nat.lt_irrefl _)) (Nat.le_refl _) (by omega)
  exact ⟨T6, some (.ref s.heap.size), _, _, _, X8, rfl, rfl, rfl, (fun h => by cases h), ⟨⟨rfl, B6, ba3.like (X3.warmed.alike.symm.trans X6.warmed.alike) p6.1 f6.1 f6.2.1 f6.2.2.1, f6.2.1.trans bv3, by rw [X6.warmed.alike.findClass, f6.1]; exact bf3, by rw [f6.2.2.1, bs3]; simp, fun j hj => by rw [f6.2.2.2 j, if_pos (by omega)]; rfl, kp3.put p6 (Nat.le_refl _)⟩, by rw [p6.2.2, bh3, hh0]; simp⟩, fun fs hl => c8.trans (X8.areturnOut hexec rfl hret rfl (hb hbytes d58) hl)⟩
end Cmp3
namespace CodL
def yN : MethodName := ⟨"java/lang/StringUTF16", "coderFromArrayLen", "([BI)B"⟩
abbrev yB : ByteArray := jdk_52_method_15_code
theorem d0 : decode yB 0 = .ok (.iload_n 1, 1) := by decide +kernel
theorem d1 : decode yB 1 = .ok (.aload_n 0, 1) := by decide +kernel
theorem d2 : decode yB 2 = .ok (.arraylength, 1) := by decide +kernel
theorem d3 : decode yB 3 = .ok (.isub, 1) := by decide +kernel
theorem d4 : decode yB 4 = .ok (.bipush 31, 2) := by decide +kernel
theorem d6 : decode yB 6 = .ok (.iushr, 1) := by decide +kernel
theorem d7 : decode yB 7 = .ok (.i2b, 1) := by decide +kernel
theorem d8 : decode yB 8 = .ok (.ireturn, 1) := by decide +kernel
def site : List Cond := []
def tab : Cond := tabOf yN yB 2 (some .byte) site
def P (d : Addr) (B : Cell) (args : Array Value) (s : State) : Prop := args = #[.ref d, .int (Int32.ofNat B.slots.size)] ∧ Arr .byte d B s
def E (r : Option Value) (s u : State) : Prop := XT.PureE (some (.int 0)) r s u
/-- an array as long as the number of chars: LATIN1 -/
theorem law (l : Launch) (d : Addr) (B : Cell) : Law l yN 2 2 0 0 yB 2 (some .byte) site (P d B) E [] 0 0 := by
  refine Law.of_walk (plainFor_of_name (by decide +kernel)) (by decide +kernel) (by decide +kernel) (by decide) (fun _ _ h => by rw [h.1]; rfl) (fun _ U U' hal hh h => ⟨h.1, h.2.mv hal hh⟩) (fun r U U' V V' h1 hal h2 h => XT.PureE.mv r U U' V V' h1 hal h2 h) ?_
  intro p e s m args below meth c s₁ X0 hexec hbytes hml hret hlk hnm hown hh0 W hP
  obtain ⟨rfl, hB⟩ := hP
  have hB0 := hB.mv X0.warmed.alike hh0
  have c1 : Steps p.tables e below (s₁.setTop (entryFrame m #[.ref d, .int (Int32.ofNat B.slots.size)] 2)) (s₁.setTop (mkF m 0 #[.val (.ref d), .val (.int (Int32.ofNat B.slots.size))] [])) := entry rfl
  have c2 : Steps p.tables e below (s₁.setTop (entryFrame m #[.ref d, .int (Int32.ofNat B.slots.size)] 2)) (s₁.setTop (mkF m 2 #[.val (.ref d), .val (.int (Int32.ofNat B.slots.size))] [.ref d, .int (Int32.ofNat B.slots.size)])) := c1.trans (by
    refine XS.iloadN X0.here hexec rfl (hb hbytes d0) rfl ?_
    refine XS.aloadN X0.here hexec rfl (hb hbytes d1) rfl rfl ?_
    exact Steps.refl _)
  have c3 : Steps p.tables e below (s₁.setTop (entryFrame m #[.ref d, .int (Int32.ofNat B.slots.size)] 2)) (s₁.setTop (mkF m 8 #[.val (.ref d), .val (.int (Int32.ofNat B.slots.size))] [.int (lo8 (ushr (Int32.ofNat B.slots.size - Int32.ofNat B.slots.size) 31))])) := c2.trans (by
    refine X0.alen hexec hB0 rfl rfl (hb hbytes d2) ?_
    refine XS.isub X0.here hexec rfl (hb hbytes d3) rfl ?_
    refine bipushV X0.here hexec rfl 31 (hb hbytes d4) (by decide) ?_
    refine iushr X0.here hexec rfl (hb hbytes d6) rfl ?_
    refine i2b X0.here hexec rfl (hb hbytes d7) rfl ?_
    exact Steps.refl _)
  have e0 : lo8 (ushr (Int32.ofNat B.slots.size - Int32.ofNat B.slots.size) 31) = 0 := by rw [Int32.sub_self]; decide
  rw [e0] at c3
  exact ⟨s₁, some (.int 0), _, _, _, X0, rfl, rfl, rfl, (fun h => by cases h), ⟨rfl, hh0⟩, fun fs hl => c3.trans (X0.ireturnOut hexec hret rfl (Or.inr (Or.inr (Or.inl rfl))) (hb hbytes d8) hl)⟩
end CodL
/-- the String at a is Latin-1 over a new byte[] (the heap's one new cell): the low bytes of the len chars of A from o on; every cell but a is kept -/
def Got (a : Addr) (D : Cell) (fV fC : Field) (A : Cell) (o len : Nat) (r : Option Value) (s u : State) : Prop := r = none ∧ ∃ D' V : Cell, Blank "java/lang/String" a D' u ∧ Same D D' [fV.slot, fC.slot] ∧ D'.slots[fV.slot]? = some (.ref s.heap.size) ∧ D'.slots[fC.slot]? = some (.int 0) ∧ Arr .byte s.heap.size V u ∧ V.vm = .none ∧ u.vm.findClass "[B" = some V.cls ∧ V.slots.size = len ∧ (∀ j, j < len → V.slots[j]? = some (.int (lo8 (cv A (o + j))))) ∧ (∀ (y : Addr) (c : Cell), y ≠ a → s.heap[y]? = some c → u.heap[y]? = some c) ∧ u.heap.size = s.heap.size + 1
theorem Got.mv {a : Addr} {D A : Cell} {fV fC : Field} {o len : Nat} : ∀ r (U U' V V' : State), U'.heap = U.heap → V.vm.Alike V'.vm → V'.heap = V.heap → Got a D fV fC A o len r U V → Got a D fV fC A o len r U' V' :=
  fun r U U' V V' h1 hal h2 ⟨e0, D', X, a1, a2, a3, a4, a5, a6, a7, a8, a9, a10, a11⟩ => ⟨e0, D', X, a1.mv hal h2, a2, by rw [h1]; exact a3, a4, by rw [h1]; exact a5.mv hal h2, a6, by rw [hal.findClass]; exact a7, a8, a9, by rw [h1, h2]; exact a10, by rw [h1, h2]; exact a11⟩
namespace New4
def yN : MethodName := ⟨"java/lang/String", "<init>", "([CIILjava/lang/Void;)V"⟩
abbrev yB : ByteArray := jdk_42_method_149_code
theorem d0 : decode yB 0 = .ok (.aload_n 0, 1) := by decide +kernel
theorem d1 : decode yB 1 = .ok (.invokespecial 1, 3) := by decide +kernel
theorem d4 : decode yB 4 = .ok (.iload_n 3, 1) := by decide +kernel
theorem d5 : decode yB 5 = .ok (.ifCond (.ne) 22, 3) := by decide +kernel
theorem d27 : decode yB 27 = .ok (.getstatic 38, 3) := by decide +kernel
theorem d30 : decode yB 30 = .ok (.ifCond (.eq) 28, 3) := by decide +kernel
theorem d33 : decode yB 33 = .ok (.aload_n 1, 1) := by decide +kernel
theorem d34 : decode yB 34 = .ok (.iload_n 2, 1) := by decide +kernel
theorem d35 : decode yB 35 = .ok (.iload_n 3, 1) := by decide +kernel
theorem d36 : decode yB 36 = .ok (.invokestatic 177, 3) := by decide +kernel
theorem d39 : decode yB 39 = .ok (.astore 5, 2) := by decide +kernel
theorem d41 : decode yB 41 = .ok (.aload_n 0, 1) := by decide +kernel
theorem d42 : decode yB 42 = .ok (.aload 5, 2) := by decide +kernel
theorem d44 : decode yB 44 = .ok (.iload_n 3, 1) := by decide +kernel
theorem d45 : decode yB 45 = .ok (.invokestatic 47, 3) := by decide +kernel
theorem d48 : decode yB 48 = .ok (.putfield 15, 3) := by decide +kernel
theorem d51 : decode yB 51 = .ok (.aload_n 0, 1) := by decide +kernel
theorem d52 : decode yB 52 = .ok (.aload 5, 2) := by decide +kernel
theorem d54 : decode yB 54 = .ok (.putfield 9, 3) := by decide +kernel
theorem d57 : decode yB 57 = .ok (.return_, 1) := by decide +kernel
def site : List Cond := [.fieldLink "java/lang/String" 38 "java/lang/String" "COMPACT_STRINGS" "Z", Cmp3.tab, CodL.tab, .laysFinal "java/lang/String" "java/lang/String" "value" "[B", .fieldLink "java/lang/String" 9 "java/lang/String" "value" "[B", .laysFinal "java/lang/String" "java/lang/String" "coder" "B", .fieldLink "java/lang/String" 15 "java/lang/String" "coder" "B"] ++ objW "java/lang/String" 1 ++ staticW "java/lang/String" 177 Cmp3.yN ++ staticW "java/lang/String" 47 CodL.yN
def tab : Cond := tabOf yN yB 6 none site
def P (a : Addr) (D : Cell) (fV fC : Field) (b : Addr) (A : Cell) (z : Int32) (o len : Nat) (args : Array Value) (s : State) : Prop := args = #[.ref a, .ref b, .int (Int32.ofNat o), .int (Int32.ofNat len), .null] ∧ Blank "java/lang/String" a D s ∧ Found "java/lang/String" "value" "[B" fV s ∧ Found "java/lang/String" "coder" "B" fC s ∧ Ch b A s ∧ StaticIs s "java/lang/String" "COMPACT_STRINGS" "Z" (.int z) ∧ ¬ z = 0 ∧ 0 < len ∧ o + len ≤ A.slots.size ∧ len ≤ 536870912 ∧ ∀ i, i < len → ¬ 255 < cv A (o + i)
def E (a : Addr) (D : Cell) (fV fC : Field) (A : Cell) (o len : Nat) (r : Option Value) (s u : State) : Prop := Got a D fV fC A o len r s u
/-- len > 0, no char of the range above 255: a Latin-1 String of their low bytes -/
theorem law (l : Launch) (a : Addr) (D : Cell) (fV fC : Field) (b : Addr) (A : Cell) (z : Int32) (o len : Nat) : Law l yN 5 4 2 35 yB 6 none site (P a D fV fC b A z o len) (E a D fV fC A o len) [⟨a, fC.slot⟩, ⟨a, fV.slot⟩] 1 len := by
  refine Law.of_walk (plainFor_of_name (by decide +kernel)) (by decide +kernel) (by decide +kernel) (by decide) (fun _ _ h => by rw [h.1]; rfl) (fun _ U U' hal hh h => ⟨h.1, h.2.1.mv hal hh, h.2.2.1.al hal, h.2.2.2.1.al hal, h.2.2.2.2.1.mv hal hh, h.2.2.2.2.2.1.there hal hh, h.2.2.2.2.2.2⟩) (fun r U U' V V' h1 hal h2 h => Got.mv r U U' V V' h1 hal h2 h) ?_
  intro p e s m args below meth c s₁ X0 hexec hbytes hml hret hlk hnm hown hh0 W hP
  obtain ⟨rfl, hB, f1, f2, hA, s1, hz, l0, l1, l2, hp⟩ := hP
  have a31 := hA.1.2.2.2
  have c1 : Steps p.tables e below (s₁.setTop (entryFrame m #[.ref a, .ref b, .int (Int32.ofNat o), .int (Int32.ofNat len), .null] 6)) (s₁.setTop (mkF m 0 #[.val (.ref a), .val (.ref b), .val (.int (Int32.ofNat o)), .val (.int (Int32.ofNat len)), .val .null, .unset] [])) := entry rfl
  have c2 : Steps p.tables e below (s₁.setTop (entryFrame m #[.ref a, .ref b, .int (Int32.ofNat o), .int (Int32.ofNat len), .null] 6)) (s₁.setTop (mkF m 1 #[.val (.ref a), .val (.ref b), .val (.int (Int32.ofNat o)), .val (.int (Int32.ofNat len)), .val .null, .unset] [.ref a])) := c1.trans (by
    refine XS.aloadN X0.here hexec rfl (hb hbytes d0) rfl rfl ?_
    exact Steps.refl _)
  obtain ⟨T3, X3, q3, st3⟩ := X0.oinit hexec hown (wks W (objW "java/lang/String" 1)) (g := (mkF m 1 #[.val (.ref a), .val (.ref b), .val (.int (Int32.ofNat o)), .val (.int (Int32.ofNat len)), .val .null, .unset] [.ref a])) rfl (by rw [hml]; rfl) (rest := []) rfl (hb hbytes d1) (W := 0) (by show 2 * 0 + 0 ≤ _; decide) (Nat.le_of_ble_eq_true rfl) (Nat.le_of_ble_eq_true rfl)
  have hh3 := q3.trans hh0
  have c4 : Steps p.tables e below (s₁.setTop (entryFrame m #[.ref a, .ref b, .int (Int32.ofNat o), .int (Int32.ofNat len), .null] 6)) (T3.setTop (mkF m 27 #[.val (.ref a), .val (.ref b), .val (.int (Int32.ofNat o)), .val (.int (Int32.ofNat len)), .val .null, .unset] [])) := (c2.trans (st3 _ (Steps.refl _))).trans (by
    refine XS.iloadN X3.here hexec rfl (hb hbytes d4) rfl ?_
    refine XS.ifYes X3.here hexec rfl (pc0 := 5) rfl (hb hbytes d5) rfl (i0_ne_t (nz32 (by omega) l0)) (by decide) rfl ?_
    exact Steps.refl _)
  obtain ⟨T5, X5, q5, st5⟩ := X3.sget hexec hown (wk W (.fieldLink "java/lang/String" 38 "java/lang/String" "COMPACT_STRINGS" "Z")) s1 (fun _ _ h => by rw [hh3]; exact h) (g := (mkF m 27 #[.val (.ref a), .val (.ref b), .val (.int (Int32.ofNat o)), .val (.int (Int32.ofNat len)), .val .null, .unset] [])) rfl (hb hbytes d27)
  have hh5 := q5.trans hh3
  have c6 : Steps p.tables e below (s₁.setTop (entryFrame m #[.ref a, .ref b, .int (Int32.ofNat o), .int (Int32.ofNat len), .null] 6)) (T5.setTop (mkF m 30 #[.val (.ref a), .val (.ref b), .val (.int (Int32.ofNat o)), .val (.int (Int32.ofNat len)), .val .null, .unset] [.int z])) := c4.trans (st5 _ (Steps.refl _))
  have c7 : Steps p.tables e below (s₁.setTop (entryFrame m #[.ref a, .ref b, .int (Int32.ofNat o), .int (Int32.ofNat len), .null] 6)) (T5.setTop (mkF m 36 #[.val (.ref a), .val (.ref b), .val (.int (Int32.ofNat o)), .val (.int (Int32.ofNat len)), .val .null, .unset] [.int (Int32.ofNat len), .int (Int32.ofNat o), .ref b])) := c6.trans (by
    refine XS.ifNo X5.here hexec rfl (hb hbytes d30) rfl (i0_eq_f hz) ?_
    refine XS.aloadN X5.here hexec rfl (hb hbytes d33) rfl rfl ?_
    refine XS.iloadN X5.here hexec rfl (hb hbytes d34) rfl ?_
    refine XS.iloadN X5.here hexec rfl (hb hbytes d35) rfl ?_
    exact Steps.refl _)
  obtain ⟨v8, T8, X8, E8, g8⟩ := X5.callS hexec (Cmp3.law l b A o len) hown (wks W (staticW "java/lang/String" 177 Cmp3.yN)) (wk W Cmp3.tab) (W := 0) (Nat.le_of_ble_eq_true rfl) (Nat.le_of_ble_eq_true rfl) (Nat.le_refl _) (by show 0 + len ≤ len; omega) (g := (mkF m 36 #[.val (.ref a), .val (.ref b), .val (.int (Int32.ofNat o)), .val (.int (Int32.ofNat len)), .val .null, .unset] [.int (Int32.ofNat len), .int (Int32.ofNat o), .ref b])) rfl (by rw [hml]; rfl) c7 (argsL := [.ref b, .int (Int32.ofNat o), .int (Int32.ofNat len)]) (rest := []) rfl rfl (by show 2 * 0 + 0 ≤ _; decide) (hb hbytes d36) (⟨rfl, hA.mv X5.warmed.alike hh5, l1, l2, hp⟩)
  obtain ⟨e8, z8⟩ := E8
  obtain ⟨rfl, N, n1, n2, n3, n4, n5, n6⟩ := NewArr.mv _ T5 s _ _ hh5.symm (Vm.Alike.refl _) rfl e8
  rw [hh5] at z8
  have hB1 := hB.keep X8.warmed.alike (n6 _ _ hB.1)
  have hne : s.heap.size ≠ a := (Nat.ne_of_lt (Array.getElem?_eq_some_iff.mp hB.1).1).symm
  have c9 : Steps p.tables e below (s₁.setTop (entryFrame m #[.ref a, .ref b, .int (Int32.ofNat o), .int (Int32.ofNat len), .null] 6)) (T8.setTop (mkF m 39 #[.val (.ref a), .val (.ref b), .val (.int (Int32.ofNat o)), .val (.int (Int32.ofNat len)), .val .null, .unset] [.ref s.heap.size])) := g8
  have c10 : Steps p.tables e below (s₁.setTop (entryFrame m #[.ref a, .ref b, .int (Int32.ofNat o), .int (Int32.ofNat len), .null] 6)) (T8.setTop (mkF m 45 #[.val (.ref a), .val (.ref b), .val (.int (Int32.ofNat o)), .val (.int (Int32.ofNat len)), .val .null, .val (.ref s.heap.size)] [.int (Int32.ofNat N.slots.size), .ref s.heap.size, .ref a])) := by
    have hc : Steps p.tables e below (s₁.setTop (entryFrame m #[.ref a, .ref b, .int (Int32.ofNat o), .int (Int32.ofNat len), .null] 6)) (T8.setTop (mkF m 45 #[.val (.ref a), .val (.ref b), .val (.int (Int32.ofNat o)), .val (.int (Int32.ofNat len)), .val .null, .val (.ref s.heap.size)] [.int (Int32.ofNat len), .ref s.heap.size, .ref a])) := c9.trans (by
      refine XS.astore X8.here hexec rfl (hb hbytes d39) rfl rfl rfl ?_
      refine XS.aloadN X8.here hexec rfl (hb hbytes d41) rfl rfl ?_
      refine XS.aload X8.here hexec rfl (hb hbytes d42) rfl rfl ?_
      refine XS.iloadN X8.here hexec rfl (hb hbytes d44) rfl ?_
      exact Steps.refl _)
    rw [n4]; exact hc
  obtain ⟨v11, T11, X11, E11, g11⟩ := X8.callS hexec (CodL.law l s.heap.size N) hown (wks W (staticW "java/lang/String" 47 CodL.yN)) (wk W CodL.tab) (W := 1) (Nat.le_of_ble_eq_true rfl) (Nat.le_of_ble_eq_true rfl) (Nat.le_refl _) (by show 0 + len + 0 ≤ len; omega) (g := (mkF m 45 #[.val (.ref a), .val (.ref b), .val (.int (Int32.ofNat o)), .val (.int (Int32.ofNat len)), .val .null, .val (.ref s.heap.size)] [.int (Int32.ofNat N.slots.size), .ref s.heap.size, .ref a])) rfl (by rw [hml]; rfl) c10 (argsL := [.ref s.heap.size, .int (Int32.ofNat N.slots.size)]) (rest := [.ref a]) rfl rfl (by show 2 * 0 + (1 + 0) ≤ _; decide) (hb hbytes d45) (⟨rfl, n1⟩)
  obtain ⟨rfl, q11⟩ := E11
  have hB11 := hB1.mv (X8.warmed.alike.symm.trans X11.warmed.alike) q11
  have c12 : Steps p.tables e below (s₁.setTop (entryFrame m #[.ref a, .ref b, .int (Int32.ofNat o), .int (Int32.ofNat len), .null] 6)) (T11.setTop (mkF m 48 #[.val (.ref a), .val (.ref b), .val (.int (Int32.ofNat o)), .val (.int (Int32.ofNat len)), .val .null, .val (.ref s.heap.size)] [.int 0, .ref a])) := g11
  obtain ⟨T13, X13, p13, bl13, sl13, st13⟩ := X11.finit hexec hown (wk W (.fieldLink "java/lang/String" 15 "java/lang/String" "coder" "B")) (Or.inr ⟨_, (wk W (.laysFinal "java/lang/String" "java/lang/String" "coder" "B"))⟩) (Or.inl ⟨rfl, hnm⟩) f2 (Or.inl rfl) hB11 (t := .byte) (by decide +kernel) rfl (g := (mkF m 48 #[.val (.ref a), .val (.ref b), .val (.int (Int32.ofNat o)), .val (.int (Int32.ofNat len)), .val .null, .val (.ref s.heap.size)] [.int 0, .ref a])) rfl (rest := []) rfl (hb hbytes d48)
  have c14 : Steps p.tables e below (s₁.setTop (entryFrame m #[.ref a, .ref b, .int (Int32.ofNat o), .int (Int32.ofNat len), .null] 6)) (T13.setTop (mkF m 54 #[.val (.ref a), .val (.ref b), .val (.int (Int32.ofNat o)), .val (.int (Int32.ofNat len)), .val .null, .val (.ref s.heap.size)] [.ref s.heap.size, .ref a])) := (c12.trans (st13 _ (Steps.refl _))).trans (by
    refine XS.aloadN X13.here hexec rfl (hb hbytes d51) rfl rfl ?_
    refine XS.aload X13.here hexec rfl (hb hbytes d52) rfl rfl ?_
    exact Steps.refl _)
  obtain ⟨T15, X15, p15, bl15, sl15, st15⟩ := X13.finit hexec hown (wk W (.fieldLink "java/lang/String" 9 "java/lang/String" "value" "[B")) (Or.inr ⟨_, (wk W (.laysFinal "java/lang/String" "java/lang/String" "value" "[B"))⟩) (Or.inl ⟨rfl, hnm⟩) f1 (Or.inl rfl) bl13 (t := (.array .byte)) (by decide +kernel) rfl (g := (mkF m 54 #[.val (.ref a), .val (.ref b), .val (.int (Int32.ofNat o)), .val (.int (Int32.ofNat len)), .val .null, .val (.ref s.heap.size)] [.ref s.heap.size, .ref a])) rfl (rest := []) rfl (hb hbytes d54)
  have c16 : Steps p.tables e below (s₁.setTop (entryFrame m #[.ref a, .ref b, .int (Int32.ofNat o), .int (Int32.ofNat len), .null] 6)) (T15.setTop (mkF m 57 #[.val (.ref a), .val (.ref b), .val (.int (Int32.ofNat o)), .val (.int (Int32.ofNat len)), .val .null, .val (.ref s.heap.size)] [])) := c14.trans (st15 _ (Steps.refl _))
  have ap := apart (Or.inr ⟨_, (wk W (.laysFinal "java/lang/String" "java/lang/String" "value" "[B"))⟩) (Or.inr ⟨_, (wk W (.laysFinal "java/lang/String" "java/lang/String" "coder" "B"))⟩) f1 f2 (t₁ := .array .byte) (t₂ := .byte) (by decide +kernel) (by decide +kernel) (by decide)
  have al := X8.warmed.alike.symm.trans X15.warmed.alike
  have n7 : T11.heap[s.heap.size]? = some N := by rw [q11]; exact n1.1
  exact ⟨T15, none, _, _, _, X15, by simp, rfl, by omega, (fun _ => rfl), ⟨rfl, _, N, bl15, ((Same.refl D _).set _ (by simp)).set _ (by simp), sl15, (Cell.slots_setSlot_ne _ ap).trans sl13, n1.keep al (p15.other hne (p13.other hne n7)), n2, by rw [al.findClass]; exact n3, n4, n5, fun y c h1 h2 => p15.other h1 (p13.other h1 (by rw [q11]; exact n6 y c h2)), by rw [p15.2.2, p13.2.2, q11]; exact z8⟩, fun fs hl => c16.trans (X15.returnOut hexec hret (hb hbytes d57) hl)⟩
end New4
namespace New1
def yN : MethodName := ⟨"java/lang/String", "<init>", "([C)V"⟩
abbrev yB : ByteArray := jdk_42_method_3_code
theorem d0 : decode yB 0 = .ok (.aload_n 0, 1) := by decide +kernel
theorem d1 : decode yB 1 = .ok (.aload_n 1, 1) := by decide +kernel
theorem d2 : decode yB 2 = .ok (.iconst 0, 1) := by decide +kernel
theorem d3 : decode yB 3 = .ok (.aload_n 1, 1) := by decide +kernel
theorem d4 : decode yB 4 = .ok (.arraylength, 1) := by decide +kernel
theorem d5 : decode yB 5 = .ok (.aconst_null, 1) := by decide +kernel
theorem d6 : decode yB 6 = .ok (.invokespecial 27, 3) := by decide +kernel
theorem d9 : decode yB 9 = .ok (.return_, 1) := by decide +kernel
def site : List Cond := [New4.tab] ++ initW "java/lang/String" 27 New4.yN
def tab : Cond := tabOf yN yB 2 none site
def P (a : Addr) (D : Cell) (fV fC : Field) (b : Addr) (A : Cell) (z : Int32) (args : Array Value) (s : State) : Prop := args = #[.ref a, .ref b] ∧ Blank "java/lang/String" a D s ∧ Found "java/lang/String" "value" "[B" fV s ∧ Found "java/lang/String" "coder" "B" fC s ∧ Ch b A s ∧ StaticIs s "java/lang/String" "COMPACT_STRINGS" "Z" (.int z) ∧ ¬ z = 0 ∧ 0 < A.slots.size ∧ A.slots.size ≤ 536870912 ∧ ∀ i, i < A.slots.size → ¬ 255 < cv A i
def E (a : Addr) (D : Cell) (fV fC : Field) (A : Cell) (r : Option Value) (s u : State) : Prop := Got a D fV fC A 0 A.slots.size r s u
/-- new String(chars), not empty, no char above 255: a Latin-1 String of their low bytes -/
theorem law (l : Launch) (a : Addr) (D : Cell) (fV fC : Field) (b : Addr) (A : Cell) (z : Int32) : Law l yN 2 1 3 52 yB 2 none site (P a D fV fC b A z) (E a D fV fC A) [⟨a, fC.slot⟩, ⟨a, fV.slot⟩] 1 A.slots.size := by
  refine Law.of_walk (plainFor_of_name (by decide +kernel)) (by decide +kernel) (by decide +kernel) (by decide) (fun _ _ h => by rw [h.1]; rfl) (fun _ U U' hal hh h => ⟨h.1, h.2.1.mv hal hh, h.2.2.1.al hal, h.2.2.2.1.al hal, h.2.2.2.2.1.mv hal hh, h.2.2.2.2.2.1.there hal hh, h.2.2.2.2.2.2⟩) (fun r U U' V V' h1 hal h2 h => Got.mv r U U' V V' h1 hal h2 h) ?_
  intro p e s m args below meth c s₁ X0 hexec hbytes hml hret hlk hnm hown hh0 W hP
  obtain ⟨rfl, hB, f1, f2, hA, s1, hz, l0, l2, hp⟩ := hP
  have c1 : Steps p.tables e below (s₁.setTop (entryFrame m #[.ref a, .ref b] 2)) (s₁.setTop (mkF m 0 #[.val (.ref a), .val (.ref b)] [])) := entry rfl
  have c2 : Steps p.tables e below (s₁.setTop (entryFrame m #[.ref a, .ref b] 2)) (s₁.setTop (mkF m 6 #[.val (.ref a), .val (.ref b)] [.null, .int (Int32.ofNat A.slots.size), .int 0, .ref b, .ref a])) := c1.trans (by
    refine XS.aloadN X0.here hexec rfl (hb hbytes d0) rfl rfl ?_
    refine XS.aloadN X0.here hexec rfl (hb hbytes d1) rfl rfl ?_
    refine iconstV X0.here hexec rfl 0 (hb hbytes d2) (by decide) ?_
    refine XS.aloadN X0.here hexec rfl (hb hbytes d3) rfl rfl ?_
    refine X0.alen hexec (hA.1.mv X0.warmed.alike hh0) rfl rfl (hb hbytes d4) ?_
    refine XS.aconstNull X0.here hexec rfl (hb hbytes d5) ?_
    exact Steps.refl _)
  obtain ⟨v3, T3, X3, E3, g3⟩ := X0.callN hexec (New4.law l a D fV fC b A z 0 A.slots.size) rfl hown (wks W (initW "java/lang/String" 27 New4.yN)) (W New4.tab (by simp only [site, List.mem_cons, List.mem_append, true_or, or_true])) (W := 0) (Nat.le_of_ble_eq_true rfl) (Nat.le_of_ble_eq_true rfl) (Nat.le_refl _) (by show 0 + A.slots.size ≤ A.slots.size; omega) (g := (mkF m 6 #[.val (.ref a), .val (.ref b)] [.null, .int (Int32.ofNat A.slots.size), .int (Int32.ofNat 0), .ref b, .ref a])) rfl (by rw [hml]; rfl) c2 (argsL := [.ref b, .int (Int32.ofNat 0), .int (Int32.ofNat A.slots.size), .null]) (rest := []) rfl rfl (by show 2 * 0 + 0 ≤ _; decide) (hb hbytes d6) (⟨rfl, hB.mv X0.warmed.alike hh0, f1.al X0.warmed.alike, f2.al X0.warmed.alike, hA.mv X0.warmed.alike hh0, s1.there X0.warmed.alike hh0, hz, l0, by omega, l2, fun i hi => by rw [Nat.zero_add]; exact hp i hi⟩)
  have e0 := Got.mv _ s₁ s _ _ hh0.symm (Vm.Alike.refl _) rfl E3
  obtain rfl := e0.1
  have c4 : Steps p.tables e below (s₁.setTop (entryFrame m #[.ref a, .ref b] 2)) (T3.setTop (mkF m 9 #[.val (.ref a), .val (.ref b)] [])) := g3
  exact ⟨T3, none, _, _, _, X3, by simp, rfl, by omega, (fun _ => rfl), e0, fun fs hl => c4.trans (X3.returnOut hexec hret (hb hbytes d9) hl)⟩
theorem pays {l : Launch} {R : Room} {p : Program} {e : Env} {below : List Frame} {s : State} {sargs : Array Value} {len W : Nat} (a : Addr) (D : Cell) (fV fC : Field) (b : Addr) (A : Cell) (z : Int32) (htab : tab.before sargs s = true) (hfr : 4 ≤ R.frames) (hlo : W + 65 ≤ R.locals) :
    Back l R p e below s sargs yN len W (fun A₁ a₁ => A₁.cells + 1 ≤ R.cells ∧ A₁.slots + A.slots.size ≤ R.slots ∧ P a D fV fC b A z a₁ A₁.U) (fun A₁ _ v₁ B₁ => E a D fV fC A v₁ A₁.U B₁.U ∧ B₁.locs = A₁.locs ++ [⟨a, fC.slot⟩, ⟨a, fV.slot⟩] ∧ B₁.cells = A₁.cells + 1 ∧ B₁.slots = A₁.slots + A.slots.size) :=
  (law l a D fV fC b A z).pays htab hfr (by omega)
end New1
/-- the byte, read back as charAt reads it, is the char -/
theorem lo8_mask {x : Int32} (h0 : ¬ x < 0) (h1 : ¬ 255 < x) : lo8 x &&& 255 = x := by
  have t : ∀ k : Fin 256, lo8 (Int32.ofNat k.val) &&& 255 = Int32.ofNat k.val := by decide +kernel
  rw [Int32.lt_iff_toInt_lt] at h0 h1
  have e0 : (0 : Int32).toInt = 0 := rfl
  have e1 : (255 : Int32).toInt = 255 := rfl
  obtain ⟨k, hk⟩ : ∃ k : Nat, x.toInt = k := ⟨x.toInt.toNat, by omega⟩
  have hx : x = Int32.ofNat k := Int32.toInt_inj.mp (by rw [hk, Int32.toInt_ofNat_small (by omega)])
  rw [hx]
  exact t ⟨k, by omega⟩
end StrChars
namespace StrChars.Road
open Jvm Sem ClassFile Op Lib Jvm.Stand Jvm.Free Jvm.Free.XT
open Jvm.Lib.Cold (StaticIs)
abbrev ST : String := "java/lang/String"
/-- every table word that New1's law asks, flat -/
abbrev words : List Jvm.Cond := [.code New1.yN New1.yB 2 none, .initialized ST, .methodLink ST 27 New4.yN, .instanceMethod New4.yN,
  .code New4.yN New4.yB 6 none, .fieldLink ST 38 ST "COMPACT_STRINGS" "Z", .laysFinal ST ST "value" "[B", .fieldLink ST 9 ST "value" "[B", .laysFinal ST ST "coder" "B", .fieldLink ST 15 ST "coder" "B",
  .methodLink ST 1 Lib.objectInit, .instanceMethod Lib.objectInit, .code Lib.objectInit ⟨#[0xb1]⟩ 1 none, .methodLink ST 177 Cmp3.yN, .static Cmp3.yN, .methodLink ST 47 CodL.yN, .static CodL.yN,
  .code Cmp3.yN Cmp3.yB 6 (some (.array .byte)), .initialized U16, .arrayClass .byte, .methodLink U16 115 Cmp5.yN, .static Cmp5.yN, .code Cmp5.yN Cmp5.yB 7 (some .int), .code CodL.yN CodL.yB 2 (some .byte)]
theorem tab_of {a : Array Value} {s : State} (h : ∀ w ∈ words, w.before a s = true) : New1.tab.before a s = true := by
  have h5 : Cmp5.tab.before a s = true := unparts (wk h (.code Cmp5.yN Cmp5.yB 7 (some .int))) (wks h (.initialized Cmp5.yN.cls :: Cmp5.site))
  have hc : CodL.tab.before a s = true := unparts (wk h (.code CodL.yN CodL.yB 2 (some .byte))) (wks h (.initialized CodL.yN.cls :: CodL.site))
  have q5 : ∀ w ∈ Cmp5.tab :: words, w.before a s = true := fun w hw => (List.mem_cons.mp hw).elim (fun e => e ▸ h5) (h w)
  have h3 : Cmp3.tab.before a s = true := unparts (wk q5 (.code Cmp3.yN Cmp3.yB 6 (some (.array .byte)))) (wks q5 (.initialized Cmp3.yN.cls :: Cmp3.site))
  have q3 : ∀ w ∈ Cmp3.tab :: CodL.tab :: words, w.before a s = true := fun w hw => (List.mem_cons.mp hw).elim (fun e => e ▸ h3) fun hw => (List.mem_cons.mp hw).elim (fun e => e ▸ hc) (h w)
  have h4 : New4.tab.before a s = true := unparts (wk q3 (.code New4.yN New4.yB 6 none)) (wks q3 (.initialized New4.yN.cls :: New4.site))
  have q4 : ∀ w ∈ New4.tab :: words, w.before a s = true := fun w hw => (List.mem_cons.mp hw).elim (fun e => e ▸ h4) (h w)
  exact unparts (wk q4 (.code New1.yN New1.yB 2 none)) (wks q4 (.initialized New1.yN.cls :: New1.site))
/-- the words ride from the start Z to the walk's own state -/
theorem moved {Z s : State} {a0 args : Array Value} (hZ : Z.Warmed39 s.vm) (hw : ∀ d ∈ words, d.before a0 Z = true) : ∀ d ∈ words, d.before args s = true := fun d hd => by
  have q := hw d hd
  have t : ∀ d ∈ words, d = .arrayClass .byte ∨ (d.onTables && d.keepsFace) = true := by decide +kernel
  rcases t d hd with rfl | t
  · exact RoadKit.mvA hZ q
  · exact RoadKit.mv hZ q t
/-- WHAT COMES BACK, over the tables of the start Z: h the heap at the call, h' behind it -/
def Q (Z : State) (x : Addr) (A : Cell) (h : Heap) (v : Option Value) (h' : Heap) (L : List Loc) : Prop := v = none ∧ (∀ y ∈ L, y.base = x) ∧ RoadKit.Keep h h' [x] ∧ h'.size = h.size + 1 ∧ RoadKit.Exa Z h' x ST ∧ RoadKit.Fld Z h' x ST "value" "[B" (.ref h.size) ∧ RoadKit.Fld Z h' x ST "coder" "B" (.int 0) ∧
  (∃ V : Cell, RoadKit.Arr Z h' h.size V .byte ∧ V.vm = .none ∧ Z.vm.findClass "[B" = some V.cls ∧ V.slots.size = A.slots.size ∧ ∀ j, j < A.slots.size → V.slots[j]? = some (.int (lo8 (cv A j)))) ∧
  ∀ (O n d : String) (w : Value), RoadKit.Fld Z h x O n d w → RoadKit.slotOf Z O n d ≠ RoadKit.slotOf Z ST "value" "[B" → RoadKit.slotOf Z O n d ≠ RoadKit.slotOf Z ST "coder" "B" → RoadKit.Fld Z h' x O n d w
/-- **new String(chars) AT A CALL, IN THE ROAD'S FORM**: for specialBack behind newO: x the fresh String, b the char[] with the cell A -/
theorem back {p : Program} {l : Launch} {e : Env} {R : Room} {s : State} {args : Array Value} {below : List Frame} {len W : Nat} {Z : State} {a0 : Array Value} {h : Heap} (hZ : Z.Warmed39 s.vm) (hw : ∀ d ∈ words, d.before a0 Z = true) {kI : Nat} (wi : (Jvm.Cond.instantiable ST kI).before a0 Z = true)
    {x b : Addr} {A : Cell} {z : Int32} {v0 c0 : Value} (E : RoadKit.Exa Z h x ST) (V : RoadKit.Fld Z h x ST "value" "[B" v0) (C : RoadKit.Fld Z h x ST "coder" "B" c0) (K : RoadKit.Arr Z h b A .char) (hty : Typed .char A) (S : RoadKit.Sta Z h ST "COMPACT_STRINGS" "Z" (.int z)) (hz : ¬ z = 0)
    (l0 : 0 < A.slots.size) (l2 : A.slots.size ≤ 536870912) (hp : ∀ i, i < A.slots.size → ¬ 255 < cv A i) (hfr : 4 ≤ R.frames) (hlo : W + 65 ≤ R.locals) :
    Back l R p e below s args New1.yN len W (fun P a => a = #[.ref x, .ref b] ∧ P.U.heap = h ∧ P.cells + 1 ≤ R.cells ∧ P.slots + A.slots.size ≤ R.slots)
      (fun P _ v B => ∃ L, Q Z x A h v B.U.heap L ∧ B.locs = P.locs ++ L ∧ B.cells = P.cells + 1 ∧ B.slots = P.slots + A.slots.size) := by
  intro m meth c P g ig mk a X hg hsize hdg hW hn hp'
  obtain ⟨rfl, rfl, r1, r2⟩ := hp'
  have al : Z.vm.Alike P.U.vm := hZ.alike.trans X.warmed.alike
  obtain ⟨D, cfV, kV, iV, fV, hD, gV, stV, knV, obV, asV, slV⟩ := id V
  obtain ⟨D', cfC, kC, iC, fC, hD', gC, stC, -, -, asC, slC⟩ := id C
  cases hD.symm.trans hD'
  obtain ⟨D2, kD, e1, e2, e3, e4, e5⟩ := id E
  cases hD.symm.trans e1
  obtain ⟨c2, k2, i1, i2, i3, -⟩ := Cond.instantiable_spec wi
  cases e2.symm.trans i1
  cases e3.symm.trans i2
  obtain ⟨kU, u1, u2⟩ := al.2.2 _ _ e3
  have hB : Blank ST x D P.U := ⟨hD, ⟨knV, fun q hq => by rw [hq] at obV; cases obV⟩, by rw [al.findClass]; exact e2, kU, u1, by rw [u2]; exact i3, by rw [u2]; exact e5 i3⟩
  have F1 : Found ST "value" "[B" fV P.U := ⟨SBG.found_only al ⟨cfV, kV, iV, gV⟩, stV⟩
  have F2 : Found ST "coder" "B" fC P.U := ⟨SBG.found_only al ⟨cfC, kC, iC, gC⟩, stC⟩
  have hA : Ch b A P.U := ⟨⟨K.1, State.isArrayOf_alike al K.2.1, K.2.2, by omega⟩, hty⟩
  have hS : StaticIs P.U ST "COMPACT_STRINGS" "Z" (.int z) := by
    obtain ⟨cfS, iS, kS, fS, st, cS, t1, t2, t3, t4, t5, t6, t7⟩ := S
    exact StaticIs.there (s := { Z with heap := P.U.heap }) ⟨cfS, iS, kS, fS, st, cS, t1, t2, t3, t4, t5, (fun q => by rw [q] at t6; cases t6), t7⟩ al rfl
  obtain ⟨v, B, X', ⟨⟨hv, E', V', q1, q2, q3, q4, q5, q6, q7, q8, q9, q10, q11⟩, hl, hc, hs⟩, st⟩ := New1.pays x D fV fC b A z (tab_of (moved hZ hw)) hfr hlo m meth c P g ig mk _ X hg hsize hdg hW hn ⟨r1, r2, rfl, hB, F1, F2, hA, hS, hz, l0, l2, hp⟩
  have al' : Z.vm.Alike B.U.vm := hZ.alike.trans X'.warmed.alike
  have hsz : E'.slots.size = D.slots.size := by
    obtain ⟨-, -, -, kB, w1, w2, w3⟩ := q1
    obtain ⟨kB', y1, y2⟩ := al'.2.2 _ _ e3
    rw [q2.2.1] at w1
    cases w1.symm.trans y1
    rw [w3, e5 i3, y2]
  refine ⟨v, B, X', ⟨_, ⟨hv, ?_, ⟨by omega, fun y cy hy hn' => q10 y cy (by simpa using hn') hy, fun y cy hy => ?_⟩, q11, ⟨E', _, q1.1, by rw [q2.2.1]; exact e2, by rw [q2.2.1]; exact e3, by rw [q2.1]; exact obV, fun _ => by rw [hsz]; exact e5 i3⟩,
    ⟨E', cfV, kV, iV, fV, q1.1, gV, stV, by rw [q2.1]; exact knV, by rw [q2.1]; exact obV, by rw [q2.2.1]; exact asV, q3⟩, ⟨E', cfC, kC, iC, fC, q1.1, gC, stC, by rw [q2.1]; exact knV, by rw [q2.1]; exact obV, by rw [q2.2.1]; exact asC, q4⟩,
    ⟨V', ⟨q5.1, State.isArrayOf_alike al'.symm q5.2.1, q5.2.2.1⟩, q6, by rw [← al'.findClass]; exact q7, q8, fun j hj => by have := q9 j hj; rwa [Nat.zero_add] at this⟩, fun O n d w F n1 n2 => ?_⟩, hl, hc, hs⟩, st⟩
  · intro y hy
    simp only [List.mem_cons, List.not_mem_nil, or_false] at hy
    rcases hy with rfl | rfl <;> rfl
  · by_cases q : y = x
    · subst q
      cases hD.symm.trans hy
      exact ⟨E', q1.1, q2.2.1, q2.1, hsz⟩
    · exact ⟨cy, q10 y cy q hy, rfl, rfl, rfl⟩
  · obtain ⟨D3, cf, k, i, f, g1, g2, g3, g4, g5, g6, g7⟩ := F
    cases hD.symm.trans g1
    simp only [RoadKit.slotOf, g2, gV, gC, Option.map_some, Option.getD_some] at n1 n2
    exact ⟨E', cf, k, i, f, q1.1, g2, g3, by rw [q2.1]; exact g4, by rw [q2.1]; exact g5, by rw [q2.2.1]; exact g6, by rw [q2.2.2 f.slot (by simp [n1, n2])]; exact g7⟩
end StrChars.Road
namespace StrChars.Road
open Jvm Sem ClassFile Op Lib Jvm.Stand Jvm.Free Jvm.Free.XT
/-- WHAT COMES BACK, the byte[] as a list of values -/
def QA (Z : State) (x : Addr) (zn : Int32) (cs : List Int32) (h : Heap) (v : Option Value) (h' : Heap) (L : List Loc) : Prop := v = none ∧ (∀ y ∈ L, y.base = x) ∧ RoadKit.Keep h h' [x] ∧ h'.size = h.size + 1 ∧ RoadKit.Exa Z h' x ST ∧ RoadKit.Fld Z h' x ST "value" "[B" (.ref h.size) ∧ RoadKit.Fld Z h' x ST "coder" "B" (.int 0) ∧
  (∃ kb, Z.vm.findClass "[B" = some kb ∧ RoadKit.Arv Z h' h.size kb .byte zn (cs.map fun c => .int (lo8 c)) (.int 0)) ∧
  ∀ (O n d : String) (w : Value), RoadKit.Fld Z h x O n d w → RoadKit.slotOf Z O n d ≠ RoadKit.slotOf Z ST "value" "[B" → RoadKit.slotOf Z O n d ≠ RoadKit.slotOf Z ST "coder" "B" → RoadKit.Fld Z h' x O n d w
/-- **new String(chars) AT A CALL, THE ARRAYS AS LISTS**: the char[] at b holds cs, not empty, no char above 255 -/
theorem backArv {p : Program} {l : Launch} {e : Env} {R : Room} {s : State} {args : Array Value} {below : List Frame} {len W : Nat} {Z : State} {a0 : Array Value} {h : Heap} (hZ : Z.Warmed39 s.vm) (hw : ∀ d ∈ words, d.before a0 Z = true) {kI : Nat} (wi : (Jvm.Cond.instantiable ST kI).before a0 Z = true)
    {x b : Addr} {k : ClassId} {zn z : Int32} {cs : List Int32} {dv v0 c0 : Value} (E : RoadKit.Exa Z h x ST) (V : RoadKit.Fld Z h x ST "value" "[B" v0) (C : RoadKit.Fld Z h x ST "coder" "B" c0) (K : RoadKit.Arv Z h b k .char zn (cs.map Value.int) dv) (S : RoadKit.Sta Z h ST "COMPACT_STRINGS" "Z" (.int z)) (hz : ¬ z = 0)
    (hlen : zn.toNatClampNeg = cs.length) (h0 : 0 < cs.length) (hbig : cs.length ≤ 536870912) (hall : ∀ c ∈ cs, ¬ 255 < c) (hfr : 4 ≤ R.frames) (hlo : W + 65 ≤ R.locals) :
    Back l R p e below s args New1.yN len W (fun P a => a = #[.ref x, .ref b] ∧ P.U.heap = h ∧ P.cells + 1 ≤ R.cells ∧ P.slots + cs.length ≤ R.slots)
      (fun P _ v B => ∃ L, QA Z x zn cs h v B.U.heap L ∧ B.locs = P.locs ++ L ∧ B.cells = P.cells + 1 ∧ B.slots = P.slots + cs.length) := by
  obtain ⟨A, K1, K2, K3, K4, K5, K6⟩ := K
  have e : A.slots.size = cs.length := K3.trans hlen
  have hat : ∀ (i : Nat) (hi : i < cs.length), A.slots[i]? = some (.int cs[i]) := fun i hi => by rw [K5 i (by omega)]; simp [List.getD_eq_getElem?_getD, hi]
  have hcv : ∀ (i : Nat) (hi : i < cs.length), cv A i = cs[i] := fun i hi => by unfold cv; rw [hat i hi]
  have hty : Typed .char A := fun i v hv => by
    have hi : i < A.slots.size := (Array.getElem?_eq_some_iff.mp hv).1
    have q := K5 i hi
    rw [hv] at q
    rw [Option.some.inj q]
    exact K6 i hi
  refine Back.mono (back hZ hw wi E V C K1 hty S hz (by omega) (by omega) (fun i hi => by rw [hcv i (by omega)]; exact hall _ (List.getElem_mem _)) hfr hlo) (fun P a hp => ⟨hp.1, hp.2.1, hp.2.2.1, by rw [e]; exact hp.2.2.2⟩) (fun P a v B hp hq => ?_)
  obtain ⟨L, ⟨q1, q2, q3, q4, q5, q6, q7, ⟨V', v1, v2, v3, v4, v5⟩, q9⟩, hl, hc, hs⟩ := hq
  refine ⟨L, ⟨q1, q2, q3, q4, q5, q6, q7, ⟨V'.cls, v3, V', v1, rfl, by rw [v4, e, hlen], K4, fun i hi => ?_, fun i hi => ?_⟩, q9⟩, hl, hc, by rw [hs, e]⟩
  · have hi' : i < cs.length := by omega
    rw [v5 i (by omega), hcv i hi']; simp [List.getD_eq_getElem?_getD, hi']
  · have hi' : i < cs.length := by omega
    simp only [List.getD_eq_getElem?_getD, List.getElem?_map, List.getElem?_eq_getElem hi', Option.map_some, Option.getD_some]
    exact fits_lo8 _
end StrChars.Road
namespace StrChars.Road
open Jvm Sem ClassFile Op Lib Jvm.Stand Jvm.Free Jvm.Free.XT
/-- WHAT COMES BACK, in the writer's own shape -/
def QV (Z : State) (x : Addr) (N : Int32) (bs : List Int32) (h : Heap) (n0 : Nat) (v : Option Value) (h' : Heap) (L : List Loc) : Prop := v = none ∧ RoadKit.Fr n0 L ∧ RoadKit.Keep h h' [x] ∧ RoadKit.Exa Z h' x ST ∧ RoadKit.Fld Z h' x ST "coder" "B" (.int 0) ∧
  ∃ (t : Addr) (kb : ClassId), n0 ≤ t ∧ h.size ≤ t ∧ ¬ t = x ∧ RoadKit.Fld Z h' x ST "value" "[B" (.ref t) ∧ RoadKit.Arv Z h' t kb .byte N (bs.map Value.int) (.int 0)
/-- **new String(chars) AT A CALL, FOR THE WRITER**: a char[] of n known ints, each 0 to 255 -/
theorem backV {p : Program} {l : Launch} {e : Env} {R : Room} {s : State} {args : Array Value} {below : List Frame} {len W : Nat} {Z : State} {a0 : Array Value} {h : Heap} (hZ : Z.Warmed39 s.vm) (hw : ∀ d ∈ words, d.before a0 Z = true) {kI : Nat} (wi : (Jvm.Cond.instantiable ST kI).before a0 Z = true)
    {x b : Addr} {kC : ClassId} {cs bs : List Int32} {d v0 c0 : Value} {z N : Int32} {n n0 : Nat} (hx0 : n0 ≤ x) (hh0 : n0 ≤ h.size) (E : RoadKit.Exa Z h x ST) (V : RoadKit.Fld Z h x ST "value" "[B" v0) (C : RoadKit.Fld Z h x ST "coder" "B" c0) (K : RoadKit.Arv Z h b kC .char N (cs.map Value.int) d) (S : RoadKit.Sta Z h ST "COMPACT_STRINGS" "Z" (.int z)) (hz : ¬ z = 0)
    (hn : cs.length = n) (hN : N = Int32.ofNat n) (l0 : 0 < n) (l2 : n ≤ 4000) (hp : ∀ c ∈ cs, ¬ c < 0 ∧ ¬ (255 : Int32) < c) (hb : bs = cs.map (fun c => c.toInt8.toInt32)) (hfr : 4 ≤ R.frames) (hlo : W + 65 ≤ R.locals) :
    Back l R p e below s args (⟨"java/lang/String", "<init>", "([C)V"⟩ : MethodName) len W (fun P a => a = #[.ref x, .ref b] ∧ P.U.heap = h ∧ P.cells + 1 ≤ R.cells ∧ P.slots + n ≤ R.slots)
      (fun P _ v B => ∃ L, QV Z x N bs h n0 v B.U.heap L ∧ B.locs = P.locs ++ L ∧ B.cells = P.cells + 1 ∧ B.slots = P.slots + n) := by
  subst hn hN hb
  refine Back.mono (backArv hZ hw wi E V C K S hz (n32 (by omega)) l0 (by omega) (fun c hc => (hp c hc).2) hfr hlo) (fun P a hp => hp) (fun P a v B hp hq => ?_)
  obtain ⟨L, ⟨q1, q2, q3, q4, q5, q6, q7, ⟨kb, v1, v2⟩, q9⟩, hl, hc, hs⟩ := hq
  exact ⟨L, ⟨q1, fun y hy => by rw [q2 y hy]; exact hx0, q3, q5, q7, h.size, kb, hh0, Nat.le_refl _, Nat.ne_of_gt E.lt, q6, by rw [List.map_map]; exact v2⟩, hl, hc, hs⟩
end StrChars.Road
namespace StrChars
open Jvm Sem ClassFile Op Lib Jvm.Stand Jvm.Free.XT Jvm.Free.ALB Jvm.Free.JM Jvm.Free
open Jvm.Lib.Cold (StaticIs)
def hi8 (x : Int32) : Int32 := lo8 (x >>> ((8 : Int32) &&& 31))
/-- what StringUTF16.getChar makes of two bytes -/
def pairCh (u v : Int32) : Int32 := (((u &&& 255) <<< ((0 : Int32) &&& 31)) ||| ((v &&& 255) <<< ((8 : Int32) &&& 31))).toUInt32.toUInt16.toUInt32.toInt32
theorem shr0 (c : Int32) : c >>> ((0 : Int32) &&& 31) = c := by
  have e : ((0 : Int32) &&& 31) = 0 := by decide
  rw [e]
  apply Int32.toBitVec_inj.mp
  rw [Int32.toBitVec_shiftRight]
  have e1 : ((0 : Int32).toBitVec.smod 32) = 0#32 := by decide
  rw [e1, BitVec.sshiftRight_eq']
  exact BitVec.sshiftRight_zero
theorem lo8_and (x : Int32) : (lo8 x &&& 255).toBitVec.toNat = x.toBitVec.toNat % 256 := by
  have h : (lo8 x).toBitVec = (x.toBitVec.signExtend 8).signExtend 32 := by rw [lo8, Int8.toBitVec_toInt32, Int32.toBitVec_toInt8]
  rw [Int32.toBitVec_and, BitVec.toNat_and, h]
  have e : ((x.toBitVec.signExtend 8).signExtend 32).toNat % 256 = x.toBitVec.toNat % 256 := by
    rw [BitVec.toNat_signExtend]
    have hlt := x.toBitVec.isLt
    simp only [BitVec.toNat_setWidth, BitVec.toNat_signExtend]
    split <;> split <;> omega
  rw [← e]
  exact Nat.and_two_pow_sub_one_eq_mod _ 8
theorem pair_says {c : Int32} (h0 : ¬ c < 0) (h1 : ¬ 65535 < c) : pairCh (lo8 c) (hi8 c) = c := by
  rw [Int32.lt_iff_toInt_lt] at h0 h1
  have e0 : (0 : Int32).toInt = 0 := rfl
  have e1 : (65535 : Int32).toInt = 65535 := rfl
  have hc : c.toInt = c.toBitVec.toNat := by
    have := c.toBitVec.isLt
    have e : c.toInt = c.toBitVec.toInt := rfl
    rw [e] at h0 h1
    rw [e]
    rw [BitVec.toInt_eq_toNat_cond] at h0 h1 ⊢
    split at h0 <;> split <;> omega
  have hn : c.toBitVec.toNat < 65536 := by omega
  have a1 := lo8_and c
  have a2 : (hi8 c &&& 255).toBitVec.toNat = c.toBitVec.toNat / 256 := by
    rw [hi8, lo8_and]
    have e : ((8 : Int32) &&& 31) = 8 := by decide
    rw [e, Int32.toBitVec_shiftRight]
    have e2 : ((8 : Int32).toBitVec.smod 32) = 8#32 := by decide
    rw [e2, BitVec.sshiftRight_eq', BitVec.toNat_sshiftRight_of_msb_false (by rw [BitVec.msb_eq_false_iff_two_mul_lt]; omega)]
    show c.toBitVec.toNat >>> 8 % 256 = _
    rw [Nat.shiftRight_eq_div_pow]
    omega
  unfold pairCh
  apply Int32.toBitVec_inj.mp
  apply BitVec.eq_of_toNat_eq
  have f0 : ((0 : Int32) &&& 31) = 0 := by decide
  have f8 : ((8 : Int32) &&& 31) = 8 := by decide
  rw [f0, f8]
  have g : (((lo8 c &&& 255) <<< (0 : Int32)) ||| ((hi8 c &&& 255) <<< (8 : Int32))).toBitVec.toNat = c.toBitVec.toNat := by
    rw [Int32.toBitVec_or, Int32.toBitVec_shiftLeft, Int32.toBitVec_shiftLeft]
    have s0 : ((0 : Int32).toBitVec.smod 32) = 0#32 := by decide
    have s8 : ((8 : Int32).toBitVec.smod 32) = 8#32 := by decide
    rw [s0, s8, BitVec.toNat_or]
    simp only [BitVec.shiftLeft_eq', BitVec.toNat_shiftLeft, a1, a2]
    show (c.toBitVec.toNat % 256) <<< 0 % 2 ^ 32 ||| (c.toBitVec.toNat / 256) <<< 8 % 2 ^ 32 = _
    rw [Nat.shiftLeft_zero, Nat.mod_eq_of_lt (show c.toBitVec.toNat % 256 < 2 ^ 32 by omega), Nat.mod_eq_of_lt (show (c.toBitVec.toNat / 256) <<< 8 < 2 ^ 32 by rw [Nat.shiftLeft_eq]; omega), Nat.or_comm, ← Nat.shiftLeft_add_eq_or_of_lt (by omega), Nat.shiftLeft_eq]
    omega
  show BitVec.toNat (((((lo8 c &&& 255) <<< (0 : Int32)) ||| ((hi8 c &&& 255) <<< (8 : Int32))).toBitVec.setWidth 16).setWidth 32) = _
  rw [BitVec.toNat_setWidth, BitVec.toNat_setWidth, g]
  omega
end StrChars
namespace StrChars
open Jvm Sem ClassFile Op Lib Jvm.Stand Jvm.Free.XT Jvm.Free.ALB Jvm.Free.JM Jvm.Free
open Jvm.Lib.Cold (StaticIs)
theorem shr1 {n : Nat} (h : 2 * n < 2 ^ 31) : Int32.ofNat (2 * n) >>> ((1 : Int32) &&& 31) = Int32.ofNat n := by
  have e : ((1 : Int32) &&& 31) = 1 := by decide
  rw [e]
  apply Int32.toBitVec_inj.mp
  rw [Int32.toBitVec_shiftRight]
  have e1 : ((1 : Int32).toBitVec.smod 32) = 1#32 := by decide
  have hm : (BitVec.ofNat 32 (2 * n)).toNat = 2 * n := by rw [BitVec.toNat_ofNat, Nat.mod_eq_of_lt (by omega)]
  rw [e1, BitVec.sshiftRight_eq']
  apply BitVec.eq_of_toNat_eq
  show ((BitVec.ofNat 32 (2 * n)).sshiftRight 1).toNat = (BitVec.ofNat 32 n).toNat
  rw [BitVec.toNat_sshiftRight_of_msb_false (by rw [BitVec.msb_eq_false_iff_two_mul_lt, hm]; omega), hm, BitVec.toNat_ofNat, Nat.shiftRight_eq_div_pow]
  omega
/-- charAt's cast of a byte read back -/
def chr8 (u : Int32) : Int32 := (u &&& 255).toUInt32.toUInt16.toUInt32.toInt32
theorem chr8_lo8 {c : Int32} (h0 : ¬ c < 0) (h1 : ¬ 255 < c) : chr8 (lo8 c) = c := by
  have t : ∀ k : Fin 256, (Int32.ofNat k.val).toUInt32.toUInt16.toUInt32.toInt32 = Int32.ofNat k.val := by decide +kernel
  unfold chr8
  rw [lo8_mask h0 h1]
  rw [Int32.lt_iff_toInt_lt] at h0 h1
  have e0 : (0 : Int32).toInt = 0 := rfl
  have e1 : (255 : Int32).toInt = 255 := rfl
  obtain ⟨k, hk⟩ : ∃ k : Nat, c.toInt = k := ⟨c.toInt.toNat, by omega⟩
  have hx : c = Int32.ofNat k := Int32.toInt_inj.mp (by rw [hk, Int32.toInt_ofNat_small (by omega)])
  rw [hx]
  exact t ⟨k, by omega⟩
theorem narrow_ch {c : Int32} (h0 : ¬ c < 0) (h1 : ¬ 65535 < c) : narrow .char (.int c) = .int c := by
  have q : narrow .char (.int (pairCh (lo8 c) (hi8 c))) = .int (pairCh (lo8 c) (hi8 c)) := narrow_c _
  rwa [pair_says h0 h1] at q
/-- the array's cell V codes the n chars f 0 .. f (n - 1) by the coder cd, as the JDK does: coder 1 just where some char is above 255 -/
def Cod (cd : Int32) (n : Nat) (f : Nat → Int32) (V : Cell) : Prop := (cd = 0 ∧ V.slots.size = n ∧ ∀ j, j < n → V.slots[j]? = some (.int (lo8 (f j))) ∧ ¬ 255 < f j) ∨ (cd = 1 ∧ V.slots.size = 2 * n ∧ (∀ j, j < n → V.slots[2 * j]? = some (.int (lo8 (f j))) ∧ V.slots[2 * j + 1]? = some (.int (hi8 (f j)))) ∧ ∃ j, j < n ∧ 255 < f j)
theorem Cod.cd {cd : Int32} {n : Nat} {f : Nat → Int32} {V : Cell} (h : Cod cd n f V) : cd = 0 ∨ cd = 1 := h.imp (fun q => q.1) fun q => q.1
theorem Cod.len {cd : Int32} {n : Nat} {f : Nat → Int32} {V : Cell} (h : Cod cd n f V) (hs : V.slots.size < 2 ^ 31) : Int32.ofNat V.slots.size >>> (cd &&& 31) = Int32.ofNat n := by
  rcases h with ⟨rfl, h, -⟩ | ⟨rfl, h, -⟩
  · rw [shr0, h]
  · rw [h, shr1 (by omega)]
/-- **x is a String of the n chars f 0 .. f (n - 1)**, Latin-1 or UTF-16; its array at t has the cell V -/
def Txt (x t : Addr) (V : Cell) (cd : Int32) (n : Nat) (f : Nat → Int32) (U : State) : Prop := Exact "java/lang/String" x U ∧ Has x "java/lang/String" "value" "[B" (.ref t) U ∧ Has x "java/lang/String" "coder" "B" (.int cd) U ∧ XT.Arr .byte t V U ∧ Cod cd n f V ∧ ∀ j, j < n → ¬ f j < 0 ∧ ¬ 65535 < f j
theorem Txt.mv {x t : Addr} {V : Cell} {cd : Int32} {n : Nat} {f : Nat → Int32} {U U' : State} (h : Txt x t V cd n f U) (hal : U.vm.Alike U'.vm) (hh : U'.heap = U.heap) : Txt x t V cd n f U' := ⟨h.1.mv hal hh, h.2.1.mv hal hh, h.2.2.1.mv hal hh, h.2.2.2.1.mv hal hh, h.2.2.2.2⟩
namespace Cdr
def yN : MethodName := ⟨"java/lang/String", "coder", "()B"⟩
abbrev yB : ByteArray := jdk_42_method_152_code
theorem d0 : decode yB 0 = .ok (.getstatic 38, 3) := by decide +kernel
theorem d3 : decode yB 3 = .ok (.ifCond (.eq) 10, 3) := by decide +kernel
theorem d6 : decode yB 6 = .ok (.aload_n 0, 1) := by decide +kernel
theorem d7 : decode yB 7 = .ok (.getfield 15, 3) := by decide +kernel
theorem d10 : decode yB 10 = .ok (.goto 4, 3) := by decide +kernel
theorem d14 : decode yB 14 = .ok (.ireturn, 1) := by decide +kernel
def site : List Cond := [.fieldLink "java/lang/String" 38 "java/lang/String" "COMPACT_STRINGS" "Z", .fieldLink "java/lang/String" 15 "java/lang/String" "coder" "B"]
def tab : Cond := tabOf yN yB 1 (some .byte) site
def P (x : Addr) (cd z : Int32) (args : Array Value) (s : State) : Prop := args = #[.ref x] ∧ Has x "java/lang/String" "coder" "B" (.int cd) s ∧ (cd = 0 ∨ cd = 1) ∧ StaticIs s "java/lang/String" "COMPACT_STRINGS" "Z" (.int z) ∧ ¬ z = 0
def E (cd : Int32) (r : Option Value) (s u : State) : Prop := XT.PureE (some (.int cd)) r s u
theorem law (l : Launch) (x : Addr) (cd z : Int32) : Law l yN 1 0 0 0 yB 1 (some .byte) site (P x cd z) (E cd) [] 0 0 := by
  refine Law.of_walk (plainFor_of_name (by decide +kernel)) (by decide +kernel) (by decide +kernel) (by decide) (fun _ _ h => by rw [h.1]; rfl) (fun _ U U' hal hh h => ⟨h.1, h.2.1.mv hal hh, h.2.2.1, h.2.2.2.1.there hal hh, h.2.2.2.2⟩) (fun r U U' V V' h1 hal h2 h => XT.PureE.mv r U U' V V' h1 hal h2 h) ?_
  intro p e s m args below meth c s₁ X0 hexec hbytes hml hret hlk hnm hown hh0 W hP
  obtain ⟨rfl, hx, hc, s1, hz⟩ := hP
  have c1 : Steps p.tables e below (s₁.setTop (entryFrame m #[.ref x] 1)) (s₁.setTop (mkF m 0 #[.val (.ref x)] [])) := entry rfl
  obtain ⟨T2, X2, q2, st2⟩ := X0.sget hexec hown (wk W (.fieldLink "java/lang/String" 38 "java/lang/String" "COMPACT_STRINGS" "Z")) s1 (fun _ _ h => by rw [hh0]; exact h) (g := (mkF m 0 #[.val (.ref x)] [])) rfl (hb hbytes d0)
  have hh2 := q2.trans hh0
  have c3 : Steps p.tables e below (s₁.setTop (entryFrame m #[.ref x] 1)) (T2.setTop (mkF m 7 #[.val (.ref x)] [.ref x])) := (c1.trans (st2 _ (Steps.refl _))).trans (by
    refine XS.ifNo X2.here hexec rfl (hb hbytes d3) rfl (i0_eq_f hz) ?_
    refine XS.aloadN X2.here hexec rfl (hb hbytes d6) rfl rfl ?_
    exact Steps.refl _)
  obtain ⟨T4, X4, q4, st4⟩ := X2.hget hexec hown (wk W (.fieldLink "java/lang/String" 15 "java/lang/String" "coder" "B")) (hx.mv X2.warmed.alike hh2) (g := (mkF m 7 #[.val (.ref x)] [.ref x])) rfl (rest := []) rfl (hb hbytes d7)
  have c5 : Steps p.tables e below (s₁.setTop (entryFrame m #[.ref x] 1)) (T4.setTop (mkF m 14 #[.val (.ref x)] [.int cd])) := (c3.trans (st4 _ (Steps.refl _))).trans (by
    refine XS.goto X4.here hexec rfl (pc0 := 10) rfl (hb hbytes d10) (by decide) rfl ?_
    exact Steps.refl _)
  exact ⟨T4, some (.int cd), _, _, _, X4, rfl, rfl, rfl, (fun h => by cases h), ⟨rfl, q4.trans hh2⟩, fun fs hl => c5.trans (X4.ireturnOut hexec hret (by rcases hc with rfl | rfl <;> rfl) (Or.inr (Or.inr (Or.inl rfl))) (hb hbytes d14) hl)⟩
end Cdr
namespace Len
def yN : MethodName := ⟨"java/lang/String", "length", "()I"⟩
abbrev yB : ByteArray := jdk_42_method_54_code
theorem d0 : decode yB 0 = .ok (.aload_n 0, 1) := by decide +kernel
theorem d1 : decode yB 1 = .ok (.getfield 9, 3) := by decide +kernel
theorem d4 : decode yB 4 = .ok (.arraylength, 1) := by decide +kernel
theorem d5 : decode yB 5 = .ok (.aload_n 0, 1) := by decide +kernel
theorem d6 : decode yB 6 = .ok (.invokevirtual 335, 3) := by decide +kernel
theorem d9 : decode yB 9 = .ok (.ishr, 1) := by decide +kernel
theorem d10 : decode yB 10 = .ok (.ireturn, 1) := by decide +kernel
def site : List Cond := [.fieldLink "java/lang/String" 9 "java/lang/String" "value" "[B", Cdr.tab] ++ virtW "java/lang/String" 335 "java/lang/String" Cdr.yN Cdr.yN
def tab : Cond := tabOf yN yB 1 (some .int) site
def P (x t : Addr) (V : Cell) (cd : Int32) (n : Nat) (f : Nat → Int32) (z : Int32) (args : Array Value) (s : State) : Prop := args = #[.ref x] ∧ Txt x t V cd n f s ∧ StaticIs s "java/lang/String" "COMPACT_STRINGS" "Z" (.int z) ∧ ¬ z = 0
def E (n : Nat) (r : Option Value) (s u : State) : Prop := XT.PureE (some (.int (Int32.ofNat n))) r s u
/-- length() of a String of n chars, in either coding -/
theorem law (l : Launch) (x t : Addr) (V : Cell) (cd : Int32) (n : Nat) (f : Nat → Int32) (z : Int32) : Law l yN 1 0 1 13 yB 1 (some .int) site (P x t V cd n f z) (E n) [] 0 0 := by
  refine Law.of_walk (plainFor_of_name (by decide +kernel)) (by decide +kernel) (by decide +kernel) (by decide) (fun _ _ h => by rw [h.1]; rfl) (fun _ U U' hal hh h => ⟨h.1, h.2.1.mv hal hh, h.2.2.1.there hal hh, h.2.2.2⟩) (fun r U U' V V' h1 hal h2 h => XT.PureE.mv r U U' V V' h1 hal h2 h) ?_
  intro p e s m args below meth c s₁ X0 hexec hbytes hml hret hlk hnm hown hh0 W hP
  obtain ⟨rfl, hx, s1, hz⟩ := hP
  have v31 := hx.2.2.2.1.2.2.2
  have c1 : Steps p.tables e below (s₁.setTop (entryFrame m #[.ref x] 1)) (s₁.setTop (mkF m 1 #[.val (.ref x)] [.ref x])) := Steps.trans (entry rfl) (by
    show Steps p.tables e below (s₁.setTop (mkF m 0 #[.val (.ref x)] [])) _
    refine XS.aloadN X0.here hexec rfl (hb hbytes d0) rfl rfl ?_
    exact Steps.refl _)
  obtain ⟨T2, X2, q2, st2⟩ := X0.hget hexec hown (wk W (.fieldLink "java/lang/String" 9 "java/lang/String" "value" "[B")) (hx.mv X0.warmed.alike hh0).2.1 (g := (mkF m 1 #[.val (.ref x)] [.ref x])) rfl (rest := []) rfl (hb hbytes d1)
  have hh2 := q2.trans hh0
  have hx2 := hx.mv X2.warmed.alike hh2
  have c3 : Steps p.tables e below (s₁.setTop (entryFrame m #[.ref x] 1)) (T2.setTop (mkF m 6 #[.val (.ref x)] [.ref x, .int (Int32.ofNat V.slots.size)])) := (c1.trans (st2 _ (Steps.refl _))).trans (by
    refine X2.alen hexec hx2.2.2.2.1 rfl rfl (hb hbytes d4) ?_
    refine XS.aloadN X2.here hexec rfl (hb hbytes d5) rfl rfl ?_
    exact Steps.refl _)
  obtain ⟨v4, T4, X4, E4, g4⟩ := X2.callV hexec (Cdr.law l x cd z) hown (wks W (virtW "java/lang/String" 335 "java/lang/String" Cdr.yN Cdr.yN)) rfl (by decide) (wk W Cdr.tab) (W := 1) (Nat.le_of_ble_eq_true rfl) (Nat.le_of_ble_eq_true rfl) (Nat.le_refl _) (Nat.le_refl _) (hx2.1.fc X2.warmed.alike) hx2.1.is (g := (mkF m 6 #[.val (.ref x)] [.ref x, .int (Int32.ofNat V.slots.size)])) rfl (by rw [hml]; rfl) c3 (argsL := []) (rest := [.int (Int32.ofNat V.slots.size)]) rfl rfl (by show 2 * 0 + (1 + 0) ≤ _; decide) (hb hbytes d6) (⟨rfl, hx2.2.2.1, hx.2.2.2.2.1.cd, s1.there X2.warmed.alike hh2, hz⟩)
  obtain ⟨rfl, q4⟩ := E4
  have c5 : Steps p.tables e below (s₁.setTop (entryFrame m #[.ref x] 1)) (T4.setTop (mkF m 10 #[.val (.ref x)] [.int (Int32.ofNat V.slots.size >>> (cd &&& 31))])) := Steps.trans g4 (by
    refine ishr X4.here hexec rfl (hb hbytes d9) rfl ?_
    exact Steps.refl _)
  rw [hx.2.2.2.2.1.len v31] at c5
  exact ⟨T4, some (.int (Int32.ofNat n)), _, _, _, X4, rfl, rfl, rfl, (fun h => by cases h), ⟨rfl, q4.trans hh2⟩, fun fs hl => c5.trans (X4.ireturnOut hexec hret rfl (Or.inl rfl) (hb hbytes d10) hl)⟩
theorem pays {l : Launch} {R : Room} {p : Program} {e : Env} {below : List Frame} {s : State} {sargs : Array Value} {len W : Nat} (x t : Addr) (V : Cell) (cd : Int32) (n : Nat) (f : Nat → Int32) (z : Int32) (htab : tab.before sargs s = true) (hfr : 2 ≤ R.frames) (hlo : W + 25 ≤ R.locals) :
    Back l R p e below s sargs yN len W (fun A₁ a₁ => A₁.cells + 0 ≤ R.cells ∧ A₁.slots + 0 ≤ R.slots ∧ P x t V cd n f z a₁ A₁.U) (fun A₁ _ v₁ B₁ => E n v₁ A₁.U B₁.U ∧ B₁.locs = A₁.locs ++ [] ∧ B₁.cells = A₁.cells + 0 ∧ B₁.slots = A₁.slots + 0) :=
  (law l x t V cd n f z).pays htab hfr (by omega)
end Len
namespace IsL
def yN : MethodName := ⟨"java/lang/String", "isLatin1", "()Z"⟩
abbrev yB : ByteArray := jdk_42_method_154_code
theorem d0 : decode yB 0 = .ok (.getstatic 38, 3) := by decide +kernel
theorem d3 : decode yB 3 = .ok (.ifCond (.eq) 14, 3) := by decide +kernel
theorem d6 : decode yB 6 = .ok (.aload_n 0, 1) := by decide +kernel
theorem d7 : decode yB 7 = .ok (.getfield 15, 3) := by decide +kernel
theorem d10 : decode yB 10 = .ok (.ifCond (.ne) 7, 3) := by decide +kernel
theorem d13 : decode yB 13 = .ok (.iconst 1, 1) := by decide +kernel
theorem d14 : decode yB 14 = .ok (.goto 4, 3) := by decide +kernel
theorem d17 : decode yB 17 = .ok (.iconst 0, 1) := by decide +kernel
theorem d18 : decode yB 18 = .ok (.ireturn, 1) := by decide +kernel
def site : List Cond := [.fieldLink "java/lang/String" 38 "java/lang/String" "COMPACT_STRINGS" "Z", .fieldLink "java/lang/String" 15 "java/lang/String" "coder" "B"]
def tab : Cond := tabOf yN yB 1 (some .boolean) site
def P (x : Addr) (cd z : Int32) (args : Array Value) (s : State) : Prop := args = #[.ref x] ∧ Has x "java/lang/String" "coder" "B" (.int cd) s ∧ (cd = 0 ∨ cd = 1) ∧ StaticIs s "java/lang/String" "COMPACT_STRINGS" "Z" (.int z) ∧ ¬ z = 0
def E (cd : Int32) (r : Option Value) (s u : State) : Prop := XT.PureE (some (.int (1 - cd))) r s u
theorem law (l : Launch) (x : Addr) (cd z : Int32) : Law l yN 1 0 0 0 yB 1 (some .boolean) site (P x cd z) (E cd) [] 0 0 := by
  refine Law.of_walk (plainFor_of_name (by decide +kernel)) (by decide +kernel) (by decide +kernel) (by decide) (fun _ _ h => by rw [h.1]; rfl) (fun _ U U' hal hh h => ⟨h.1, h.2.1.mv hal hh, h.2.2.1, h.2.2.2.1.there hal hh, h.2.2.2.2⟩) (fun r U U' V V' h1 hal h2 h => XT.PureE.mv r U U' V V' h1 hal h2 h) ?_
  intro p e s m args below meth c s₁ X0 hexec hbytes hml hret hlk hnm hown hh0 W hP
  obtain ⟨rfl, hx, hc, s1, hz⟩ := hP
  have c1 : Steps p.tables e below (s₁.setTop (entryFrame m #[.ref x] 1)) (s₁.setTop (mkF m 0 #[.val (.ref x)] [])) := entry rfl
  obtain ⟨T2, X2, q2, st2⟩ := X0.sget hexec hown (wk W (.fieldLink "java/lang/String" 38 "java/lang/String" "COMPACT_STRINGS" "Z")) s1 (fun _ _ h => by rw [hh0]; exact h) (g := (mkF m 0 #[.val (.ref x)] [])) rfl (hb hbytes d0)
  have hh2 := q2.trans hh0
  have c3 : Steps p.tables e below (s₁.setTop (entryFrame m #[.ref x] 1)) (T2.setTop (mkF m 7 #[.val (.ref x)] [.ref x])) := (c1.trans (st2 _ (Steps.refl _))).trans (by
    refine XS.ifNo X2.here hexec rfl (hb hbytes d3) rfl (i0_eq_f hz) ?_
    refine XS.aloadN X2.here hexec rfl (hb hbytes d6) rfl rfl ?_
    exact Steps.refl _)
  obtain ⟨T4, X4, q4, st4⟩ := X2.hget hexec hown (wk W (.fieldLink "java/lang/String" 15 "java/lang/String" "coder" "B")) (hx.mv X2.warmed.alike hh2) (g := (mkF m 7 #[.val (.ref x)] [.ref x])) rfl (rest := []) rfl (hb hbytes d7)
  have c5 : Steps p.tables e below (s₁.setTop (entryFrame m #[.ref x] 1)) (T4.setTop (mkF m 10 #[.val (.ref x)] [.int cd])) := c3.trans (st4 _ (Steps.refl _))
  have c6 : Steps p.tables e below (s₁.setTop (entryFrame m #[.ref x] 1)) (T4.setTop (mkF m 18 #[.val (.ref x)] [.int (1 - cd)])) := by
    rcases hc with rfl | rfl
    · exact c5.trans (by
        refine XS.ifNo X4.here hexec rfl (hb hbytes d10) rfl (i0_ne_f rfl) ?_
        refine iconstV X4.here hexec rfl 1 (hb hbytes d13) (by decide) ?_
        refine XS.goto X4.here hexec rfl (pc0 := 14) rfl (hb hbytes d14) (by decide) rfl ?_
        exact Steps.refl _)
    · exact c5.trans (by
        refine XS.ifYes X4.here hexec rfl (pc0 := 10) rfl (hb hbytes d10) rfl (i0_ne_t (by decide)) (by decide) rfl ?_
        refine iconstV X4.here hexec rfl 0 (hb hbytes d17) (by decide) ?_
        exact Steps.refl _)
  exact ⟨T4, some (.int (1 - cd)), _, _, _, X4, rfl, rfl, rfl, (fun h => by cases h), ⟨rfl, q4.trans hh2⟩, fun fs hl => c6.trans (X4.ireturnOut hexec hret (by rcases hc with rfl | rfl <;> rfl) (Or.inr (Or.inl rfl)) (hb hbytes d18) hl)⟩
end IsL
namespace LChA
def yN : MethodName := ⟨"java/lang/StringLatin1", "charAt", "([BI)C"⟩
abbrev yB : ByteArray := jdk_43_method_2_code
theorem d0 : decode yB 0 = .ok (.iload_n 1, 1) := by decide +kernel
theorem d1 : decode yB 1 = .ok (.aload_n 0, 1) := by decide +kernel
theorem d2 : decode yB 2 = .ok (.arraylength, 1) := by decide +kernel
theorem d3 : decode yB 3 = .ok (.invokestatic 9, 3) := by decide +kernel
theorem d6 : decode yB 6 = .ok (.aload_n 0, 1) := by decide +kernel
theorem d7 : decode yB 7 = .ok (.iload_n 1, 1) := by decide +kernel
theorem d8 : decode yB 8 = .ok (.baload, 1) := by decide +kernel
theorem d9 : decode yB 9 = .ok (.sipush 255, 3) := by decide +kernel
theorem d12 : decode yB 12 = .ok (.iand, 1) := by decide +kernel
theorem d13 : decode yB 13 = .ok (.i2c, 1) := by decide +kernel
theorem d14 : decode yB 14 = .ok (.ireturn, 1) := by decide +kernel
def site : List Cond := [JO.Str_checkIndex.tab] ++ staticW "java/lang/StringLatin1" 9 JO.Str_checkIndex.yN
def tab : Cond := tabOf yN yB 2 (some .char) site
def P (t : Addr) (V : Cell) (i : Nat) (u : Int32) (fm : Value) (args : Array Value) (s : State) : Prop := args = #[.ref t, .int (Int32.ofNat i)] ∧ XT.Arr .byte t V s ∧ V.slots[i]? = some (.int u) ∧ (StaticIs s "jdk/internal/util/Preconditions" "SIOOBE_FORMATTER" "Ljava/util/function/BiFunction;" fm ∧ fm.isRef = true)
def E (u : Int32) (r : Option Value) (s w : State) : Prop := XT.PureE (some (.int (chr8 u))) r s w
theorem law (l : Launch) (t : Addr) (V : Cell) (i : Nat) (u : Int32) (fm : Value) : Law l yN 2 2 2 27 yB 2 (some .char) site (P t V i u fm) (E u) [] 0 0 := by
  refine Law.of_walk (plainFor_of_name (by decide +kernel)) (by decide +kernel) (by decide +kernel) (by decide) (fun _ _ h => by rw [h.1]; rfl) (fun _ U U' hal hh h => ⟨h.1, h.2.1.mv hal hh, h.2.2.1, h.2.2.2.1.there hal hh, h.2.2.2.2⟩) (fun r U U' V V' h1 hal h2 h => XT.PureE.mv r U U' V V' h1 hal h2 h) ?_
  intro p e s m args below meth c s₁ X0 hexec hbytes hml hret hlk hnm hown hh0 W hP
  obtain ⟨rfl, hV, hu, s1, rf⟩ := hP
  have v31 := hV.2.2.2
  have hi : i < V.slots.size := (Array.getElem?_eq_some_iff.mp hu).1
  have c1 : Steps p.tables e below (s₁.setTop (entryFrame m #[.ref t, .int (Int32.ofNat i)] 2)) (s₁.setTop (mkF m 0 #[.val (.ref t), .val (.int (Int32.ofNat i))] [])) := entry rfl
  have c2 : Steps p.tables e below (s₁.setTop (entryFrame m #[.ref t, .int (Int32.ofNat i)] 2)) (s₁.setTop (mkF m 3 #[.val (.ref t), .val (.int (Int32.ofNat i))] [.int (Int32.ofNat V.slots.size), .int (Int32.ofNat i)])) := c1.trans (by
    refine XS.iloadN X0.here hexec rfl (hb hbytes d0) rfl ?_
    refine XS.aloadN X0.here hexec rfl (hb hbytes d1) rfl rfl ?_
    refine X0.alen hexec (hV.mv X0.warmed.alike hh0) rfl rfl (hb hbytes d2) ?_
    exact Steps.refl _)
  obtain ⟨v3, T3, X3, E3, g3⟩ := X0.callS hexec (JO.Str_checkIndex.law l (Int32.ofNat i) (Int32.ofNat V.slots.size) fm) hown (wks W (staticW "java/lang/StringLatin1" 9 JO.Str_checkIndex.yN)) (wk W JO.Str_checkIndex.tab) (W := 0) (Nat.le_of_ble_eq_true rfl) (Nat.le_of_ble_eq_true rfl) (Nat.le_refl _) (Nat.le_refl _) (g := (mkF m 3 #[.val (.ref t), .val (.int (Int32.ofNat i))] [.int (Int32.ofNat V.slots.size), .int (Int32.ofNat i)])) rfl (by rw [hml]; rfl) c2 (argsL := [.int (Int32.ofNat i), .int (Int32.ofNat V.slots.size)]) (rest := []) rfl rfl (by show 2 * 0 + 0 ≤ _; decide) (hb hbytes d3) (⟨rfl, rf, s1.there X0.warmed.alike hh0, Int32.ofNat_not_neg (by omega), lt32 v31 hi⟩)
  obtain ⟨rfl, q3⟩ := E3
  have hh3 := q3.trans hh0
  have c4 : Steps p.tables e below (s₁.setTop (entryFrame m #[.ref t, .int (Int32.ofNat i)] 2)) (T3.setTop (mkF m 14 #[.val (.ref t), .val (.int (Int32.ofNat i))] [.int (chr8 u)])) := Steps.trans g3 (by
    refine XS.aloadN X3.here hexec rfl (hb hbytes d6) rfl rfl ?_
    refine XS.iloadN X3.here hexec rfl (hb hbytes d7) rfl ?_
    refine X3.aget hexec (hV.mv X3.warmed.alike hh3) rfl hu rfl rfl (hb hbytes d8) ?_
    refine sipushV X3.here hexec rfl 255 (hb hbytes d9) (by decide) ?_
    refine XS.iand X3.here hexec rfl (hb hbytes d12) rfl ?_
    refine i2c X3.here hexec rfl (hb hbytes d13) rfl ?_
    exact Steps.refl _)
  exact ⟨T3, some (.int (chr8 u)), _, _, _, X3, rfl, rfl, rfl, (fun h => by cases h), ⟨rfl, hh3⟩, fun fs hl => c4.trans (X3.ireturnOut hexec hret (narrow_c _) (Or.inr (Or.inr (Or.inr (Or.inl rfl)))) (hb hbytes d14) hl)⟩
end LChA
end StrChars
namespace StrChars.Road
open Jvm Sem ClassFile Op Lib Jvm.Stand Jvm.Free Jvm.Free.XT
open Jvm.Lib.Cold (StaticIs)
theorem consq {a : Array Value} {s : State} {c : Jvm.Cond} {L : List Jvm.Cond} (h0 : c.before a s = true) (h : ∀ w ∈ L, w.before a s = true) : ∀ w ∈ c :: L, w.before a s = true := fun w hw => (List.mem_cons.mp hw).elim (fun e => e ▸ h0) (h w)
/-- the words of String.length(), either coding -/
abbrev wordsLen : List Jvm.Cond := [.code Len.yN Len.yB 1 (some .int), .initialized ST, .fieldLink ST 9 ST "value" "[B", .fieldLink ST 38 ST "COMPACT_STRINGS" "Z", .fieldLink ST 15 ST "coder" "B", .code Cdr.yN Cdr.yB 1 (some .byte), .methodLink ST 335 Cdr.yN, .declares Cdr.yN, .selects ST Cdr.yN Cdr.yN, .instanceMethod Cdr.yN]
theorem tabLen_of {a : Array Value} {s : State} (h : ∀ w ∈ wordsLen, w.before a s = true) : Len.tab.before a s = true := by
  have hc : Cdr.tab.before a s = true := unparts (wk h (.code Cdr.yN Cdr.yB 1 (some .byte))) (wks h (.initialized Cdr.yN.cls :: Cdr.site))
  have q := consq hc h
  exact unparts (wk q (.code Len.yN Len.yB 1 (some .int))) (wks q (.initialized Len.yN.cls :: Len.site))
theorem movedLen {Z s : State} {a0 args : Array Value} (hZ : Z.Warmed39 s.vm) (hw : ∀ d ∈ wordsLen, d.before a0 Z = true) : ∀ d ∈ wordsLen, d.before args s = true := fun d hd => by
  have q := hw d hd
  have t : ∀ d ∈ wordsLen, d = .arrayClass .byte ∨ (d.onTables && d.keepsFace) = true := by decide +kernel
  rcases t d hd with rfl | t
  · exact RoadKit.mvA hZ q
  · exact RoadKit.mv hZ q t
/-- the bytes of the chars cs, low before high -/
def wideBytes : List Int32 → List Value
  | [] => []
  | c :: cs => .int (lo8 c) :: .int (hi8 c) :: wideBytes cs
theorem wide_lo (d : Value) : ∀ (cs : List Int32) (j : Nat), j < cs.length → (wideBytes cs).getD (2 * j) d = .int (lo8 (cs.getD j 0))
  | [], j, h => absurd h (Nat.not_lt_zero j)
  | c :: cs, 0, _ => rfl
  | c :: cs, j + 1, h => by
    have q := wide_lo d cs j (by simpa using h)
    rw [show 2 * (j + 1) = 2 * j + 1 + 1 from by omega]
    simpa [wideBytes] using q
theorem wide_hi (d : Value) : ∀ (cs : List Int32) (j : Nat), j < cs.length → (wideBytes cs).getD (2 * j + 1) d = .int (hi8 (cs.getD j 0))
  | [], j, h => absurd h (Nat.not_lt_zero j)
  | c :: cs, 0, _ => rfl
  | c :: cs, j + 1, h => by
    have q := wide_hi d cs j (by simpa using h)
    rw [show 2 * (j + 1) + 1 = 2 * j + 1 + 1 + 1 from by omega]
    simpa [wideBytes] using q
theorem low_at (d : Value) (cs : List Int32) (j : Nat) (h : j < cs.length) : (cs.map fun c => Value.int (lo8 c)).getD j d = .int (lo8 (cs.getD j 0)) := by
  simp [List.getD_eq_getElem?_getD, h]
/-- an array of N2 bytes vs codes the chars cs by the coder cd -/
def CodA (cs : List Int32) (cd N2 : Int32) (vs : List Value) : Prop := (cd = 0 ∧ N2 = Int32.ofNat cs.length ∧ vs = (cs.map fun c => Value.int (lo8 c)) ∧ ∀ c ∈ cs, ¬ 255 < c) ∨ (cd = 1 ∧ N2 = Int32.ofNat (2 * cs.length) ∧ vs = wideBytes cs ∧ ∃ c ∈ cs, 255 < c)
theorem CodA.cod {cs : List Int32} {cd N2 : Int32} {vs : List Value} {V : Cell} (h : CodA cs cd N2 vs) (hn : 2 * cs.length < 2 ^ 31) (hs : V.slots.size = N2.toNatClampNeg) (hv : RoadKit.Has V vs (.int 0)) : Cod cd cs.length (fun j => cs.getD j 0) V := by
  rcases h with ⟨rfl, rfl, rfl, h⟩ | ⟨rfl, rfl, rfl, c, hc, hw⟩
  · rw [n32 (by omega)] at hs
    exact Or.inl ⟨rfl, hs, fun j hj => ⟨by rw [hv j (by omega), low_at _ _ _ hj], by
      have e : cs.getD j 0 = cs[j] := by simp [List.getD_eq_getElem?_getD, hj]
      show ¬ 255 < cs.getD j 0
      rw [e]; exact h _ (List.getElem_mem _)⟩⟩
  · rw [n32 (by omega)] at hs
    obtain ⟨j, hj, rfl⟩ := List.getElem_of_mem hc
    exact Or.inr ⟨rfl, hs, fun j hj => ⟨by rw [hv _ (by omega), wide_lo _ _ _ hj], by rw [hv _ (by omega), wide_hi _ _ _ hj]⟩, j, hj, by
      have e : cs.getD j 0 = cs[j] := by simp [List.getD_eq_getElem?_getD, hj]
      show 255 < cs.getD j 0
      rw [e]; exact hw⟩
/-- an object of exactly java/lang/String, its two fields found: as the laws ask it -/
theorem strObj {Z U : State} {a0 : Array Value} {kI : Nat} (wi : (Jvm.Cond.instantiable ST kI).before a0 Z = true) (al : Z.vm.Alike U.vm) {x : Addr} {v0 c0 : Value} (E : RoadKit.Exa Z U.heap x ST) (V : RoadKit.Fld Z U.heap x ST "value" "[B" v0) (C : RoadKit.Fld Z U.heap x ST "coder" "B" c0) :
    ∃ (D : Cell) (fV fC : Field), Blank ST x D U ∧ Found ST "value" "[B" fV U ∧ Found ST "coder" "B" fC U ∧ D.slots[fV.slot]? = some v0 ∧ D.slots[fC.slot]? = some c0 ∧ RoadKit.slotOf Z ST "value" "[B" = fV.slot ∧ RoadKit.slotOf Z ST "coder" "B" = fC.slot := by
  obtain ⟨D, cfV, kV, iV, fV, hD, gV, stV, knV, obV, asV, slV⟩ := V
  obtain ⟨D', cfC, kC, iC, fC, hD', gC, stC, -, -, asC, slC⟩ := C
  cases hD.symm.trans hD'
  obtain ⟨D2, kD, e1, e2, e3, e4, e5⟩ := E
  cases hD.symm.trans e1
  obtain ⟨c2, k2, i1, i2, i3, -⟩ := Cond.instantiable_spec wi
  cases e2.symm.trans i1
  cases e3.symm.trans i2
  obtain ⟨kU, u1, u2⟩ := al.2.2 _ _ e3
  exact ⟨D, fV, fC, ⟨hD, ⟨knV, fun q hq => by rw [hq] at obV; cases obV⟩, by rw [al.findClass]; exact e2, kU, u1, by rw [u2]; exact i3, by rw [u2]; exact e5 i3⟩, ⟨SBG.found_only al ⟨cfV, kV, iV, gV⟩, stV⟩, ⟨SBG.found_only al ⟨cfC, kC, iC, gC⟩, stC⟩, slV, slC, by simp [RoadKit.slotOf, gV], by simp [RoadKit.slotOf, gC]⟩
theorem sta_is {Z U : State} (al : Z.vm.Alike U.vm) {C n d : String} {v : Value} (S : RoadKit.Sta Z U.heap C n d v) : StaticIs U C n d v := by
  obtain ⟨cfS, iS, kS, fS, st, cS, t1, t2, t3, t4, t5, t6, t7⟩ := S
  exact StaticIs.there (s := { Z with heap := U.heap }) ⟨cfS, iS, kS, fS, st, cS, t1, t2, t3, t4, t5, (fun q => by rw [q] at t6; cases t6), t7⟩ al rfl
/-- **length() OF SUCH A STRING** -/
theorem lenW {p : Program} {l : Launch} {e : Env} {R : Room} {s : State} {args : Array Value} {below : List Frame} {len W : Nat} {Z : State} {a0 : Array Value} {h : Heap} (hZ : Z.Warmed39 s.vm) (hw : ∀ d ∈ wordsLen, d.before a0 Z = true) {kI : Nat} (wi : (Jvm.Cond.instantiable ST kI).before a0 Z = true)
    {x t : Addr} {kb : ClassId} {cs : List Int32} {cd N2 z : Int32} {vs : List Value} (E : RoadKit.Exa Z h x ST) (V : RoadKit.Fld Z h x ST "value" "[B" (.ref t)) (C : RoadKit.Fld Z h x ST "coder" "B" (.int cd)) (K : RoadKit.Arv Z h t kb .byte N2 vs (.int 0)) (hc : CodA cs cd N2 vs) (hb : ∀ c ∈ cs, ¬ c < 0 ∧ ¬ (65535 : Int32) < c)
    (S : RoadKit.Sta Z h ST "COMPACT_STRINGS" "Z" (.int z)) (hz : ¬ z = 0) (l2 : cs.length ≤ 4000) (hfr : 2 ≤ R.frames) (hlo : W + 25 ≤ R.locals) :
    Back l R p e below s args (⟨"java/lang/String", "length", "()I"⟩ : MethodName) len W (fun P a => a = #[.ref x] ∧ P.U.heap = h ∧ P.cells + 0 ≤ R.cells ∧ P.slots + 0 ≤ R.slots)
      (fun P _ v B => ∃ L, (v = some (.int (Int32.ofNat cs.length)) ∧ L = [] ∧ B.U.heap = h) ∧ B.locs = P.locs ++ L ∧ B.cells = P.cells + 0 ∧ B.slots = P.slots + 0) := by
  obtain ⟨A, K1, K2, K3, K4, K5, K6⟩ := K
  have hcod := hc.cod (by omega) K3 K5
  intro m meth c P g ig mk a X hg hsize hdg hW hn hp'
  obtain ⟨rfl, rfl, r1, r2⟩ := hp'
  have al : Z.vm.Alike P.U.vm := hZ.alike.trans X.warmed.alike
  obtain ⟨D, fV, fC, hB, F1, F2, g1, g2, -, -⟩ := strObj wi al E V C
  have hx : Txt x t A cd cs.length (fun j => cs.getD j 0) P.U := ⟨⟨_, hB.2.2.1, D, hB.1, rfl, by cases q : D.vm <;> first | rfl | exact absurd q (hB.2.1.2 _)⟩, Has.of hB F1 g1, Has.of hB F2 g2, ⟨K1.1, State.isArrayOf_alike al K1.2.1, K1.2.2, by rcases hcod with ⟨-, q, -⟩ | ⟨-, q, -⟩ <;> omega⟩, hcod, fun j hj => by
    have e : cs.getD j 0 = cs[j] := by simp [List.getD_eq_getElem?_getD, hj]
    show ¬ cs.getD j 0 < 0 ∧ ¬ 65535 < cs.getD j 0
    rw [e]; exact hb _ (List.getElem_mem _)⟩
  obtain ⟨v, B, X', ⟨⟨hv, hh⟩, hl, hk, hs⟩, st⟩ := Len.pays x t A cd cs.length (fun j => cs.getD j 0) z (tabLen_of (movedLen hZ hw)) hfr hlo m meth c P g ig mk _ X hg hsize hdg hW hn ⟨r1, r2, rfl, hx, sta_is al S, hz⟩
  exact ⟨v, B, X', ⟨[], ⟨hv, rfl, hh⟩, hl, hk, hs⟩, st⟩
end StrChars.Road
namespace StrChars
open Jvm Sem ClassFile Op Lib Jvm.Stand Jvm.Free.XT Jvm.Free.ALB Jvm.Free.JM Jvm.Free
open Jvm.Lib.Cold (StaticIs)
/-- what place i of a byte[]'s cell holds -/
def yv (A : Cell) (i : Nat) : Int32 := match A.slots[i]? with | some (.int x) => x | _ => 0
theorem yv_get {a : Addr} {A : Cell} {U : State} (h : XT.Arr .byte a A U) (ht : Typed .byte A) {i : Nat} (hi : i < A.slots.size) : A.slots[i]? = some (.int (yv A i)) := by
  have e := Array.getElem?_eq_getElem hi
  have f := ht i _ e
  unfold yv; rw [e]
  generalize A.slots[i] = v at f
  cases v <;> simp [fits] at f ⊢
/-- the two arrays are equal, place for place -/
def EqC (A B : Cell) : Prop := A.slots.size = B.slots.size ∧ ∀ i, i < A.slots.size → yv A i = yv B i
/-- a boolean that says whether p -/
def Says01 (q : Prop) (r : Option Value) (s u : State) : Prop := ∃ v : Int32, r = some (.int v) ∧ u.heap = s.heap ∧ ((v = 1 ∧ q) ∨ (v = 0 ∧ ¬ q))
theorem Says01.mv {q : Prop} : ∀ r (U U' V V' : State), U'.heap = U.heap → V.vm.Alike V'.vm → V'.heap = V.heap → Says01 q r U V → Says01 q r U' V' :=
  fun r U U' V V' h1 _ h2 ⟨v, a, b, c⟩ => ⟨v, a, by rw [h1, h2]; exact b, c⟩
namespace LEq
def yN : MethodName := ⟨"java/lang/StringLatin1", "equals", "([B[B)Z"⟩
abbrev yB : ByteArray := jdk_43_method_13_code
theorem d0 : decode yB 0 = .ok (.aload_n 0, 1) := by decide +kernel
theorem d1 : decode yB 1 = .ok (.arraylength, 1) := by decide +kernel
theorem d2 : decode yB 2 = .ok (.aload_n 1, 1) := by decide +kernel
theorem d3 : decode yB 3 = .ok (.arraylength, 1) := by decide +kernel
theorem d4 : decode yB 4 = .ok (.if_icmp (.ne) 30, 3) := by decide +kernel
theorem d7 : decode yB 7 = .ok (.iconst 0, 1) := by decide +kernel
theorem d8 : decode yB 8 = .ok (.istore_n 2, 1) := by decide +kernel
theorem d9 : decode yB 9 = .ok (.iload_n 2, 1) := by decide +kernel
theorem d10 : decode yB 10 = .ok (.aload_n 0, 1) := by decide +kernel
theorem d11 : decode yB 11 = .ok (.arraylength, 1) := by decide +kernel
theorem d12 : decode yB 12 = .ok (.if_icmp (.ge) 20, 3) := by decide +kernel
theorem d15 : decode yB 15 = .ok (.aload_n 0, 1) := by decide +kernel
theorem d16 : decode yB 16 = .ok (.iload_n 2, 1) := by decide +kernel
theorem d17 : decode yB 17 = .ok (.baload, 1) := by decide +kernel
theorem d18 : decode yB 18 = .ok (.aload_n 1, 1) := by decide +kernel
theorem d19 : decode yB 19 = .ok (.iload_n 2, 1) := by decide +kernel
theorem d20 : decode yB 20 = .ok (.baload, 1) := by decide +kernel
theorem d21 : decode yB 21 = .ok (.if_icmp (.eq) 5, 3) := by decide +kernel
theorem d24 : decode yB 24 = .ok (.iconst 0, 1) := by decide +kernel
theorem d25 : decode yB 25 = .ok (.ireturn, 1) := by decide +kernel
theorem d26 : decode yB 26 = .ok (.iinc 2 1, 3) := by decide +kernel
theorem d29 : decode yB 29 = .ok (.goto (-20), 3) := by decide +kernel
theorem d32 : decode yB 32 = .ok (.iconst 1, 1) := by decide +kernel
theorem d33 : decode yB 33 = .ok (.ireturn, 1) := by decide +kernel
theorem d34 : decode yB 34 = .ok (.iconst 0, 1) := by decide +kernel
theorem d35 : decode yB 35 = .ok (.ireturn, 1) := by decide +kernel
def site : List Cond := []
def tab : Cond := tabOf yN yB 3 (some .boolean) site
def P (a : Addr) (A : Cell) (b : Addr) (B : Cell) (args : Array Value) (s : State) : Prop := args = #[.ref a, .ref b] ∧ XT.Arr .byte a A s ∧ Typed .byte A ∧ XT.Arr .byte b B s ∧ Typed .byte B
/-- whether two byte[] are equal, place for place -/
theorem law (l : Launch) (a : Addr) (A : Cell) (b : Addr) (B : Cell) : Law l yN 2 2 0 0 yB 3 (some .boolean) site (P a A b B) (Says01 (EqC A B)) [] 0 0 := by
  refine Law.of_walk (plainFor_of_name (by decide +kernel)) (by decide +kernel) (by decide +kernel) (by decide) (fun _ _ h => by rw [h.1]; rfl) (fun _ U U' hal hh h => ⟨h.1, h.2.1.mv hal hh, h.2.2.1, h.2.2.2.1.mv hal hh, h.2.2.2.2⟩) (fun r U U' V V' h1 hal h2 h => Says01.mv r U U' V V' h1 hal h2 h) ?_
  intro p e s m args below meth c s₁ X0 hexec hbytes hml hret hlk hnm hown hh0 W hP
  obtain ⟨rfl, hA, tA, hB, tB⟩ := hP
  have a31 := hA.2.2.2
  have b31 := hB.2.2.2
  have hA0 := hA.mv X0.warmed.alike hh0
  have hB0 := hB.mv X0.warmed.alike hh0
  have c1 : Steps p.tables e below (s₁.setTop (entryFrame m #[.ref a, .ref b] 3)) (s₁.setTop (mkF m 0 #[.val (.ref a), .val (.ref b), .unset] [])) := entry rfl
  have c2 : Steps p.tables e below (s₁.setTop (entryFrame m #[.ref a, .ref b] 3)) (s₁.setTop (mkF m 4 #[.val (.ref a), .val (.ref b), .unset] [.int (Int32.ofNat B.slots.size), .int (Int32.ofNat A.slots.size)])) := c1.trans (by
    refine XS.aloadN X0.here hexec rfl (hb hbytes d0) rfl rfl ?_
    refine X0.alen hexec hA0 rfl rfl (hb hbytes d1) ?_
    refine XS.aloadN X0.here hexec rfl (hb hbytes d2) rfl rfl ?_
    refine X0.alen hexec hB0 rfl rfl (hb hbytes d3) ?_
    exact Steps.refl _)
  by_cases hs : A.slots.size = B.slots.size
  · have c3 : Steps p.tables e below (s₁.setTop (entryFrame m #[.ref a, .ref b] 3)) (s₁.setTop (mkF m 9 #[.val (.ref a), .val (.ref b), .val (.int 0)] [])) := c2.trans (by
      refine XS.icmpNo X0.here hexec rfl (hb hbytes d4) rfl (ii_ne_f (by rw [hs])) ?_
      refine iconstV X0.here hexec rfl 0 (hb hbytes d7) (by decide) ?_
      refine XS.istoreN X0.here hexec rfl (hb hbytes d8) rfl rfl ?_
      exact Steps.refl _)
    have loop : ∀ (r i : Nat), i + r = A.slots.size → (∀ j, j < i → yv A j = yv B j) → Steps p.tables e below (s₁.setTop (entryFrame m #[.ref a, .ref b] 3)) (s₁.setTop (mkF m 9 #[.val (.ref a), .val (.ref b), .val (.int (Int32.ofNat i))] [])) → ∃ (pc : Nat) (Ls : Array Slot) (v : Int32), (pc = 25 ∨ pc = 33) ∧ ((v = 1 ∧ EqC A B) ∨ (v = 0 ∧ ¬ EqC A B)) ∧ Steps p.tables e below (s₁.setTop (entryFrame m #[.ref a, .ref b] 3)) (s₁.setTop (mkF m pc Ls [.int v])) := by
      intro r
      induction r with
      | zero =>
        intro i hi he cl
        exact ⟨33, _, 1, Or.inr rfl, Or.inl ⟨rfl, hs, fun j hj => he j (by omega)⟩, cl.trans (by
          refine XS.iloadN X0.here hexec rfl (hb hbytes d9) rfl ?_
          refine XS.aloadN X0.here hexec rfl (hb hbytes d10) rfl rfl ?_
          refine X0.alen hexec hA0 rfl rfl (hb hbytes d11) ?_
          refine XS.icmpYes X0.here hexec rfl (pc0 := 12) rfl (hb hbytes d12) rfl (ii_ge_t (nlt32 (by omega) (by omega))) (by decide) rfl ?_
          refine iconstV X0.here hexec rfl 1 (hb hbytes d32) (by decide) ?_
          exact Steps.refl _)⟩
      | succ r ih =>
        intro i hi he cl
        have c4 : Steps p.tables e below (s₁.setTop (entryFrame m #[.ref a, .ref b] 3)) (s₁.setTop (mkF m 21 #[.val (.ref a), .val (.ref b), .val (.int (Int32.ofNat i))] [.int (yv B i), .int (yv A i)])) := cl.trans (by
          refine XS.iloadN X0.here hexec rfl (hb hbytes d9) rfl ?_
          refine XS.aloadN X0.here hexec rfl (hb hbytes d10) rfl rfl ?_
          refine X0.alen hexec hA0 rfl rfl (hb hbytes d11) ?_
          refine XS.icmpNo X0.here hexec rfl (hb hbytes d12) rfl (ii_ge_f (lt32 (by omega) (by omega))) ?_
          refine XS.aloadN X0.here hexec rfl (hb hbytes d15) rfl rfl ?_
          refine XS.iloadN X0.here hexec rfl (hb hbytes d16) rfl ?_
          refine X0.aget hexec hA0 rfl (yv_get hA tA (i := i) (by omega)) rfl rfl (hb hbytes d17) ?_
          refine XS.aloadN X0.here hexec rfl (hb hbytes d18) rfl rfl ?_
          refine XS.iloadN X0.here hexec rfl (hb hbytes d19) rfl ?_
          refine X0.aget hexec hB0 rfl (yv_get hB tB (i := i) (by omega)) rfl rfl (hb hbytes d20) ?_
          exact Steps.refl _)
        by_cases hv : yv A i = yv B i
        · have c5 : Steps p.tables e below (s₁.setTop (entryFrame m #[.ref a, .ref b] 3)) (s₁.setTop (mkF m 9 #[.val (.ref a), .val (.ref b), .val (.int (Int32.ofNat i + 1))] [])) := c4.trans (by
            refine XS.icmpYes X0.here hexec rfl (pc0 := 21) rfl (hb hbytes d21) rfl (ii_eq_t hv) (by decide) rfl ?_
            refine iincV X0.here hexec rfl 1 (hb hbytes d26) (by decide) rfl rfl ?_
            refine XS.goto X0.here hexec rfl (pc0 := 29) rfl (hb hbytes d29) (by decide) rfl ?_
            exact Steps.refl _)
          rw [succ32] at c5
          exact ih (i + 1) (by omega) (fun j hj => by
            by_cases e : j = i
            · rw [e]; exact hv
            · exact he j (by omega)) c5
        · exact ⟨25, _, 0, Or.inl rfl, Or.inr ⟨rfl, fun q => hv (q.2 i (by omega))⟩, c4.trans (by
            refine XS.icmpNo X0.here hexec rfl (hb hbytes d21) rfl (ii_eq_f hv) ?_
            refine iconstV X0.here hexec rfl 0 (hb hbytes d24) (by decide) ?_
            exact Steps.refl _)⟩
    obtain ⟨pc, Ls, v, hpc, hv, cz⟩ := loop A.slots.size 0 (by omega) (fun j hj => absurd hj (Nat.not_lt_zero j)) c3
    have nv : narrow .boolean (.int v) = .int v := by rcases hv with ⟨rfl, -⟩ | ⟨rfl, -⟩ <;> rfl
    rcases hpc with rfl | rfl
    · exact ⟨s₁, some (.int v), _, _, _, X0, rfl, rfl, rfl, (fun h => by cases h), ⟨v, rfl, hh0, hv⟩, fun fs hl => cz.trans (X0.ireturnOut hexec hret nv (Or.inr (Or.inl rfl)) (hb hbytes d25) hl)⟩
    · exact ⟨s₁, some (.int v), _, _, _, X0, rfl, rfl, rfl, (fun h => by cases h), ⟨v, rfl, hh0, hv⟩, fun fs hl => cz.trans (X0.ireturnOut hexec hret nv (Or.inr (Or.inl rfl)) (hb hbytes d33) hl)⟩
  · have c3 : Steps p.tables e below (s₁.setTop (entryFrame m #[.ref a, .ref b] 3)) (s₁.setTop (mkF m 35 #[.val (.ref a), .val (.ref b), .unset] [.int 0])) := c2.trans (by
      refine XS.icmpYes X0.here hexec rfl (pc0 := 4) rfl (hb hbytes d4) rfl (ii_ne_t (ne32 a31 b31 hs)) (by decide) rfl ?_
      refine iconstV X0.here hexec rfl 0 (hb hbytes d34) (by decide) ?_
      exact Steps.refl _)
    exact ⟨s₁, some (.int 0), _, _, _, X0, rfl, rfl, rfl, (fun h => by cases h), ⟨0, rfl, hh0, Or.inr ⟨rfl, fun q => hs q.1⟩⟩, fun fs hl => c3.trans (X0.ireturnOut hexec hret rfl (Or.inr (Or.inl rfl)) (hb hbytes d35) hl)⟩
end LEq
theorem Cod.ty {cd : Int32} {n : Nat} {f : Nat → Int32} {V : Cell} (h : Cod cd n f V) : Typed .byte V := fun i v hv => by
  have hi : i < V.slots.size := (Array.getElem?_eq_some_iff.mp hv).1
  rcases h with ⟨-, k1, k2⟩ | ⟨-, k1, k2, -⟩
  · rw [(k2 i (by omega)).1] at hv; cases hv; exact fits_lo8 _
  · rcases Nat.mod_two_eq_zero_or_one i with e | e
    · obtain ⟨j, rfl⟩ : ∃ j, i = 2 * j := ⟨i / 2, by omega⟩
      rw [(k2 j (by omega)).1] at hv; cases hv; exact fits_lo8 _
    · obtain ⟨j, rfl⟩ : ∃ j, i = 2 * j + 1 := ⟨i / 2, by omega⟩
      rw [(k2 j (by omega)).2] at hv; cases hv; exact fits_lo8 _
/-- the same text -/
def SameT (n : Nat) (f : Nat → Int32) (k : Nat) (g : Nat → Int32) : Prop := n = k ∧ ∀ j, j < n → f j = g j
theorem lo8_inj {x y : Int32} (h0 : ¬ x < 0) (h1 : ¬ 255 < x) (k0 : ¬ y < 0) (k1 : ¬ 255 < y) (h : lo8 x = lo8 y) : x = y := by
  rw [← lo8_mask h0 h1, ← lo8_mask k0 k1, h]
/-- arrays coded by one coder are equal just where the texts are -/
theorem Cod.eqv {cd : Int32} {n k : Nat} {f g : Nat → Int32} {V V' : Cell} (h : Cod cd n f V) (h' : Cod cd k g V') (hf : ∀ j, j < n → ¬ f j < 0 ∧ ¬ 65535 < f j) (hg : ∀ j, j < k → ¬ g j < 0 ∧ ¬ 65535 < g j) : EqC V V' ↔ SameT n f k g := by
  have yvv : ∀ {W : Cell} {i : Nat} {x : Int32}, W.slots[i]? = some (.int x) → yv W i = x := fun q => by unfold yv; rw [q]
  rcases h with ⟨rfl, k1, k2⟩ | ⟨rfl, k1, k2, -⟩
  · rcases h' with ⟨-, m1, m2⟩ | ⟨e, -⟩
    · constructor
      · rintro ⟨e1, e2⟩
        refine ⟨by omega, fun j hj => ?_⟩
        have q := e2 j (by omega)
        rw [yvv (k2 j hj).1, yvv (m2 j (by omega)).1] at q
        exact lo8_inj (hf j hj).1 (k2 j hj).2 (hg j (by omega)).1 (m2 j (by omega)).2 q
      · rintro ⟨rfl, e2⟩
        refine ⟨by omega, fun j hj => ?_⟩
        rw [yvv (k2 j (by omega)).1, yvv (m2 j (by omega)).1, e2 j (by omega)]
    · exact absurd e (by decide)
  · rcases h' with ⟨e, -⟩ | ⟨-, m1, m2, -⟩
    · exact absurd e (by decide)
    · constructor
      · rintro ⟨e1, e2⟩
        refine ⟨by omega, fun j hj => ?_⟩
        have q1 := e2 (2 * j) (by omega)
        have q2 := e2 (2 * j + 1) (by omega)
        rw [yvv (k2 j hj).1, yvv (m2 j (by omega)).1] at q1
        rw [yvv (k2 j hj).2, yvv (m2 j (by omega)).2] at q2
        rw [← pair_says (hf j hj).1 (hf j hj).2, ← pair_says (hg j (by omega)).1 (hg j (by omega)).2, q1, q2]
      · rintro ⟨rfl, e2⟩
        refine ⟨by omega, fun i hi => ?_⟩
        rcases Nat.mod_two_eq_zero_or_one i with e | e
        · obtain ⟨j, rfl⟩ : ∃ j, i = 2 * j := ⟨i / 2, by omega⟩
          rw [yvv (k2 j (by omega)).1, yvv (m2 j (by omega)).1, e2 j (by omega)]
        · obtain ⟨j, rfl⟩ : ∃ j, i = 2 * j + 1 := ⟨i / 2, by omega⟩
          rw [yvv (k2 j (by omega)).2, yvv (m2 j (by omega)).2, e2 j (by omega)]
/-- two codings differ: so do the texts -/
theorem Cod.dif {cd cd' : Int32} {n k : Nat} {f g : Nat → Int32} {V V' : Cell} (h : Cod cd n f V) (h' : Cod cd' k g V') (hne : ¬ cd = cd') : ¬ SameT n f k g := by
  rintro ⟨rfl, e⟩
  rcases h with ⟨rfl, -, k2⟩ | ⟨rfl, -, -, j, hj, hw⟩
  · rcases h' with ⟨rfl, -⟩ | ⟨-, -, -, j, hj, hw⟩
    · exact hne rfl
    · exact (k2 j hj).2 (by rw [e j hj]; exact hw)
  · rcases h' with ⟨-, -, m2⟩ | ⟨rfl, -⟩
    · exact (m2 j hj).2 (by rw [← e j hj]; exact hw)
    · exact hne rfl
/-- an object of exactly C is an instance of C -/
theorem cinst {p : Program} {l : Launch} {e : Env} {R : Room} {s : State} {m : MethodId} {args : Array Value} {below : List Frame} {meth : Method} {c : Code} {T : State} {locs : List Loc} {cells slots : Nat} (X : Stand p l e R s m args below meth c T locs cells slots) (hexec : p.tables.exec = Jvm.exec) {own C : String} {index : Nat} (hown : s.vm.findClass own = some m.cls) (hlink : (Cond.classLink own index C).before args s = true) {a : Addr} (hE : Exact C a T)
    {g : JFrame} (hg : g.method = m) {rest : List Value} (hstack : g.stack = .ref a :: rest) (hdg : decode c.code g.pc = .ok (.instanceof index, 3)) :
    ∃ T', Stand p l e R s m args below meth c T' locs cells slots ∧ T'.heap = T.heap ∧ ∀ target, Steps p.tables e below (T'.setTop { g with pc := g.pc + 3, stack := .int 1 :: rest }) target → Steps p.tables e below (T.setTop g) target := by
  obtain ⟨cB, h1, D, h2, h3, h4⟩ := hE
  have h1' : s.vm.findClass C = some cB := by rw [← X.warmed.alike.findClass]; exact h1
  obtain ⟨vm', X', st⟩ := X.instanceofYes hexec hown hlink h2 h4 h1' (by rw [h3]; exact Jvm.Free.SB.assignable_self _ _) hg hstack hdg
  exact ⟨_, X', rfl, st⟩
theorem cself {p : Program} {l : Launch} {e : Env} {R : Room} {s : State} {m : MethodId} {args : Array Value} {below : List Frame} {meth : Method} {c : Code} {T : State} {locs : List Loc} {cells slots : Nat} (X : Stand p l e R s m args below meth c T locs cells slots) (hexec : p.tables.exec = Jvm.exec) {own C : String} {index : Nat} (hown : s.vm.findClass own = some m.cls) (hlink : (Cond.classLink own index C).before args s = true) {a : Addr} (hE : Exact C a T)
    {g : JFrame} (hg : g.method = m) {rest : List Value} (hstack : g.stack = .ref a :: rest) (hdg : decode c.code g.pc = .ok (.checkcast index, 3)) :
    ∃ T', Stand p l e R s m args below meth c T' locs cells slots ∧ T'.heap = T.heap ∧ ∀ target, Steps p.tables e below (T'.setTop { g with pc := g.pc + 3, stack := .ref a :: rest }) target → Steps p.tables e below (T.setTop g) target := by
  obtain ⟨cB, h1, D, h2, h3, h4⟩ := hE
  have h1' : s.vm.findClass C = some cB := by rw [← X.warmed.alike.findClass]; exact h1
  obtain ⟨vm', X', st⟩ := X.checkcastYes hexec hown hlink h2 h4 h1' (by rw [h3]; exact Jvm.Free.SB.assignable_self _ _) hg hstack hdg
  exact ⟨_, X', rfl, fun t h => st t (by rw [← hstack] at h; exact h)⟩
namespace SEq
def yN : MethodName := ⟨"java/lang/String", "equals", "(Ljava/lang/Object;)Z"⟩
abbrev yB : ByteArray := jdk_42_method_66_code
theorem d0 : decode yB 0 = .ok (.aload_n 0, 1) := by decide +kernel
theorem d1 : decode yB 1 = .ok (.aload_n 1, 1) := by decide +kernel
theorem d2 : decode yB 2 = .ok (.if_acmp (.ne) 5, 3) := by decide +kernel
theorem d5 : decode yB 5 = .ok (.iconst 1, 1) := by decide +kernel
theorem d6 : decode yB 6 = .ok (.ireturn, 1) := by decide +kernel
theorem d7 : decode yB 7 = .ok (.aload_n 1, 1) := by decide +kernel
theorem d8 : decode yB 8 = .ok (.instanceof 10, 3) := by decide +kernel
theorem d11 : decode yB 11 = .ok (.ifCond (.eq) 43, 3) := by decide +kernel
theorem d14 : decode yB 14 = .ok (.aload_n 1, 1) := by decide +kernel
theorem d15 : decode yB 15 = .ok (.checkcast 10, 3) := by decide +kernel
theorem d18 : decode yB 18 = .ok (.astore_n 2, 1) := by decide +kernel
theorem d19 : decode yB 19 = .ok (.getstatic 38, 3) := by decide +kernel
theorem d22 : decode yB 22 = .ok (.ifCond (.eq) 14, 3) := by decide +kernel
theorem d25 : decode yB 25 = .ok (.aload_n 0, 1) := by decide +kernel
theorem d26 : decode yB 26 = .ok (.getfield 15, 3) := by decide +kernel
theorem d29 : decode yB 29 = .ok (.aload_n 2, 1) := by decide +kernel
theorem d30 : decode yB 30 = .ok (.getfield 15, 3) := by decide +kernel
theorem d33 : decode yB 33 = .ok (.if_icmp (.ne) 21, 3) := by decide +kernel
theorem d36 : decode yB 36 = .ok (.aload_n 0, 1) := by decide +kernel
theorem d37 : decode yB 37 = .ok (.getfield 9, 3) := by decide +kernel
theorem d40 : decode yB 40 = .ok (.aload_n 2, 1) := by decide +kernel
theorem d41 : decode yB 41 = .ok (.getfield 9, 3) := by decide +kernel
theorem d44 : decode yB 44 = .ok (.invokestatic 541, 3) := by decide +kernel
theorem d47 : decode yB 47 = .ok (.ifCond (.eq) 7, 3) := by decide +kernel
theorem d50 : decode yB 50 = .ok (.iconst 1, 1) := by decide +kernel
theorem d51 : decode yB 51 = .ok (.goto 4, 3) := by decide +kernel
theorem d54 : decode yB 54 = .ok (.iconst 0, 1) := by decide +kernel
theorem d55 : decode yB 55 = .ok (.ireturn, 1) := by decide +kernel
def site : List Cond := [.classLink "java/lang/String" 10 "java/lang/String", .fieldLink "java/lang/String" 38 "java/lang/String" "COMPACT_STRINGS" "Z", .fieldLink "java/lang/String" 15 "java/lang/String" "coder" "B", .fieldLink "java/lang/String" 9 "java/lang/String" "value" "[B", LEq.tab] ++ staticW "java/lang/String" 541 LEq.yN
def tab : Cond := tabOf yN yB 3 (some .boolean) site
def P (x t : Addr) (V : Cell) (cd : Int32) (n : Nat) (f : Nat → Int32) (y t' : Addr) (V' : Cell) (cd' : Int32) (k : Nat) (g : Nat → Int32) (z : Int32) (args : Array Value) (s : State) : Prop := args = #[.ref x, .ref y] ∧ Txt x t V cd n f s ∧ Txt y t' V' cd' k g s ∧ StaticIs s "java/lang/String" "COMPACT_STRINGS" "Z" (.int z) ∧ ¬ z = 0
/-- equals(Object) of two Strings: whether the texts are the same -/
theorem law (l : Launch) (x t : Addr) (V : Cell) (cd : Int32) (n : Nat) (f : Nat → Int32) (y t' : Addr) (V' : Cell) (cd' : Int32) (k : Nat) (g : Nat → Int32) (z : Int32) : Law l yN 2 1 1 14 yB 3 (some .boolean) site (P x t V cd n f y t' V' cd' k g z) (Says01 (SameT n f k g)) [] 0 0 := by
  refine Law.of_walk (plainFor_of_name (by decide +kernel)) (by decide +kernel) (by decide +kernel) (by decide) (fun _ _ h => by rw [h.1]; rfl) (fun _ U U' hal hh h => ⟨h.1, h.2.1.mv hal hh, h.2.2.1.mv hal hh, h.2.2.2.1.there hal hh, h.2.2.2.2⟩) (fun r U U' V V' h1 hal h2 h => Says01.mv r U U' V V' h1 hal h2 h) ?_
  intro p e s m args below meth c s₁ X0 hexec hbytes hml hret hlk hnm hown hh0 W hP
  obtain ⟨rfl, hx, hy, s1, hz⟩ := hP
  have c1 : Steps p.tables e below (s₁.setTop (entryFrame m #[.ref x, .ref y] 3)) (s₁.setTop (mkF m 2 #[.val (.ref x), .val (.ref y), .unset] [.ref y, .ref x])) := Steps.trans (entry rfl) (by
    show Steps p.tables e below (s₁.setTop (mkF m 0 #[.val (.ref x), .val (.ref y), .unset] [])) _
    refine XS.aloadN X0.here hexec rfl (hb hbytes d0) rfl rfl ?_
    refine XS.aloadN X0.here hexec rfl (hb hbytes d1) rfl rfl ?_
    exact Steps.refl _)
  by_cases hxy : x = y
  · have c2 : Steps p.tables e below (s₁.setTop (entryFrame m #[.ref x, .ref y] 3)) (s₁.setTop (mkF m 6 #[.val (.ref x), .val (.ref y), .unset] [.int 1])) := c1.trans (by
      refine acmpNo X0.here hexec rfl (hb hbytes d2) rfl rfl rfl (by simp [acmp, hxy]) ?_
      refine iconstV X0.here hexec rfl 1 (hb hbytes d5) (by decide) ?_
      exact Steps.refl _)
    subst hxy
    have ec : cd = cd' := by
      obtain ⟨D, fd, a1, a2, a3⟩ := hx.2.2.1
      obtain ⟨D', fd', b1, b2, b3⟩ := hy.2.2.1
      cases a1.symm.trans b1
      obtain ⟨q1, q2, q3, q4⟩ := a2.1
      obtain ⟨r1, r2, r3, r4⟩ := b2.1
      cases q4.symm.trans r4
      cases a3.symm.trans b3; rfl
    have et : t = t' := by
      obtain ⟨D, fd, a1, a2, a3⟩ := hx.2.1
      obtain ⟨D', fd', b1, b2, b3⟩ := hy.2.1
      cases a1.symm.trans b1
      obtain ⟨q1, q2, q3, q4⟩ := a2.1
      obtain ⟨r1, r2, r3, r4⟩ := b2.1
      cases q4.symm.trans r4
      cases a3.symm.trans b3; rfl
    subst ec et
    have ev : V = V' := by cases hx.2.2.2.1.1.symm.trans hy.2.2.2.1.1; rfl
    subst ev
    have hs : SameT n f k g := (Cod.eqv hx.2.2.2.2.1 hy.2.2.2.2.1 hx.2.2.2.2.2 hy.2.2.2.2.2).mp ⟨rfl, fun _ _ => rfl⟩
    exact ⟨s₁, some (.int 1), _, _, _, X0, rfl, rfl, rfl, (fun h => by cases h), ⟨1, rfl, hh0, Or.inl ⟨rfl, hs⟩⟩, fun fs hl => c2.trans (X0.ireturnOut hexec hret rfl (Or.inr (Or.inl rfl)) (hb hbytes d6) hl)⟩
  · have c2 : Steps p.tables e below (s₁.setTop (entryFrame m #[.ref x, .ref y] 3)) (s₁.setTop (mkF m 8 #[.val (.ref x), .val (.ref y), .unset] [.ref y])) := c1.trans (by
      refine acmpYes X0.here hexec rfl (pc0 := 2) rfl (hb hbytes d2) rfl rfl rfl (by simp [acmp, hxy]) (by decide) rfl ?_
      refine XS.aloadN X0.here hexec rfl (hb hbytes d7) rfl rfl ?_
      exact Steps.refl _)
    obtain ⟨T3, X3, q3, st3⟩ := cinst X0 hexec hown (wk W (.classLink "java/lang/String" 10 "java/lang/String")) (hy.mv X0.warmed.alike hh0).1 (g := (mkF m 8 #[.val (.ref x), .val (.ref y), .unset] [.ref y])) rfl (rest := []) rfl (hb hbytes d8)
    have hh3 := q3.trans hh0
    have c4 : Steps p.tables e below (s₁.setTop (entryFrame m #[.ref x, .ref y] 3)) (T3.setTop (mkF m 15 #[.val (.ref x), .val (.ref y), .unset] [.ref y])) := (c2.trans (st3 _ (Steps.refl _))).trans (by
      refine XS.ifNo X3.here hexec rfl (hb hbytes d11) rfl (i0_eq_f (by decide)) ?_
      refine XS.aloadN X3.here hexec rfl (hb hbytes d14) rfl rfl ?_
      exact Steps.refl _)
    obtain ⟨T5, X5, q5, st5⟩ := cself X3 hexec hown (wk W (.classLink "java/lang/String" 10 "java/lang/String")) (hy.mv X3.warmed.alike hh3).1 (g := (mkF m 15 #[.val (.ref x), .val (.ref y), .unset] [.ref y])) rfl (rest := []) rfl (hb hbytes d15)
    have hh5 := q5.trans hh3
    have c6 : Steps p.tables e below (s₁.setTop (entryFrame m #[.ref x, .ref y] 3)) (T5.setTop (mkF m 19 #[.val (.ref x), .val (.ref y), .val (.ref y)] [])) := (c4.trans (st5 _ (Steps.refl _))).trans (by
      refine XS.astoreN X5.here hexec rfl (hb hbytes d18) rfl rfl rfl ?_
      exact Steps.refl _)
    obtain ⟨T7, X7, q7, st7⟩ := X5.sget hexec hown (wk W (.fieldLink "java/lang/String" 38 "java/lang/String" "COMPACT_STRINGS" "Z")) s1 (fun _ _ h => by rw [hh5]; exact h) (g := (mkF m 19 #[.val (.ref x), .val (.ref y), .val (.ref y)] [])) rfl (hb hbytes d19)
    have hh7 := q7.trans hh5
    have c8 : Steps p.tables e below (s₁.setTop (entryFrame m #[.ref x, .ref y] 3)) (T7.setTop (mkF m 26 #[.val (.ref x), .val (.ref y), .val (.ref y)] [.ref x])) := (c6.trans (st7 _ (Steps.refl _))).trans (by
      refine XS.ifNo X7.here hexec rfl (hb hbytes d22) rfl (i0_eq_f hz) ?_
      refine XS.aloadN X7.here hexec rfl (hb hbytes d25) rfl rfl ?_
      exact Steps.refl _)
    obtain ⟨T9, X9, q9, st9⟩ := X7.hget hexec hown (wk W (.fieldLink "java/lang/String" 15 "java/lang/String" "coder" "B")) (hx.mv X7.warmed.alike hh7).2.2.1 (g := (mkF m 26 #[.val (.ref x), .val (.ref y), .val (.ref y)] [.ref x])) rfl (rest := []) rfl (hb hbytes d26)
    have hh9 := q9.trans hh7
    have c10 : Steps p.tables e below (s₁.setTop (entryFrame m #[.ref x, .ref y] 3)) (T9.setTop (mkF m 30 #[.val (.ref x), .val (.ref y), .val (.ref y)] [.ref y, .int cd])) := (c8.trans (st9 _ (Steps.refl _))).trans (by
      refine XS.aloadN X9.here hexec rfl (hb hbytes d29) rfl rfl ?_
      exact Steps.refl _)
    obtain ⟨T11, X11, q11, st11⟩ := X9.hget hexec hown (wk W (.fieldLink "java/lang/String" 15 "java/lang/String" "coder" "B")) (hy.mv X9.warmed.alike hh9).2.2.1 (g := (mkF m 30 #[.val (.ref x), .val (.ref y), .val (.ref y)] [.ref y, .int cd])) rfl (rest := [.int cd]) rfl (hb hbytes d30)
    have hh11 := q11.trans hh9
    have c12 : Steps p.tables e below (s₁.setTop (entryFrame m #[.ref x, .ref y] 3)) (T11.setTop (mkF m 33 #[.val (.ref x), .val (.ref y), .val (.ref y)] [.int cd', .int cd])) := c10.trans (st11 _ (Steps.refl _))
    by_cases hcd : cd = cd'
    · subst hcd
      have c13 : Steps p.tables e below (s₁.setTop (entryFrame m #[.ref x, .ref y] 3)) (T11.setTop (mkF m 37 #[.val (.ref x), .val (.ref y), .val (.ref y)] [.ref x])) := c12.trans (by
        refine XS.icmpNo X11.here hexec rfl (hb hbytes d33) rfl (ii_ne_f rfl) ?_
        refine XS.aloadN X11.here hexec rfl (hb hbytes d36) rfl rfl ?_
        exact Steps.refl _)
      obtain ⟨T14, X14, q14, st14⟩ := X11.hget hexec hown (wk W (.fieldLink "java/lang/String" 9 "java/lang/String" "value" "[B")) (hx.mv X11.warmed.alike hh11).2.1 (g := (mkF m 37 #[.val (.ref x), .val (.ref y), .val (.ref y)] [.ref x])) rfl (rest := []) rfl (hb hbytes d37)
      have hh14 := q14.trans hh11
      have c15 : Steps p.tables e below (s₁.setTop (entryFrame m #[.ref x, .ref y] 3)) (T14.setTop (mkF m 41 #[.val (.ref x), .val (.ref y), .val (.ref y)] [.ref y, .ref t])) := (c13.trans (st14 _ (Steps.refl _))).trans (by
        refine XS.aloadN X14.here hexec rfl (hb hbytes d40) rfl rfl ?_
        exact Steps.refl _)
      obtain ⟨T16, X16, q16, st16⟩ := X14.hget hexec hown (wk W (.fieldLink "java/lang/String" 9 "java/lang/String" "value" "[B")) (hy.mv X14.warmed.alike hh14).2.1 (g := (mkF m 41 #[.val (.ref x), .val (.ref y), .val (.ref y)] [.ref y, .ref t])) rfl (rest := [.ref t]) rfl (hb hbytes d41)
      have hh16 := q16.trans hh14
      have c17 : Steps p.tables e below (s₁.setTop (entryFrame m #[.ref x, .ref y] 3)) (T16.setTop (mkF m 44 #[.val (.ref x), .val (.ref y), .val (.ref y)] [.ref t', .ref t])) := c15.trans (st16 _ (Steps.refl _))
      obtain ⟨v18, T18, X18, E18, g18⟩ := X16.callS hexec (LEq.law l t V t' V') hown (wks W (staticW "java/lang/String" 541 LEq.yN)) (wk W LEq.tab) (W := 0) (Nat.le_of_ble_eq_true rfl) (Nat.le_of_ble_eq_true rfl) (Nat.le_refl _) (Nat.le_refl _) (g := (mkF m 44 #[.val (.ref x), .val (.ref y), .val (.ref y)] [.ref t', .ref t])) rfl (by rw [hml]; rfl) c17 (argsL := [.ref t, .ref t']) (rest := []) rfl rfl (by show 2 * 0 + 0 ≤ _; decide) (hb hbytes d44) (⟨rfl, hx.2.2.2.1.mv X16.warmed.alike hh16, hx.2.2.2.2.1.ty, hy.2.2.2.1.mv X16.warmed.alike hh16, hy.2.2.2.2.1.ty⟩)
      obtain ⟨v, rfl, q18, hv⟩ := E18
      have iff := Cod.eqv hx.2.2.2.2.1 hy.2.2.2.2.1 hx.2.2.2.2.2 hy.2.2.2.2.2
      rcases hv with ⟨rfl, he⟩ | ⟨rfl, he⟩
      · have c19 : Steps p.tables e below (s₁.setTop (entryFrame m #[.ref x, .ref y] 3)) (T18.setTop (mkF m 55 #[.val (.ref x), .val (.ref y), .val (.ref y)] [.int 1])) := Steps.trans g18 (by
          refine XS.ifNo X18.here hexec rfl (hb hbytes d47) rfl (i0_eq_f (by decide)) ?_
          refine iconstV X18.here hexec rfl 1 (hb hbytes d50) (by decide) ?_
          refine XS.goto X18.here hexec rfl (pc0 := 51) rfl (hb hbytes d51) (by decide) rfl ?_
          exact Steps.refl _)
        exact ⟨T18, some (.int 1), _, _, _, X18, rfl, rfl, rfl, (fun h => by cases h), ⟨1, rfl, q18.trans hh16, Or.inl ⟨rfl, iff.mp he⟩⟩, fun fs hl => c19.trans (X18.ireturnOut hexec hret rfl (Or.inr (Or.inl rfl)) (hb hbytes d55) hl)⟩
      · have c19 : Steps p.tables e below (s₁.setTop (entryFrame m #[.ref x, .ref y] 3)) (T18.setTop (mkF m 55 #[.val (.ref x), .val (.ref y), .val (.ref y)] [.int 0])) := Steps.trans g18 (by
          refine XS.ifYes X18.here hexec rfl (pc0 := 47) rfl (hb hbytes d47) rfl (i0_eq_t rfl) (by decide) rfl ?_
          refine iconstV X18.here hexec rfl 0 (hb hbytes d54) (by decide) ?_
          exact Steps.refl _)
        exact ⟨T18, some (.int 0), _, _, _, X18, rfl, rfl, rfl, (fun h => by cases h), ⟨0, rfl, q18.trans hh16, Or.inr ⟨rfl, fun q => he (iff.mpr q)⟩⟩, fun fs hl => c19.trans (X18.ireturnOut hexec hret rfl (Or.inr (Or.inl rfl)) (hb hbytes d55) hl)⟩
    · have c13 : Steps p.tables e below (s₁.setTop (entryFrame m #[.ref x, .ref y] 3)) (T11.setTop (mkF m 55 #[.val (.ref x), .val (.ref y), .val (.ref y)] [.int 0])) := c12.trans (by
        refine XS.icmpYes X11.here hexec rfl (pc0 := 33) rfl (hb hbytes d33) rfl (ii_ne_t hcd) (by decide) rfl ?_
        refine iconstV X11.here hexec rfl 0 (hb hbytes d54) (by decide) ?_
        exact Steps.refl _)
      exact ⟨T11, some (.int 0), _, _, _, X11, rfl, rfl, rfl, (fun h => by cases h), ⟨0, rfl, hh11, Or.inr ⟨rfl, Cod.dif hx.2.2.2.2.1 hy.2.2.2.2.1 hcd⟩⟩, fun fs hl => c13.trans (X11.ireturnOut hexec hret rfl (Or.inr (Or.inl rfl)) (hb hbytes d55) hl)⟩
theorem pays {l : Launch} {R : Room} {p : Program} {e : Env} {below : List Frame} {s : State} {sargs : Array Value} {len W : Nat} (x t : Addr) (V : Cell) (cd : Int32) (n : Nat) (f : Nat → Int32) (y t' : Addr) (V' : Cell) (cd' : Int32) (k : Nat) (g : Nat → Int32) (z : Int32) (htab : tab.before sargs s = true) (hfr : 2 ≤ R.frames) (hlo : W + 28 ≤ R.locals) :
    Back l R p e below s sargs yN len W (fun A₁ a₁ => A₁.cells + 0 ≤ R.cells ∧ A₁.slots + 0 ≤ R.slots ∧ P x t V cd n f y t' V' cd' k g z a₁ A₁.U) (fun A₁ _ v₁ B₁ => Says01 (SameT n f k g) v₁ A₁.U B₁.U ∧ B₁.locs = A₁.locs ++ [] ∧ B₁.cells = A₁.cells + 0 ∧ B₁.slots = A₁.slots + 0) :=
  (law l x t V cd n f y t' V' cd' k g z).pays htab hfr (by omega)
end SEq
end StrChars
namespace StrChars.Road
open Jvm Sem ClassFile Op Lib Jvm.Stand Jvm.Free Jvm.Free.XT
open Jvm.Lib.Cold (StaticIs)
/-- the words of String.equals(Object) -/
abbrev wordsEq : List Jvm.Cond := [.code SEq.yN SEq.yB 3 (some .boolean), .initialized ST, .classLink ST 10 ST, .fieldLink ST 38 ST "COMPACT_STRINGS" "Z", .fieldLink ST 15 ST "coder" "B", .fieldLink ST 9 ST "value" "[B", .methodLink ST 541 LEq.yN, .static LEq.yN, .code LEq.yN LEq.yB 3 (some .boolean), .initialized "java/lang/StringLatin1"]
theorem tabEq_of {a : Array Value} {s : State} (h : ∀ w ∈ wordsEq, w.before a s = true) : SEq.tab.before a s = true := by
  have hl : LEq.tab.before a s = true := unparts (wk h (.code LEq.yN LEq.yB 3 (some .boolean))) (wks h (.initialized LEq.yN.cls :: LEq.site))
  have q := consq hl h
  exact unparts (wk q (.code SEq.yN SEq.yB 3 (some .boolean))) (wks q (.initialized SEq.yN.cls :: SEq.site))
theorem movedEq {Z s : State} {a0 args : Array Value} (hZ : Z.Warmed39 s.vm) (hw : ∀ d ∈ wordsEq, d.before a0 Z = true) : ∀ d ∈ wordsEq, d.before args s = true := fun d hd => by
  have t : ∀ d ∈ wordsEq, (d.onTables && d.keepsFace) = true := by decide +kernel
  exact RoadKit.mv hZ (hw d hd) (t d hd)
/-- the road's facts of a String, as the laws ask it -/
theorem txt_of {Z U : State} {a0 : Array Value} {kI : Nat} (wi : (Jvm.Cond.instantiable ST kI).before a0 Z = true) (al : Z.vm.Alike U.vm) {x t : Addr} {kb : ClassId} {cs : List Int32} {cd N2 : Int32} {vs : List Value} (E : RoadKit.Exa Z U.heap x ST) (V : RoadKit.Fld Z U.heap x ST "value" "[B" (.ref t)) (C : RoadKit.Fld Z U.heap x ST "coder" "B" (.int cd)) (K : RoadKit.Arv Z U.heap t kb .byte N2 vs (.int 0)) (hc : CodA cs cd N2 vs) (hb : ∀ c ∈ cs, ¬ c < 0 ∧ ¬ (65535 : Int32) < c) (l2 : cs.length ≤ 4000) :
    ∃ A, Txt x t A cd cs.length (fun j => cs.getD j 0) U := by
  obtain ⟨A, K1, K2, K3, K4, K5, K6⟩ := K
  have hcod := hc.cod (by omega) K3 K5
  obtain ⟨D, fV, fC, hB, F1, F2, g1, g2, -, -⟩ := strObj wi al E V C
  exact ⟨A, ⟨_, hB.2.2.1, D, hB.1, rfl, by cases q : D.vm <;> first | rfl | exact absurd q (hB.2.1.2 _)⟩, Has.of hB F1 g1, Has.of hB F2 g2, ⟨K1.1, State.isArrayOf_alike al K1.2.1, K1.2.2, by rcases hcod with ⟨-, q, -⟩ | ⟨-, q, -⟩ <;> omega⟩, hcod, fun j hj => by
    have e : cs.getD j 0 = cs[j] := by simp [List.getD_eq_getElem?_getD, hj]
    show ¬ cs.getD j 0 < 0 ∧ ¬ 65535 < cs.getD j 0
    rw [e]; exact hb _ (List.getElem_mem _)⟩
theorem same_list (cs ds : List Int32) : SameT cs.length (fun j => cs.getD j 0) ds.length (fun j => ds.getD j 0) ↔ cs = ds := by
  constructor
  · rintro ⟨e, q⟩
    refine List.ext_getElem e fun j h1 h2 => ?_
    have := q j h1
    simpa [List.getD_eq_getElem?_getD, h1, h2] using this
  · rintro rfl
    exact ⟨rfl, fun _ _ => rfl⟩
/-- **equals(Object) OF TWO SUCH STRINGS**: 1 just where the chars are the same -/
theorem eqW {p : Program} {l : Launch} {e : Env} {R : Room} {s : State} {args : Array Value} {below : List Frame} {len W : Nat} {Z : State} {a0 : Array Value} {h : Heap} (hZ : Z.Warmed39 s.vm) (hw : ∀ d ∈ wordsEq, d.before a0 Z = true) {kI : Nat} (wi : (Jvm.Cond.instantiable ST kI).before a0 Z = true)
    {x t : Addr} {kb : ClassId} {cs : List Int32} {cd N2 : Int32} {vs : List Value} (E : RoadKit.Exa Z h x ST) (V : RoadKit.Fld Z h x ST "value" "[B" (.ref t)) (C : RoadKit.Fld Z h x ST "coder" "B" (.int cd)) (K : RoadKit.Arv Z h t kb .byte N2 vs (.int 0)) (hc : CodA cs cd N2 vs) (hb : ∀ c ∈ cs, ¬ c < 0 ∧ ¬ (65535 : Int32) < c) (l2 : cs.length ≤ 4000)
    {y t' : Addr} {kb' : ClassId} {ds : List Int32} {cd' N2' : Int32} {vs' : List Value} (E' : RoadKit.Exa Z h y ST) (V' : RoadKit.Fld Z h y ST "value" "[B" (.ref t')) (C' : RoadKit.Fld Z h y ST "coder" "B" (.int cd')) (K' : RoadKit.Arv Z h t' kb' .byte N2' vs' (.int 0)) (hc' : CodA ds cd' N2' vs') (hb' : ∀ c ∈ ds, ¬ c < 0 ∧ ¬ (65535 : Int32) < c) (l2' : ds.length ≤ 4000)
    {z : Int32} (S : RoadKit.Sta Z h ST "COMPACT_STRINGS" "Z" (.int z)) (hz : ¬ z = 0) (hfr : 2 ≤ R.frames) (hlo : W + 28 ≤ R.locals) :
    Back l R p e below s args (⟨"java/lang/String", "equals", "(Ljava/lang/Object;)Z"⟩ : MethodName) len W (fun P a => a = #[.ref x, .ref y] ∧ P.U.heap = h ∧ P.cells + 0 ≤ R.cells ∧ P.slots + 0 ≤ R.slots)
      (fun P _ v B => ∃ L, (((v = some (.int 1) ∧ cs = ds) ∨ (v = some (.int 0) ∧ ¬ cs = ds)) ∧ L = [] ∧ B.U.heap = h) ∧ B.locs = P.locs ++ L ∧ B.cells = P.cells + 0 ∧ B.slots = P.slots + 0) := by
  intro m meth c P g ig mk a X hg hsize hdg hW hn hp'
  obtain ⟨rfl, rfl, r1, r2⟩ := hp'
  have al : Z.vm.Alike P.U.vm := hZ.alike.trans X.warmed.alike
  obtain ⟨A, hx⟩ := txt_of wi al E V C K hc hb l2
  obtain ⟨A', hy⟩ := txt_of wi al E' V' C' K' hc' hb' l2'
  obtain ⟨v, B, X', ⟨⟨w, hv, hh, hq⟩, hl, hk, hs⟩, st⟩ := SEq.pays x t A cd cs.length (fun j => cs.getD j 0) y t' A' cd' ds.length (fun j => ds.getD j 0) z (tabEq_of (movedEq hZ hw)) hfr hlo m meth c P g ig mk _ X hg hsize hdg hW hn ⟨r1, r2, rfl, hx, hy, sta_is al S, hz⟩
  refine ⟨v, B, X', ⟨[], ⟨?_, rfl, hh⟩, hl, hk, hs⟩, st⟩
  rcases hq with ⟨rfl, q⟩ | ⟨rfl, q⟩
  · exact Or.inl ⟨hv, (same_list cs ds).mp q⟩
  · exact Or.inr ⟨hv, fun e => q ((same_list cs ds).mpr e)⟩
end StrChars.Road
namespace StrChars
open Jvm Sem ClassFile Op Lib Jvm.Stand Jvm.Free.XT Jvm.Free.ALB Jvm.Free.JM Jvm.Free
open Jvm.Lib.Cold (StaticIs)
namespace ChN
def yN : MethodName := ⟨"java/lang/String", "charAt", "(I)C"⟩
abbrev yB : ByteArray := jdk_42_method_56_code
theorem d0 : decode yB 0 = .ok (.aload_n 0, 1) := by decide +kernel
theorem d1 : decode yB 1 = .ok (.invokevirtual 492, 3) := by decide +kernel
theorem d4 : decode yB 4 = .ok (.ifCond (.eq) 12, 3) := by decide +kernel
theorem d7 : decode yB 7 = .ok (.aload_n 0, 1) := by decide +kernel
theorem d8 : decode yB 8 = .ok (.getfield 9, 3) := by decide +kernel
theorem d11 : decode yB 11 = .ok (.iload_n 1, 1) := by decide +kernel
theorem d12 : decode yB 12 = .ok (.invokestatic 495, 3) := by decide +kernel
theorem d15 : decode yB 15 = .ok (.ireturn, 1) := by decide +kernel
def site : List Cond := [.fieldLink "java/lang/String" 9 "java/lang/String" "value" "[B", IsL.tab, LChA.tab] ++ virtW "java/lang/String" 492 "java/lang/String" IsL.yN IsL.yN ++ staticW "java/lang/String" 495 LChA.yN
def tab : Cond := tabOf yN yB 2 (some .char) site
def P (x t : Addr) (V : Cell) (n : Nat) (f : Nat → Int32) (z : Int32) (fm : Value) (i : Nat) (args : Array Value) (s : State) : Prop := args = #[.ref x, .int (Int32.ofNat i)] ∧ Txt x t V 0 n f s ∧ i < n ∧ StaticIs s "java/lang/String" "COMPACT_STRINGS" "Z" (.int z) ∧ ¬ z = 0 ∧ StaticIs s "jdk/internal/util/Preconditions" "SIOOBE_FORMATTER" "Ljava/util/function/BiFunction;" fm ∧ fm.isRef = true
def E (f : Nat → Int32) (i : Nat) (r : Option Value) (s u : State) : Prop := XT.PureE (some (.int (f i))) r s u
/-- charAt(i) of a Latin-1 String of n chars, i < n: f i -/
theorem law (l : Launch) (x t : Addr) (V : Cell) (n : Nat) (f : Nat → Int32) (z : Int32) (fm : Value) (i : Nat) : Law l yN 2 1 3 40 yB 2 (some .char) site (P x t V n f z fm i) (E f i) [] 0 0 := by
  refine Law.of_walk (plainFor_of_name (by decide +kernel)) (by decide +kernel) (by decide +kernel) (by decide) (fun _ _ h => by rw [h.1]; rfl) (fun _ U U' hal hh h => ⟨h.1, h.2.1.mv hal hh, h.2.2.1, h.2.2.2.1.there hal hh, h.2.2.2.2.1, h.2.2.2.2.2.1.there hal hh, h.2.2.2.2.2.2⟩) (fun r U U' V V' h1 hal h2 h => XT.PureE.mv r U U' V V' h1 hal h2 h) ?_
  intro p e s m args below meth c s₁ X0 hexec hbytes hml hret hlk hnm hown hh0 W hP
  obtain ⟨rfl, hx, hi, s1, hz, s3, rf⟩ := hP
  have v31 := hx.2.2.2.1.2.2.2
  have hr := hx.2.2.2.2.2 i hi
  have hx0 := hx.mv X0.warmed.alike hh0
  have c1 : Steps p.tables e below (s₁.setTop (entryFrame m #[.ref x, .int (Int32.ofNat i)] 2)) (s₁.setTop (mkF m 1 #[.val (.ref x), .val (.int (Int32.ofNat i))] [.ref x])) := Steps.trans (entry rfl) (by
    show Steps p.tables e below (s₁.setTop (mkF m 0 #[.val (.ref x), .val (.int (Int32.ofNat i))] [])) _
    refine XS.aloadN X0.here hexec rfl (hb hbytes d0) rfl rfl ?_
    exact Steps.refl _)
  obtain ⟨v2, T2, X2, E2, g2⟩ := X0.callV hexec (IsL.law l x 0 z) hown (wks W (virtW "java/lang/String" 492 "java/lang/String" IsL.yN IsL.yN)) rfl (by decide) (wk W IsL.tab) (W := 0) (Nat.le_of_ble_eq_true rfl) (Nat.le_of_ble_eq_true rfl) (Nat.le_refl _) (Nat.le_refl _) (hx0.1.fc X0.warmed.alike) hx0.1.is (g := (mkF m 1 #[.val (.ref x), .val (.int (Int32.ofNat i))] [.ref x])) rfl (by rw [hml]; rfl) c1 (argsL := []) (rest := []) rfl rfl (by show 2 * 0 + 0 ≤ _; decide) (hb hbytes d1) (⟨rfl, hx0.2.2.1, hx.2.2.2.2.1.cd, s1.there X0.warmed.alike hh0, hz⟩)
  obtain ⟨rfl, q2⟩ := E2
  have hh2 := q2.trans hh0
  have hx2 := hx.mv X2.warmed.alike hh2
  obtain ⟨-, k1, k2⟩ | ⟨k0, -⟩ := hx.2.2.2.2.1
  · have c3 : Steps p.tables e below (s₁.setTop (entryFrame m #[.ref x, .int (Int32.ofNat i)] 2)) (T2.setTop (mkF m 8 #[.val (.ref x), .val (.int (Int32.ofNat i))] [.ref x])) := Steps.trans g2 (by
      refine XS.ifNo X2.here hexec rfl (hb hbytes d4) rfl (i0_eq_f (by decide)) ?_
      refine XS.aloadN X2.here hexec rfl (hb hbytes d7) rfl rfl ?_
      exact Steps.refl _)
    obtain ⟨T4, X4, q4, st4⟩ := X2.hget hexec hown (wk W (.fieldLink "java/lang/String" 9 "java/lang/String" "value" "[B")) hx2.2.1 (g := (mkF m 8 #[.val (.ref x), .val (.int (Int32.ofNat i))] [.ref x])) rfl (rest := []) rfl (hb hbytes d8)
    have hh4 := q4.trans hh2
    have c5 : Steps p.tables e below (s₁.setTop (entryFrame m #[.ref x, .int (Int32.ofNat i)] 2)) (T4.setTop (mkF m 12 #[.val (.ref x), .val (.int (Int32.ofNat i))] [.int (Int32.ofNat i), .ref t])) := (c3.trans (st4 _ (Steps.refl _))).trans (by
      refine XS.iloadN X4.here hexec rfl (hb hbytes d11) rfl ?_
      exact Steps.refl _)
    obtain ⟨v6, T6, X6, E6, g6⟩ := X4.callS hexec (LChA.law l t V i (lo8 (f i)) fm) hown (wks W (staticW "java/lang/String" 495 LChA.yN)) (wk W LChA.tab) (W := 0) (Nat.le_of_ble_eq_true rfl) (Nat.le_of_ble_eq_true rfl) (Nat.le_refl _) (Nat.le_refl _) (g := (mkF m 12 #[.val (.ref x), .val (.int (Int32.ofNat i))] [.int (Int32.ofNat i), .ref t])) rfl (by rw [hml]; rfl) c5 (argsL := [.ref t, .int (Int32.ofNat i)]) (rest := []) rfl rfl (by show 2 * 0 + 0 ≤ _; decide) (hb hbytes d12) (⟨rfl, hx.2.2.2.1.mv X4.warmed.alike hh4, (k2 i hi).1, s3.there X4.warmed.alike hh4, rf⟩)
    obtain ⟨rfl, q6⟩ := E6
    rw [chr8_lo8 hr.1 (k2 i hi).2] at g6
    exact ⟨T6, some (.int (f i)), _, _, _, X6, rfl, rfl, rfl, (fun h => by cases h), ⟨rfl, q6.trans hh4⟩, fun fs hl => Steps.trans g6 (X6.ireturnOut hexec hret (narrow_ch hr.1 hr.2) (Or.inr (Or.inr (Or.inr (Or.inl rfl)))) (hb hbytes d15) hl)⟩
  · exact absurd k0 (by decide)
theorem pays {l : Launch} {R : Room} {p : Program} {e : Env} {below : List Frame} {s : State} {sargs : Array Value} {len W : Nat} (x t : Addr) (V : Cell) (n : Nat) (f : Nat → Int32) (z : Int32) (fm : Value) (i : Nat) (htab : tab.before sargs s = true) (hfr : 4 ≤ R.frames) (hlo : W + 53 ≤ R.locals) :
    Back l R p e below s sargs yN len W (fun A₁ a₁ => A₁.cells + 0 ≤ R.cells ∧ A₁.slots + 0 ≤ R.slots ∧ P x t V n f z fm i a₁ A₁.U) (fun A₁ _ v₁ B₁ => E f i v₁ A₁.U B₁.U ∧ B₁.locs = A₁.locs ++ [] ∧ B₁.cells = A₁.cells + 0 ∧ B₁.slots = A₁.slots + 0) :=
  (law l x t V n f z fm i).pays htab hfr (by omega)
end ChN
end StrChars
namespace StrChars.Road
open Jvm Sem ClassFile Op Lib Jvm.Stand Jvm.Free Jvm.Free.XT
open Jvm.Lib.Cold (StaticIs)
/-- the words of String.charAt(int), the Latin-1 road alone -/
abbrev wordsChN : List Jvm.Cond := [.code ChN.yN ChN.yB 2 (some .char), .initialized ST, .fieldLink ST 9 ST "value" "[B", .fieldLink ST 38 ST "COMPACT_STRINGS" "Z", .fieldLink ST 15 ST "coder" "B", .code IsL.yN IsL.yB 1 (some .boolean), .methodLink ST 492 IsL.yN, .declares IsL.yN, .selects ST IsL.yN IsL.yN, .instanceMethod IsL.yN,
  .methodLink ST 495 LChA.yN, .static LChA.yN, .code LChA.yN LChA.yB 2 (some .char), .initialized "java/lang/StringLatin1", .methodLink "java/lang/StringLatin1" 9 JO.Str_checkIndex.yN, .static JO.Str_checkIndex.yN, .code JO.Str_checkIndex.yN JO.Str_checkIndex.yB 2 none,
  .fieldLink ST 1053 "jdk/internal/util/Preconditions" "SIOOBE_FORMATTER" "Ljava/util/function/BiFunction;", .methodLink ST 1059 JC.PreCheck.yN, .static JC.PreCheck.yN, .code JC.PreCheck.yN JC.PreCheck.yB 3 (some .int), .initialized "jdk/internal/util/Preconditions"]
theorem tabChN_of {a : Array Value} {s : State} (h : ∀ w ∈ wordsChN, w.before a s = true) : ChN.tab.before a s = true := by
  have hp : JC.PreCheck.tab.before a s = true := unparts (wk h (.code JC.PreCheck.yN JC.PreCheck.yB 3 (some .int))) (wks h (.initialized JC.PreCheck.yN.cls :: JC.PreCheck.site))
  have qk := consq hp h
  have hk : JO.Str_checkIndex.tab.before a s = true := unparts (wk qk (.code JO.Str_checkIndex.yN JO.Str_checkIndex.yB 2 none)) (wks qk (.initialized JO.Str_checkIndex.yN.cls :: JO.Str_checkIndex.site))
  have ql := consq hk h
  have hl : LChA.tab.before a s = true := unparts (wk ql (.code LChA.yN LChA.yB 2 (some .char))) (wks ql (.initialized LChA.yN.cls :: LChA.site))
  have hi : IsL.tab.before a s = true := unparts (wk h (.code IsL.yN IsL.yB 1 (some .boolean))) (wks h (.initialized IsL.yN.cls :: IsL.site))
  have q := consq hi (consq hl h)
  exact unparts (wk q (.code ChN.yN ChN.yB 2 (some .char))) (wks q (.initialized ChN.yN.cls :: ChN.site))
theorem movedChN {Z s : State} {a0 args : Array Value} (hZ : Z.Warmed39 s.vm) (hw : ∀ d ∈ wordsChN, d.before a0 Z = true) : ∀ d ∈ wordsChN, d.before args s = true := fun d hd => by
  have t : ∀ d ∈ wordsChN, (d.onTables && d.keepsFace) = true := by decide +kernel
  exact RoadKit.mv hZ (hw d hd) (t d hd)
/-- **charAt(i) OF A LATIN-1 STRING**, i < n: the char -/
theorem chN {p : Program} {l : Launch} {e : Env} {R : Room} {s : State} {args : Array Value} {below : List Frame} {len W : Nat} {Z : State} {a0 : Array Value} {h : Heap} (hZ : Z.Warmed39 s.vm) (hw : ∀ d ∈ wordsChN, d.before a0 Z = true) {kI : Nat} (wi : (Jvm.Cond.instantiable ST kI).before a0 Z = true)
    {x t : Addr} {kb : ClassId} {cs : List Int32} {N2 z : Int32} {vs : List Value} {fm : Value} {i : Nat} {j : Int32} (E : RoadKit.Exa Z h x ST) (V : RoadKit.Fld Z h x ST "value" "[B" (.ref t)) (C : RoadKit.Fld Z h x ST "coder" "B" (.int 0)) (K : RoadKit.Arv Z h t kb .byte N2 vs (.int 0)) (hc : CodA cs 0 N2 vs) (hb : ∀ c ∈ cs, ¬ c < 0 ∧ ¬ (65535 : Int32) < c)
    (S : RoadKit.Sta Z h ST "COMPACT_STRINGS" "Z" (.int z)) (hz : ¬ z = 0) (F : RoadKit.Sta Z h "jdk/internal/util/Preconditions" "SIOOBE_FORMATTER" "Ljava/util/function/BiFunction;" fm) (rf : fm.isRef = true) (l2 : cs.length ≤ 4000) (hi : i < cs.length) (hj : j = Int32.ofNat i) (hfr : 4 ≤ R.frames) (hlo : W + 53 ≤ R.locals) :
    Back l R p e below s args (⟨"java/lang/String", "charAt", "(I)C"⟩ : MethodName) len W (fun P a => a = #[.ref x, .int j] ∧ P.U.heap = h ∧ P.cells + 0 ≤ R.cells ∧ P.slots + 0 ≤ R.slots)
      (fun P _ v B => ∃ L, (v = some (.int (cs.getD i 0)) ∧ L = [] ∧ B.U.heap = h) ∧ B.locs = P.locs ++ L ∧ B.cells = P.cells + 0 ∧ B.slots = P.slots + 0) := by
  subst hj
  intro m meth c P g ig mk a X hg hsize hdg hW hn hp'
  obtain ⟨rfl, rfl, r1, r2⟩ := hp'
  have al : Z.vm.Alike P.U.vm := hZ.alike.trans X.warmed.alike
  obtain ⟨A, hx⟩ := txt_of wi al E V C K hc hb l2
  obtain ⟨v, B, X', ⟨⟨hv, hh⟩, hl, hk, hs⟩, st⟩ := ChN.pays x t A cs.length (fun j => cs.getD j 0) z fm i (tabChN_of (movedChN hZ hw)) hfr hlo m meth c P g ig mk _ X hg hsize hdg hW hn ⟨r1, r2, rfl, hx, hi, sta_is al S, hz, sta_is al F, rf⟩
  exact ⟨v, B, X', ⟨[], ⟨hv, rfl, hh⟩, hl, hk, hs⟩, st⟩
end StrChars.Road
end Jvm.Pilot.@@N@@

namespace Jvm.Pilot.@@N@@
namespace Own
open Jvm Jvm.ClassFile Sem Op Lib Jvm.Free Jvm.Stand Jvm.LawKit Jvm.RoadKit Bundle
section StrB
variable {p : Program} {l : Launch} {e : Env} {R : Room} {s : State} {args : Array Value} {below : List Frame} {W : Nat} {Z : State} {a0 : Array Value} {h : Heap} {z : Int32} {kI n0 : Nat}
def QPure (w : Value) (h : Heap) (n0 : Nat) (v : Option Value) (h' : Heap) (L : List Loc) : Prop := v = some w ∧ Fr n0 L ∧ h' = h
def QNew (Z : State) (x : Addr) (cs : List Int32) (h : Heap) (n0 : Nat) (v : Option Value) (h' : Heap) (L : List Loc) : Prop := v = none ∧ Fr n0 L ∧ Keep h h' [x] ∧ Str Z h' x cs
theorem newB (hZ : Z.Warmed39 s.vm) (hw : ∀ d ∈ StrChars.Road.words, d.before a0 Z = true) (wi : (Jvm.Cond.instantiable "java/lang/String" kI).before a0 Z = true) {x b : Addr} {kC : ClassId} {cs : List Int32} {d v0 c0 : Value} {N : Int32} {n : Nat} (hx0 : n0 ≤ x) (hh0 : n0 ≤ h.size) (E : Exa Z h x "java/lang/String") (V : Fld Z h x "java/lang/String" "value" "[B" v0) (C : Fld Z h x "java/lang/String" "coder" "B" c0) (K : Arv Z h b kC .char N (cs.map Value.int) d) (S : Sta Z h "java/lang/String" "COMPACT_STRINGS" "Z" (.int z)) (hz : ¬ z = 0)
    (hn : cs.length = n) (hN : N = Int32.ofNat n) (l0 : 0 < n) (l2 : n ≤ 4000) (hp : ∀ c ∈ cs, ¬ c < 0 ∧ ¬ (255 : Int32) < c) (hfr : 4 ≤ R.frames) (hlo : W + 65 ≤ R.locals) :
    Back l R p e below s args (⟨"java/lang/String", "<init>", "([C)V"⟩ : MethodName) 3 W (fun A a => a = #[.ref x, .ref b] ∧ A.U.heap = h ∧ A.cells + 1 ≤ R.cells ∧ A.slots + n ≤ R.slots)
      (fun A _ v B => ∃ L, QNew Z x cs h n0 v B.U.heap L ∧ B.locs = A.locs ++ L ∧ B.cells = A.cells + 1 ∧ B.slots = A.slots + n) := by
  subst hn hN
  refine Back.mono (StrChars.Road.backV hZ hw wi (cs := cs) (n0 := n0) hx0 hh0 E V C K S hz rfl rfl l0 l2 hp rfl hfr hlo) (fun _ _ q => q) (fun P a v B _ hq => ?_)
  obtain ⟨L, ⟨q1, q2, q3, q4, q5, t, kb, -, -, -, q6, q7⟩, r⟩ := hq
  exact ⟨L, ⟨q1, q2, q3, ⟨t, kb, q4, q6, q5, q7⟩, hp, l2⟩, r⟩
theorem Str.cod {cs : List Int32} (hb : ∀ c ∈ cs, ¬ c < 0 ∧ ¬ (255 : Int32) < c) : StrChars.Road.CodA cs 0 (Int32.ofNat cs.length) ((cs.map fun c => c.toInt8.toInt32).map Value.int) := Or.inl ⟨rfl, rfl, by rw [List.map_map]; rfl, fun c hc => (hb c hc).2⟩
theorem lenB (hZ : Z.Warmed39 s.vm) (hw : ∀ d ∈ StrChars.Road.wordsLen, d.before a0 Z = true) (wi : (Jvm.Cond.instantiable "java/lang/String" kI).before a0 Z = true) {x : Addr} {cs : List Int32} (X : Str Z h x cs) (S : Sta Z h "java/lang/String" "COMPACT_STRINGS" "Z" (.int z)) (hz : ¬ z = 0) (hfr : 2 ≤ R.frames) (hlo : W + 25 ≤ R.locals) :
    Back l R p e below s args (⟨"java/lang/String", "length", "()I"⟩ : MethodName) 3 W (fun A a => a = #[.ref x] ∧ A.U.heap = h ∧ A.cells + 0 ≤ R.cells ∧ A.slots + 0 ≤ R.slots)
      (fun A _ v B => ∃ L, QPure (.int (Int32.ofNat cs.length)) h n0 v B.U.heap L ∧ B.locs = A.locs ++ L ∧ B.cells = A.cells + 0 ∧ B.slots = A.slots + 0) := by
  have up := X.up
  obtain ⟨⟨t, kb, x1, x2, x3, x4⟩, hp, hl⟩ := X
  refine Back.mono (StrChars.Road.lenW hZ hw wi x1 x2 x3 x4 (Str.cod hp) up S hz hl hfr hlo) (fun _ _ q => q) (fun P a v B _ hq => ?_)
  obtain ⟨L, ⟨q1, q2, q3⟩, r⟩ := hq
  exact ⟨L, ⟨q1, by subst q2; exact Fr.nil _, q3⟩, r⟩
theorem chB (hZ : Z.Warmed39 s.vm) (hw : ∀ d ∈ StrChars.Road.wordsChN, d.before a0 Z = true) (wi : (Jvm.Cond.instantiable "java/lang/String" kI).before a0 Z = true) {x : Addr} {cs : List Int32} (X : Str Z h x cs) (S : Sta Z h "java/lang/String" "COMPACT_STRINGS" "Z" (.int z)) (hz : ¬ z = 0) {fm : Value} (F : Sta Z h "jdk/internal/util/Preconditions" "SIOOBE_FORMATTER" "Ljava/util/function/BiFunction;" fm) (rf : fm.isRef = true) {i : Nat} {j : Int32} (hi : i < cs.length) (hj : j = Int32.ofNat i) (hfr : 4 ≤ R.frames) (hlo : W + 53 ≤ R.locals) :
    Back l R p e below s args (⟨"java/lang/String", "charAt", "(I)C"⟩ : MethodName) 3 W (fun A a => a = #[.ref x, .int j] ∧ A.U.heap = h ∧ A.cells + 0 ≤ R.cells ∧ A.slots + 0 ≤ R.slots)
      (fun A _ v B => ∃ L, QPure (.int (cs.getD i 0)) h n0 v B.U.heap L ∧ B.locs = A.locs ++ L ∧ B.cells = A.cells + 0 ∧ B.slots = A.slots + 0) := by
  have up := X.up
  obtain ⟨⟨t, kb, x1, x2, x3, x4⟩, hp, hl⟩ := X
  refine Back.mono (StrChars.Road.chN hZ hw wi x1 x2 x3 x4 (Str.cod hp) up S hz F rf hl hi hj hfr hlo) (fun _ _ q => q) (fun P a v B _ hq => ?_)
  obtain ⟨L, ⟨q1, q2, q3⟩, r⟩ := hq
  exact ⟨L, ⟨q1, by subst q2; exact Fr.nil _, q3⟩, r⟩
theorem eqB (hZ : Z.Warmed39 s.vm) (hw : ∀ d ∈ StrChars.Road.wordsEq, d.before a0 Z = true) (wi : (Jvm.Cond.instantiable "java/lang/String" kI).before a0 Z = true) {x y : Addr} {cs ds : List Int32} (X : Str Z h x cs) (Y : Str Z h y ds) (S : Sta Z h "java/lang/String" "COMPACT_STRINGS" "Z" (.int z)) (hz : ¬ z = 0) (hfr : 2 ≤ R.frames) (hlo : W + 28 ≤ R.locals) :
    Back l R p e below s args (⟨"java/lang/String", "equals", "(Ljava/lang/Object;)Z"⟩ : MethodName) 3 W (fun A a => a = #[.ref x, .ref y] ∧ A.U.heap = h ∧ A.cells + 0 ≤ R.cells ∧ A.slots + 0 ≤ R.slots)
      (fun A _ v B => ∃ L, QPure (.int (if cs = ds then 1 else 0)) h n0 v B.U.heap L ∧ B.locs = A.locs ++ L ∧ B.cells = A.cells + 0 ∧ B.slots = A.slots + 0) := by
  have up := X.up
  have up' := Y.up
  obtain ⟨⟨t, kb, x1, x2, x3, x4⟩, hp, hl⟩ := X
  obtain ⟨⟨t', kb', y1, y2, y3, y4⟩, hp', hl'⟩ := Y
  refine Back.mono (StrChars.Road.eqW hZ hw wi x1 x2 x3 x4 (Str.cod hp) up hl y1 y2 y3 y4 (Str.cod hp') up' hl' S hz hfr hlo) (fun _ _ q => q) (fun P a v B _ hq => ?_)
  obtain ⟨L, ⟨q1, q2, q3⟩, r⟩ := hq
  refine ⟨L, ⟨?_, by subst q2; exact Fr.nil _, q3⟩, r⟩
  rcases q1 with ⟨q, g⟩ | ⟨q, g⟩
  · rw [q, if_pos g]
  · rw [q, if_neg g]
end StrB
end Own
end Jvm.Pilot.@@N@@
namespace Jvm.Pilot.@@N@@
namespace Own
open Jvm Jvm.ClassFile Sem Op Lib Jvm.Free Jvm.Stand Jvm.LawKit Jvm.RoadKit Bundle
section Held
variable {Z : State} {own : String} {bytes : ByteArray} {h h' : Heap} {p : Program} {l : Launch} {e : Env} {R : Room} {s : State} {m : MethodId} {args : Array Value} {below : List Frame} {meth : Method} {c : Code} {T : State} {locs : List Loc} {cells slots : Nat}
  {K : State → Outcome → Prop} {a0 : Array Value} {pc q : Nat} {Ls : Array Slot} {st : List Value} {vm : Vm} {h0 : Heap} {EL : List (String × Nat)}
/-- where a walk that may intern stands: since its start s, with the tables vm -/
def Hd (Z : State) (EL : List (String × Nat)) (s : State) (vm : Vm) (h0 h : Heap) : Prop := (∃ k, s.Since vm k ∧ k ≤ h.size) ∧ CHr Z EL s.vm h0 vm h
theorem Hd.start (H : CHv Z EL s.vm h0) : Hd Z EL s s.vm h0 h0 := ⟨⟨0, (State.WarmedH.refl s).since 0, Nat.zero_le _⟩, CHr.refl H⟩
theorem Hd.ext (H : Hd Z EL s vm h0 h) (E : Ext h h') : Hd Z EL s vm h0 h' := by
  obtain ⟨⟨k, a, b⟩, r⟩ := H
  exact ⟨⟨k, a, Nat.le_trans b E.1⟩, r.trans (CHr.ext E r.1)⟩
theorem Hd.wr {a : Addr} {sl : Nat} {v : Value} (H : Hd Z EL s vm h0 h) (W : Wr h h' a sl v) (S : Safe Z EL vm h a) : Hd Z EL s vm h0 h' := by
  obtain ⟨⟨k, a, b⟩, r⟩ := H
  exact ⟨⟨k, a, by rw [W.size]; exact b⟩, r.trans (CHr.wr W S r.1)⟩
theorem Hd.kp {ws : List Addr} (H : Hd Z EL s vm h0 h) (Kp : Keep h h' ws) (S : ∀ x ∈ ws, Safe Z EL vm h x) : Hd Z EL s vm h0 h' := by
  obtain ⟨⟨k, a, b⟩, r⟩ := H
  exact ⟨⟨k, a, Nat.le_trans b Kp.1⟩, r.trans (CHr.keep Kp S r.1)⟩
theorem backH {y : MethodName} {cb : ByteArray} {maxL : Nat} {ret : Option FieldType} {rm : Room} {len W : Nat} {as' : Array Value} {Q : Option Value → Heap → List Loc → Prop} {sf : List Addr}
    (hM : MetFree l y (head1 [Cond.code y cb maxL ret] rm) (fun a U => a = as' ∧ Z.Warmed39 U.vm ∧ U.heap = h ∧ CHv Z EL U.vm h ∧ ∀ x ∈ sf, Safe Z EL U.vm h x) (fun _ _ _ _ _ => True) (fun _ U o U' => ∃ v L, o = .returned v ∧ Q v U'.heap L ∧ CHr Z EL U.vm U.heap U'.vm U'.heap ∧ ReturnedEndW U o U' L rm.cells rm.slots))
    (hZ : Z.Warmed39 vm) (wc : (Cond.code y cb maxL ret).before a0 Z = true) (wz : (Cond.initialized y.cls).before a0 Z = true) (hf : rm.frames + 1 ≤ R.frames) (hl : W + (maxL + 11) + rm.locals ≤ R.locals) (hEL : EW Z a0 EL) (H : CHv Z EL vm h) (hsf : ∀ x ∈ sf, x < h.size ∧ Safe Z EL vm h x) :
    BackS l R p e below (s.setVm vm) args y len W (fun A a => a = as' ∧ A.U.heap = h ∧ A.cells + rm.cells ≤ R.cells ∧ A.slots + rm.slots ≤ R.slots)
      (fun A _ v B => ∃ L, Q v B.U.heap L ∧ B.locs = A.locs ++ L ∧ B.cells = A.cells + rm.cells ∧ B.slots = A.slots + rm.slots ∧ CHr Z EL vm h B.U.vm B.U.heap) := by
  refine BackS.of_freeW (bytes := cb) (maxL := maxL) (ret := ret) (E := fun _ first o t L k n => k = rm.cells ∧ n = rm.slots ∧ (∃ v, o = .returned v ∧ Q v t.heap L) ∧ CHr Z EL first.vm first.heap t.vm t.heap) hM hf hl ?_ ?_ (fun _ _ _ _ _ _ _ _ _ => trivial) ?_ ?_
  · intro m meth c A a Y hp
    have hU : Z.Warmed39 A.U.vm := wtrans (s := s.setVm vm) hZ Y.warmed
    exact ⟨by show (Cond.and _ .tt).before a A.U = true; rw [Cond.before_and, mv hU wc]; rfl, mv hU wc, mv hU wz, hp.2.2.1, hp.2.2.2⟩
  · intro m meth c A a g mk Y hp
    have q := CHv.at Y hZ hEL H
    exact ⟨hp.1, wtrans (s := s.setVm vm) hZ Y.warmed, hp.2.1, q.1, fun x hx => q.safe (hsf x hx).1 (hsf x hx).2⟩
  · rintro _ _ _ _ ⟨v, L, h1, h2, h3, h4⟩
    exact ⟨L, _, _, h4, rfl, rfl, ⟨v, h1, h2⟩, h3⟩
  · rintro m meth c A a g mk v t L k n Y hp - - ⟨e1, e2, ⟨v', e3, e4⟩, e5⟩
    cases e3
    subst e1 e2
    refine ⟨L, e4, rfl, rfl, rfl, (CHv.at Y hZ hEL H).trans ?_⟩
    rw [← hp.2.1]
    exact e5
theorem ldcStr {i n : Nat} {text : String} {cs : List Int32} (P : Wk Z own bytes h p l e R (s.setVm vm) m args below meth c T locs cells slots) (H : Hd Z EL s vm h0 h) (hd : decode bytes pc = .ok (.ldc i, 2)) (w : (Cond.stringLink own i text).before a0 Z = true) (wS : ∀ a ∈ Bundle.stringAtoms, a.before a0 Z = true) (hEL : EW Z a0 EL) (hmem : (own, i) ∈ EL)
    (ht : (∀ c ∈ text.toList, c.toNat < 256) ∧ text.toList.map (fun c => Value.int (Jvm.Lit.byteI c.toNat.toUInt16)) = (cs.map fun c => c.toInt8.toInt32).map Value.int) (hp : ∀ c ∈ cs, ¬ c < 0 ∧ ¬ (255 : Int32) < c) (hl : cs.length ≤ 4000) (hz : ¬ (Int32.ofNat cs.length) < 0) (hz2 : (Int32.ofNat cs.length).toNatClampNeg = ((cs.map fun c => c.toInt8.toInt32).map Value.int).length)
    (hn : 4 * text.toList.length ≤ n) (hbig : n ≤ 536870912) (hc : cells + 2 ≤ R.cells) (hs : slots + (n + 4) ≤ R.slots) (hq : pc + 2 = q)
    (k : ∀ T₂ vm₂ h₂ a, Wk Z own bytes h₂ p l e R (s.setVm vm₂) m args below meth c T₂ locs (cells + 2) (slots + (n + 4)) → Hd Z EL s vm₂ h0 h₂ → CHr Z EL vm h vm₂ h₂ → Ext h h₂ → Str Z h₂ a cs → Goes p.tables e below K (T₂.setTop (mkF m (q) Ls (.ref a :: st)))) : Goes p.tables e below K (T.setTop (mkF m pc Ls (st))) := by
  subst hq
  obtain ⟨⟨k0, S0, b0⟩, r0⟩ := H
  obtain ⟨a, T₂, h₂, k1, b, kb, X2, e2, E2, S2, b2, hW, hf, g1, g2, g3, g4, -, -, r2, -, -, st2⟩ := ldcCH P.1 P.2.1 P.2.2.2.1 P.2.2.2.2.1 w wS P.2.2.2.2.2 S0 b0 hEL hmem r0.1 ht hz hz2 (g := mkF m pc Ls st) rfl (hb P.2.2.1 hd) hn hbig hc hs
  exact Goes.go st2 (k T₂ T₂.vm h₂ a ⟨X2, P.2.1, P.2.2.1, hW, hf, e2⟩ ⟨⟨k1, S2, b2⟩, r0.trans r2⟩ r2 E2 ⟨⟨b, kb, g1, g3, g2, g4⟩, hp, hl⟩)
theorem invStaticH {y : MethodName} {cb : ByteArray} {mL : Nat} {ret : Option FieldType} {i W kc ks : Nat} {as' : Array Value} {Q : Option Value → Heap → List Loc → Prop} {argsL rest : List Value} (P : Wk Z own bytes h p l e R (s.setVm vm) m args below meth c T locs cells slots) (H : Hd Z EL s vm h0 h) (hd : decode bytes pc = .ok (.invokestatic i, 3)) (w1 : (Cond.methodLink own i y).before a0 Z = true) (w2 : (Cond.static y).before a0 Z = true) (w3 : (Cond.initialized y.cls).before a0 Z = true) (w4 : (Cond.code y cb mL ret).before a0 Z = true) (hy : y.cls ≠ "java/lang/invoke/MethodHandle" ∧ y.cls ≠ "java/lang/invoke/VarHandle") (B : BackS l R p e below (s.setVm vm) args y 3 W (fun A a => a = as' ∧ A.U.heap = h ∧ A.cells + kc ≤ R.cells ∧ A.slots + ks ≤ R.slots) (fun A _ v B => ∃ L, Q v B.U.heap L ∧ B.locs = A.locs ++ L ∧ B.cells = A.cells + kc ∧ B.slots = A.slots + ks ∧ CHr Z EL vm h B.U.vm B.U.heap)) (ha : argsL.toArray = as') (hst : st = argsL.reverse ++ rest) (hz : Ls.size = c.maxLocals) (hlen : ∀ sig, parseMethodDescriptor y.desc = some sig → argsL.length = sig.parameters.length) (hW : 2 * (mkF m pc Ls st).monitorRoom + (rest.map fun v => v.category).sum ≤ W) (hcc : cells + kc ≤ R.cells) (hss : slots + ks ≤ R.slots) (hq : pc + 3 = q) (k : ∀ v T₂ vm₂ h₂ L, Q v h₂ L → Wk Z own bytes h₂ p l e R (s.setVm vm₂) m args below meth c T₂ (locs ++ L) (cells + kc) (slots + ks) → Hd Z EL s vm₂ h0 h₂ → CHr Z EL vm h vm₂ h₂ → Goes p.tables e below K (T₂.setTop (mkF m q Ls (v.toList ++ rest)))) : Goes p.tables e below K (T.setTop (mkF m pc Ls (st))) := by
  subst hq
  obtain ⟨v, _, ⟨T₂, L₂, c₂, n₂⟩, -, X2, S2, b2, ⟨L, hQ, hl, hc2, hs2, r2⟩, st2⟩ := callSS P.1 P.2.1 (y := y) P.2.2.2.2.1 (mvT P.2.2.2.1 w1) (mvT P.2.2.2.1 w2) (mvT P.2.2.2.1 w3) (mvT P.2.2.2.1 w4) hy B (g := mkF m pc Ls st) rfl hz (argsL := argsL) (rest := rest) hlen hst hW (hb P.2.2.1 hd) (fun _ _ => ⟨ha, P.2.2.2.2.2, hcc, hss⟩)
  dsimp only [Pt.U, Pt.locs, Pt.cells, Pt.slots] at X2 hl hc2 hs2 st2 hQ S2 b2 r2
  subst hl hc2 hs2
  obtain ⟨⟨k0, S0, b0⟩, r0⟩ := H
  have hW : Z.Warmed39 T₂.vm := State.Warmed39.trans (t := s.setVm vm) P.2.2.2.1 S2.1
  have hf : (s.setVm T₂.vm).vm.findClass own = some m.cls := by rw [show (s.setVm T₂.vm).vm = T₂.vm from rfl, S2.1.alike.findClass]; exact P.2.2.2.2.1
  have b1 : k0 ≤ T.heap.size := by rw [P.2.2.2.2.2]; exact b0
  exact Goes.tr st2 (k v T₂ T₂.vm _ L hQ ⟨X2, P.2.1, P.2.2.1, hW, hf, rfl⟩ ⟨⟨_, S0.trans S2 (Nat.le_trans b1 b2), Nat.le_refl _⟩, r0.trans r2⟩ r2)
theorem invSpecialH {y : MethodName} {cb : ByteArray} {mL : Nat} {i W kc ks : Nat} {as' : Array Value} {Q : Option Value → Heap → List Loc → Prop} {a : Addr} {argsL rest : List Value} (P : Wk Z own bytes h p l e R (s.setVm vm) m args below meth c T locs cells slots) (H : Hd Z EL s vm h0 h) (hd : decode bytes pc = .ok (.invokespecial i, 3)) (hin : y.name = "<init>") (w1 : (Cond.methodLink own i y).before a0 Z = true) (w2 : (Cond.instanceMethod y).before a0 Z = true) (w4 : (Cond.code y cb mL none).before a0 Z = true) (hy : y.cls ≠ "java/lang/invoke/MethodHandle" ∧ y.cls ≠ "java/lang/invoke/VarHandle") (B : BackS l R p e below (s.setVm vm) args y 3 W (fun A a => a = as' ∧ A.U.heap = h ∧ A.cells + kc ≤ R.cells ∧ A.slots + ks ≤ R.slots) (fun A _ v B => ∃ L, Q v B.U.heap L ∧ B.locs = A.locs ++ L ∧ B.cells = A.cells + kc ∧ B.slots = A.slots + ks ∧ CHr Z EL vm h B.U.vm B.U.heap)) (ha : (.ref a :: argsL).toArray = as') (hst : st = argsL.reverse ++ .ref a :: rest) (hz : Ls.size = c.maxLocals) (hlen : ∀ sig, parseMethodDescriptor y.desc = some sig → argsL.length = sig.parameters.length) (hW : 2 * (mkF m pc Ls st).monitorRoom + (rest.map fun v => v.category).sum ≤ W) (hcc : cells + kc ≤ R.cells) (hss : slots + ks ≤ R.slots) (hq : pc + 3 = q) (k : ∀ v T₂ vm₂ h₂ L, Q v h₂ L → Wk Z own bytes h₂ p l e R (s.setVm vm₂) m args below meth c T₂ (locs ++ L) (cells + kc) (slots + ks) → Hd Z EL s vm₂ h0 h₂ → CHr Z EL vm h vm₂ h₂ → Goes p.tables e below K (T₂.setTop (mkF m q Ls (v.toList ++ rest)))) : Goes p.tables e below K (T.setTop (mkF m pc Ls (st))) := by
  subst hq
  obtain ⟨v, _, ⟨T₂, L₂, c₂, n₂⟩, -, X2, S2, b2, ⟨L, hQ, hl, hc2, hs2, r2⟩, st2⟩ := P.1.specialBackS P.2.1 (y := y) hin P.2.2.2.2.1 (mvT P.2.2.2.1 w1) (mvT P.2.2.2.1 w2) (mvT P.2.2.2.1 w4) hy B (g := mkF m pc Ls st) rfl hz (Steps.refl _) (a := a) (argsL := argsL) (rest := rest) hlen hst hW (hb P.2.2.1 hd) (fun _ _ => ⟨ha, P.2.2.2.2.2, hcc, hss⟩)
  dsimp only [Pt.U, Pt.locs, Pt.cells, Pt.slots] at X2 hl hc2 hs2 st2 hQ S2 b2 r2
  subst hl hc2 hs2
  obtain ⟨⟨k0, S0, b0⟩, r0⟩ := H
  have hW : Z.Warmed39 T₂.vm := State.Warmed39.trans (t := s.setVm vm) P.2.2.2.1 S2.1
  have hf : (s.setVm T₂.vm).vm.findClass own = some m.cls := by rw [show (s.setVm T₂.vm).vm = T₂.vm from rfl, S2.1.alike.findClass]; exact P.2.2.2.2.1
  have b1 : k0 ≤ T.heap.size := by rw [P.2.2.2.2.2]; exact b0
  exact Goes.tr st2 (k v T₂ T₂.vm _ L hQ ⟨X2, P.2.1, P.2.2.1, hW, hf, rfl⟩ ⟨⟨_, S0.trans S2 (Nat.le_trans b1 b2), Nat.le_refl _⟩, r0.trans r2⟩ r2)
theorem invVirtualH {y z : MethodName} {C : String} {i W kc ks : Nat} {as' : Array Value} {Q : Option Value → Heap → List Loc → Prop} {a : Addr} {argsL rest : List Value} (P : Wk Z own bytes h p l e R (s.setVm vm) m args below meth c T locs cells slots) (H : Hd Z EL s vm h0 h) (hd : decode bytes pc = .ok (.invokevirtual i, 3)) (w1 : (Cond.methodLink own i y).before a0 Z = true) (w2 : (Cond.declares y).before a0 Z = true) (w3 : (Cond.selects C y z).before a0 Z = true) (w4 : (Cond.instanceMethod z).before a0 Z = true) (nf : NotFace (s.setVm vm) y) (hy : y.cls ≠ "java/lang/invoke/MethodHandle" ∧ y.cls ≠ "java/lang/invoke/VarHandle") (B : BackS l R p e below (s.setVm vm) args z 3 W (fun A a => a = as' ∧ A.U.heap = h ∧ A.cells + kc ≤ R.cells ∧ A.slots + ks ≤ R.slots) (fun A _ v B => ∃ L, Q v B.U.heap L ∧ B.locs = A.locs ++ L ∧ B.cells = A.cells + kc ∧ B.slots = A.slots + ks ∧ CHr Z EL vm h B.U.vm B.U.heap)) (E : Exa Z h a C) (ha : (.ref a :: argsL).toArray = as') (hst : st = argsL.reverse ++ .ref a :: rest) (hz : Ls.size = c.maxLocals) (hlen : ∀ sig, parseMethodDescriptor y.desc = some sig → argsL.length = sig.parameters.length) (hW : 2 * (mkF m pc Ls st).monitorRoom + (rest.map fun v => v.category).sum ≤ W) (hcc : cells + kc ≤ R.cells) (hss : slots + ks ≤ R.slots) (hq : pc + 3 = q) (k : ∀ v T₂ vm₂ h₂ L, Q v h₂ L → Wk Z own bytes h₂ p l e R (s.setVm vm₂) m args below meth c T₂ (locs ++ L) (cells + kc) (slots + ks) → Hd Z EL s vm₂ h0 h₂ → CHr Z EL vm h vm₂ h₂ → Goes p.tables e below K (T₂.setTop (mkF m q Ls (v.toList ++ rest)))) : Goes p.tables e below K (T.setTop (mkF m pc Ls (st))) := by
  subst hq
  obtain ⟨cB, kB, r1, -, r3⟩ := isOf P.2.2.2.1 P.2.2.2.2.2 E
  obtain ⟨v, _, ⟨T₂, L₂, c₂, n₂⟩, -, X2, S2, b2, ⟨L, hQ, hl, hc2, hs2, r2⟩, st2⟩ := P.1.virtualBackS P.2.1 (y := y) (z := z) P.2.2.2.2.1 (mvT P.2.2.2.1 w1) (mvT P.2.2.2.1 w2) nf (mvT P.2.2.2.1 w3) (mvT P.2.2.2.1 w4) hy B r1 r3 (g := mkF m pc Ls st) rfl hz (Steps.refl _) (argsL := argsL) (rest := rest) hlen hst hW (hb P.2.2.1 hd) (fun _ _ => ⟨ha, P.2.2.2.2.2, hcc, hss⟩)
  dsimp only [Pt.U, Pt.locs, Pt.cells, Pt.slots] at X2 hl hc2 hs2 st2 hQ S2 b2 r2
  subst hl hc2 hs2
  obtain ⟨⟨k0, S0, b0⟩, r0⟩ := H
  have hW : Z.Warmed39 T₂.vm := State.Warmed39.trans (t := s.setVm vm) P.2.2.2.1 S2.1
  have hf : (s.setVm T₂.vm).vm.findClass own = some m.cls := by rw [show (s.setVm T₂.vm).vm = T₂.vm from rfl, S2.1.alike.findClass]; exact P.2.2.2.2.1
  have b1 : k0 ≤ T.heap.size := by rw [P.2.2.2.2.2]; exact b0
  exact Goes.tr st2 (k v T₂ T₂.vm _ L hQ ⟨X2, P.2.1, P.2.2.1, hW, hf, rfl⟩ ⟨⟨_, S0.trans S2 (Nat.le_trans b1 b2), Nat.le_refl _⟩, r0.trans r2⟩ r2)
theorem retVH {kc ks : Nat} {Q : Option Value → Heap → List Loc → Prop}  (P : Wk Z own bytes h p l e R (s.setVm vm) m args below meth c T locs cells slots) (hh : s.heap = h0) (hEL : EW Z a0 EL) (H : Hd Z EL s vm h0 h) (hd : decode bytes pc = .ok (.return_, 1)) (hret : meth.sig.returnType = none) (hlk : meth.locks = false) (hc : cells ≤ kc) (hs : slots ≤ ks) (hQ : Q none h locs) : Goes p.tables e below (fun s₂ o => ∃ v L, o = .returned v ∧ Q v s₂.heap L ∧ CHr Z EL s.vm s.heap s₂.vm s₂.heap ∧ ReturnedEndW s o s₂ L kc ks) (T.setTop (mkF m pc Ls ([]))) := by
  obtain ⟨⟨k0, S0, b0⟩, r0⟩ := H
  obtain ⟨fs, hr, hrun, hended, q1, q2, q3, q4⟩ := P.1.leaveW S0 (by rw [P.2.2.2.2.2]; exact b0) (v := none) (fun h => by first | rfl | (rw [hret] at h; cases h)) hlk
  have r1 := CHv.at P.1 P.2.2.2.1 hEL r0.1
  refine ⟨_, _, P.1.returnOut P.2.1 hret (hb P.2.2.1 hd) hr, hrun, hended, _, _, rfl, by show Q _ T.heap _; rw [P.2.2.2.2.2]; exact hQ, ?_, q1, q2, q3, q4.mono hc hs⟩
  show CHr Z EL s.vm s.heap T.vm T.heap
  rw [P.2.2.2.2.2, hh]
  exact r0.trans r1
theorem retZH {kc ks : Nat} {Q : Option Value → Heap → List Loc → Prop} {t : FieldType} {z : Int32} (P : Wk Z own bytes h p l e R (s.setVm vm) m args below meth c T locs cells slots) (hh : s.heap = h0) (hEL : EW Z a0 EL) (H : Hd Z EL s vm h0 h) (hd : decode bytes pc = .ok (.ireturn, 1)) (hret : meth.sig.returnType = some t) (ht : t = .boolean ∨ t = .byte ∨ t = .char ∨ t = .short) (hlk : meth.locks = false) (hc : cells ≤ kc) (hs : slots ≤ ks) (hQ : Q (some (.int (nar t z))) h locs) : Goes p.tables e below (fun s₂ o => ∃ v L, o = .returned v ∧ Q v s₂.heap L ∧ CHr Z EL s.vm s.heap s₂.vm s₂.heap ∧ ReturnedEndW s o s₂ L kc ks) (T.setTop (mkF m pc Ls (.int z :: st))) := by
  obtain ⟨⟨k0, S0, b0⟩, r0⟩ := H
  obtain ⟨fs, hr, hrun, hended, q1, q2, q3, q4⟩ := P.1.leaveW S0 (by rw [P.2.2.2.2.2]; exact b0) (v := (some (.int (nar t z)))) (fun h => by first | rfl | (rw [hret] at h; cases h)) hlk
  have r1 := CHv.at P.1 P.2.2.2.1 hEL r0.1
  refine ⟨_, _, retN P.1 P.2.1 hret ht (hb P.2.2.1 hd) hr, hrun, hended, _, _, rfl, by show Q _ T.heap _; rw [P.2.2.2.2.2]; exact hQ, ?_, q1, q2, q3, q4.mono hc hs⟩
  show CHr Z EL s.vm s.heap T.vm T.heap
  rw [P.2.2.2.2.2, hh]
  exact r0.trans r1
theorem retIH {kc ks : Nat} {Q : Option Value → Heap → List Loc → Prop} {z : Int32} (P : Wk Z own bytes h p l e R (s.setVm vm) m args below meth c T locs cells slots) (hh : s.heap = h0) (hEL : EW Z a0 EL) (H : Hd Z EL s vm h0 h) (hd : decode bytes pc = .ok (.ireturn, 1)) (hret : meth.sig.returnType = some .int) (hlk : meth.locks = false) (hc : cells ≤ kc) (hs : slots ≤ ks) (hQ : Q (some (.int z)) h locs) : Goes p.tables e below (fun s₂ o => ∃ v L, o = .returned v ∧ Q v s₂.heap L ∧ CHr Z EL s.vm s.heap s₂.vm s₂.heap ∧ ReturnedEndW s o s₂ L kc ks) (T.setTop (mkF m pc Ls (.int z :: st))) := by
  obtain ⟨⟨k0, S0, b0⟩, r0⟩ := H
  obtain ⟨fs, hr, hrun, hended, q1, q2, q3, q4⟩ := P.1.leaveW S0 (by rw [P.2.2.2.2.2]; exact b0) (v := (some (.int z))) (fun h => by first | rfl | (rw [hret] at h; cases h)) hlk
  have r1 := CHv.at P.1 P.2.2.2.1 hEL r0.1
  refine ⟨_, _, retOut P.1 P.2.1 hret rfl (Or.inl ⟨rfl, Or.inl rfl, _, rfl⟩) (hb P.2.2.1 hd) hr, hrun, hended, _, _, rfl, by show Q _ T.heap _; rw [P.2.2.2.2.2]; exact hQ, ?_, q1, q2, q3, q4.mono hc hs⟩
  show CHr Z EL s.vm s.heap T.vm T.heap
  rw [P.2.2.2.2.2, hh]
  exact r0.trans r1
theorem retAH {kc ks : Nat} {Q : Option Value → Heap → List Loc → Prop} {t : FieldType} {v : Value} (P : Wk Z own bytes h p l e R (s.setVm vm) m args below meth c T locs cells slots) (hh : s.heap = h0) (hEL : EW Z a0 EL) (H : Hd Z EL s vm h0 h) (hd : decode bytes pc = .ok (.areturn, 1)) (hret : meth.sig.returnType = some t) (ht : t.isReference = true) (hv : v.isRef = true) (hn : narrow t v = v) (hlk : meth.locks = false) (hc : cells ≤ kc) (hs : slots ≤ ks) (hQ : Q (some v) h locs) : Goes p.tables e below (fun s₂ o => ∃ v L, o = .returned v ∧ Q v s₂.heap L ∧ CHr Z EL s.vm s.heap s₂.vm s₂.heap ∧ ReturnedEndW s o s₂ L kc ks) (T.setTop (mkF m pc Ls (v :: st))) := by
  obtain ⟨⟨k0, S0, b0⟩, r0⟩ := H
  obtain ⟨fs, hr, hrun, hended, q1, q2, q3, q4⟩ := P.1.leaveW S0 (by rw [P.2.2.2.2.2]; exact b0) (v := (some v)) (fun h => by first | rfl | (rw [hret] at h; cases h)) hlk
  have r1 := CHv.at P.1 P.2.2.2.1 hEL r0.1
  refine ⟨_, _, retOut P.1 P.2.1 hret hn (Or.inr (Or.inr (Or.inr (Or.inr ⟨rfl, ht, hv⟩)))) (hb P.2.2.1 hd) hr, hrun, hended, _, _, rfl, by show Q _ T.heap _; rw [P.2.2.2.2.2]; exact hQ, ?_, q1, q2, q3, q4.mono hc hs⟩
  show CHr Z EL s.vm s.heap T.vm T.heap
  rw [P.2.2.2.2.2, hh]
  exact r0.trans r1
end Held
end Own
end Jvm.Pilot.@@N@@
namespace Jvm.Pilot.@@N@@
namespace Own
open Jvm Jvm.ClassFile Sem Op Lib Jvm.Free Jvm.Stand Jvm.LawKit Jvm.RoadKit Bundle
section Nar
variable {s : State} {args : Array Value} {t u : Term}
theorem eq_int {k : Int32} (h : (Jvm.Cond.eq t (.int k)).value args s none s [] = some true) : t.eval args s none [] s = some (.int k) := by
  obtain ⟨x, y, e1, e2, k1, k2⟩ := cmp_v (Or.inl h)
  have ey : y = .int k := Option.some.inj (e2.symm.trans (Term.int_eval k))
  subst ey
  obtain ⟨z, rfl⟩ := k2
  rw [e1, gotT (Cond.eq_ints e1 (Term.int_eval k)) h]
theorem eq_ref {a : Addr} (h : (Jvm.Cond.eq t u).value args s none s [] = some true) (hu : u.eval args s none [] s = some (.ref a)) : t.eval args s none [] s = some (.ref a) := by
  obtain ⟨x, y, e1, e2, k1, k2⟩ := cmp_v (Or.inl h)
  have ey : y = .ref a := Option.some.inj (e2.symm.trans hu)
  subst ey
  have q : x = .ref a := gotT (eq_R e1 hu k2.2 rfl) h
  rw [e1, q]
theorem small {x : Addr} {cl : Cell} {n : Int32} (h : (Term.length t).eval args s none [] s = some (.int n)) (ht : t.eval args s none [] s = some (.ref x)) (hc : s.heap[x]? = some cl) : cl.slots.size < 2 ^ 31 ∧ cl.slots.size.toInt32 = n := by
  obtain ⟨a, c, e1, e2, e3⟩ := Term.length_spec h
  cases ht.symm.trans e1
  have e4 : s.heap[x]? = some c := by
    revert e2
    simp only [State.arrayAt?]
    cases hq : s.heap[x]? with
    | none => simp
    | some d =>
      intro w
      simp at w
      obtain ⟨k, -, w⟩ := Option.bind_eq_some_iff.mp w
      split at w
      · cases w
      · split at w
        · exact w
        · cases w
  cases hc.symm.trans e4
  refine ⟨?_, (Value.int.inj e3).symm⟩
  simp only [Term.eval, ht, Option.bind_eq_bind, Option.bind_some, e2] at h
  by_cases q : cl.slots.size < 2 ^ 31
  · exact q
  · simp [q] at h
theorem elem_is {x : Addr} {cl : Cell} {i v : Int32} (h : (Jvm.Cond.eq (.elem t (.int i)) (.int v)).value args s none s [] = some true) (ht : t.eval args s none [] s = some (.ref x)) (hc : s.heap[x]? = some cl) : cl.slots[i.toNatClampNeg]? = some (.int v) := (elem_in (eq_int h) ht (Term.int_eval i) hc).2
/-- a String that the sheet describes: its chars, by its bytes -/
theorem strStart {cs bs : List Int32} {n : Int32} (hf : Fit s) (h1 : (Jvm.Cond.exactly t "java/lang/String").value args s none s [] = some true) (h2 : (Jvm.Cond.eq (.field t "java/lang/String" "coder" "B") (.int 0)).value args s none s [] = some true)
    (h3 : (Jvm.Cond.arrayOf (.field t "java/lang/String" "value" "[B") .byte).value args s none s [] = some true) (h4 : (Jvm.Cond.eq (.length (.field t "java/lang/String" "value" "[B")) (.int n)).value args s none s [] = some true)
    (hn : n = Int32.ofNat cs.length) (hl : cs.length ≤ 4000) (hp : ∀ c ∈ cs, ¬ c < 0 ∧ ¬ (255 : Int32) < c) (hb : (cs.map fun c => c.toInt8.toInt32) = bs) (hz : ¬ n < 0) (hz2 : n.toNatClampNeg = (bs.map Value.int).length)
    (he : ∀ x cl, (Term.field t "java/lang/String" "value" "[B").eval args s none [] s = some (.ref x) → s.heap[x]? = some cl → HasL cl 0 (bs.map Value.int)) : ∃ a, t.eval args s none [] s = some (.ref a) ∧ Str s s.heap a cs := by
  obtain ⟨a, ea⟩ := exa_v h1
  obtain ⟨b, eb⟩ := arr_v h3
  obtain ⟨cl, A⟩ := Arr.start eb h3
  obtain ⟨q1, q2⟩ := small (eq_int h4) eb A.1
  have c0 := eq_int h2
  rw [fld_at ea] at c0
  have v0 := eb
  rw [fld_at ea] at v0
  refine ⟨a, ea, ⟨b, cl.cls, Exa.start ea h1, Fld.start v0, Fld.start c0, ?_⟩, hp, hl⟩
  rw [hb, ← hn]
  exact Arv.start hf A q1 q2 hz hz2 (he b cl eb A.1)
end Nar
end Own
end Jvm.Pilot.@@N@@
namespace Jvm.Pilot.@@N@@
open Jvm Jvm.ClassFile Sem Op Lib Jvm.Free Jvm.Stand Jvm.LawKit Jvm.RoadKit Bundle Jvm.Pilot.@@N@@.Jvm.D
set_option maxRecDepth 65536 in
theorem sub_backV : ∀ d ∈ StrChars.Road.words, d ∈ tables_1 := by
  intro d hd
  have h : StrChars.Road.words.all (fun d => tables_1.contains d) = true := by decide +kernel
  exact List.contains_iff_mem.mp (List.all_eq_true.mp h d hd)
set_option maxRecDepth 65536 in
theorem sub_lenW : ∀ d ∈ StrChars.Road.wordsLen, d ∈ tables_1 := by
  intro d hd
  have h : StrChars.Road.wordsLen.all (fun d => tables_1.contains d) = true := by decide +kernel
  exact List.contains_iff_mem.mp (List.all_eq_true.mp h d hd)
set_option maxRecDepth 65536 in
theorem sub_chN : ∀ d ∈ StrChars.Road.wordsChN, d ∈ tables_1 := by
  intro d hd
  have h : StrChars.Road.wordsChN.all (fun d => tables_1.contains d) = true := by decide +kernel
  exact List.contains_iff_mem.mp (List.all_eq_true.mp h d hd)
set_option maxRecDepth 65536 in
theorem sub_eqW : ∀ d ∈ StrChars.Road.wordsEq, d ∈ tables_1 := by
  intro d hd
  have h : StrChars.Road.wordsEq.all (fun d => tables_1.contains d) = true := by decide +kernel
  exact List.contains_iff_mem.mp (List.all_eq_true.mp h d hd)

abbrev EL : List (String × Nat) := [("com/example/mokuroku/mokuroku/core/FormatByCliNamePinLaw", 22), ("com/example/mokuroku/mokuroku/core/FormatByCliNamePinLaw", 24), ("com/example/mokuroku/mokuroku/core/FormatByCliNamePinLaw", 26), ("java/lang/String", 7)]
theorem ew {Z : State} {a0 : Array Value} (hw : ∀ d ∈ tables_1, d.before a0 Z = true) : EW Z a0 EL := (EW.cons (hw _ (List.mem_of_getElem? (i := 0) rfl)) (by decide) (EW.cons (hw _ (List.mem_of_getElem? (i := 121) rfl)) (by decide) (EW.cons (hw _ (List.mem_of_getElem? (i := 120) rfl)) (by decide) (EW.cons (hw _ (List.mem_of_getElem? (i := 148) rfl)) (by decide) EW.nil))))
set_option maxRecDepth 65536 in
theorem sub_str : ∀ d ∈ Bundle.stringAtoms, d ∈ tables_1 := by
  intro d hd
  have h : Bundle.stringAtoms.all (fun d => tables_1.contains d) = true := by decide +kernel
  exact List.contains_iff_mem.mp (List.all_eq_true.mp h d hd)

abbrev tx0 : List Int32 := [106, 112, 99, 111, 97, 114]
abbrev tx1 : List Int32 := [109, 97, 114, 99]
abbrev tx2 : List Int32 := [100, 99, 110, 100, 108]
def EN (Z : State) (h : Heap) (ae0 : Addr) (ae1 : Addr) (ae2 : Addr) (se0 : Addr) (se1 : Addr) (se2 : Addr) (av : Addr) (kv : ClassId) : Prop := Sta Z h "com/example/mokuroku/mokuroku/core/Format" "JPCOAR" "Lcom/example/mokuroku/mokuroku/core/Format;" (.ref ae0) ∧ Sta Z h "com/example/mokuroku/mokuroku/core/Format" "MARC" "Lcom/example/mokuroku/mokuroku/core/Format;" (.ref ae1) ∧ Sta Z h "com/example/mokuroku/mokuroku/core/Format" "DCNDL" "Lcom/example/mokuroku/mokuroku/core/Format;" (.ref ae2) ∧ Sta Z h "com/example/mokuroku/mokuroku/core/Format" "$VALUES" "[Lcom/example/mokuroku/mokuroku/core/Format;" (.ref av) ∧ Exa Z h ae0 "com/example/mokuroku/mokuroku/core/Format" ∧ Exa Z h ae1 "com/example/mokuroku/mokuroku/core/Format" ∧ Exa Z h ae2 "com/example/mokuroku/mokuroku/core/Format" ∧ Exa Z h av "[Lcom/example/mokuroku/mokuroku/core/Format;" ∧ Arv Z h av kv (.object "com/example/mokuroku/mokuroku/core/Format") 3 [.ref ae0, .ref ae1, .ref ae2] .null ∧ Fld Z h ae0 "com/example/mokuroku/mokuroku/core/Format" "cliName" "Ljava/lang/String;" (.ref se0) ∧ Fld Z h ae1 "com/example/mokuroku/mokuroku/core/Format" "cliName" "Ljava/lang/String;" (.ref se1) ∧ Fld Z h ae2 "com/example/mokuroku/mokuroku/core/Format" "cliName" "Ljava/lang/String;" (.ref se2) ∧ Own.Str Z h se0 tx0 ∧ Own.Str Z h se1 tx1 ∧ Own.Str Z h se2 tx2
theorem EN.ext {Z : State} {h h' : Heap} {ae0 : Addr} {ae1 : Addr} {ae2 : Addr} {se0 : Addr} {se1 : Addr} {se2 : Addr} {av : Addr} {kv : ClassId} (X : EN Z h ae0 ae1 ae2 se0 se1 se2 av kv) (E : Ext h h') : EN Z h' ae0 ae1 ae2 se0 se1 se2 av kv := by
  obtain ⟨xe0, xe1, xe2, xe3, xe4, xe5, xe6, xe7, xe8, xe9, xe10, xe11, xe12, xe13, xe14⟩ := X
  exact ⟨xe0.ext E, xe1.ext E, xe2.ext E, xe3.ext E, xe4.ext E, xe5.ext E, xe6.ext E, xe7.ext E, xe8.ext E, xe9.ext E, xe10.ext E, xe11.ext E, xe12.ext E, xe13.ext E, xe14.ext E⟩

theorem Own.getD_rng {cs : List Int32} (hp : ∀ c ∈ cs, ¬ c < 0 ∧ ¬ (255 : Int32) < c) (n : Nat) : ¬ cs.getD n 0 < 0 ∧ ¬ (255 : Int32) < cs.getD n 0 := by
  rw [List.getD_eq_getElem?_getD]
  cases h : cs[n]? with
  | none => exact ⟨by decide, by decide⟩
  | some c => exact hp c (List.mem_of_getElem? h)
theorem Own.Str.rng {Z : State} {h : Heap} {a : Addr} {cs : List Int32} (S : Own.Str Z h a cs) : ∀ c ∈ cs, ¬ c < 0 ∧ ¬ (255 : Int32) < c := S.2.1
theorem Own.loL_rng (x : Int64) : ¬ (x &&& 255).toInt32 < 0 ∧ ¬ (255 : Int32) < (x &&& 255).toInt32 := by
  have h := c_maskL x 255 8 (by decide) (by decide)
  have h2 := c_l2i (x &&& 255)
  have h3 := rng32 (x &&& 255).toInt32
  have h0 : (0 : Int32).toInt = 0 := rfl
  have h5 : (255 : Int32).toInt = 255 := rfl
  constructor
  · rw [Int32.lt_iff_toInt_lt, h0]; omega
  · rw [Int32.lt_iff_toInt_lt, h5]; omega
theorem Own.ofNat_lt {n k : Nat} (hn : n ≤ 4000) (hk : k ≤ 4000) : Int32.ofNat n < Int32.ofNat k ↔ n < k := by
  rw [Int32.lt_iff_toInt_lt, Int32.toInt_ofNat_of_lt (by omega), Int32.toInt_ofNat_of_lt (by omega)]
  omega
def expI (nn c0 c1 c2 c3 c4 c5 c6 : Int32) : Int32 := if nn = 6 ∧ c0 = 106 ∧ c1 = 112 ∧ c2 = 99 ∧ c3 = 111 ∧ c4 = 97 ∧ c5 = 114 then 0 else if nn = 4 ∧ c0 = 109 ∧ c1 = 97 ∧ c2 = 114 ∧ c3 = 99 then 1 else if nn = 5 ∧ c0 = 100 ∧ c1 = 99 ∧ c2 = 110 ∧ c3 = 100 ∧ c4 = 108 then 2 else -1
def mkL (nn c0 c1 c2 c3 c4 c5 c6 : Int32) : List Int32 := if ¬ 0 < nn then [] else if nn = 1 then [c0] else if nn = 2 then [c0, c1] else if nn = 3 then [c0, c1, c2] else if nn = 4 then [c0, c1, c2, c3] else if nn = 5 then [c0, c1, c2, c3, c4] else if nn = 6 then [c0, c1, c2, c3, c4, c5] else [c0, c1, c2, c3, c4, c5, c6]
def optV (cs : List Int32) (x0 x1 x2 : Addr) : Value := if tx0 = cs then .ref x0 else if tx1 = cs then .ref x1 else if tx2 = cs then .ref x2 else .null
def N7 (nn : Int32) : Prop := nn = 0 ∨ nn = 1 ∨ nn = 2 ∨ nn = 3 ∨ nn = 4 ∨ nn = 5 ∨ nn = 6 ∨ nn = 7
theorem opt_is {nn c0 c1 c2 c3 c4 c5 c6 : Int32} {x0 x1 x2 : Addr} (h : N7 nn) : optV (mkL nn c0 c1 c2 c3 c4 c5 c6) x0 x1 x2 = (if expI nn c0 c1 c2 c3 c4 c5 c6 = 0 then .ref x0 else if expI nn c0 c1 c2 c3 c4 c5 c6 = 1 then .ref x1 else if expI nn c0 c1 c2 c3 c4 c5 c6 = 2 then .ref x2 else .null) := by
  unfold N7 at h
  rcases h with rfl | rfl | rfl | rfl | rfl | rfl | rfl | rfl
  · simp [mkL, optV, expI, tx0, tx1, tx2]
  · simp [mkL, optV, expI, tx0, tx1, tx2]
  · simp [mkL, optV, expI, tx0, tx1, tx2]
  · simp [mkL, optV, expI, tx0, tx1, tx2]
  · by_cases q : c0 = 109 ∧ c1 = 97 ∧ c2 = 114 ∧ c3 = 99
    · obtain ⟨rfl, rfl, rfl, rfl⟩ := q; simp [mkL, optV, expI, tx0, tx1, tx2]
    · have : ¬ tx1 = [c0, c1, c2, c3] := fun z => q (by simp only [tx1, List.cons.injEq] at z; exact ⟨z.1.symm, z.2.1.symm, z.2.2.1.symm, z.2.2.2.1.symm⟩)
      simp [mkL, optV, expI, q, this]
  · by_cases q : c0 = 100 ∧ c1 = 99 ∧ c2 = 110 ∧ c3 = 100 ∧ c4 = 108
    · obtain ⟨rfl, rfl, rfl, rfl, rfl⟩ := q; simp [mkL, optV, expI, tx0, tx1, tx2]
    · have : ¬ tx2 = [c0, c1, c2, c3, c4] := fun z => q (by simp only [tx2, List.cons.injEq] at z; exact ⟨z.1.symm, z.2.1.symm, z.2.2.1.symm, z.2.2.2.1.symm, z.2.2.2.2.1.symm⟩)
      simp [mkL, optV, expI, q, this]
  · by_cases q : c0 = 106 ∧ c1 = 112 ∧ c2 = 99 ∧ c3 = 111 ∧ c4 = 97 ∧ c5 = 114
    · obtain ⟨rfl, rfl, rfl, rfl, rfl, rfl⟩ := q; simp [mkL, optV, expI, tx0, tx1, tx2]
    · have : ¬ tx0 = [c0, c1, c2, c3, c4, c5] := fun z => q (by simp only [tx0, List.cons.injEq] at z; exact ⟨z.1.symm, z.2.1.symm, z.2.2.1.symm, z.2.2.2.1.symm, z.2.2.2.2.1.symm, z.2.2.2.2.2.1.symm⟩)
      simp [mkL, optV, expI, q, this]
  · simp [mkL, optV, expI, tx0, tx1, tx2]
theorem d11_0 : decode jdk_42_method_149_code 0 = .ok (.aload_n 0, 1) := by decide +kernel
theorem d11_1 : decode jdk_42_method_149_code 1 = .ok (.invokespecial 1, 3) := by decide +kernel
theorem d11_4 : decode jdk_42_method_149_code 4 = .ok (.iload_n 3, 1) := by decide +kernel
theorem d11_5 : decode jdk_42_method_149_code 5 = .ok (.ifCond .ne 22, 3) := by decide +kernel
theorem d11_8 : decode jdk_42_method_149_code 8 = .ok (.aload_n 0, 1) := by decide +kernel
theorem d11_9 : decode jdk_42_method_149_code 9 = .ok (.ldc 7, 2) := by decide +kernel
theorem d11_11 : decode jdk_42_method_149_code 11 = .ok (.getfield 9, 3) := by decide +kernel
theorem d11_14 : decode jdk_42_method_149_code 14 = .ok (.putfield 9, 3) := by decide +kernel
theorem d11_17 : decode jdk_42_method_149_code 17 = .ok (.aload_n 0, 1) := by decide +kernel
theorem d11_18 : decode jdk_42_method_149_code 18 = .ok (.ldc 7, 2) := by decide +kernel
theorem d11_20 : decode jdk_42_method_149_code 20 = .ok (.getfield 15, 3) := by decide +kernel
theorem d11_23 : decode jdk_42_method_149_code 23 = .ok (.putfield 15, 3) := by decide +kernel
theorem d11_26 : decode jdk_42_method_149_code 26 = .ok (.return_, 1) := by decide +kernel
theorem d11_27 : decode jdk_42_method_149_code 27 = .ok (.getstatic 38, 3) := by decide +kernel
theorem d11_30 : decode jdk_42_method_149_code 30 = .ok (.ifCond .eq 28, 3) := by decide +kernel
theorem d11_33 : decode jdk_42_method_149_code 33 = .ok (.aload_n 1, 1) := by decide +kernel
theorem d11_34 : decode jdk_42_method_149_code 34 = .ok (.iload_n 2, 1) := by decide +kernel
theorem d11_35 : decode jdk_42_method_149_code 35 = .ok (.iload_n 3, 1) := by decide +kernel
theorem d11_36 : decode jdk_42_method_149_code 36 = .ok (.invokestatic 177, 3) := by decide +kernel
theorem d11_39 : decode jdk_42_method_149_code 39 = .ok (.astore 5, 2) := by decide +kernel
theorem d11_41 : decode jdk_42_method_149_code 41 = .ok (.aload_n 0, 1) := by decide +kernel
theorem d11_42 : decode jdk_42_method_149_code 42 = .ok (.aload 5, 2) := by decide +kernel
theorem d11_44 : decode jdk_42_method_149_code 44 = .ok (.iload_n 3, 1) := by decide +kernel
theorem d11_45 : decode jdk_42_method_149_code 45 = .ok (.invokestatic 47, 3) := by decide +kernel
theorem d11_48 : decode jdk_42_method_149_code 48 = .ok (.putfield 15, 3) := by decide +kernel
theorem d11_51 : decode jdk_42_method_149_code 51 = .ok (.aload_n 0, 1) := by decide +kernel
theorem d11_52 : decode jdk_42_method_149_code 52 = .ok (.aload 5, 2) := by decide +kernel
theorem d11_54 : decode jdk_42_method_149_code 54 = .ok (.putfield 9, 3) := by decide +kernel
theorem d11_57 : decode jdk_42_method_149_code 57 = .ok (.return_, 1) := by decide +kernel
theorem d11_58 : decode jdk_42_method_149_code 58 = .ok (.aload_n 0, 1) := by decide +kernel
theorem d11_59 : decode jdk_42_method_149_code 59 = .ok (.iconst 1, 1) := by decide +kernel
theorem d11_60 : decode jdk_42_method_149_code 60 = .ok (.putfield 15, 3) := by decide +kernel
theorem d11_63 : decode jdk_42_method_149_code 63 = .ok (.aload_n 0, 1) := by decide +kernel
theorem d11_64 : decode jdk_42_method_149_code 64 = .ok (.aload_n 1, 1) := by decide +kernel
theorem d11_65 : decode jdk_42_method_149_code 65 = .ok (.iload_n 2, 1) := by decide +kernel
theorem d11_66 : decode jdk_42_method_149_code 66 = .ok (.iload_n 3, 1) := by decide +kernel
theorem d11_67 : decode jdk_42_method_149_code 67 = .ok (.invokestatic 180, 3) := by decide +kernel
theorem d11_70 : decode jdk_42_method_149_code 70 = .ok (.putfield 9, 3) := by decide +kernel
theorem d11_73 : decode jdk_42_method_149_code 73 = .ok (.return_, 1) := by decide +kernel
theorem pn_11 : plainName "java/lang/String" = true := by first | (simp [plainName, overriddenIn]; done) | decide +kernel
def QrmE4 (Z : State) (a1 : Addr) (b1 : Addr) (u1 : Value) (u2 : Value) (h0 : Heap) (n0 : Nat) (v : Option Value) (h : Heap) (L : List Loc) : Prop := v = none ∧ Fr n0 L ∧ Keep h0 h [a1] ∧ Own.Str Z h a1 []
set_option maxRecDepth 65536 in
set_option maxHeartbeats 40000000 in
theorem rmE4 (l : Launch) (Z : State) (a0 : Array Value) (hw : ∀ d ∈ tables_1, d.before a0 Z = true) (ws : List Jvm.Cond) (a1 : Addr) (b1 : Addr) (u1 : Value) (u2 : Value) (h0 : Heap) (n0 : Nat) (Z0 : n0 ≤ h0.size) (E_a1 : Exa Z h0 a1 "java/lang/String") (f1 : Fld Z h0 a1 "java/lang/String" "value" "[B" u1) (f2 : Fld Z h0 a1 "java/lang/String" "coder" "B" u2) (g_a1 : n0 ≤ a1) :
    MetFree l (⟨"java/lang/String", "<init>", "([CIILjava/lang/Void;)V"⟩ : MethodName) (head1 (Jvm.Cond.code (⟨"java/lang/String", "<init>", "([CIILjava/lang/Void;)V"⟩ : MethodName) jdk_42_method_149_code 6 none :: ws) ({ frames := 1, cells := 4, slots := 8, locals := 12 } : Room)) (fun a U => a = #[(.ref a1), (.ref b1), (.int (0 : Int32)), (.int (0 : Int32)), .null] ∧ Z.Warmed39 U.vm ∧ U.heap = h0 ∧ CHv Z EL U.vm h0 ∧ ∀ x ∈ ([a1] : List Addr), Safe Z EL U.vm h0 x) (fun _ _ _ _ _ => True) (fun _ U o U' => ∃ v L, o = .returned v ∧ QrmE4 Z a1 b1 u1 u2 h0 n0 v U'.heap L ∧ CHr Z EL U.vm U.heap U'.vm U'.heap ∧ ReturnedEndW U o U' L ({ frames := 1, cells := 4, slots := 8, locals := 12 } : Room).cells ({ frames := 1, cells := 4, slots := 8, locals := 12 } : Room).slots) := by
  refine MetFree.of_bodySF (plainFor_of_name pn_11) hisR ?_
  intro p e s m args below meth c s₁ Bd hml0 hP hK
  obtain ⟨rfl, hZ, hh, hCH, hSf⟩ := hP
  have hml : c.maxLocals = 6 := hml0
  have hlk : meth.locks = false := Bd.notSynchronized
  have hret := Bd.returns
  have hnm := (name_of_methodNamed Bd.named Bd.method).1
  have P0 : Own.Wk Z "java/lang/String" jdk_42_method_149_code h0 p l e ({ frames := 1, cells := 4, slots := 8, locals := 12 } : Room) (s.setVm s.vm) m #[(.ref a1), (.ref b1), (.int (0 : Int32)), (.int (0 : Int32)), .null] below meth c s₁ [] 0 0 := ⟨Stand.of_body Bd, Bd.exec, Bd.bytes, hZ, findClass_of_methodNamed Bd.named, by rw [← hh, Bd.state]; rfl⟩
  have H0 : Own.Hd Z EL s s.vm h0 h0 := Own.Hd.start hCH
  have N0 := Fr.nil n0
  show Own.Goes p.tables e below (fun s₂ o => ∃ v L, o = .returned v ∧ QrmE4 Z a1 b1 u1 u2 h0 n0 v s₂.heap L ∧ CHr Z EL s.vm s.heap s₂.vm s₂.heap ∧ ReturnedEndW s o s₂ L ({ frames := 1, cells := 4, slots := 8, locals := 12 } : Room).cells ({ frames := 1, cells := 4, slots := 8, locals := 12 } : Room).slots) (s₁.setTop (entryFrame m #[(.ref a1), (.ref b1), (.int (0 : Int32)), (.int (0 : Int32)), .null] 6))
  rw [show entryFrame m #[(.ref a1), (.ref b1), (.int (0 : Int32)), (.int (0 : Int32)), .null] 6 = mkF m 0 #[.val (.ref a1), .val (.ref b1), .val (.int (0 : Int32)), .val (.int (0 : Int32)), .val .null, .unset] [] from by first | rfl | (simp [entryFrame, mkF, argsToLocals, Value.category]; done)]
  refine Own.aloadN (q := 1) P0 d11_0 rfl rfl rfl ?_
  refine Own.objinit (q := 4) (W := 0) P0 d11_1 (hw _ (List.mem_of_getElem? (i := 59) rfl)) (hw _ (List.mem_of_getElem? (i := 60) rfl)) (hw _ (List.mem_of_getElem? (i := 61) rfl)) (by rw [hml]; rfl) (by decide) (by show 2 * 0 + _ ≤ _; exact Nat.le_of_eq rfl) (by decide) rfl ?_
  intro T21 P21
  refine Own.iloadN (q := 5) P21 d11_4 rfl rfl ?_
  refine Own.if_ne (q := 8) (qy := 27) P21 d11_5 (by decide) rfl (fun q => absurd rfl q) (fun _ => ?_)
  refine Own.aloadN (q := 9) P21 d11_8 rfl rfl rfl ?_
  refine Own.ldcStr (q := 11) (n := 0) (cs := []) P21 H0 d11_9 (hw _ (List.mem_of_getElem? (i := 148) rfl)) (fun a ha => hw a (sub_str a ha)) (ew hw) (by decide) (by decide) Own.ch0 (by decide) (by decide) (by decide) (by decide) (by decide) (by decide) (by decide) rfl ?_
  intro T22 vm22 h22 a22 P22 H22 hr22 E22 St22
  obtain ⟨⟨t23, kb23, y23a, y23v, y23c, y23b⟩, -, -⟩ := id St22
  refine Own.getfield (q := 14) P22 d11_11 (hw _ (List.mem_of_getElem? (i := 13) rfl)) y23v rfl ?_
  intro T24 P24
  have E0_1_25 : Ext h0 h22 := E22
  refine Own.putfield (q := 17) P24 d11_14 (hw _ (List.mem_of_getElem? (i := 13) rfl)) (f1.ext E0_1_25) (E_a1.ext E0_1_25) (Or.inr ⟨(hw _ (List.mem_of_getElem? (i := 4) rfl)), rfl, hnm⟩) (hw _ (List.mem_of_getElem? (i := 2) rfl)) (ty := (.array .byte)) (by decide) rfl rfl rfl ?_
  intro T26 h26 lc26 hl26 P26 W26
  have c26_t23 := y23b.other W26 (Ne.symm (Exa.neArv (E_a1.ext E0_1_25) y23b (hw _ (List.mem_of_getElem? (i := 2) rfl))))
  have F26_value := Fld.same W26 (f1.ext E0_1_25)
  have F26_coder := (f2.ext E0_1_25).other W26 (Or.inr (slot_ne (Or.inr (hw _ (List.mem_of_getElem? (i := 5) rfl))) (Or.inr (hw _ (List.mem_of_getElem? (i := 4) rfl))) (by decide) (t := .byte) (t' := (.array .byte)) (by decide) (by decide)))
  have A26 := (E_a1.ext E0_1_25).wr W26
  have N26 := Own.Fr.one N0 hl26 g_a1
  refine Own.aloadN (q := 18) P26 d11_17 rfl rfl rfl ?_
  have Hd27 := (Own.Hd.wr H22 W26 (CHr.safe H22.2 E_a1.lt (hSf _ (by simp))))
  refine Own.ldcStr (q := 20) (n := 0) (cs := []) P26 Hd27 d11_18 (hw _ (List.mem_of_getElem? (i := 148) rfl)) (fun a ha => hw a (sub_str a ha)) (ew hw) (by decide) (by decide) Own.ch0 (by decide) (by decide) (by decide) (by decide) (by decide) (by decide) (by decide) rfl ?_
  intro T28 vm28 h28 a28 P28 H28 hr28 E28 St28
  obtain ⟨⟨t29, kb29, y29a, y29v, y29c, y29b⟩, -, -⟩ := id St28
  refine Own.getfield (q := 23) P28 d11_20 (hw _ (List.mem_of_getElem? (i := 20) rfl)) y29c rfl ?_
  intro T30 P30
  have E2_3_31 : Ext h26 h28 := E28
  refine Own.putfield (q := 26) P30 d11_23 (hw _ (List.mem_of_getElem? (i := 20) rfl)) (F26_coder.ext E2_3_31) (A26.ext E2_3_31) (Or.inr ⟨(hw _ (List.mem_of_getElem? (i := 5) rfl)), rfl, hnm⟩) (hw _ (List.mem_of_getElem? (i := 2) rfl)) (ty := .byte) (by decide) rfl rfl rfl ?_
  intro T32 h32 lc32 hl32 P32 W32
  have c32_t23 := (c26_t23.ext E2_3_31).other W32 (Ne.symm (Exa.neArv (A26.ext E2_3_31) (c26_t23.ext E2_3_31) (hw _ (List.mem_of_getElem? (i := 2) rfl))))
  have F32_value := (F26_value.ext E2_3_31).other W32 (Or.inr (slot_ne (Or.inr (hw _ (List.mem_of_getElem? (i := 4) rfl))) (Or.inr (hw _ (List.mem_of_getElem? (i := 5) rfl))) (by decide) (t := (.array .byte)) (t' := .byte) (by decide) (by decide)))
  have F32_coder := Fld.same W32 (F26_coder.ext E2_3_31)
  have A32 := (A26.ext E2_3_31).wr W32
  have N32 := Own.Fr.one N26 hl32 g_a1
  have Hd33 := (Own.Hd.wr H28 W32 (CHr.safe H28.2 E_a1.lt (hSf _ (by simp))))
  refine Own.retVH (Q := QrmE4 Z a1 b1 u1 u2 h0 n0) P32 hh (ew hw) Hd33 d11_26 hret hlk (by decide) (by decide) ?_
  exact ⟨rfl, N32, (Keep.wr (Keep.ext (Keep.wr (Keep.ext (Keep.refl h0 _) E22) W26 (Or.inl (by simp))) E28) W32 (Or.inl (by simp))), ⟨t23, _, A32, F32_value, F32_coder, c32_t23⟩, Own.ch0, by decide⟩
theorem d10_0 : decode jdk_42_method_3_code 0 = .ok (.aload_n 0, 1) := by decide +kernel
theorem d10_1 : decode jdk_42_method_3_code 1 = .ok (.aload_n 1, 1) := by decide +kernel
theorem d10_2 : decode jdk_42_method_3_code 2 = .ok (.iconst 0, 1) := by decide +kernel
theorem d10_3 : decode jdk_42_method_3_code 3 = .ok (.aload_n 1, 1) := by decide +kernel
theorem d10_4 : decode jdk_42_method_3_code 4 = .ok (.arraylength, 1) := by decide +kernel
theorem d10_5 : decode jdk_42_method_3_code 5 = .ok (.aconst_null, 1) := by decide +kernel
theorem d10_6 : decode jdk_42_method_3_code 6 = .ok (.invokespecial 27, 3) := by decide +kernel
theorem d10_9 : decode jdk_42_method_3_code 9 = .ok (.return_, 1) := by decide +kernel
theorem pn_10 : plainName "java/lang/String" = true := by first | (simp [plainName, overriddenIn]; done) | decide +kernel
def QrmE1 (Z : State) (a1 : Addr) (b1 : Addr) (kc : ClassId) (u1 : Value) (u2 : Value) (d1 : Value) (h0 : Heap) (n0 : Nat) (v : Option Value) (h : Heap) (L : List Loc) : Prop := v = none ∧ Fr n0 L ∧ Keep h0 h [a1] ∧ Own.Str Z h a1 []
set_option maxRecDepth 65536 in
set_option maxHeartbeats 40000000 in
theorem rmE1 (l : Launch) (Z : State) (a0 : Array Value) (hw : ∀ d ∈ tables_1, d.before a0 Z = true) (ws : List Jvm.Cond) (a1 : Addr) (b1 : Addr) (kc : ClassId) (u1 : Value) (u2 : Value) (d1 : Value) (h0 : Heap) (n0 : Nat) (Z0 : n0 ≤ h0.size) (E_a1 : Exa Z h0 a1 "java/lang/String") (f1 : Fld Z h0 a1 "java/lang/String" "value" "[B" u1) (f2 : Fld Z h0 a1 "java/lang/String" "coder" "B" u2) (g_a1 : n0 ≤ a1) (A_b1 : Arv Z h0 b1 kc .char 0 [] d1) :
    MetFree l (⟨"java/lang/String", "<init>", "([C)V"⟩ : MethodName) (head1 (Jvm.Cond.code (⟨"java/lang/String", "<init>", "([C)V"⟩ : MethodName) jdk_42_method_3_code 2 none :: ws) ({ frames := 2, cells := 4, slots := 8, locals := 29 } : Room)) (fun a U => a = #[(.ref a1), (.ref b1)] ∧ Z.Warmed39 U.vm ∧ U.heap = h0 ∧ CHv Z EL U.vm h0 ∧ ∀ x ∈ ([a1] : List Addr), Safe Z EL U.vm h0 x) (fun _ _ _ _ _ => True) (fun _ U o U' => ∃ v L, o = .returned v ∧ QrmE1 Z a1 b1 kc u1 u2 d1 h0 n0 v U'.heap L ∧ CHr Z EL U.vm U.heap U'.vm U'.heap ∧ ReturnedEndW U o U' L ({ frames := 2, cells := 4, slots := 8, locals := 29 } : Room).cells ({ frames := 2, cells := 4, slots := 8, locals := 29 } : Room).slots) := by
  refine MetFree.of_bodySF (plainFor_of_name pn_10) hisR ?_
  intro p e s m args below meth c s₁ Bd hml0 hP hK
  obtain ⟨rfl, hZ, hh, hCH, hSf⟩ := hP
  have hml : c.maxLocals = 2 := hml0
  have hlk : meth.locks = false := Bd.notSynchronized
  have hret := Bd.returns
  have hnm := (name_of_methodNamed Bd.named Bd.method).1
  have P0 : Own.Wk Z "java/lang/String" jdk_42_method_3_code h0 p l e ({ frames := 2, cells := 4, slots := 8, locals := 29 } : Room) (s.setVm s.vm) m #[(.ref a1), (.ref b1)] below meth c s₁ [] 0 0 := ⟨Stand.of_body Bd, Bd.exec, Bd.bytes, hZ, findClass_of_methodNamed Bd.named, by rw [← hh, Bd.state]; rfl⟩
  have H0 : Own.Hd Z EL s s.vm h0 h0 := Own.Hd.start hCH
  have N0 := Fr.nil n0
  show Own.Goes p.tables e below (fun s₂ o => ∃ v L, o = .returned v ∧ QrmE1 Z a1 b1 kc u1 u2 d1 h0 n0 v s₂.heap L ∧ CHr Z EL s.vm s.heap s₂.vm s₂.heap ∧ ReturnedEndW s o s₂ L ({ frames := 2, cells := 4, slots := 8, locals := 29 } : Room).cells ({ frames := 2, cells := 4, slots := 8, locals := 29 } : Room).slots) (s₁.setTop (entryFrame m #[(.ref a1), (.ref b1)] 2))
  rw [show entryFrame m #[(.ref a1), (.ref b1)] 2 = mkF m 0 #[.val (.ref a1), .val (.ref b1)] [] from by first | rfl | (simp [entryFrame, mkF, argsToLocals, Value.category]; done)]
  refine Own.aloadN (q := 1) P0 d10_0 rfl rfl rfl ?_
  refine Own.aloadN (q := 2) P0 d10_1 rfl rfl rfl ?_
  refine Own.iconst (q := 3) (v := (0 : Int32)) P0 d10_2 rfl rfl ?_
  refine Own.aloadN (q := 4) P0 d10_3 rfl rfl rfl ?_
  refine Own.arraylength (q := 5) P0 d10_4 A_b1 rfl ?_
  refine Own.aconst (q := 6) P0 d10_5  rfl ?_
  refine Own.invSpecialH (q := 9) (W := 0) (y := (⟨"java/lang/String", "<init>", "([CIILjava/lang/Void;)V"⟩ : MethodName)) (a := a1) (argsL := [(.ref b1), (.int (0 : Int32)), (.int (0 : Int32)), .null]) (rest := []) P0 H0 d10_6 rfl (hw _ (List.mem_of_getElem? (i := 55) rfl)) (hw _ (List.mem_of_getElem? (i := 56) rfl)) (hw _ (List.mem_of_getElem? (i := 58) rfl)) (by decide) (Own.backH (W := 0) (rmE4 l Z a0 hw [] a1 b1 u1 u2 h0 n0 Z0 E_a1 f1 f2 g_a1) P0.2.2.2.1 (hw _ (List.mem_of_getElem? (i := 58) rfl)) (hw _ (List.mem_of_getElem? (i := 1) rfl)) (by decide) (by decide) (ew hw) H0.2.1 (allS ⟨E_a1.lt, (CHr.safe H0.2 E_a1.lt (hSf _ (by simp)))⟩ all0)) rfl rfl (by rw [hml]; rfl) (lenOf (show parseMethodDescriptor "([CIILjava/lang/Void;)V" = some ⟨[(.array .char), .int, .int, (.object "java/lang/Void")], none⟩ from by decide +kernel) rfl) (by show 2 * 0 + _ ≤ _; exact Nat.le_of_eq rfl) (by decide) (by decide) rfl ?_
  rintro v21 T21 vm21 h21 L21 ⟨rfl, N21q, K21, St21⟩ P21 H21 hr21
  have N21 := Fr.app N0 N21q
  show Own.Goes _ _ _ _ (T21.setTop (mkF m 9 #[.val (.ref a1), .val (.ref b1)] []))
  refine Own.retVH (Q := QrmE1 Z a1 b1 kc u1 u2 d1 h0 n0) P21 hh (ew hw) H21 d10_9 hret hlk (by decide) (by decide) ?_
  exact ⟨rfl, N21, K21, St21⟩
theorem d3_0 : decode method_2_code 0 = .ok (.iload_n 1, 1) := by decide +kernel
theorem d3_1 : decode method_2_code 1 = .ok (.aload_n 0, 1) := by decide +kernel
theorem d3_2 : decode method_2_code 2 = .ok (.invokevirtual 7, 3) := by decide +kernel
theorem d3_5 : decode method_2_code 5 = .ok (.if_icmp .ge 11, 3) := by decide +kernel
theorem d3_8 : decode method_2_code 8 = .ok (.aload_n 0, 1) := by decide +kernel
theorem d3_9 : decode method_2_code 9 = .ok (.iload_n 1, 1) := by decide +kernel
theorem d3_10 : decode method_2_code 10 = .ok (.invokevirtual 13, 3) := by decide +kernel
theorem d3_13 : decode method_2_code 13 = .ok (.goto 4, 3) := by decide +kernel
theorem d3_16 : decode method_2_code 16 = .ok (.iconst 0, 1) := by decide +kernel
theorem d3_17 : decode method_2_code 17 = .ok (.ireturn, 1) := by decide +kernel
theorem pn_3 : plainName "com/example/mokuroku/mokuroku/core/FormatByCliNamePinLaw" = true := by first | (simp [plainName, overriddenIn]; done) | decide +kernel
def QrmAt (Z : State) (a1 : Addr) (cs : List Int32) (j0 : Int32) (jn : Nat) (zc : Int32) (fm : Value) (h0 : Heap) (n0 : Nat) (v : Option Value) (h : Heap) (L : List Loc) : Prop := v = some (.int (cs.getD jn 0)) ∧ Fr n0 L ∧ h = h0
set_option maxRecDepth 65536 in
set_option maxHeartbeats 40000000 in
theorem rmAt (l : Launch) (Z : State) (a0 : Array Value) (hw : ∀ d ∈ tables_1, d.before a0 Z = true) (ws : List Jvm.Cond) (a1 : Addr) (cs : List Int32) (j0 : Int32) (jn : Nat) (zc : Int32) (fm : Value) (h0 : Heap) (n0 : Nat) (Z0 : n0 ≤ h0.size) (SC : Sta Z h0 "java/lang/String" "COMPACT_STRINGS" "Z" (.int zc)) (hzc : ¬ zc = 0) (SF : Sta Z h0 "jdk/internal/util/Preconditions" "SIOOBE_FORMATTER" "Ljava/util/function/BiFunction;" fm) (hfm : fm.isRef = true) (S1 : Own.Str Z h0 a1 cs) (hj : j0 = Int32.ofNat jn) (hj8 : jn ≤ 8) :
    MetFree l (⟨"com/example/mokuroku/mokuroku/core/FormatByCliNamePinLaw", "at", "(Ljava/lang/String;I)C"⟩ : MethodName) (head1 (Jvm.Cond.code (⟨"com/example/mokuroku/mokuroku/core/FormatByCliNamePinLaw", "at", "(Ljava/lang/String;I)C"⟩ : MethodName) method_2_code 2 (some .char) :: ws) ({ frames := 4, cells := 0, slots := 0, locals := 53 } : Room)) (fun a U => a = #[(.ref a1), (.int j0)] ∧ Z.Warmed39 U.vm ∧ U.heap = h0) (fun _ _ _ _ _ => True) (fun _ U o U' => ∃ v L, o = .returned v ∧ QrmAt Z a1 cs j0 jn zc fm h0 n0 v U'.heap L ∧ FrameEnd U o U' L ({ frames := 4, cells := 0, slots := 0, locals := 53 } : Room).cells ({ frames := 4, cells := 0, slots := 0, locals := 53 } : Room).slots) := by
  refine MetFree.of_bodySF (plainFor_of_name pn_3) hisR ?_
  intro p e s m args below meth c s₁ Bd hml0 hP hK
  obtain ⟨rfl, hZ, hh⟩ := hP
  have hml : c.maxLocals = 2 := hml0
  have hlk : meth.locks = false := Bd.notSynchronized
  have hret := Bd.returns
  have hnm := (name_of_methodNamed Bd.named Bd.method).1
  have P0 : Own.Wk Z "com/example/mokuroku/mokuroku/core/FormatByCliNamePinLaw" method_2_code h0 p l e ({ frames := 4, cells := 0, slots := 0, locals := 53 } : Room) s m #[(.ref a1), (.int j0)] below meth c s₁ [] 0 0 := ⟨Stand.of_body Bd, Bd.exec, Bd.bytes, hZ, findClass_of_methodNamed Bd.named, by rw [← hh, Bd.state]; rfl⟩
  have N0 := Fr.nil n0
  show Own.Goes p.tables e below (fun s₂ o => ∃ v L, o = .returned v ∧ QrmAt Z a1 cs j0 jn zc fm h0 n0 v s₂.heap L ∧ FrameEnd s o s₂ L ({ frames := 4, cells := 0, slots := 0, locals := 53 } : Room).cells ({ frames := 4, cells := 0, slots := 0, locals := 53 } : Room).slots) (s₁.setTop (entryFrame m #[(.ref a1), (.int j0)] 2))
  rw [show entryFrame m #[(.ref a1), (.int j0)] 2 = mkF m 0 #[.val (.ref a1), .val (.int j0)] [] from by first | rfl | (simp [entryFrame, mkF, argsToLocals, Value.category]; done)]
  refine Own.iloadN (q := 1) P0 d3_0 rfl rfl ?_
  refine Own.aloadN (q := 2) P0 d3_1 rfl rfl rfl ?_
  refine Own.invVirtual (q := 5) (W := 1) (y := (⟨"java/lang/String", "length", "()I"⟩ : MethodName)) (a := a1) (argsL := []) (rest := [(.int j0)]) P0 d3_2 (hw _ (List.mem_of_getElem? (i := 8) rfl)) (hw _ (List.mem_of_getElem? (i := 9) rfl)) (hw _ (List.mem_of_getElem? (i := 11) rfl)) (hw _ (List.mem_of_getElem? (i := 10) rfl)) (notFace_of_selects (args := #[]) (mvT P0.2.2.2.1 (hw _ (List.mem_of_getElem? (i := 11) rfl)))) (by decide) (Own.lenB (W := 1) (n0 := n0) P0.2.2.2.1 (fun d hd => hw d (sub_lenW d hd)) (hw _ (List.mem_of_getElem? (i := 2) rfl)) S1 SC hzc (by decide) (by decide)) S1.exa rfl rfl (by rw [hml]; rfl) (lenOf (show parseMethodDescriptor "()I" = some ⟨[], some .int⟩ from by decide +kernel) rfl) (by show 2 * 0 + _ ≤ _; exact Nat.le_of_eq rfl) (by decide) (by decide) rfl ?_
  rintro v21 T21 h21 L21 ⟨rfl, N21q, e21⟩ P21
  rw [e21] at P21
  have N21 := Fr.app N0 N21q
  show Own.Goes _ _ _ _ (T21.setTop (mkF m 5 #[.val (.ref a1), .val (.int j0)] [(.int (Int32.ofNat (cs : List Int32).length)), (.int j0)]))
  refine Own.icmp_ge (q := 8) (qy := 16) P21 d3_5 (by decide) rfl (fun q5 => ?_) (fun q5 => ?_)
  · have g5 : ¬ jn < cs.length := fun z => q5 (by rw [hj]; exact (Own.ofNat_lt (by omega) S1.2.2).mpr z)
    refine Own.iconst (q := 17) (v := (0 : Int32)) P21 d3_16 rfl rfl ?_
    refine Own.retZ (Q := QrmAt Z a1 cs j0 jn zc fm h0 n0) P21 d3_17 hret (by simp) hlk (by decide) (by decide) ?_
    exact ⟨by rw [show nar .char (0 : Int32) = 0 from rfl, List.getD_eq_getElem?_getD, List.getElem?_eq_none (Nat.le_of_not_lt g5)]; rfl, N21, rfl⟩
  · have g5 : jn < cs.length := (Own.ofNat_lt (by omega) S1.2.2).mp (by rw [← hj]; exact q5)
    refine Own.aloadN (q := 9) P21 d3_8 rfl rfl rfl ?_
    refine Own.iloadN (q := 10) P21 d3_9 rfl rfl ?_
    refine Own.invVirtual (q := 13) (W := 0) (y := (⟨"java/lang/String", "charAt", "(I)C"⟩ : MethodName)) (a := a1) (argsL := [(.int j0)]) (rest := []) P21 d3_10 (hw _ (List.mem_of_getElem? (i := 26) rfl)) (hw _ (List.mem_of_getElem? (i := 27) rfl)) (hw _ (List.mem_of_getElem? (i := 29) rfl)) (hw _ (List.mem_of_getElem? (i := 28) rfl)) (notFace_of_selects (args := #[]) (mvT P21.2.2.2.1 (hw _ (List.mem_of_getElem? (i := 29) rfl)))) (by decide) (Own.chB (W := 0) (n0 := n0) (i := jn) P21.2.2.2.1 (fun d hd => hw d (sub_chN d hd)) (hw _ (List.mem_of_getElem? (i := 2) rfl)) S1 SC hzc SF hfm g5 hj (by decide) (by decide)) S1.exa rfl rfl (by rw [hml]; rfl) (lenOf (show parseMethodDescriptor "(I)C" = some ⟨[.int], some .char⟩ from by decide +kernel) rfl) (by show 2 * 0 + _ ≤ _; exact Nat.le_of_eq rfl) (by decide) (by decide) rfl ?_
    rintro v22 T22 h22 L22 ⟨rfl, N22q, e22⟩ P22
    rw [e22] at P22
    have N22 := Fr.app N21 N22q
    show Own.Goes _ _ _ _ (T22.setTop (mkF m 13 #[.val (.ref a1), .val (.int j0)] [(.int ((cs : List Int32).getD jn 0))]))
    refine Own.goto (q := 17) P22 d3_13 (by decide) ?_
    refine Own.retZ (Q := QrmAt Z a1 cs j0 jn zc fm h0 n0) P22 d3_17 hret (by simp) hlk (by decide) (by decide) ?_
    exact ⟨by rw [Own.nar_id (Own.getD_rng S1.2.1 jn)], N22, rfl⟩
theorem d27_0 : decode method_3_code 0 = .ok (.lload_n 0, 1) := by decide +kernel
theorem d27_1 : decode method_3_code 1 = .ok (.bipush 8, 2) := by decide +kernel
theorem d27_3 : decode method_3_code 3 = .ok (.iload_n 2, 1) := by decide +kernel
theorem d27_4 : decode method_3_code 4 = .ok (.imul, 1) := by decide +kernel
theorem d27_5 : decode method_3_code 5 = .ok (.lushr, 1) := by decide +kernel
theorem d27_6 : decode method_3_code 6 = .ok (.ldc2_w 17, 3) := by decide +kernel
theorem d27_9 : decode method_3_code 9 = .ok (.land, 1) := by decide +kernel
theorem d27_10 : decode method_3_code 10 = .ok (.l2i, 1) := by decide +kernel
theorem d27_11 : decode method_3_code 11 = .ok (.i2c, 1) := by decide +kernel
theorem d27_12 : decode method_3_code 12 = .ok (.ireturn, 1) := by decide +kernel
theorem pn_27 : plainName "com/example/mokuroku/mokuroku/core/FormatByCliNamePinLaw" = true := by first | (simp [plainName, overriddenIn]; done) | decide +kernel
def QrmBy (Z : State) (d0 : Int64) (j0 : Int32) (h0 : Heap) (n0 : Nat) (v : Option Value) (h : Heap) (L : List Loc) : Prop := ∃ c, v = some (.int c) ∧ (¬ c < 0 ∧ ¬ (255 : Int32) < c) ∧ Fr n0 L ∧ h = h0
set_option maxRecDepth 65536 in
set_option maxHeartbeats 40000000 in
theorem rmBy (l : Launch) (Z : State) (a0 : Array Value) (hw : ∀ d ∈ tables_1, d.before a0 Z = true) (ws : List Jvm.Cond) (d0 : Int64) (j0 : Int32) (h0 : Heap) (n0 : Nat) (Z0 : n0 ≤ h0.size)  :
    MetFree l (⟨"com/example/mokuroku/mokuroku/core/FormatByCliNamePinLaw", "by", "(JI)C"⟩ : MethodName) (head1 (Jvm.Cond.code (⟨"com/example/mokuroku/mokuroku/core/FormatByCliNamePinLaw", "by", "(JI)C"⟩ : MethodName) method_3_code 3 (some .char) :: ws) ({ frames := 0, cells := 0, slots := 0, locals := 0 } : Room)) (fun a U => a = #[(.long d0), (.int j0)] ∧ Z.Warmed39 U.vm ∧ U.heap = h0) (fun _ _ _ _ _ => True) (fun _ U o U' => ∃ v L, o = .returned v ∧ QrmBy Z d0 j0 h0 n0 v U'.heap L ∧ FrameEnd U o U' L ({ frames := 0, cells := 0, slots := 0, locals := 0 } : Room).cells ({ frames := 0, cells := 0, slots := 0, locals := 0 } : Room).slots) := by
  refine MetFree.of_bodySF (plainFor_of_name pn_27) hisR ?_
  intro p e s m args below meth c s₁ Bd hml0 hP hK
  obtain ⟨rfl, hZ, hh⟩ := hP
  have hml : c.maxLocals = 3 := hml0
  have hlk : meth.locks = false := Bd.notSynchronized
  have hret := Bd.returns
  have hnm := (name_of_methodNamed Bd.named Bd.method).1
  have P0 : Own.Wk Z "com/example/mokuroku/mokuroku/core/FormatByCliNamePinLaw" method_3_code h0 p l e ({ frames := 0, cells := 0, slots := 0, locals := 0 } : Room) s m #[(.long d0), (.int j0)] below meth c s₁ [] 0 0 := ⟨Stand.of_body Bd, Bd.exec, Bd.bytes, hZ, findClass_of_methodNamed Bd.named, by rw [← hh, Bd.state]; rfl⟩
  have N0 := Fr.nil n0
  show Own.Goes p.tables e below (fun s₂ o => ∃ v L, o = .returned v ∧ QrmBy Z d0 j0 h0 n0 v s₂.heap L ∧ FrameEnd s o s₂ L ({ frames := 0, cells := 0, slots := 0, locals := 0 } : Room).cells ({ frames := 0, cells := 0, slots := 0, locals := 0 } : Room).slots) (s₁.setTop (entryFrame m #[(.long d0), (.int j0)] 3))
  rw [show entryFrame m #[(.long d0), (.int j0)] 3 = mkF m 0 #[.val (.long d0), .second, .val (.int j0)] [] from by first | rfl | (simp [entryFrame, mkF, argsToLocals, Value.category]; done)]
  refine Own.lloadN (q := 1) P0 d27_0 rfl rfl ?_
  refine Own.bipush (q := 3) (v := (8 : Int32)) P0 d27_1 rfl rfl ?_
  refine Own.iloadN (q := 4) P0 d27_3 rfl rfl ?_
  refine Own.imul (q := 5) P0 d27_4  rfl ?_
  refine Own.lushr (q := 6) P0 d27_5  rfl ?_
  refine Own.ldcJ (q := 9) (v := (255 : Int64)) P0 d27_6 (hw _ (List.mem_of_getElem? (i := 145) rfl)) rfl ?_
  refine Own.land (q := 10) P0 d27_9  rfl ?_
  refine Own.l2i (q := 11) P0 d27_10  rfl ?_
  refine Own.i2cV (q := 12) (v := (((Jvm.Free.XT.ushrL d0 ((8 : Int32) * j0)) &&& (255 : Int64))).toInt32) P0 d27_11 (Own.i2c_id (Own.loL_rng _)) rfl ?_
  refine Own.retZ (Q := QrmBy Z d0 j0 h0 n0) P0 d27_12 hret (by simp) hlk (by decide) (by decide) ?_
  exact ⟨_, rfl, by rw [Own.nar_id (Own.loL_rng _)]; exact Own.loL_rng _, N0, rfl⟩
theorem d9_0 : decode method_4_code 0 = .ok (.iload_n 1, 1) := by decide +kernel
theorem d9_1 : decode method_4_code 1 = .ok (.ifCond .gt 14, 3) := by decide +kernel
theorem d9_4 : decode method_4_code 4 = .ok (.new 8, 3) := by decide +kernel
theorem d9_7 : decode method_4_code 7 = .ok (.dup, 1) := by decide +kernel
theorem d9_8 : decode method_4_code 8 = .ok (.iconst 0, 1) := by decide +kernel
theorem d9_9 : decode method_4_code 9 = .ok (.newarray .char, 2) := by decide +kernel
theorem d9_11 : decode method_4_code 11 = .ok (.invokespecial 19, 3) := by decide +kernel
theorem d9_14 : decode method_4_code 14 = .ok (.areturn, 1) := by decide +kernel
theorem d9_15 : decode method_4_code 15 = .ok (.iload_n 1, 1) := by decide +kernel
theorem d9_16 : decode method_4_code 16 = .ok (.iconst 1, 1) := by decide +kernel
theorem d9_17 : decode method_4_code 17 = .ok (.if_icmp .ne 20, 3) := by decide +kernel
theorem d9_20 : decode method_4_code 20 = .ok (.new 8, 3) := by decide +kernel
theorem d9_23 : decode method_4_code 23 = .ok (.dup, 1) := by decide +kernel
theorem d9_24 : decode method_4_code 24 = .ok (.iconst 1, 1) := by decide +kernel
theorem d9_25 : decode method_4_code 25 = .ok (.newarray .char, 2) := by decide +kernel
theorem d9_27 : decode method_4_code 27 = .ok (.dup, 1) := by decide +kernel
theorem d9_28 : decode method_4_code 28 = .ok (.iconst 0, 1) := by decide +kernel
theorem d9_29 : decode method_4_code 29 = .ok (.aload_n 0, 1) := by decide +kernel
theorem d9_30 : decode method_4_code 30 = .ok (.iconst 0, 1) := by decide +kernel
theorem d9_31 : decode method_4_code 31 = .ok (.caload, 1) := by decide +kernel
theorem d9_32 : decode method_4_code 32 = .ok (.castore, 1) := by decide +kernel
theorem d9_33 : decode method_4_code 33 = .ok (.invokespecial 19, 3) := by decide +kernel
theorem d9_36 : decode method_4_code 36 = .ok (.areturn, 1) := by decide +kernel
theorem d9_37 : decode method_4_code 37 = .ok (.iload_n 1, 1) := by decide +kernel
theorem d9_38 : decode method_4_code 38 = .ok (.iconst 2, 1) := by decide +kernel
theorem d9_39 : decode method_4_code 39 = .ok (.if_icmp .ne 26, 3) := by decide +kernel
theorem d9_42 : decode method_4_code 42 = .ok (.new 8, 3) := by decide +kernel
theorem d9_45 : decode method_4_code 45 = .ok (.dup, 1) := by decide +kernel
theorem d9_46 : decode method_4_code 46 = .ok (.iconst 2, 1) := by decide +kernel
theorem d9_47 : decode method_4_code 47 = .ok (.newarray .char, 2) := by decide +kernel
theorem d9_49 : decode method_4_code 49 = .ok (.dup, 1) := by decide +kernel
theorem d9_50 : decode method_4_code 50 = .ok (.iconst 0, 1) := by decide +kernel
theorem d9_51 : decode method_4_code 51 = .ok (.aload_n 0, 1) := by decide +kernel
theorem d9_52 : decode method_4_code 52 = .ok (.iconst 0, 1) := by decide +kernel
theorem d9_53 : decode method_4_code 53 = .ok (.caload, 1) := by decide +kernel
theorem d9_54 : decode method_4_code 54 = .ok (.castore, 1) := by decide +kernel
theorem d9_55 : decode method_4_code 55 = .ok (.dup, 1) := by decide +kernel
theorem d9_56 : decode method_4_code 56 = .ok (.iconst 1, 1) := by decide +kernel
theorem d9_57 : decode method_4_code 57 = .ok (.aload_n 0, 1) := by decide +kernel
theorem d9_58 : decode method_4_code 58 = .ok (.iconst 1, 1) := by decide +kernel
theorem d9_59 : decode method_4_code 59 = .ok (.caload, 1) := by decide +kernel
theorem d9_60 : decode method_4_code 60 = .ok (.castore, 1) := by decide +kernel
theorem d9_61 : decode method_4_code 61 = .ok (.invokespecial 19, 3) := by decide +kernel
theorem d9_64 : decode method_4_code 64 = .ok (.areturn, 1) := by decide +kernel
theorem d9_65 : decode method_4_code 65 = .ok (.iload_n 1, 1) := by decide +kernel
theorem d9_66 : decode method_4_code 66 = .ok (.iconst 3, 1) := by decide +kernel
theorem d9_67 : decode method_4_code 67 = .ok (.if_icmp .ne 32, 3) := by decide +kernel
theorem d9_70 : decode method_4_code 70 = .ok (.new 8, 3) := by decide +kernel
theorem d9_73 : decode method_4_code 73 = .ok (.dup, 1) := by decide +kernel
theorem d9_74 : decode method_4_code 74 = .ok (.iconst 3, 1) := by decide +kernel
theorem d9_75 : decode method_4_code 75 = .ok (.newarray .char, 2) := by decide +kernel
theorem d9_77 : decode method_4_code 77 = .ok (.dup, 1) := by decide +kernel
theorem d9_78 : decode method_4_code 78 = .ok (.iconst 0, 1) := by decide +kernel
theorem d9_79 : decode method_4_code 79 = .ok (.aload_n 0, 1) := by decide +kernel
theorem d9_80 : decode method_4_code 80 = .ok (.iconst 0, 1) := by decide +kernel
theorem d9_81 : decode method_4_code 81 = .ok (.caload, 1) := by decide +kernel
theorem d9_82 : decode method_4_code 82 = .ok (.castore, 1) := by decide +kernel
theorem d9_83 : decode method_4_code 83 = .ok (.dup, 1) := by decide +kernel
theorem d9_84 : decode method_4_code 84 = .ok (.iconst 1, 1) := by decide +kernel
theorem d9_85 : decode method_4_code 85 = .ok (.aload_n 0, 1) := by decide +kernel
theorem d9_86 : decode method_4_code 86 = .ok (.iconst 1, 1) := by decide +kernel
theorem d9_87 : decode method_4_code 87 = .ok (.caload, 1) := by decide +kernel
theorem d9_88 : decode method_4_code 88 = .ok (.castore, 1) := by decide +kernel
theorem d9_89 : decode method_4_code 89 = .ok (.dup, 1) := by decide +kernel
theorem d9_90 : decode method_4_code 90 = .ok (.iconst 2, 1) := by decide +kernel
theorem d9_91 : decode method_4_code 91 = .ok (.aload_n 0, 1) := by decide +kernel
theorem d9_92 : decode method_4_code 92 = .ok (.iconst 2, 1) := by decide +kernel
theorem d9_93 : decode method_4_code 93 = .ok (.caload, 1) := by decide +kernel
theorem d9_94 : decode method_4_code 94 = .ok (.castore, 1) := by decide +kernel
theorem d9_95 : decode method_4_code 95 = .ok (.invokespecial 19, 3) := by decide +kernel
theorem d9_98 : decode method_4_code 98 = .ok (.areturn, 1) := by decide +kernel
theorem d9_99 : decode method_4_code 99 = .ok (.iload_n 1, 1) := by decide +kernel
theorem d9_100 : decode method_4_code 100 = .ok (.iconst 4, 1) := by decide +kernel
theorem d9_101 : decode method_4_code 101 = .ok (.if_icmp .ne 38, 3) := by decide +kernel
theorem d9_104 : decode method_4_code 104 = .ok (.new 8, 3) := by decide +kernel
theorem d9_107 : decode method_4_code 107 = .ok (.dup, 1) := by decide +kernel
theorem d9_108 : decode method_4_code 108 = .ok (.iconst 4, 1) := by decide +kernel
theorem d9_109 : decode method_4_code 109 = .ok (.newarray .char, 2) := by decide +kernel
theorem d9_111 : decode method_4_code 111 = .ok (.dup, 1) := by decide +kernel
theorem d9_112 : decode method_4_code 112 = .ok (.iconst 0, 1) := by decide +kernel
theorem d9_113 : decode method_4_code 113 = .ok (.aload_n 0, 1) := by decide +kernel
theorem d9_114 : decode method_4_code 114 = .ok (.iconst 0, 1) := by decide +kernel
theorem d9_115 : decode method_4_code 115 = .ok (.caload, 1) := by decide +kernel
theorem d9_116 : decode method_4_code 116 = .ok (.castore, 1) := by decide +kernel
theorem d9_117 : decode method_4_code 117 = .ok (.dup, 1) := by decide +kernel
theorem d9_118 : decode method_4_code 118 = .ok (.iconst 1, 1) := by decide +kernel
theorem d9_119 : decode method_4_code 119 = .ok (.aload_n 0, 1) := by decide +kernel
theorem d9_120 : decode method_4_code 120 = .ok (.iconst 1, 1) := by decide +kernel
theorem d9_121 : decode method_4_code 121 = .ok (.caload, 1) := by decide +kernel
theorem d9_122 : decode method_4_code 122 = .ok (.castore, 1) := by decide +kernel
theorem d9_123 : decode method_4_code 123 = .ok (.dup, 1) := by decide +kernel
theorem d9_124 : decode method_4_code 124 = .ok (.iconst 2, 1) := by decide +kernel
theorem d9_125 : decode method_4_code 125 = .ok (.aload_n 0, 1) := by decide +kernel
theorem d9_126 : decode method_4_code 126 = .ok (.iconst 2, 1) := by decide +kernel
theorem d9_127 : decode method_4_code 127 = .ok (.caload, 1) := by decide +kernel
theorem d9_128 : decode method_4_code 128 = .ok (.castore, 1) := by decide +kernel
theorem d9_129 : decode method_4_code 129 = .ok (.dup, 1) := by decide +kernel
theorem d9_130 : decode method_4_code 130 = .ok (.iconst 3, 1) := by decide +kernel
theorem d9_131 : decode method_4_code 131 = .ok (.aload_n 0, 1) := by decide +kernel
theorem d9_132 : decode method_4_code 132 = .ok (.iconst 3, 1) := by decide +kernel
theorem d9_133 : decode method_4_code 133 = .ok (.caload, 1) := by decide +kernel
theorem d9_134 : decode method_4_code 134 = .ok (.castore, 1) := by decide +kernel
theorem d9_135 : decode method_4_code 135 = .ok (.invokespecial 19, 3) := by decide +kernel
theorem d9_138 : decode method_4_code 138 = .ok (.areturn, 1) := by decide +kernel
theorem d9_139 : decode method_4_code 139 = .ok (.iload_n 1, 1) := by decide +kernel
theorem d9_140 : decode method_4_code 140 = .ok (.iconst 5, 1) := by decide +kernel
theorem d9_141 : decode method_4_code 141 = .ok (.if_icmp .ne 44, 3) := by decide +kernel
theorem d9_144 : decode method_4_code 144 = .ok (.new 8, 3) := by decide +kernel
theorem d9_147 : decode method_4_code 147 = .ok (.dup, 1) := by decide +kernel
theorem d9_148 : decode method_4_code 148 = .ok (.iconst 5, 1) := by decide +kernel
theorem d9_149 : decode method_4_code 149 = .ok (.newarray .char, 2) := by decide +kernel
theorem d9_151 : decode method_4_code 151 = .ok (.dup, 1) := by decide +kernel
theorem d9_152 : decode method_4_code 152 = .ok (.iconst 0, 1) := by decide +kernel
theorem d9_153 : decode method_4_code 153 = .ok (.aload_n 0, 1) := by decide +kernel
theorem d9_154 : decode method_4_code 154 = .ok (.iconst 0, 1) := by decide +kernel
theorem d9_155 : decode method_4_code 155 = .ok (.caload, 1) := by decide +kernel
theorem d9_156 : decode method_4_code 156 = .ok (.castore, 1) := by decide +kernel
theorem d9_157 : decode method_4_code 157 = .ok (.dup, 1) := by decide +kernel
theorem d9_158 : decode method_4_code 158 = .ok (.iconst 1, 1) := by decide +kernel
theorem d9_159 : decode method_4_code 159 = .ok (.aload_n 0, 1) := by decide +kernel
theorem d9_160 : decode method_4_code 160 = .ok (.iconst 1, 1) := by decide +kernel
theorem d9_161 : decode method_4_code 161 = .ok (.caload, 1) := by decide +kernel
theorem d9_162 : decode method_4_code 162 = .ok (.castore, 1) := by decide +kernel
theorem d9_163 : decode method_4_code 163 = .ok (.dup, 1) := by decide +kernel
theorem d9_164 : decode method_4_code 164 = .ok (.iconst 2, 1) := by decide +kernel
theorem d9_165 : decode method_4_code 165 = .ok (.aload_n 0, 1) := by decide +kernel
theorem d9_166 : decode method_4_code 166 = .ok (.iconst 2, 1) := by decide +kernel
theorem d9_167 : decode method_4_code 167 = .ok (.caload, 1) := by decide +kernel
theorem d9_168 : decode method_4_code 168 = .ok (.castore, 1) := by decide +kernel
theorem d9_169 : decode method_4_code 169 = .ok (.dup, 1) := by decide +kernel
theorem d9_170 : decode method_4_code 170 = .ok (.iconst 3, 1) := by decide +kernel
theorem d9_171 : decode method_4_code 171 = .ok (.aload_n 0, 1) := by decide +kernel
theorem d9_172 : decode method_4_code 172 = .ok (.iconst 3, 1) := by decide +kernel
theorem d9_173 : decode method_4_code 173 = .ok (.caload, 1) := by decide +kernel
theorem d9_174 : decode method_4_code 174 = .ok (.castore, 1) := by decide +kernel
theorem d9_175 : decode method_4_code 175 = .ok (.dup, 1) := by decide +kernel
theorem d9_176 : decode method_4_code 176 = .ok (.iconst 4, 1) := by decide +kernel
theorem d9_177 : decode method_4_code 177 = .ok (.aload_n 0, 1) := by decide +kernel
theorem d9_178 : decode method_4_code 178 = .ok (.iconst 4, 1) := by decide +kernel
theorem d9_179 : decode method_4_code 179 = .ok (.caload, 1) := by decide +kernel
theorem d9_180 : decode method_4_code 180 = .ok (.castore, 1) := by decide +kernel
theorem d9_181 : decode method_4_code 181 = .ok (.invokespecial 19, 3) := by decide +kernel
theorem d9_184 : decode method_4_code 184 = .ok (.areturn, 1) := by decide +kernel
theorem d9_185 : decode method_4_code 185 = .ok (.iload_n 1, 1) := by decide +kernel
theorem d9_186 : decode method_4_code 186 = .ok (.bipush 6, 2) := by decide +kernel
theorem d9_188 : decode method_4_code 188 = .ok (.if_icmp .ne 51, 3) := by decide +kernel
theorem d9_191 : decode method_4_code 191 = .ok (.new 8, 3) := by decide +kernel
theorem d9_194 : decode method_4_code 194 = .ok (.dup, 1) := by decide +kernel
theorem d9_195 : decode method_4_code 195 = .ok (.bipush 6, 2) := by decide +kernel
theorem d9_197 : decode method_4_code 197 = .ok (.newarray .char, 2) := by decide +kernel
theorem d9_199 : decode method_4_code 199 = .ok (.dup, 1) := by decide +kernel
theorem d9_200 : decode method_4_code 200 = .ok (.iconst 0, 1) := by decide +kernel
theorem d9_201 : decode method_4_code 201 = .ok (.aload_n 0, 1) := by decide +kernel
theorem d9_202 : decode method_4_code 202 = .ok (.iconst 0, 1) := by decide +kernel
theorem d9_203 : decode method_4_code 203 = .ok (.caload, 1) := by decide +kernel
theorem d9_204 : decode method_4_code 204 = .ok (.castore, 1) := by decide +kernel
theorem d9_205 : decode method_4_code 205 = .ok (.dup, 1) := by decide +kernel
theorem d9_206 : decode method_4_code 206 = .ok (.iconst 1, 1) := by decide +kernel
theorem d9_207 : decode method_4_code 207 = .ok (.aload_n 0, 1) := by decide +kernel
theorem d9_208 : decode method_4_code 208 = .ok (.iconst 1, 1) := by decide +kernel
theorem d9_209 : decode method_4_code 209 = .ok (.caload, 1) := by decide +kernel
theorem d9_210 : decode method_4_code 210 = .ok (.castore, 1) := by decide +kernel
theorem d9_211 : decode method_4_code 211 = .ok (.dup, 1) := by decide +kernel
theorem d9_212 : decode method_4_code 212 = .ok (.iconst 2, 1) := by decide +kernel
theorem d9_213 : decode method_4_code 213 = .ok (.aload_n 0, 1) := by decide +kernel
theorem d9_214 : decode method_4_code 214 = .ok (.iconst 2, 1) := by decide +kernel
theorem d9_215 : decode method_4_code 215 = .ok (.caload, 1) := by decide +kernel
theorem d9_216 : decode method_4_code 216 = .ok (.castore, 1) := by decide +kernel
theorem d9_217 : decode method_4_code 217 = .ok (.dup, 1) := by decide +kernel
theorem d9_218 : decode method_4_code 218 = .ok (.iconst 3, 1) := by decide +kernel
theorem d9_219 : decode method_4_code 219 = .ok (.aload_n 0, 1) := by decide +kernel
theorem d9_220 : decode method_4_code 220 = .ok (.iconst 3, 1) := by decide +kernel
theorem d9_221 : decode method_4_code 221 = .ok (.caload, 1) := by decide +kernel
theorem d9_222 : decode method_4_code 222 = .ok (.castore, 1) := by decide +kernel
theorem d9_223 : decode method_4_code 223 = .ok (.dup, 1) := by decide +kernel
theorem d9_224 : decode method_4_code 224 = .ok (.iconst 4, 1) := by decide +kernel
theorem d9_225 : decode method_4_code 225 = .ok (.aload_n 0, 1) := by decide +kernel
theorem d9_226 : decode method_4_code 226 = .ok (.iconst 4, 1) := by decide +kernel
theorem d9_227 : decode method_4_code 227 = .ok (.caload, 1) := by decide +kernel
theorem d9_228 : decode method_4_code 228 = .ok (.castore, 1) := by decide +kernel
theorem d9_229 : decode method_4_code 229 = .ok (.dup, 1) := by decide +kernel
theorem d9_230 : decode method_4_code 230 = .ok (.iconst 5, 1) := by decide +kernel
theorem d9_231 : decode method_4_code 231 = .ok (.aload_n 0, 1) := by decide +kernel
theorem d9_232 : decode method_4_code 232 = .ok (.iconst 5, 1) := by decide +kernel
theorem d9_233 : decode method_4_code 233 = .ok (.caload, 1) := by decide +kernel
theorem d9_234 : decode method_4_code 234 = .ok (.castore, 1) := by decide +kernel
theorem d9_235 : decode method_4_code 235 = .ok (.invokespecial 19, 3) := by decide +kernel
theorem d9_238 : decode method_4_code 238 = .ok (.areturn, 1) := by decide +kernel
theorem d9_239 : decode method_4_code 239 = .ok (.new 8, 3) := by decide +kernel
theorem d9_242 : decode method_4_code 242 = .ok (.dup, 1) := by decide +kernel
theorem d9_243 : decode method_4_code 243 = .ok (.bipush 7, 2) := by decide +kernel
theorem d9_245 : decode method_4_code 245 = .ok (.newarray .char, 2) := by decide +kernel
theorem d9_247 : decode method_4_code 247 = .ok (.dup, 1) := by decide +kernel
theorem d9_248 : decode method_4_code 248 = .ok (.iconst 0, 1) := by decide +kernel
theorem d9_249 : decode method_4_code 249 = .ok (.aload_n 0, 1) := by decide +kernel
theorem d9_250 : decode method_4_code 250 = .ok (.iconst 0, 1) := by decide +kernel
theorem d9_251 : decode method_4_code 251 = .ok (.caload, 1) := by decide +kernel
theorem d9_252 : decode method_4_code 252 = .ok (.castore, 1) := by decide +kernel
theorem d9_253 : decode method_4_code 253 = .ok (.dup, 1) := by decide +kernel
theorem d9_254 : decode method_4_code 254 = .ok (.iconst 1, 1) := by decide +kernel
theorem d9_255 : decode method_4_code 255 = .ok (.aload_n 0, 1) := by decide +kernel
theorem d9_256 : decode method_4_code 256 = .ok (.iconst 1, 1) := by decide +kernel
theorem d9_257 : decode method_4_code 257 = .ok (.caload, 1) := by decide +kernel
theorem d9_258 : decode method_4_code 258 = .ok (.castore, 1) := by decide +kernel
theorem d9_259 : decode method_4_code 259 = .ok (.dup, 1) := by decide +kernel
theorem d9_260 : decode method_4_code 260 = .ok (.iconst 2, 1) := by decide +kernel
theorem d9_261 : decode method_4_code 261 = .ok (.aload_n 0, 1) := by decide +kernel
theorem d9_262 : decode method_4_code 262 = .ok (.iconst 2, 1) := by decide +kernel
theorem d9_263 : decode method_4_code 263 = .ok (.caload, 1) := by decide +kernel
theorem d9_264 : decode method_4_code 264 = .ok (.castore, 1) := by decide +kernel
theorem d9_265 : decode method_4_code 265 = .ok (.dup, 1) := by decide +kernel
theorem d9_266 : decode method_4_code 266 = .ok (.iconst 3, 1) := by decide +kernel
theorem d9_267 : decode method_4_code 267 = .ok (.aload_n 0, 1) := by decide +kernel
theorem d9_268 : decode method_4_code 268 = .ok (.iconst 3, 1) := by decide +kernel
theorem d9_269 : decode method_4_code 269 = .ok (.caload, 1) := by decide +kernel
theorem d9_270 : decode method_4_code 270 = .ok (.castore, 1) := by decide +kernel
theorem d9_271 : decode method_4_code 271 = .ok (.dup, 1) := by decide +kernel
theorem d9_272 : decode method_4_code 272 = .ok (.iconst 4, 1) := by decide +kernel
theorem d9_273 : decode method_4_code 273 = .ok (.aload_n 0, 1) := by decide +kernel
theorem d9_274 : decode method_4_code 274 = .ok (.iconst 4, 1) := by decide +kernel
theorem d9_275 : decode method_4_code 275 = .ok (.caload, 1) := by decide +kernel
theorem d9_276 : decode method_4_code 276 = .ok (.castore, 1) := by decide +kernel
theorem d9_277 : decode method_4_code 277 = .ok (.dup, 1) := by decide +kernel
theorem d9_278 : decode method_4_code 278 = .ok (.iconst 5, 1) := by decide +kernel
theorem d9_279 : decode method_4_code 279 = .ok (.aload_n 0, 1) := by decide +kernel
theorem d9_280 : decode method_4_code 280 = .ok (.iconst 5, 1) := by decide +kernel
theorem d9_281 : decode method_4_code 281 = .ok (.caload, 1) := by decide +kernel
theorem d9_282 : decode method_4_code 282 = .ok (.castore, 1) := by decide +kernel
theorem d9_283 : decode method_4_code 283 = .ok (.dup, 1) := by decide +kernel
theorem d9_284 : decode method_4_code 284 = .ok (.bipush 6, 2) := by decide +kernel
theorem d9_286 : decode method_4_code 286 = .ok (.aload_n 0, 1) := by decide +kernel
theorem d9_287 : decode method_4_code 287 = .ok (.bipush 6, 2) := by decide +kernel
theorem d9_289 : decode method_4_code 289 = .ok (.caload, 1) := by decide +kernel
theorem d9_290 : decode method_4_code 290 = .ok (.castore, 1) := by decide +kernel
theorem d9_291 : decode method_4_code 291 = .ok (.invokespecial 19, 3) := by decide +kernel
theorem d9_294 : decode method_4_code 294 = .ok (.areturn, 1) := by decide +kernel
theorem pn_9 : plainName "com/example/mokuroku/mokuroku/core/FormatByCliNamePinLaw" = true := by first | (simp [plainName, overriddenIn]; done) | decide +kernel
def QrmMake (Z : State) (b1 : Addr) (kb : ClassId) (nn : Int32) (c0 : Int32) (c1 : Int32) (c2 : Int32) (c3 : Int32) (c4 : Int32) (c5 : Int32) (c6 : Int32) (zc : Int32) (h0 : Heap) (n0 : Nat) (v : Option Value) (h : Heap) (L : List Loc) : Prop := ∃ r, v = some (.ref r) ∧ Fr n0 L ∧ Ext h0 h ∧ h0.size ≤ r ∧ Own.Str Z h r (mkL nn c0 c1 c2 c3 c4 c5 c6)
set_option maxRecDepth 65536 in
set_option maxHeartbeats 40000000 in
theorem rmMake (l : Launch) (Z : State) (a0 : Array Value) (hw : ∀ d ∈ tables_1, d.before a0 Z = true) (ws : List Jvm.Cond) (b1 : Addr) (kb : ClassId) (nn : Int32) (c0 : Int32) (c1 : Int32) (c2 : Int32) (c3 : Int32) (c4 : Int32) (c5 : Int32) (c6 : Int32) (zc : Int32) (h0 : Heap) (n0 : Nat) (Z0 : n0 ≤ h0.size) (SC : Sta Z h0 "java/lang/String" "COMPACT_STRINGS" "Z" (.int zc)) (hzc : ¬ zc = 0) (A_b : Arv Z h0 b1 kb .char 7 [.int c0, .int c1, .int c2, .int c3, .int c4, .int c5, .int c6] (.int 0)) (rc0 : ¬ c0 < 0 ∧ ¬ (255 : Int32) < c0) (rc1 : ¬ c1 < 0 ∧ ¬ (255 : Int32) < c1) (rc2 : ¬ c2 < 0 ∧ ¬ (255 : Int32) < c2) (rc3 : ¬ c3 < 0 ∧ ¬ (255 : Int32) < c3) (rc4 : ¬ c4 < 0 ∧ ¬ (255 : Int32) < c4) (rc5 : ¬ c5 < 0 ∧ ¬ (255 : Int32) < c5) (rc6 : ¬ c6 < 0 ∧ ¬ (255 : Int32) < c6) :
    MetFree l (⟨"com/example/mokuroku/mokuroku/core/FormatByCliNamePinLaw", "make", "([CI)Ljava/lang/String;"⟩ : MethodName) (head1 (Jvm.Cond.code (⟨"com/example/mokuroku/mokuroku/core/FormatByCliNamePinLaw", "make", "([CI)Ljava/lang/String;"⟩ : MethodName) method_4_code 2 (some (.object "java/lang/String")) :: ws) ({ frames := 4, cells := 6, slots := 18, locals := 66 } : Room)) (fun a U => a = #[(.ref b1), (.int nn)] ∧ Z.Warmed39 U.vm ∧ U.heap = h0 ∧ CHv Z EL U.vm h0 ∧ ∀ x ∈ ([] : List Addr), Safe Z EL U.vm h0 x) (fun _ _ _ _ _ => True) (fun _ U o U' => ∃ v L, o = .returned v ∧ QrmMake Z b1 kb nn c0 c1 c2 c3 c4 c5 c6 zc h0 n0 v U'.heap L ∧ CHr Z EL U.vm U.heap U'.vm U'.heap ∧ ReturnedEndW U o U' L ({ frames := 4, cells := 6, slots := 18, locals := 66 } : Room).cells ({ frames := 4, cells := 6, slots := 18, locals := 66 } : Room).slots) := by
  refine MetFree.of_bodySF (plainFor_of_name pn_9) hisR ?_
  intro p e s m args below meth c s₁ Bd hml0 hP hK
  obtain ⟨rfl, hZ, hh, hCH, hSf⟩ := hP
  have hml : c.maxLocals = 2 := hml0
  have hlk : meth.locks = false := Bd.notSynchronized
  have hret := Bd.returns
  have hnm := (name_of_methodNamed Bd.named Bd.method).1
  have P0 : Own.Wk Z "com/example/mokuroku/mokuroku/core/FormatByCliNamePinLaw" method_4_code h0 p l e ({ frames := 4, cells := 6, slots := 18, locals := 66 } : Room) (s.setVm s.vm) m #[(.ref b1), (.int nn)] below meth c s₁ [] 0 0 := ⟨Stand.of_body Bd, Bd.exec, Bd.bytes, hZ, findClass_of_methodNamed Bd.named, by rw [← hh, Bd.state]; rfl⟩
  have H0 : Own.Hd Z EL s s.vm h0 h0 := Own.Hd.start hCH
  have N0 := Fr.nil n0
  show Own.Goes p.tables e below (fun s₂ o => ∃ v L, o = .returned v ∧ QrmMake Z b1 kb nn c0 c1 c2 c3 c4 c5 c6 zc h0 n0 v s₂.heap L ∧ CHr Z EL s.vm s.heap s₂.vm s₂.heap ∧ ReturnedEndW s o s₂ L ({ frames := 4, cells := 6, slots := 18, locals := 66 } : Room).cells ({ frames := 4, cells := 6, slots := 18, locals := 66 } : Room).slots) (s₁.setTop (entryFrame m #[(.ref b1), (.int nn)] 2))
  rw [show entryFrame m #[(.ref b1), (.int nn)] 2 = mkF m 0 #[.val (.ref b1), .val (.int nn)] [] from by first | rfl | (simp [entryFrame, mkF, argsToLocals, Value.category]; done)]
  refine Own.iloadN (q := 1) P0 d9_0 rfl rfl ?_
  refine Own.if_gt (q := 4) (qy := 15) P0 d9_1 (by decide) rfl (fun q1 => ?_) (fun q1 => ?_)
  · refine Own.iloadN (q := 16) P0 d9_15 rfl rfl ?_
    refine Own.iconst (q := 17) (v := (1 : Int32)) P0 d9_16 rfl rfl ?_
    refine Own.icmp_ne (q := 20) (qy := 37) P0 d9_17 (by decide) rfl (fun q17 => ?_) (fun q17 => ?_)
    · refine Own.iloadN (q := 38) P0 d9_37 rfl rfl ?_
      refine Own.iconst (q := 39) (v := (2 : Int32)) P0 d9_38 rfl rfl ?_
      refine Own.icmp_ne (q := 42) (qy := 65) P0 d9_39 (by decide) rfl (fun q39 => ?_) (fun q39 => ?_)
      · refine Own.iloadN (q := 66) P0 d9_65 rfl rfl ?_
        refine Own.iconst (q := 67) (v := (3 : Int32)) P0 d9_66 rfl rfl ?_
        refine Own.icmp_ne (q := 70) (qy := 99) P0 d9_67 (by decide) rfl (fun q67 => ?_) (fun q67 => ?_)
        · refine Own.iloadN (q := 100) P0 d9_99 rfl rfl ?_
          refine Own.iconst (q := 101) (v := (4 : Int32)) P0 d9_100 rfl rfl ?_
          refine Own.icmp_ne (q := 104) (qy := 139) P0 d9_101 (by decide) rfl (fun q101 => ?_) (fun q101 => ?_)
          · refine Own.iloadN (q := 140) P0 d9_139 rfl rfl ?_
            refine Own.iconst (q := 141) (v := (5 : Int32)) P0 d9_140 rfl rfl ?_
            refine Own.icmp_ne (q := 144) (qy := 185) P0 d9_141 (by decide) rfl (fun q141 => ?_) (fun q141 => ?_)
            · refine Own.iloadN (q := 186) P0 d9_185 rfl rfl ?_
              refine Own.bipush (q := 188) (v := (6 : Int32)) P0 d9_186 rfl rfl ?_
              refine Own.icmp_ne (q := 191) (qy := 239) P0 d9_188 (by decide) rfl (fun q188 => ?_) (fun q188 => ?_)
              · refine Own.newobj (q := 242) P0 d9_239 (hw _ (List.mem_of_getElem? (i := 51) rfl)) (hw _ (List.mem_of_getElem? (i := 2) rfl)) (hw _ (List.mem_of_getElem? (i := 1) rfl)) (by decide) (by decide) rfl ?_
                intro T21 h21 a21 ha21 P21 E21 A21 D21
                have F21_value : Fld Z h21 a21 "java/lang/String" "value" "[B" .null := D21 (Or.inr (hw _ (List.mem_of_getElem? (i := 4) rfl))) (ty := (.array .byte)) (by decide)
                have F21_coder : Fld Z h21 a21 "java/lang/String" "coder" "B" (.int (0 : Int32)) := D21 (Or.inr (hw _ (List.mem_of_getElem? (i := 5) rfl))) (ty := .byte) (by decide)
                refine Own.dup (q := 243) P21 d9_242 rfl rfl ?_
                refine Own.bipush (q := 245) (v := (7 : Int32)) P21 d9_243 rfl rfl ?_
                refine Own.newarr (q := 247) (cap := 7) P21 d9_245 (hw _ (List.mem_of_getElem? (i := 21) rfl)) (by decide) (by decide) (by decide) (by decide) (by decide) rfl ?_
                intro T22 h22 a22 k22 ha22 P22 E22 A22
                have V22 : Arv Z h22 a22 k22 .char (7 : Int32) [(.int 0), (.int 0), (.int 0), (.int 0), (.int 0), (.int 0), (.int 0)] (.int 0) := Arv.pad A22 (pad_rep [] _ 7)
                refine Own.dup (q := 248) P22 d9_247 rfl rfl ?_
                refine Own.iconst (q := 249) (v := (0 : Int32)) P22 d9_248 rfl rfl ?_
                refine Own.aloadN (q := 250) P22 d9_249 rfl rfl rfl ?_
                refine Own.iconst (q := 251) (v := (0 : Int32)) P22 d9_250 rfl rfl ?_
                have E0_1_23 : Ext h0 h21 := E21
                have E0_2_24 : Ext h0 h22 := (Own.Ext.tr E0_1_23 E22)
                refine Own.caload (q := 252) (v := (.int c0)) P22 d9_251 (A_b.ext E0_2_24) (by decide) (by decide) rfl rfl ?_
                refine Own.castore (q := 253) (i := 0) (x2 := c0) P22 d9_252 V22 (by decide) (by decide) (Own.nar_id rc0) (Own.fits_ch rc0) (by decide) (Own.ltb rfl) rfl ?_
                intro T25 h25 lc25 hl25 P25 W25 A25
                have V25 : Arv Z h25 a22 k22 .char (7 : Int32) [(.int c0), (.int 0), (.int 0), (.int 0), (.int 0), (.int 0), (.int 0)] (.int 0) := A25
                have N25 := Own.Fr.one N0 hl25 (Nat.le_trans Z0 (Nat.le_trans E0_1_23.1 (Nat.le_of_eq ha22.symm)))
                refine Own.dup (q := 254) P25 d9_253 rfl rfl ?_
                refine Own.iconst (q := 255) (v := (1 : Int32)) P25 d9_254 rfl rfl ?_
                refine Own.aloadN (q := 256) P25 d9_255 rfl rfl rfl ?_
                refine Own.iconst (q := 257) (v := (1 : Int32)) P25 d9_256 rfl rfl ?_
                have E0_3_26 : Ext h0 h25 := (Own.Ext.wr E0_2_24 W25 (Nat.le_trans E0_1_23.1 (Nat.le_of_eq ha22.symm)))
                refine Own.caload (q := 258) (v := (.int c1)) P25 d9_257 (A_b.ext E0_3_26) (by decide) (by decide) rfl rfl ?_
                refine Own.castore (q := 259) (i := 1) (x2 := c1) P25 d9_258 V25 (by decide) (by decide) (Own.nar_id rc1) (Own.fits_ch rc1) (by decide) (Own.ltb rfl) rfl ?_
                intro T27 h27 lc27 hl27 P27 W27 A27
                have V27 : Arv Z h27 a22 k22 .char (7 : Int32) [(.int c0), (.int c1), (.int 0), (.int 0), (.int 0), (.int 0), (.int 0)] (.int 0) := A27
                have N27 := Own.Fr.one N25 hl27 (Nat.le_trans Z0 (Nat.le_trans E0_1_23.1 (Nat.le_of_eq ha22.symm)))
                refine Own.dup (q := 260) P27 d9_259 rfl rfl ?_
                refine Own.iconst (q := 261) (v := (2 : Int32)) P27 d9_260 rfl rfl ?_
                refine Own.aloadN (q := 262) P27 d9_261 rfl rfl rfl ?_
                refine Own.iconst (q := 263) (v := (2 : Int32)) P27 d9_262 rfl rfl ?_
                have E0_4_28 : Ext h0 h27 := (Own.Ext.wr E0_3_26 W27 (Nat.le_trans E0_1_23.1 (Nat.le_of_eq ha22.symm)))
                refine Own.caload (q := 264) (v := (.int c2)) P27 d9_263 (A_b.ext E0_4_28) (by decide) (by decide) rfl rfl ?_
                refine Own.castore (q := 265) (i := 2) (x2 := c2) P27 d9_264 V27 (by decide) (by decide) (Own.nar_id rc2) (Own.fits_ch rc2) (by decide) (Own.ltb rfl) rfl ?_
                intro T29 h29 lc29 hl29 P29 W29 A29
                have V29 : Arv Z h29 a22 k22 .char (7 : Int32) [(.int c0), (.int c1), (.int c2), (.int 0), (.int 0), (.int 0), (.int 0)] (.int 0) := A29
                have N29 := Own.Fr.one N27 hl29 (Nat.le_trans Z0 (Nat.le_trans E0_1_23.1 (Nat.le_of_eq ha22.symm)))
                refine Own.dup (q := 266) P29 d9_265 rfl rfl ?_
                refine Own.iconst (q := 267) (v := (3 : Int32)) P29 d9_266 rfl rfl ?_
                refine Own.aloadN (q := 268) P29 d9_267 rfl rfl rfl ?_
                refine Own.iconst (q := 269) (v := (3 : Int32)) P29 d9_268 rfl rfl ?_
                have E0_5_30 : Ext h0 h29 := (Own.Ext.wr E0_4_28 W29 (Nat.le_trans E0_1_23.1 (Nat.le_of_eq ha22.symm)))
                refine Own.caload (q := 270) (v := (.int c3)) P29 d9_269 (A_b.ext E0_5_30) (by decide) (by decide) rfl rfl ?_
                refine Own.castore (q := 271) (i := 3) (x2 := c3) P29 d9_270 V29 (by decide) (by decide) (Own.nar_id rc3) (Own.fits_ch rc3) (by decide) (Own.ltb rfl) rfl ?_
                intro T31 h31 lc31 hl31 P31 W31 A31
                have V31 : Arv Z h31 a22 k22 .char (7 : Int32) [(.int c0), (.int c1), (.int c2), (.int c3), (.int 0), (.int 0), (.int 0)] (.int 0) := A31
                have N31 := Own.Fr.one N29 hl31 (Nat.le_trans Z0 (Nat.le_trans E0_1_23.1 (Nat.le_of_eq ha22.symm)))
                refine Own.dup (q := 272) P31 d9_271 rfl rfl ?_
                refine Own.iconst (q := 273) (v := (4 : Int32)) P31 d9_272 rfl rfl ?_
                refine Own.aloadN (q := 274) P31 d9_273 rfl rfl rfl ?_
                refine Own.iconst (q := 275) (v := (4 : Int32)) P31 d9_274 rfl rfl ?_
                have E0_6_32 : Ext h0 h31 := (Own.Ext.wr E0_5_30 W31 (Nat.le_trans E0_1_23.1 (Nat.le_of_eq ha22.symm)))
                refine Own.caload (q := 276) (v := (.int c4)) P31 d9_275 (A_b.ext E0_6_32) (by decide) (by decide) rfl rfl ?_
                refine Own.castore (q := 277) (i := 4) (x2 := c4) P31 d9_276 V31 (by decide) (by decide) (Own.nar_id rc4) (Own.fits_ch rc4) (by decide) (Own.ltb rfl) rfl ?_
                intro T33 h33 lc33 hl33 P33 W33 A33
                have V33 : Arv Z h33 a22 k22 .char (7 : Int32) [(.int c0), (.int c1), (.int c2), (.int c3), (.int c4), (.int 0), (.int 0)] (.int 0) := A33
                have N33 := Own.Fr.one N31 hl33 (Nat.le_trans Z0 (Nat.le_trans E0_1_23.1 (Nat.le_of_eq ha22.symm)))
                refine Own.dup (q := 278) P33 d9_277 rfl rfl ?_
                refine Own.iconst (q := 279) (v := (5 : Int32)) P33 d9_278 rfl rfl ?_
                refine Own.aloadN (q := 280) P33 d9_279 rfl rfl rfl ?_
                refine Own.iconst (q := 281) (v := (5 : Int32)) P33 d9_280 rfl rfl ?_
                have E0_7_34 : Ext h0 h33 := (Own.Ext.wr E0_6_32 W33 (Nat.le_trans E0_1_23.1 (Nat.le_of_eq ha22.symm)))
                refine Own.caload (q := 282) (v := (.int c5)) P33 d9_281 (A_b.ext E0_7_34) (by decide) (by decide) rfl rfl ?_
                refine Own.castore (q := 283) (i := 5) (x2 := c5) P33 d9_282 V33 (by decide) (by decide) (Own.nar_id rc5) (Own.fits_ch rc5) (by decide) (Own.ltb rfl) rfl ?_
                intro T35 h35 lc35 hl35 P35 W35 A35
                have V35 : Arv Z h35 a22 k22 .char (7 : Int32) [(.int c0), (.int c1), (.int c2), (.int c3), (.int c4), (.int c5), (.int 0)] (.int 0) := A35
                have N35 := Own.Fr.one N33 hl35 (Nat.le_trans Z0 (Nat.le_trans E0_1_23.1 (Nat.le_of_eq ha22.symm)))
                refine Own.dup (q := 284) P35 d9_283 rfl rfl ?_
                refine Own.bipush (q := 286) (v := (6 : Int32)) P35 d9_284 rfl rfl ?_
                refine Own.aloadN (q := 287) P35 d9_286 rfl rfl rfl ?_
                refine Own.bipush (q := 289) (v := (6 : Int32)) P35 d9_287 rfl rfl ?_
                have E0_8_36 : Ext h0 h35 := (Own.Ext.wr E0_7_34 W35 (Nat.le_trans E0_1_23.1 (Nat.le_of_eq ha22.symm)))
                refine Own.caload (q := 290) (v := (.int c6)) P35 d9_289 (A_b.ext E0_8_36) (by decide) (by decide) rfl rfl ?_
                refine Own.castore (q := 291) (i := 6) (x2 := c6) P35 d9_290 V35 (by decide) (by decide) (Own.nar_id rc6) (Own.fits_ch rc6) (by decide) (Own.ltb rfl) rfl ?_
                intro T37 h37 lc37 hl37 P37 W37 A37
                have V37 : Arv Z h37 a22 k22 .char (7 : Int32) [(.int c0), (.int c1), (.int c2), (.int c3), (.int c4), (.int c5), (.int c6)] (.int 0) := A37
                have N37 := Own.Fr.one N35 hl37 (Nat.le_trans Z0 (Nat.le_trans E0_1_23.1 (Nat.le_of_eq ha22.symm)))
                have E0_9_38 : Ext h0 h37 := (Own.Ext.wr E0_8_36 W37 (Nat.le_trans E0_1_23.1 (Nat.le_of_eq ha22.symm)))
                have E1_2_39 : Ext h21 h22 := E22
                have E1_3_40 : Ext h21 h25 := (Own.Ext.wr E1_2_39 W25 (Nat.le_of_eq ha22.symm))
                have E1_4_41 : Ext h21 h27 := (Own.Ext.wr E1_3_40 W27 (Nat.le_of_eq ha22.symm))
                have E1_5_42 : Ext h21 h29 := (Own.Ext.wr E1_4_41 W29 (Nat.le_of_eq ha22.symm))
                have E1_6_43 : Ext h21 h31 := (Own.Ext.wr E1_5_42 W31 (Nat.le_of_eq ha22.symm))
                have E1_7_44 : Ext h21 h33 := (Own.Ext.wr E1_6_43 W33 (Nat.le_of_eq ha22.symm))
                have E1_8_45 : Ext h21 h35 := (Own.Ext.wr E1_7_44 W35 (Nat.le_of_eq ha22.symm))
                have E1_9_46 : Ext h21 h37 := (Own.Ext.wr E1_8_45 W37 (Nat.le_of_eq ha22.symm))
                refine Own.invSpecial (q := 294) (W := 1) (y := (⟨"java/lang/String", "<init>", "([C)V"⟩ : MethodName)) (a := a21) (argsL := [(.ref a22)]) (rest := [(.ref a21)]) P37 d9_291 rfl (hw _ (List.mem_of_getElem? (i := 52) rfl)) (hw _ (List.mem_of_getElem? (i := 53) rfl)) (hw _ (List.mem_of_getElem? (i := 54) rfl)) (by decide) (Own.newB (W := 1) (n0 := n0) (cs := [c0, c1, c2, c3, c4, c5, c6]) (n := 7) P37.2.2.2.1 (fun d hd => hw d (sub_backV d hd)) (hw _ (List.mem_of_getElem? (i := 2) rfl)) (Nat.le_trans Z0 (Nat.le_of_eq ha21.symm)) (Nat.le_trans Z0 E0_9_38.1) (A21.ext E1_9_46) (F21_value.ext E1_9_46) (F21_coder.ext E1_9_46) V37 (SC.ext E0_9_38) hzc rfl rfl (by decide) (by decide) (Own.chS rc0 (Own.chS rc1 (Own.chS rc2 (Own.chS rc3 (Own.chS rc4 (Own.chS rc5 (Own.chS rc6 Own.ch0))))))) (by decide) (by decide)) rfl rfl (by rw [hml]; rfl) (lenOf (show parseMethodDescriptor "([C)V" = some ⟨[(.array .char)], none⟩ from by decide +kernel) rfl) (by show 2 * 0 + _ ≤ _; exact Nat.le_of_eq rfl) (by decide) (by decide) rfl ?_
                rintro v47 T47 h47 L47 ⟨rfl, N47q, K47, St47⟩ P47
                have N47 := Fr.app N37 N47q
                show Own.Goes _ _ _ _ (T47.setTop (mkF m 294 #[.val (.ref b1), .val (.int nn)] [(.ref a21)]))
                have E0_10_48 : Ext h0 h47 := (Own.Ext.kp E0_9_38 K47 (allS (Nat.le_of_eq ha21.symm) all0))
                have Hd49 := (H0.ext E0_10_48)
                refine Own.retAH (Q := QrmMake Z b1 kb nn c0 c1 c2 c3 c4 c5 c6 zc h0 n0) P47 hh (ew hw) Hd49 d9_294 hret rfl rfl rfl hlk (by decide) (by decide) ?_
                exact ⟨_, rfl, N47, E0_10_48, (Nat.le_of_eq ha21.symm), by unfold mkL; rw [if_neg (fun z => z q1), if_neg q17, if_neg q39, if_neg q67, if_neg q101, if_neg q141, if_neg q188]; exact St47⟩
              · refine Own.newobj (q := 194) P0 d9_191 (hw _ (List.mem_of_getElem? (i := 51) rfl)) (hw _ (List.mem_of_getElem? (i := 2) rfl)) (hw _ (List.mem_of_getElem? (i := 1) rfl)) (by decide) (by decide) rfl ?_
                intro T50 h50 a50 ha50 P50 E50 A50 D50
                have F50_value : Fld Z h50 a50 "java/lang/String" "value" "[B" .null := D50 (Or.inr (hw _ (List.mem_of_getElem? (i := 4) rfl))) (ty := (.array .byte)) (by decide)
                have F50_coder : Fld Z h50 a50 "java/lang/String" "coder" "B" (.int (0 : Int32)) := D50 (Or.inr (hw _ (List.mem_of_getElem? (i := 5) rfl))) (ty := .byte) (by decide)
                refine Own.dup (q := 195) P50 d9_194 rfl rfl ?_
                refine Own.bipush (q := 197) (v := (6 : Int32)) P50 d9_195 rfl rfl ?_
                refine Own.newarr (q := 199) (cap := 6) P50 d9_197 (hw _ (List.mem_of_getElem? (i := 21) rfl)) (by decide) (by decide) (by decide) (by decide) (by decide) rfl ?_
                intro T51 h51 a51 k51 ha51 P51 E51 A51
                have V51 : Arv Z h51 a51 k51 .char (6 : Int32) [(.int 0), (.int 0), (.int 0), (.int 0), (.int 0), (.int 0)] (.int 0) := Arv.pad A51 (pad_rep [] _ 6)
                refine Own.dup (q := 200) P51 d9_199 rfl rfl ?_
                refine Own.iconst (q := 201) (v := (0 : Int32)) P51 d9_200 rfl rfl ?_
                refine Own.aloadN (q := 202) P51 d9_201 rfl rfl rfl ?_
                refine Own.iconst (q := 203) (v := (0 : Int32)) P51 d9_202 rfl rfl ?_
                have E0_1_52 : Ext h0 h50 := E50
                have E0_2_53 : Ext h0 h51 := (Own.Ext.tr E0_1_52 E51)
                refine Own.caload (q := 204) (v := (.int c0)) P51 d9_203 (A_b.ext E0_2_53) (by decide) (by decide) rfl rfl ?_
                refine Own.castore (q := 205) (i := 0) (x2 := c0) P51 d9_204 V51 (by decide) (by decide) (Own.nar_id rc0) (Own.fits_ch rc0) (by decide) (Own.ltb rfl) rfl ?_
                intro T54 h54 lc54 hl54 P54 W54 A54
                have V54 : Arv Z h54 a51 k51 .char (6 : Int32) [(.int c0), (.int 0), (.int 0), (.int 0), (.int 0), (.int 0)] (.int 0) := A54
                have N54 := Own.Fr.one N0 hl54 (Nat.le_trans Z0 (Nat.le_trans E0_1_52.1 (Nat.le_of_eq ha51.symm)))
                refine Own.dup (q := 206) P54 d9_205 rfl rfl ?_
                refine Own.iconst (q := 207) (v := (1 : Int32)) P54 d9_206 rfl rfl ?_
                refine Own.aloadN (q := 208) P54 d9_207 rfl rfl rfl ?_
                refine Own.iconst (q := 209) (v := (1 : Int32)) P54 d9_208 rfl rfl ?_
                have E0_3_55 : Ext h0 h54 := (Own.Ext.wr E0_2_53 W54 (Nat.le_trans E0_1_52.1 (Nat.le_of_eq ha51.symm)))
                refine Own.caload (q := 210) (v := (.int c1)) P54 d9_209 (A_b.ext E0_3_55) (by decide) (by decide) rfl rfl ?_
                refine Own.castore (q := 211) (i := 1) (x2 := c1) P54 d9_210 V54 (by decide) (by decide) (Own.nar_id rc1) (Own.fits_ch rc1) (by decide) (Own.ltb rfl) rfl ?_
                intro T56 h56 lc56 hl56 P56 W56 A56
                have V56 : Arv Z h56 a51 k51 .char (6 : Int32) [(.int c0), (.int c1), (.int 0), (.int 0), (.int 0), (.int 0)] (.int 0) := A56
                have N56 := Own.Fr.one N54 hl56 (Nat.le_trans Z0 (Nat.le_trans E0_1_52.1 (Nat.le_of_eq ha51.symm)))
                refine Own.dup (q := 212) P56 d9_211 rfl rfl ?_
                refine Own.iconst (q := 213) (v := (2 : Int32)) P56 d9_212 rfl rfl ?_
                refine Own.aloadN (q := 214) P56 d9_213 rfl rfl rfl ?_
                refine Own.iconst (q := 215) (v := (2 : Int32)) P56 d9_214 rfl rfl ?_
                have E0_4_57 : Ext h0 h56 := (Own.Ext.wr E0_3_55 W56 (Nat.le_trans E0_1_52.1 (Nat.le_of_eq ha51.symm)))
                refine Own.caload (q := 216) (v := (.int c2)) P56 d9_215 (A_b.ext E0_4_57) (by decide) (by decide) rfl rfl ?_
                refine Own.castore (q := 217) (i := 2) (x2 := c2) P56 d9_216 V56 (by decide) (by decide) (Own.nar_id rc2) (Own.fits_ch rc2) (by decide) (Own.ltb rfl) rfl ?_
                intro T58 h58 lc58 hl58 P58 W58 A58
                have V58 : Arv Z h58 a51 k51 .char (6 : Int32) [(.int c0), (.int c1), (.int c2), (.int 0), (.int 0), (.int 0)] (.int 0) := A58
                have N58 := Own.Fr.one N56 hl58 (Nat.le_trans Z0 (Nat.le_trans E0_1_52.1 (Nat.le_of_eq ha51.symm)))
                refine Own.dup (q := 218) P58 d9_217 rfl rfl ?_
                refine Own.iconst (q := 219) (v := (3 : Int32)) P58 d9_218 rfl rfl ?_
                refine Own.aloadN (q := 220) P58 d9_219 rfl rfl rfl ?_
                refine Own.iconst (q := 221) (v := (3 : Int32)) P58 d9_220 rfl rfl ?_
                have E0_5_59 : Ext h0 h58 := (Own.Ext.wr E0_4_57 W58 (Nat.le_trans E0_1_52.1 (Nat.le_of_eq ha51.symm)))
                refine Own.caload (q := 222) (v := (.int c3)) P58 d9_221 (A_b.ext E0_5_59) (by decide) (by decide) rfl rfl ?_
                refine Own.castore (q := 223) (i := 3) (x2 := c3) P58 d9_222 V58 (by decide) (by decide) (Own.nar_id rc3) (Own.fits_ch rc3) (by decide) (Own.ltb rfl) rfl ?_
                intro T60 h60 lc60 hl60 P60 W60 A60
                have V60 : Arv Z h60 a51 k51 .char (6 : Int32) [(.int c0), (.int c1), (.int c2), (.int c3), (.int 0), (.int 0)] (.int 0) := A60
                have N60 := Own.Fr.one N58 hl60 (Nat.le_trans Z0 (Nat.le_trans E0_1_52.1 (Nat.le_of_eq ha51.symm)))
                refine Own.dup (q := 224) P60 d9_223 rfl rfl ?_
                refine Own.iconst (q := 225) (v := (4 : Int32)) P60 d9_224 rfl rfl ?_
                refine Own.aloadN (q := 226) P60 d9_225 rfl rfl rfl ?_
                refine Own.iconst (q := 227) (v := (4 : Int32)) P60 d9_226 rfl rfl ?_
                have E0_6_61 : Ext h0 h60 := (Own.Ext.wr E0_5_59 W60 (Nat.le_trans E0_1_52.1 (Nat.le_of_eq ha51.symm)))
                refine Own.caload (q := 228) (v := (.int c4)) P60 d9_227 (A_b.ext E0_6_61) (by decide) (by decide) rfl rfl ?_
                refine Own.castore (q := 229) (i := 4) (x2 := c4) P60 d9_228 V60 (by decide) (by decide) (Own.nar_id rc4) (Own.fits_ch rc4) (by decide) (Own.ltb rfl) rfl ?_
                intro T62 h62 lc62 hl62 P62 W62 A62
                have V62 : Arv Z h62 a51 k51 .char (6 : Int32) [(.int c0), (.int c1), (.int c2), (.int c3), (.int c4), (.int 0)] (.int 0) := A62
                have N62 := Own.Fr.one N60 hl62 (Nat.le_trans Z0 (Nat.le_trans E0_1_52.1 (Nat.le_of_eq ha51.symm)))
                refine Own.dup (q := 230) P62 d9_229 rfl rfl ?_
                refine Own.iconst (q := 231) (v := (5 : Int32)) P62 d9_230 rfl rfl ?_
                refine Own.aloadN (q := 232) P62 d9_231 rfl rfl rfl ?_
                refine Own.iconst (q := 233) (v := (5 : Int32)) P62 d9_232 rfl rfl ?_
                have E0_7_63 : Ext h0 h62 := (Own.Ext.wr E0_6_61 W62 (Nat.le_trans E0_1_52.1 (Nat.le_of_eq ha51.symm)))
                refine Own.caload (q := 234) (v := (.int c5)) P62 d9_233 (A_b.ext E0_7_63) (by decide) (by decide) rfl rfl ?_
                refine Own.castore (q := 235) (i := 5) (x2 := c5) P62 d9_234 V62 (by decide) (by decide) (Own.nar_id rc5) (Own.fits_ch rc5) (by decide) (Own.ltb rfl) rfl ?_
                intro T64 h64 lc64 hl64 P64 W64 A64
                have V64 : Arv Z h64 a51 k51 .char (6 : Int32) [(.int c0), (.int c1), (.int c2), (.int c3), (.int c4), (.int c5)] (.int 0) := A64
                have N64 := Own.Fr.one N62 hl64 (Nat.le_trans Z0 (Nat.le_trans E0_1_52.1 (Nat.le_of_eq ha51.symm)))
                have E0_8_65 : Ext h0 h64 := (Own.Ext.wr E0_7_63 W64 (Nat.le_trans E0_1_52.1 (Nat.le_of_eq ha51.symm)))
                have E1_2_66 : Ext h50 h51 := E51
                have E1_3_67 : Ext h50 h54 := (Own.Ext.wr E1_2_66 W54 (Nat.le_of_eq ha51.symm))
                have E1_4_68 : Ext h50 h56 := (Own.Ext.wr E1_3_67 W56 (Nat.le_of_eq ha51.symm))
                have E1_5_69 : Ext h50 h58 := (Own.Ext.wr E1_4_68 W58 (Nat.le_of_eq ha51.symm))
                have E1_6_70 : Ext h50 h60 := (Own.Ext.wr E1_5_69 W60 (Nat.le_of_eq ha51.symm))
                have E1_7_71 : Ext h50 h62 := (Own.Ext.wr E1_6_70 W62 (Nat.le_of_eq ha51.symm))
                have E1_8_72 : Ext h50 h64 := (Own.Ext.wr E1_7_71 W64 (Nat.le_of_eq ha51.symm))
                refine Own.invSpecial (q := 238) (W := 1) (y := (⟨"java/lang/String", "<init>", "([C)V"⟩ : MethodName)) (a := a50) (argsL := [(.ref a51)]) (rest := [(.ref a50)]) P64 d9_235 rfl (hw _ (List.mem_of_getElem? (i := 52) rfl)) (hw _ (List.mem_of_getElem? (i := 53) rfl)) (hw _ (List.mem_of_getElem? (i := 54) rfl)) (by decide) (Own.newB (W := 1) (n0 := n0) (cs := [c0, c1, c2, c3, c4, c5]) (n := 6) P64.2.2.2.1 (fun d hd => hw d (sub_backV d hd)) (hw _ (List.mem_of_getElem? (i := 2) rfl)) (Nat.le_trans Z0 (Nat.le_of_eq ha50.symm)) (Nat.le_trans Z0 E0_8_65.1) (A50.ext E1_8_72) (F50_value.ext E1_8_72) (F50_coder.ext E1_8_72) V64 (SC.ext E0_8_65) hzc rfl rfl (by decide) (by decide) (Own.chS rc0 (Own.chS rc1 (Own.chS rc2 (Own.chS rc3 (Own.chS rc4 (Own.chS rc5 Own.ch0)))))) (by decide) (by decide)) rfl rfl (by rw [hml]; rfl) (lenOf (show parseMethodDescriptor "([C)V" = some ⟨[(.array .char)], none⟩ from by decide +kernel) rfl) (by show 2 * 0 + _ ≤ _; exact Nat.le_of_eq rfl) (by decide) (by decide) rfl ?_
                rintro v73 T73 h73 L73 ⟨rfl, N73q, K73, St73⟩ P73
                have N73 := Fr.app N64 N73q
                show Own.Goes _ _ _ _ (T73.setTop (mkF m 238 #[.val (.ref b1), .val (.int nn)] [(.ref a50)]))
                have E0_9_74 : Ext h0 h73 := (Own.Ext.kp E0_8_65 K73 (allS (Nat.le_of_eq ha50.symm) all0))
                have Hd75 := (H0.ext E0_9_74)
                refine Own.retAH (Q := QrmMake Z b1 kb nn c0 c1 c2 c3 c4 c5 c6 zc h0 n0) P73 hh (ew hw) Hd75 d9_238 hret rfl rfl rfl hlk (by decide) (by decide) ?_
                exact ⟨_, rfl, N73, E0_9_74, (Nat.le_of_eq ha50.symm), by unfold mkL; rw [if_neg (fun z => z q1), if_neg q17, if_neg q39, if_neg q67, if_neg q101, if_neg q141, if_pos q188]; exact St73⟩
            · refine Own.newobj (q := 147) P0 d9_144 (hw _ (List.mem_of_getElem? (i := 51) rfl)) (hw _ (List.mem_of_getElem? (i := 2) rfl)) (hw _ (List.mem_of_getElem? (i := 1) rfl)) (by decide) (by decide) rfl ?_
              intro T76 h76 a76 ha76 P76 E76 A76 D76
              have F76_value : Fld Z h76 a76 "java/lang/String" "value" "[B" .null := D76 (Or.inr (hw _ (List.mem_of_getElem? (i := 4) rfl))) (ty := (.array .byte)) (by decide)
              have F76_coder : Fld Z h76 a76 "java/lang/String" "coder" "B" (.int (0 : Int32)) := D76 (Or.inr (hw _ (List.mem_of_getElem? (i := 5) rfl))) (ty := .byte) (by decide)
              refine Own.dup (q := 148) P76 d9_147 rfl rfl ?_
              refine Own.iconst (q := 149) (v := (5 : Int32)) P76 d9_148 rfl rfl ?_
              refine Own.newarr (q := 151) (cap := 5) P76 d9_149 (hw _ (List.mem_of_getElem? (i := 21) rfl)) (by decide) (by decide) (by decide) (by decide) (by decide) rfl ?_
              intro T77 h77 a77 k77 ha77 P77 E77 A77
              have V77 : Arv Z h77 a77 k77 .char (5 : Int32) [(.int 0), (.int 0), (.int 0), (.int 0), (.int 0)] (.int 0) := Arv.pad A77 (pad_rep [] _ 5)
              refine Own.dup (q := 152) P77 d9_151 rfl rfl ?_
              refine Own.iconst (q := 153) (v := (0 : Int32)) P77 d9_152 rfl rfl ?_
              refine Own.aloadN (q := 154) P77 d9_153 rfl rfl rfl ?_
              refine Own.iconst (q := 155) (v := (0 : Int32)) P77 d9_154 rfl rfl ?_
              have E0_1_78 : Ext h0 h76 := E76
              have E0_2_79 : Ext h0 h77 := (Own.Ext.tr E0_1_78 E77)
              refine Own.caload (q := 156) (v := (.int c0)) P77 d9_155 (A_b.ext E0_2_79) (by decide) (by decide) rfl rfl ?_
              refine Own.castore (q := 157) (i := 0) (x2 := c0) P77 d9_156 V77 (by decide) (by decide) (Own.nar_id rc0) (Own.fits_ch rc0) (by decide) (Own.ltb rfl) rfl ?_
              intro T80 h80 lc80 hl80 P80 W80 A80
              have V80 : Arv Z h80 a77 k77 .char (5 : Int32) [(.int c0), (.int 0), (.int 0), (.int 0), (.int 0)] (.int 0) := A80
              have N80 := Own.Fr.one N0 hl80 (Nat.le_trans Z0 (Nat.le_trans E0_1_78.1 (Nat.le_of_eq ha77.symm)))
              refine Own.dup (q := 158) P80 d9_157 rfl rfl ?_
              refine Own.iconst (q := 159) (v := (1 : Int32)) P80 d9_158 rfl rfl ?_
              refine Own.aloadN (q := 160) P80 d9_159 rfl rfl rfl ?_
              refine Own.iconst (q := 161) (v := (1 : Int32)) P80 d9_160 rfl rfl ?_
              have E0_3_81 : Ext h0 h80 := (Own.Ext.wr E0_2_79 W80 (Nat.le_trans E0_1_78.1 (Nat.le_of_eq ha77.symm)))
              refine Own.caload (q := 162) (v := (.int c1)) P80 d9_161 (A_b.ext E0_3_81) (by decide) (by decide) rfl rfl ?_
              refine Own.castore (q := 163) (i := 1) (x2 := c1) P80 d9_162 V80 (by decide) (by decide) (Own.nar_id rc1) (Own.fits_ch rc1) (by decide) (Own.ltb rfl) rfl ?_
              intro T82 h82 lc82 hl82 P82 W82 A82
              have V82 : Arv Z h82 a77 k77 .char (5 : Int32) [(.int c0), (.int c1), (.int 0), (.int 0), (.int 0)] (.int 0) := A82
              have N82 := Own.Fr.one N80 hl82 (Nat.le_trans Z0 (Nat.le_trans E0_1_78.1 (Nat.le_of_eq ha77.symm)))
              refine Own.dup (q := 164) P82 d9_163 rfl rfl ?_
              refine Own.iconst (q := 165) (v := (2 : Int32)) P82 d9_164 rfl rfl ?_
              refine Own.aloadN (q := 166) P82 d9_165 rfl rfl rfl ?_
              refine Own.iconst (q := 167) (v := (2 : Int32)) P82 d9_166 rfl rfl ?_
              have E0_4_83 : Ext h0 h82 := (Own.Ext.wr E0_3_81 W82 (Nat.le_trans E0_1_78.1 (Nat.le_of_eq ha77.symm)))
              refine Own.caload (q := 168) (v := (.int c2)) P82 d9_167 (A_b.ext E0_4_83) (by decide) (by decide) rfl rfl ?_
              refine Own.castore (q := 169) (i := 2) (x2 := c2) P82 d9_168 V82 (by decide) (by decide) (Own.nar_id rc2) (Own.fits_ch rc2) (by decide) (Own.ltb rfl) rfl ?_
              intro T84 h84 lc84 hl84 P84 W84 A84
              have V84 : Arv Z h84 a77 k77 .char (5 : Int32) [(.int c0), (.int c1), (.int c2), (.int 0), (.int 0)] (.int 0) := A84
              have N84 := Own.Fr.one N82 hl84 (Nat.le_trans Z0 (Nat.le_trans E0_1_78.1 (Nat.le_of_eq ha77.symm)))
              refine Own.dup (q := 170) P84 d9_169 rfl rfl ?_
              refine Own.iconst (q := 171) (v := (3 : Int32)) P84 d9_170 rfl rfl ?_
              refine Own.aloadN (q := 172) P84 d9_171 rfl rfl rfl ?_
              refine Own.iconst (q := 173) (v := (3 : Int32)) P84 d9_172 rfl rfl ?_
              have E0_5_85 : Ext h0 h84 := (Own.Ext.wr E0_4_83 W84 (Nat.le_trans E0_1_78.1 (Nat.le_of_eq ha77.symm)))
              refine Own.caload (q := 174) (v := (.int c3)) P84 d9_173 (A_b.ext E0_5_85) (by decide) (by decide) rfl rfl ?_
              refine Own.castore (q := 175) (i := 3) (x2 := c3) P84 d9_174 V84 (by decide) (by decide) (Own.nar_id rc3) (Own.fits_ch rc3) (by decide) (Own.ltb rfl) rfl ?_
              intro T86 h86 lc86 hl86 P86 W86 A86
              have V86 : Arv Z h86 a77 k77 .char (5 : Int32) [(.int c0), (.int c1), (.int c2), (.int c3), (.int 0)] (.int 0) := A86
              have N86 := Own.Fr.one N84 hl86 (Nat.le_trans Z0 (Nat.le_trans E0_1_78.1 (Nat.le_of_eq ha77.symm)))
              refine Own.dup (q := 176) P86 d9_175 rfl rfl ?_
              refine Own.iconst (q := 177) (v := (4 : Int32)) P86 d9_176 rfl rfl ?_
              refine Own.aloadN (q := 178) P86 d9_177 rfl rfl rfl ?_
              refine Own.iconst (q := 179) (v := (4 : Int32)) P86 d9_178 rfl rfl ?_
              have E0_6_87 : Ext h0 h86 := (Own.Ext.wr E0_5_85 W86 (Nat.le_trans E0_1_78.1 (Nat.le_of_eq ha77.symm)))
              refine Own.caload (q := 180) (v := (.int c4)) P86 d9_179 (A_b.ext E0_6_87) (by decide) (by decide) rfl rfl ?_
              refine Own.castore (q := 181) (i := 4) (x2 := c4) P86 d9_180 V86 (by decide) (by decide) (Own.nar_id rc4) (Own.fits_ch rc4) (by decide) (Own.ltb rfl) rfl ?_
              intro T88 h88 lc88 hl88 P88 W88 A88
              have V88 : Arv Z h88 a77 k77 .char (5 : Int32) [(.int c0), (.int c1), (.int c2), (.int c3), (.int c4)] (.int 0) := A88
              have N88 := Own.Fr.one N86 hl88 (Nat.le_trans Z0 (Nat.le_trans E0_1_78.1 (Nat.le_of_eq ha77.symm)))
              have E0_7_89 : Ext h0 h88 := (Own.Ext.wr E0_6_87 W88 (Nat.le_trans E0_1_78.1 (Nat.le_of_eq ha77.symm)))
              have E1_2_90 : Ext h76 h77 := E77
              have E1_3_91 : Ext h76 h80 := (Own.Ext.wr E1_2_90 W80 (Nat.le_of_eq ha77.symm))
              have E1_4_92 : Ext h76 h82 := (Own.Ext.wr E1_3_91 W82 (Nat.le_of_eq ha77.symm))
              have E1_5_93 : Ext h76 h84 := (Own.Ext.wr E1_4_92 W84 (Nat.le_of_eq ha77.symm))
              have E1_6_94 : Ext h76 h86 := (Own.Ext.wr E1_5_93 W86 (Nat.le_of_eq ha77.symm))
              have E1_7_95 : Ext h76 h88 := (Own.Ext.wr E1_6_94 W88 (Nat.le_of_eq ha77.symm))
              refine Own.invSpecial (q := 184) (W := 1) (y := (⟨"java/lang/String", "<init>", "([C)V"⟩ : MethodName)) (a := a76) (argsL := [(.ref a77)]) (rest := [(.ref a76)]) P88 d9_181 rfl (hw _ (List.mem_of_getElem? (i := 52) rfl)) (hw _ (List.mem_of_getElem? (i := 53) rfl)) (hw _ (List.mem_of_getElem? (i := 54) rfl)) (by decide) (Own.newB (W := 1) (n0 := n0) (cs := [c0, c1, c2, c3, c4]) (n := 5) P88.2.2.2.1 (fun d hd => hw d (sub_backV d hd)) (hw _ (List.mem_of_getElem? (i := 2) rfl)) (Nat.le_trans Z0 (Nat.le_of_eq ha76.symm)) (Nat.le_trans Z0 E0_7_89.1) (A76.ext E1_7_95) (F76_value.ext E1_7_95) (F76_coder.ext E1_7_95) V88 (SC.ext E0_7_89) hzc rfl rfl (by decide) (by decide) (Own.chS rc0 (Own.chS rc1 (Own.chS rc2 (Own.chS rc3 (Own.chS rc4 Own.ch0))))) (by decide) (by decide)) rfl rfl (by rw [hml]; rfl) (lenOf (show parseMethodDescriptor "([C)V" = some ⟨[(.array .char)], none⟩ from by decide +kernel) rfl) (by show 2 * 0 + _ ≤ _; exact Nat.le_of_eq rfl) (by decide) (by decide) rfl ?_
              rintro v96 T96 h96 L96 ⟨rfl, N96q, K96, St96⟩ P96
              have N96 := Fr.app N88 N96q
              show Own.Goes _ _ _ _ (T96.setTop (mkF m 184 #[.val (.ref b1), .val (.int nn)] [(.ref a76)]))
              have E0_8_97 : Ext h0 h96 := (Own.Ext.kp E0_7_89 K96 (allS (Nat.le_of_eq ha76.symm) all0))
              have Hd98 := (H0.ext E0_8_97)
              refine Own.retAH (Q := QrmMake Z b1 kb nn c0 c1 c2 c3 c4 c5 c6 zc h0 n0) P96 hh (ew hw) Hd98 d9_184 hret rfl rfl rfl hlk (by decide) (by decide) ?_
              exact ⟨_, rfl, N96, E0_8_97, (Nat.le_of_eq ha76.symm), by unfold mkL; rw [if_neg (fun z => z q1), if_neg q17, if_neg q39, if_neg q67, if_neg q101, if_pos q141]; exact St96⟩
          · refine Own.newobj (q := 107) P0 d9_104 (hw _ (List.mem_of_getElem? (i := 51) rfl)) (hw _ (List.mem_of_getElem? (i := 2) rfl)) (hw _ (List.mem_of_getElem? (i := 1) rfl)) (by decide) (by decide) rfl ?_
            intro T99 h99 a99 ha99 P99 E99 A99 D99
            have F99_value : Fld Z h99 a99 "java/lang/String" "value" "[B" .null := D99 (Or.inr (hw _ (List.mem_of_getElem? (i := 4) rfl))) (ty := (.array .byte)) (by decide)
            have F99_coder : Fld Z h99 a99 "java/lang/String" "coder" "B" (.int (0 : Int32)) := D99 (Or.inr (hw _ (List.mem_of_getElem? (i := 5) rfl))) (ty := .byte) (by decide)
            refine Own.dup (q := 108) P99 d9_107 rfl rfl ?_
            refine Own.iconst (q := 109) (v := (4 : Int32)) P99 d9_108 rfl rfl ?_
            refine Own.newarr (q := 111) (cap := 4) P99 d9_109 (hw _ (List.mem_of_getElem? (i := 21) rfl)) (by decide) (by decide) (by decide) (by decide) (by decide) rfl ?_
            intro T100 h100 a100 k100 ha100 P100 E100 A100
            have V100 : Arv Z h100 a100 k100 .char (4 : Int32) [(.int 0), (.int 0), (.int 0), (.int 0)] (.int 0) := Arv.pad A100 (pad_rep [] _ 4)
            refine Own.dup (q := 112) P100 d9_111 rfl rfl ?_
            refine Own.iconst (q := 113) (v := (0 : Int32)) P100 d9_112 rfl rfl ?_
            refine Own.aloadN (q := 114) P100 d9_113 rfl rfl rfl ?_
            refine Own.iconst (q := 115) (v := (0 : Int32)) P100 d9_114 rfl rfl ?_
            have E0_1_101 : Ext h0 h99 := E99
            have E0_2_102 : Ext h0 h100 := (Own.Ext.tr E0_1_101 E100)
            refine Own.caload (q := 116) (v := (.int c0)) P100 d9_115 (A_b.ext E0_2_102) (by decide) (by decide) rfl rfl ?_
            refine Own.castore (q := 117) (i := 0) (x2 := c0) P100 d9_116 V100 (by decide) (by decide) (Own.nar_id rc0) (Own.fits_ch rc0) (by decide) (Own.ltb rfl) rfl ?_
            intro T103 h103 lc103 hl103 P103 W103 A103
            have V103 : Arv Z h103 a100 k100 .char (4 : Int32) [(.int c0), (.int 0), (.int 0), (.int 0)] (.int 0) := A103
            have N103 := Own.Fr.one N0 hl103 (Nat.le_trans Z0 (Nat.le_trans E0_1_101.1 (Nat.le_of_eq ha100.symm)))
            refine Own.dup (q := 118) P103 d9_117 rfl rfl ?_
            refine Own.iconst (q := 119) (v := (1 : Int32)) P103 d9_118 rfl rfl ?_
            refine Own.aloadN (q := 120) P103 d9_119 rfl rfl rfl ?_
            refine Own.iconst (q := 121) (v := (1 : Int32)) P103 d9_120 rfl rfl ?_
            have E0_3_104 : Ext h0 h103 := (Own.Ext.wr E0_2_102 W103 (Nat.le_trans E0_1_101.1 (Nat.le_of_eq ha100.symm)))
            refine Own.caload (q := 122) (v := (.int c1)) P103 d9_121 (A_b.ext E0_3_104) (by decide) (by decide) rfl rfl ?_
            refine Own.castore (q := 123) (i := 1) (x2 := c1) P103 d9_122 V103 (by decide) (by decide) (Own.nar_id rc1) (Own.fits_ch rc1) (by decide) (Own.ltb rfl) rfl ?_
            intro T105 h105 lc105 hl105 P105 W105 A105
            have V105 : Arv Z h105 a100 k100 .char (4 : Int32) [(.int c0), (.int c1), (.int 0), (.int 0)] (.int 0) := A105
            have N105 := Own.Fr.one N103 hl105 (Nat.le_trans Z0 (Nat.le_trans E0_1_101.1 (Nat.le_of_eq ha100.symm)))
            refine Own.dup (q := 124) P105 d9_123 rfl rfl ?_
            refine Own.iconst (q := 125) (v := (2 : Int32)) P105 d9_124 rfl rfl ?_
            refine Own.aloadN (q := 126) P105 d9_125 rfl rfl rfl ?_
            refine Own.iconst (q := 127) (v := (2 : Int32)) P105 d9_126 rfl rfl ?_
            have E0_4_106 : Ext h0 h105 := (Own.Ext.wr E0_3_104 W105 (Nat.le_trans E0_1_101.1 (Nat.le_of_eq ha100.symm)))
            refine Own.caload (q := 128) (v := (.int c2)) P105 d9_127 (A_b.ext E0_4_106) (by decide) (by decide) rfl rfl ?_
            refine Own.castore (q := 129) (i := 2) (x2 := c2) P105 d9_128 V105 (by decide) (by decide) (Own.nar_id rc2) (Own.fits_ch rc2) (by decide) (Own.ltb rfl) rfl ?_
            intro T107 h107 lc107 hl107 P107 W107 A107
            have V107 : Arv Z h107 a100 k100 .char (4 : Int32) [(.int c0), (.int c1), (.int c2), (.int 0)] (.int 0) := A107
            have N107 := Own.Fr.one N105 hl107 (Nat.le_trans Z0 (Nat.le_trans E0_1_101.1 (Nat.le_of_eq ha100.symm)))
            refine Own.dup (q := 130) P107 d9_129 rfl rfl ?_
            refine Own.iconst (q := 131) (v := (3 : Int32)) P107 d9_130 rfl rfl ?_
            refine Own.aloadN (q := 132) P107 d9_131 rfl rfl rfl ?_
            refine Own.iconst (q := 133) (v := (3 : Int32)) P107 d9_132 rfl rfl ?_
            have E0_5_108 : Ext h0 h107 := (Own.Ext.wr E0_4_106 W107 (Nat.le_trans E0_1_101.1 (Nat.le_of_eq ha100.symm)))
            refine Own.caload (q := 134) (v := (.int c3)) P107 d9_133 (A_b.ext E0_5_108) (by decide) (by decide) rfl rfl ?_
            refine Own.castore (q := 135) (i := 3) (x2 := c3) P107 d9_134 V107 (by decide) (by decide) (Own.nar_id rc3) (Own.fits_ch rc3) (by decide) (Own.ltb rfl) rfl ?_
            intro T109 h109 lc109 hl109 P109 W109 A109
            have V109 : Arv Z h109 a100 k100 .char (4 : Int32) [(.int c0), (.int c1), (.int c2), (.int c3)] (.int 0) := A109
            have N109 := Own.Fr.one N107 hl109 (Nat.le_trans Z0 (Nat.le_trans E0_1_101.1 (Nat.le_of_eq ha100.symm)))
            have E0_6_110 : Ext h0 h109 := (Own.Ext.wr E0_5_108 W109 (Nat.le_trans E0_1_101.1 (Nat.le_of_eq ha100.symm)))
            have E1_2_111 : Ext h99 h100 := E100
            have E1_3_112 : Ext h99 h103 := (Own.Ext.wr E1_2_111 W103 (Nat.le_of_eq ha100.symm))
            have E1_4_113 : Ext h99 h105 := (Own.Ext.wr E1_3_112 W105 (Nat.le_of_eq ha100.symm))
            have E1_5_114 : Ext h99 h107 := (Own.Ext.wr E1_4_113 W107 (Nat.le_of_eq ha100.symm))
            have E1_6_115 : Ext h99 h109 := (Own.Ext.wr E1_5_114 W109 (Nat.le_of_eq ha100.symm))
            refine Own.invSpecial (q := 138) (W := 1) (y := (⟨"java/lang/String", "<init>", "([C)V"⟩ : MethodName)) (a := a99) (argsL := [(.ref a100)]) (rest := [(.ref a99)]) P109 d9_135 rfl (hw _ (List.mem_of_getElem? (i := 52) rfl)) (hw _ (List.mem_of_getElem? (i := 53) rfl)) (hw _ (List.mem_of_getElem? (i := 54) rfl)) (by decide) (Own.newB (W := 1) (n0 := n0) (cs := [c0, c1, c2, c3]) (n := 4) P109.2.2.2.1 (fun d hd => hw d (sub_backV d hd)) (hw _ (List.mem_of_getElem? (i := 2) rfl)) (Nat.le_trans Z0 (Nat.le_of_eq ha99.symm)) (Nat.le_trans Z0 E0_6_110.1) (A99.ext E1_6_115) (F99_value.ext E1_6_115) (F99_coder.ext E1_6_115) V109 (SC.ext E0_6_110) hzc rfl rfl (by decide) (by decide) (Own.chS rc0 (Own.chS rc1 (Own.chS rc2 (Own.chS rc3 Own.ch0)))) (by decide) (by decide)) rfl rfl (by rw [hml]; rfl) (lenOf (show parseMethodDescriptor "([C)V" = some ⟨[(.array .char)], none⟩ from by decide +kernel) rfl) (by show 2 * 0 + _ ≤ _; exact Nat.le_of_eq rfl) (by decide) (by decide) rfl ?_
            rintro v116 T116 h116 L116 ⟨rfl, N116q, K116, St116⟩ P116
            have N116 := Fr.app N109 N116q
            show Own.Goes _ _ _ _ (T116.setTop (mkF m 138 #[.val (.ref b1), .val (.int nn)] [(.ref a99)]))
            have E0_7_117 : Ext h0 h116 := (Own.Ext.kp E0_6_110 K116 (allS (Nat.le_of_eq ha99.symm) all0))
            have Hd118 := (H0.ext E0_7_117)
            refine Own.retAH (Q := QrmMake Z b1 kb nn c0 c1 c2 c3 c4 c5 c6 zc h0 n0) P116 hh (ew hw) Hd118 d9_138 hret rfl rfl rfl hlk (by decide) (by decide) ?_
            exact ⟨_, rfl, N116, E0_7_117, (Nat.le_of_eq ha99.symm), by unfold mkL; rw [if_neg (fun z => z q1), if_neg q17, if_neg q39, if_neg q67, if_pos q101]; exact St116⟩
        · refine Own.newobj (q := 73) P0 d9_70 (hw _ (List.mem_of_getElem? (i := 51) rfl)) (hw _ (List.mem_of_getElem? (i := 2) rfl)) (hw _ (List.mem_of_getElem? (i := 1) rfl)) (by decide) (by decide) rfl ?_
          intro T119 h119 a119 ha119 P119 E119 A119 D119
          have F119_value : Fld Z h119 a119 "java/lang/String" "value" "[B" .null := D119 (Or.inr (hw _ (List.mem_of_getElem? (i := 4) rfl))) (ty := (.array .byte)) (by decide)
          have F119_coder : Fld Z h119 a119 "java/lang/String" "coder" "B" (.int (0 : Int32)) := D119 (Or.inr (hw _ (List.mem_of_getElem? (i := 5) rfl))) (ty := .byte) (by decide)
          refine Own.dup (q := 74) P119 d9_73 rfl rfl ?_
          refine Own.iconst (q := 75) (v := (3 : Int32)) P119 d9_74 rfl rfl ?_
          refine Own.newarr (q := 77) (cap := 3) P119 d9_75 (hw _ (List.mem_of_getElem? (i := 21) rfl)) (by decide) (by decide) (by decide) (by decide) (by decide) rfl ?_
          intro T120 h120 a120 k120 ha120 P120 E120 A120
          have V120 : Arv Z h120 a120 k120 .char (3 : Int32) [(.int 0), (.int 0), (.int 0)] (.int 0) := Arv.pad A120 (pad_rep [] _ 3)
          refine Own.dup (q := 78) P120 d9_77 rfl rfl ?_
          refine Own.iconst (q := 79) (v := (0 : Int32)) P120 d9_78 rfl rfl ?_
          refine Own.aloadN (q := 80) P120 d9_79 rfl rfl rfl ?_
          refine Own.iconst (q := 81) (v := (0 : Int32)) P120 d9_80 rfl rfl ?_
          have E0_1_121 : Ext h0 h119 := E119
          have E0_2_122 : Ext h0 h120 := (Own.Ext.tr E0_1_121 E120)
          refine Own.caload (q := 82) (v := (.int c0)) P120 d9_81 (A_b.ext E0_2_122) (by decide) (by decide) rfl rfl ?_
          refine Own.castore (q := 83) (i := 0) (x2 := c0) P120 d9_82 V120 (by decide) (by decide) (Own.nar_id rc0) (Own.fits_ch rc0) (by decide) (Own.ltb rfl) rfl ?_
          intro T123 h123 lc123 hl123 P123 W123 A123
          have V123 : Arv Z h123 a120 k120 .char (3 : Int32) [(.int c0), (.int 0), (.int 0)] (.int 0) := A123
          have N123 := Own.Fr.one N0 hl123 (Nat.le_trans Z0 (Nat.le_trans E0_1_121.1 (Nat.le_of_eq ha120.symm)))
          refine Own.dup (q := 84) P123 d9_83 rfl rfl ?_
          refine Own.iconst (q := 85) (v := (1 : Int32)) P123 d9_84 rfl rfl ?_
          refine Own.aloadN (q := 86) P123 d9_85 rfl rfl rfl ?_
          refine Own.iconst (q := 87) (v := (1 : Int32)) P123 d9_86 rfl rfl ?_
          have E0_3_124 : Ext h0 h123 := (Own.Ext.wr E0_2_122 W123 (Nat.le_trans E0_1_121.1 (Nat.le_of_eq ha120.symm)))
          refine Own.caload (q := 88) (v := (.int c1)) P123 d9_87 (A_b.ext E0_3_124) (by decide) (by decide) rfl rfl ?_
          refine Own.castore (q := 89) (i := 1) (x2 := c1) P123 d9_88 V123 (by decide) (by decide) (Own.nar_id rc1) (Own.fits_ch rc1) (by decide) (Own.ltb rfl) rfl ?_
          intro T125 h125 lc125 hl125 P125 W125 A125
          have V125 : Arv Z h125 a120 k120 .char (3 : Int32) [(.int c0), (.int c1), (.int 0)] (.int 0) := A125
          have N125 := Own.Fr.one N123 hl125 (Nat.le_trans Z0 (Nat.le_trans E0_1_121.1 (Nat.le_of_eq ha120.symm)))
          refine Own.dup (q := 90) P125 d9_89 rfl rfl ?_
          refine Own.iconst (q := 91) (v := (2 : Int32)) P125 d9_90 rfl rfl ?_
          refine Own.aloadN (q := 92) P125 d9_91 rfl rfl rfl ?_
          refine Own.iconst (q := 93) (v := (2 : Int32)) P125 d9_92 rfl rfl ?_
          have E0_4_126 : Ext h0 h125 := (Own.Ext.wr E0_3_124 W125 (Nat.le_trans E0_1_121.1 (Nat.le_of_eq ha120.symm)))
          refine Own.caload (q := 94) (v := (.int c2)) P125 d9_93 (A_b.ext E0_4_126) (by decide) (by decide) rfl rfl ?_
          refine Own.castore (q := 95) (i := 2) (x2 := c2) P125 d9_94 V125 (by decide) (by decide) (Own.nar_id rc2) (Own.fits_ch rc2) (by decide) (Own.ltb rfl) rfl ?_
          intro T127 h127 lc127 hl127 P127 W127 A127
          have V127 : Arv Z h127 a120 k120 .char (3 : Int32) [(.int c0), (.int c1), (.int c2)] (.int 0) := A127
          have N127 := Own.Fr.one N125 hl127 (Nat.le_trans Z0 (Nat.le_trans E0_1_121.1 (Nat.le_of_eq ha120.symm)))
          have E0_5_128 : Ext h0 h127 := (Own.Ext.wr E0_4_126 W127 (Nat.le_trans E0_1_121.1 (Nat.le_of_eq ha120.symm)))
          have E1_2_129 : Ext h119 h120 := E120
          have E1_3_130 : Ext h119 h123 := (Own.Ext.wr E1_2_129 W123 (Nat.le_of_eq ha120.symm))
          have E1_4_131 : Ext h119 h125 := (Own.Ext.wr E1_3_130 W125 (Nat.le_of_eq ha120.symm))
          have E1_5_132 : Ext h119 h127 := (Own.Ext.wr E1_4_131 W127 (Nat.le_of_eq ha120.symm))
          refine Own.invSpecial (q := 98) (W := 1) (y := (⟨"java/lang/String", "<init>", "([C)V"⟩ : MethodName)) (a := a119) (argsL := [(.ref a120)]) (rest := [(.ref a119)]) P127 d9_95 rfl (hw _ (List.mem_of_getElem? (i := 52) rfl)) (hw _ (List.mem_of_getElem? (i := 53) rfl)) (hw _ (List.mem_of_getElem? (i := 54) rfl)) (by decide) (Own.newB (W := 1) (n0 := n0) (cs := [c0, c1, c2]) (n := 3) P127.2.2.2.1 (fun d hd => hw d (sub_backV d hd)) (hw _ (List.mem_of_getElem? (i := 2) rfl)) (Nat.le_trans Z0 (Nat.le_of_eq ha119.symm)) (Nat.le_trans Z0 E0_5_128.1) (A119.ext E1_5_132) (F119_value.ext E1_5_132) (F119_coder.ext E1_5_132) V127 (SC.ext E0_5_128) hzc rfl rfl (by decide) (by decide) (Own.chS rc0 (Own.chS rc1 (Own.chS rc2 Own.ch0))) (by decide) (by decide)) rfl rfl (by rw [hml]; rfl) (lenOf (show parseMethodDescriptor "([C)V" = some ⟨[(.array .char)], none⟩ from by decide +kernel) rfl) (by show 2 * 0 + _ ≤ _; exact Nat.le_of_eq rfl) (by decide) (by decide) rfl ?_
          rintro v133 T133 h133 L133 ⟨rfl, N133q, K133, St133⟩ P133
          have N133 := Fr.app N127 N133q
          show Own.Goes _ _ _ _ (T133.setTop (mkF m 98 #[.val (.ref b1), .val (.int nn)] [(.ref a119)]))
          have E0_6_134 : Ext h0 h133 := (Own.Ext.kp E0_5_128 K133 (allS (Nat.le_of_eq ha119.symm) all0))
          have Hd135 := (H0.ext E0_6_134)
          refine Own.retAH (Q := QrmMake Z b1 kb nn c0 c1 c2 c3 c4 c5 c6 zc h0 n0) P133 hh (ew hw) Hd135 d9_98 hret rfl rfl rfl hlk (by decide) (by decide) ?_
          exact ⟨_, rfl, N133, E0_6_134, (Nat.le_of_eq ha119.symm), by unfold mkL; rw [if_neg (fun z => z q1), if_neg q17, if_neg q39, if_pos q67]; exact St133⟩
      · refine Own.newobj (q := 45) P0 d9_42 (hw _ (List.mem_of_getElem? (i := 51) rfl)) (hw _ (List.mem_of_getElem? (i := 2) rfl)) (hw _ (List.mem_of_getElem? (i := 1) rfl)) (by decide) (by decide) rfl ?_
        intro T136 h136 a136 ha136 P136 E136 A136 D136
        have F136_value : Fld Z h136 a136 "java/lang/String" "value" "[B" .null := D136 (Or.inr (hw _ (List.mem_of_getElem? (i := 4) rfl))) (ty := (.array .byte)) (by decide)
        have F136_coder : Fld Z h136 a136 "java/lang/String" "coder" "B" (.int (0 : Int32)) := D136 (Or.inr (hw _ (List.mem_of_getElem? (i := 5) rfl))) (ty := .byte) (by decide)
        refine Own.dup (q := 46) P136 d9_45 rfl rfl ?_
        refine Own.iconst (q := 47) (v := (2 : Int32)) P136 d9_46 rfl rfl ?_
        refine Own.newarr (q := 49) (cap := 2) P136 d9_47 (hw _ (List.mem_of_getElem? (i := 21) rfl)) (by decide) (by decide) (by decide) (by decide) (by decide) rfl ?_
        intro T137 h137 a137 k137 ha137 P137 E137 A137
        have V137 : Arv Z h137 a137 k137 .char (2 : Int32) [(.int 0), (.int 0)] (.int 0) := Arv.pad A137 (pad_rep [] _ 2)
        refine Own.dup (q := 50) P137 d9_49 rfl rfl ?_
        refine Own.iconst (q := 51) (v := (0 : Int32)) P137 d9_50 rfl rfl ?_
        refine Own.aloadN (q := 52) P137 d9_51 rfl rfl rfl ?_
        refine Own.iconst (q := 53) (v := (0 : Int32)) P137 d9_52 rfl rfl ?_
        have E0_1_138 : Ext h0 h136 := E136
        have E0_2_139 : Ext h0 h137 := (Own.Ext.tr E0_1_138 E137)
        refine Own.caload (q := 54) (v := (.int c0)) P137 d9_53 (A_b.ext E0_2_139) (by decide) (by decide) rfl rfl ?_
        refine Own.castore (q := 55) (i := 0) (x2 := c0) P137 d9_54 V137 (by decide) (by decide) (Own.nar_id rc0) (Own.fits_ch rc0) (by decide) (Own.ltb rfl) rfl ?_
        intro T140 h140 lc140 hl140 P140 W140 A140
        have V140 : Arv Z h140 a137 k137 .char (2 : Int32) [(.int c0), (.int 0)] (.int 0) := A140
        have N140 := Own.Fr.one N0 hl140 (Nat.le_trans Z0 (Nat.le_trans E0_1_138.1 (Nat.le_of_eq ha137.symm)))
        refine Own.dup (q := 56) P140 d9_55 rfl rfl ?_
        refine Own.iconst (q := 57) (v := (1 : Int32)) P140 d9_56 rfl rfl ?_
        refine Own.aloadN (q := 58) P140 d9_57 rfl rfl rfl ?_
        refine Own.iconst (q := 59) (v := (1 : Int32)) P140 d9_58 rfl rfl ?_
        have E0_3_141 : Ext h0 h140 := (Own.Ext.wr E0_2_139 W140 (Nat.le_trans E0_1_138.1 (Nat.le_of_eq ha137.symm)))
        refine Own.caload (q := 60) (v := (.int c1)) P140 d9_59 (A_b.ext E0_3_141) (by decide) (by decide) rfl rfl ?_
        refine Own.castore (q := 61) (i := 1) (x2 := c1) P140 d9_60 V140 (by decide) (by decide) (Own.nar_id rc1) (Own.fits_ch rc1) (by decide) (Own.ltb rfl) rfl ?_
        intro T142 h142 lc142 hl142 P142 W142 A142
        have V142 : Arv Z h142 a137 k137 .char (2 : Int32) [(.int c0), (.int c1)] (.int 0) := A142
        have N142 := Own.Fr.one N140 hl142 (Nat.le_trans Z0 (Nat.le_trans E0_1_138.1 (Nat.le_of_eq ha137.symm)))
        have E0_4_143 : Ext h0 h142 := (Own.Ext.wr E0_3_141 W142 (Nat.le_trans E0_1_138.1 (Nat.le_of_eq ha137.symm)))
        have E1_2_144 : Ext h136 h137 := E137
        have E1_3_145 : Ext h136 h140 := (Own.Ext.wr E1_2_144 W140 (Nat.le_of_eq ha137.symm))
        have E1_4_146 : Ext h136 h142 := (Own.Ext.wr E1_3_145 W142 (Nat.le_of_eq ha137.symm))
        refine Own.invSpecial (q := 64) (W := 1) (y := (⟨"java/lang/String", "<init>", "([C)V"⟩ : MethodName)) (a := a136) (argsL := [(.ref a137)]) (rest := [(.ref a136)]) P142 d9_61 rfl (hw _ (List.mem_of_getElem? (i := 52) rfl)) (hw _ (List.mem_of_getElem? (i := 53) rfl)) (hw _ (List.mem_of_getElem? (i := 54) rfl)) (by decide) (Own.newB (W := 1) (n0 := n0) (cs := [c0, c1]) (n := 2) P142.2.2.2.1 (fun d hd => hw d (sub_backV d hd)) (hw _ (List.mem_of_getElem? (i := 2) rfl)) (Nat.le_trans Z0 (Nat.le_of_eq ha136.symm)) (Nat.le_trans Z0 E0_4_143.1) (A136.ext E1_4_146) (F136_value.ext E1_4_146) (F136_coder.ext E1_4_146) V142 (SC.ext E0_4_143) hzc rfl rfl (by decide) (by decide) (Own.chS rc0 (Own.chS rc1 Own.ch0)) (by decide) (by decide)) rfl rfl (by rw [hml]; rfl) (lenOf (show parseMethodDescriptor "([C)V" = some ⟨[(.array .char)], none⟩ from by decide +kernel) rfl) (by show 2 * 0 + _ ≤ _; exact Nat.le_of_eq rfl) (by decide) (by decide) rfl ?_
        rintro v147 T147 h147 L147 ⟨rfl, N147q, K147, St147⟩ P147
        have N147 := Fr.app N142 N147q
        show Own.Goes _ _ _ _ (T147.setTop (mkF m 64 #[.val (.ref b1), .val (.int nn)] [(.ref a136)]))
        have E0_5_148 : Ext h0 h147 := (Own.Ext.kp E0_4_143 K147 (allS (Nat.le_of_eq ha136.symm) all0))
        have Hd149 := (H0.ext E0_5_148)
        refine Own.retAH (Q := QrmMake Z b1 kb nn c0 c1 c2 c3 c4 c5 c6 zc h0 n0) P147 hh (ew hw) Hd149 d9_64 hret rfl rfl rfl hlk (by decide) (by decide) ?_
        exact ⟨_, rfl, N147, E0_5_148, (Nat.le_of_eq ha136.symm), by unfold mkL; rw [if_neg (fun z => z q1), if_neg q17, if_pos q39]; exact St147⟩
    · refine Own.newobj (q := 23) P0 d9_20 (hw _ (List.mem_of_getElem? (i := 51) rfl)) (hw _ (List.mem_of_getElem? (i := 2) rfl)) (hw _ (List.mem_of_getElem? (i := 1) rfl)) (by decide) (by decide) rfl ?_
      intro T150 h150 a150 ha150 P150 E150 A150 D150
      have F150_value : Fld Z h150 a150 "java/lang/String" "value" "[B" .null := D150 (Or.inr (hw _ (List.mem_of_getElem? (i := 4) rfl))) (ty := (.array .byte)) (by decide)
      have F150_coder : Fld Z h150 a150 "java/lang/String" "coder" "B" (.int (0 : Int32)) := D150 (Or.inr (hw _ (List.mem_of_getElem? (i := 5) rfl))) (ty := .byte) (by decide)
      refine Own.dup (q := 24) P150 d9_23 rfl rfl ?_
      refine Own.iconst (q := 25) (v := (1 : Int32)) P150 d9_24 rfl rfl ?_
      refine Own.newarr (q := 27) (cap := 1) P150 d9_25 (hw _ (List.mem_of_getElem? (i := 21) rfl)) (by decide) (by decide) (by decide) (by decide) (by decide) rfl ?_
      intro T151 h151 a151 k151 ha151 P151 E151 A151
      have V151 : Arv Z h151 a151 k151 .char (1 : Int32) [(.int 0)] (.int 0) := Arv.pad A151 (pad_rep [] _ 1)
      refine Own.dup (q := 28) P151 d9_27 rfl rfl ?_
      refine Own.iconst (q := 29) (v := (0 : Int32)) P151 d9_28 rfl rfl ?_
      refine Own.aloadN (q := 30) P151 d9_29 rfl rfl rfl ?_
      refine Own.iconst (q := 31) (v := (0 : Int32)) P151 d9_30 rfl rfl ?_
      have E0_1_152 : Ext h0 h150 := E150
      have E0_2_153 : Ext h0 h151 := (Own.Ext.tr E0_1_152 E151)
      refine Own.caload (q := 32) (v := (.int c0)) P151 d9_31 (A_b.ext E0_2_153) (by decide) (by decide) rfl rfl ?_
      refine Own.castore (q := 33) (i := 0) (x2 := c0) P151 d9_32 V151 (by decide) (by decide) (Own.nar_id rc0) (Own.fits_ch rc0) (by decide) (Own.ltb rfl) rfl ?_
      intro T154 h154 lc154 hl154 P154 W154 A154
      have V154 : Arv Z h154 a151 k151 .char (1 : Int32) [(.int c0)] (.int 0) := A154
      have N154 := Own.Fr.one N0 hl154 (Nat.le_trans Z0 (Nat.le_trans E0_1_152.1 (Nat.le_of_eq ha151.symm)))
      have E0_3_155 : Ext h0 h154 := (Own.Ext.wr E0_2_153 W154 (Nat.le_trans E0_1_152.1 (Nat.le_of_eq ha151.symm)))
      have E1_2_156 : Ext h150 h151 := E151
      have E1_3_157 : Ext h150 h154 := (Own.Ext.wr E1_2_156 W154 (Nat.le_of_eq ha151.symm))
      refine Own.invSpecial (q := 36) (W := 1) (y := (⟨"java/lang/String", "<init>", "([C)V"⟩ : MethodName)) (a := a150) (argsL := [(.ref a151)]) (rest := [(.ref a150)]) P154 d9_33 rfl (hw _ (List.mem_of_getElem? (i := 52) rfl)) (hw _ (List.mem_of_getElem? (i := 53) rfl)) (hw _ (List.mem_of_getElem? (i := 54) rfl)) (by decide) (Own.newB (W := 1) (n0 := n0) (cs := [c0]) (n := 1) P154.2.2.2.1 (fun d hd => hw d (sub_backV d hd)) (hw _ (List.mem_of_getElem? (i := 2) rfl)) (Nat.le_trans Z0 (Nat.le_of_eq ha150.symm)) (Nat.le_trans Z0 E0_3_155.1) (A150.ext E1_3_157) (F150_value.ext E1_3_157) (F150_coder.ext E1_3_157) V154 (SC.ext E0_3_155) hzc rfl rfl (by decide) (by decide) (Own.chS rc0 Own.ch0) (by decide) (by decide)) rfl rfl (by rw [hml]; rfl) (lenOf (show parseMethodDescriptor "([C)V" = some ⟨[(.array .char)], none⟩ from by decide +kernel) rfl) (by show 2 * 0 + _ ≤ _; exact Nat.le_of_eq rfl) (by decide) (by decide) rfl ?_
      rintro v158 T158 h158 L158 ⟨rfl, N158q, K158, St158⟩ P158
      have N158 := Fr.app N154 N158q
      show Own.Goes _ _ _ _ (T158.setTop (mkF m 36 #[.val (.ref b1), .val (.int nn)] [(.ref a150)]))
      have E0_4_159 : Ext h0 h158 := (Own.Ext.kp E0_3_155 K158 (allS (Nat.le_of_eq ha150.symm) all0))
      have Hd160 := (H0.ext E0_4_159)
      refine Own.retAH (Q := QrmMake Z b1 kb nn c0 c1 c2 c3 c4 c5 c6 zc h0 n0) P158 hh (ew hw) Hd160 d9_36 hret rfl rfl rfl hlk (by decide) (by decide) ?_
      exact ⟨_, rfl, N158, E0_4_159, (Nat.le_of_eq ha150.symm), by unfold mkL; rw [if_neg (fun z => z q1), if_pos q17]; exact St158⟩
  · refine Own.newobj (q := 7) P0 d9_4 (hw _ (List.mem_of_getElem? (i := 51) rfl)) (hw _ (List.mem_of_getElem? (i := 2) rfl)) (hw _ (List.mem_of_getElem? (i := 1) rfl)) (by decide) (by decide) rfl ?_
    intro T161 h161 a161 ha161 P161 E161 A161 D161
    have F161_value : Fld Z h161 a161 "java/lang/String" "value" "[B" .null := D161 (Or.inr (hw _ (List.mem_of_getElem? (i := 4) rfl))) (ty := (.array .byte)) (by decide)
    have F161_coder : Fld Z h161 a161 "java/lang/String" "coder" "B" (.int (0 : Int32)) := D161 (Or.inr (hw _ (List.mem_of_getElem? (i := 5) rfl))) (ty := .byte) (by decide)
    refine Own.dup (q := 8) P161 d9_7 rfl rfl ?_
    refine Own.iconst (q := 9) (v := (0 : Int32)) P161 d9_8 rfl rfl ?_
    refine Own.newarr (q := 11) (cap := 0) P161 d9_9 (hw _ (List.mem_of_getElem? (i := 21) rfl)) (by decide) (by decide) (by decide) (by decide) (by decide) rfl ?_
    intro T162 h162 a162 k162 ha162 P162 E162 A162
    have V162 : Arv Z h162 a162 k162 .char (0 : Int32) [] (.int 0) := Arv.pad A162 (pad_rep [] _ 0)
    have E1_2_163 : Ext h161 h162 := E162
    have Sf164 := (Safe.ext E161 H0.2.1 (Safe.new (Nat.le_of_eq ha161.symm)))
    have E0_1_165 : Ext h0 h161 := E161
    have Hd166 := (H0.ext E0_1_165)
    have Sf167 := (Safe.ext E162 Hd166.2.1 Sf164)
    have E0_2_168 : Ext h0 h162 := (Own.Ext.tr E0_1_165 E162)
    have Hd169 := (Hd166.ext E1_2_163)
    refine Own.invSpecialH (q := 14) (W := 1) (y := (⟨"java/lang/String", "<init>", "([C)V"⟩ : MethodName)) (a := a161) (argsL := [(.ref a162)]) (rest := [(.ref a161)]) P162 Hd169 d9_11 rfl (hw _ (List.mem_of_getElem? (i := 52) rfl)) (hw _ (List.mem_of_getElem? (i := 53) rfl)) (hw _ (List.mem_of_getElem? (i := 54) rfl)) (by decide) (Own.backH (W := 1) (rmE1 l Z a0 hw [] a161 a162 k162 .null (.int (0 : Int32)) _ h162 n0 (Nat.le_trans Z0 E0_2_168.1) (A161.ext E1_2_163) (F161_value.ext E1_2_163) (F161_coder.ext E1_2_163) (Nat.le_trans Z0 (Nat.le_of_eq ha161.symm)) V162) P162.2.2.2.1 (hw _ (List.mem_of_getElem? (i := 54) rfl)) (hw _ (List.mem_of_getElem? (i := 1) rfl)) (by decide) (by decide) (ew hw) Hd169.2.1 (allS ⟨(A161.ext E1_2_163).lt, Sf167⟩ all0)) rfl rfl (by rw [hml]; rfl) (lenOf (show parseMethodDescriptor "([C)V" = some ⟨[(.array .char)], none⟩ from by decide +kernel) rfl) (by show 2 * 0 + _ ≤ _; exact Nat.le_of_eq rfl) (by decide) (by decide) rfl ?_
    rintro v170 T170 vm170 h170 L170 ⟨rfl, N170q, K170, St170⟩ P170 H170 hr170
    have N170 := Fr.app N0 N170q
    show Own.Goes _ _ _ _ (T170.setTop (mkF m 14 #[.val (.ref b1), .val (.int nn)] [(.ref a161)]))
    have E0_3_171 : Ext h0 h170 := (Own.Ext.kp E0_2_168 K170 (allS (Nat.le_of_eq ha161.symm) all0))
    refine Own.retAH (Q := QrmMake Z b1 kb nn c0 c1 c2 c3 c4 c5 c6 zc h0 n0) P170 hh (ew hw) H170 d9_14 hret rfl rfl rfl hlk (by decide) (by decide) ?_
    exact ⟨_, rfl, N170, E0_3_171, (Nat.le_of_eq ha161.symm), by unfold mkL; rw [if_pos q1]; exact St170⟩
theorem d16_0 : decode method_5_code 0 = .ok (.iload_n 1, 1) := by decide +kernel
theorem d16_1 : decode method_5_code 1 = .ok (.bipush 6, 2) := by decide +kernel
theorem d16_3 : decode method_5_code 3 = .ok (.if_icmp .ne 53, 3) := by decide +kernel
theorem d16_6 : decode method_5_code 6 = .ok (.aload_n 0, 1) := by decide +kernel
theorem d16_7 : decode method_5_code 7 = .ok (.iconst 0, 1) := by decide +kernel
theorem d16_8 : decode method_5_code 8 = .ok (.caload, 1) := by decide +kernel
theorem d16_9 : decode method_5_code 9 = .ok (.bipush 106, 2) := by decide +kernel
theorem d16_11 : decode method_5_code 11 = .ok (.if_icmp .ne 45, 3) := by decide +kernel
theorem d16_14 : decode method_5_code 14 = .ok (.aload_n 0, 1) := by decide +kernel
theorem d16_15 : decode method_5_code 15 = .ok (.iconst 1, 1) := by decide +kernel
theorem d16_16 : decode method_5_code 16 = .ok (.caload, 1) := by decide +kernel
theorem d16_17 : decode method_5_code 17 = .ok (.bipush 112, 2) := by decide +kernel
theorem d16_19 : decode method_5_code 19 = .ok (.if_icmp .ne 37, 3) := by decide +kernel
theorem d16_22 : decode method_5_code 22 = .ok (.aload_n 0, 1) := by decide +kernel
theorem d16_23 : decode method_5_code 23 = .ok (.iconst 2, 1) := by decide +kernel
theorem d16_24 : decode method_5_code 24 = .ok (.caload, 1) := by decide +kernel
theorem d16_25 : decode method_5_code 25 = .ok (.bipush 99, 2) := by decide +kernel
theorem d16_27 : decode method_5_code 27 = .ok (.if_icmp .ne 29, 3) := by decide +kernel
theorem d16_30 : decode method_5_code 30 = .ok (.aload_n 0, 1) := by decide +kernel
theorem d16_31 : decode method_5_code 31 = .ok (.iconst 3, 1) := by decide +kernel
theorem d16_32 : decode method_5_code 32 = .ok (.caload, 1) := by decide +kernel
theorem d16_33 : decode method_5_code 33 = .ok (.bipush 111, 2) := by decide +kernel
theorem d16_35 : decode method_5_code 35 = .ok (.if_icmp .ne 21, 3) := by decide +kernel
theorem d16_38 : decode method_5_code 38 = .ok (.aload_n 0, 1) := by decide +kernel
theorem d16_39 : decode method_5_code 39 = .ok (.iconst 4, 1) := by decide +kernel
theorem d16_40 : decode method_5_code 40 = .ok (.caload, 1) := by decide +kernel
theorem d16_41 : decode method_5_code 41 = .ok (.bipush 97, 2) := by decide +kernel
theorem d16_43 : decode method_5_code 43 = .ok (.if_icmp .ne 13, 3) := by decide +kernel
theorem d16_46 : decode method_5_code 46 = .ok (.aload_n 0, 1) := by decide +kernel
theorem d16_47 : decode method_5_code 47 = .ok (.iconst 5, 1) := by decide +kernel
theorem d16_48 : decode method_5_code 48 = .ok (.caload, 1) := by decide +kernel
theorem d16_49 : decode method_5_code 49 = .ok (.bipush 114, 2) := by decide +kernel
theorem d16_51 : decode method_5_code 51 = .ok (.if_icmp .ne 5, 3) := by decide +kernel
theorem d16_54 : decode method_5_code 54 = .ok (.iconst 0, 1) := by decide +kernel
theorem d16_55 : decode method_5_code 55 = .ok (.ireturn, 1) := by decide +kernel
theorem d16_56 : decode method_5_code 56 = .ok (.iload_n 1, 1) := by decide +kernel
theorem d16_57 : decode method_5_code 57 = .ok (.iconst 4, 1) := by decide +kernel
theorem d16_58 : decode method_5_code 58 = .ok (.if_icmp .ne 37, 3) := by decide +kernel
theorem d16_61 : decode method_5_code 61 = .ok (.aload_n 0, 1) := by decide +kernel
theorem d16_62 : decode method_5_code 62 = .ok (.iconst 0, 1) := by decide +kernel
theorem d16_63 : decode method_5_code 63 = .ok (.caload, 1) := by decide +kernel
theorem d16_64 : decode method_5_code 64 = .ok (.bipush 109, 2) := by decide +kernel
theorem d16_66 : decode method_5_code 66 = .ok (.if_icmp .ne 29, 3) := by decide +kernel
theorem d16_69 : decode method_5_code 69 = .ok (.aload_n 0, 1) := by decide +kernel
theorem d16_70 : decode method_5_code 70 = .ok (.iconst 1, 1) := by decide +kernel
theorem d16_71 : decode method_5_code 71 = .ok (.caload, 1) := by decide +kernel
theorem d16_72 : decode method_5_code 72 = .ok (.bipush 97, 2) := by decide +kernel
theorem d16_74 : decode method_5_code 74 = .ok (.if_icmp .ne 21, 3) := by decide +kernel
theorem d16_77 : decode method_5_code 77 = .ok (.aload_n 0, 1) := by decide +kernel
theorem d16_78 : decode method_5_code 78 = .ok (.iconst 2, 1) := by decide +kernel
theorem d16_79 : decode method_5_code 79 = .ok (.caload, 1) := by decide +kernel
theorem d16_80 : decode method_5_code 80 = .ok (.bipush 114, 2) := by decide +kernel
theorem d16_82 : decode method_5_code 82 = .ok (.if_icmp .ne 13, 3) := by decide +kernel
theorem d16_85 : decode method_5_code 85 = .ok (.aload_n 0, 1) := by decide +kernel
theorem d16_86 : decode method_5_code 86 = .ok (.iconst 3, 1) := by decide +kernel
theorem d16_87 : decode method_5_code 87 = .ok (.caload, 1) := by decide +kernel
theorem d16_88 : decode method_5_code 88 = .ok (.bipush 99, 2) := by decide +kernel
theorem d16_90 : decode method_5_code 90 = .ok (.if_icmp .ne 5, 3) := by decide +kernel
theorem d16_93 : decode method_5_code 93 = .ok (.iconst 1, 1) := by decide +kernel
theorem d16_94 : decode method_5_code 94 = .ok (.ireturn, 1) := by decide +kernel
theorem d16_95 : decode method_5_code 95 = .ok (.iload_n 1, 1) := by decide +kernel
theorem d16_96 : decode method_5_code 96 = .ok (.iconst 5, 1) := by decide +kernel
theorem d16_97 : decode method_5_code 97 = .ok (.if_icmp .ne 45, 3) := by decide +kernel
theorem d16_100 : decode method_5_code 100 = .ok (.aload_n 0, 1) := by decide +kernel
theorem d16_101 : decode method_5_code 101 = .ok (.iconst 0, 1) := by decide +kernel
theorem d16_102 : decode method_5_code 102 = .ok (.caload, 1) := by decide +kernel
theorem d16_103 : decode method_5_code 103 = .ok (.bipush 100, 2) := by decide +kernel
theorem d16_105 : decode method_5_code 105 = .ok (.if_icmp .ne 37, 3) := by decide +kernel
theorem d16_108 : decode method_5_code 108 = .ok (.aload_n 0, 1) := by decide +kernel
theorem d16_109 : decode method_5_code 109 = .ok (.iconst 1, 1) := by decide +kernel
theorem d16_110 : decode method_5_code 110 = .ok (.caload, 1) := by decide +kernel
theorem d16_111 : decode method_5_code 111 = .ok (.bipush 99, 2) := by decide +kernel
theorem d16_113 : decode method_5_code 113 = .ok (.if_icmp .ne 29, 3) := by decide +kernel
theorem d16_116 : decode method_5_code 116 = .ok (.aload_n 0, 1) := by decide +kernel
theorem d16_117 : decode method_5_code 117 = .ok (.iconst 2, 1) := by decide +kernel
theorem d16_118 : decode method_5_code 118 = .ok (.caload, 1) := by decide +kernel
theorem d16_119 : decode method_5_code 119 = .ok (.bipush 110, 2) := by decide +kernel
theorem d16_121 : decode method_5_code 121 = .ok (.if_icmp .ne 21, 3) := by decide +kernel
theorem d16_124 : decode method_5_code 124 = .ok (.aload_n 0, 1) := by decide +kernel
theorem d16_125 : decode method_5_code 125 = .ok (.iconst 3, 1) := by decide +kernel
theorem d16_126 : decode method_5_code 126 = .ok (.caload, 1) := by decide +kernel
theorem d16_127 : decode method_5_code 127 = .ok (.bipush 100, 2) := by decide +kernel
theorem d16_129 : decode method_5_code 129 = .ok (.if_icmp .ne 13, 3) := by decide +kernel
theorem d16_132 : decode method_5_code 132 = .ok (.aload_n 0, 1) := by decide +kernel
theorem d16_133 : decode method_5_code 133 = .ok (.iconst 4, 1) := by decide +kernel
theorem d16_134 : decode method_5_code 134 = .ok (.caload, 1) := by decide +kernel
theorem d16_135 : decode method_5_code 135 = .ok (.bipush 108, 2) := by decide +kernel
theorem d16_137 : decode method_5_code 137 = .ok (.if_icmp .ne 5, 3) := by decide +kernel
theorem d16_140 : decode method_5_code 140 = .ok (.iconst 2, 1) := by decide +kernel
theorem d16_141 : decode method_5_code 141 = .ok (.ireturn, 1) := by decide +kernel
theorem d16_142 : decode method_5_code 142 = .ok (.iconst (-1), 1) := by decide +kernel
theorem d16_143 : decode method_5_code 143 = .ok (.ireturn, 1) := by decide +kernel
theorem pn_16 : plainName "com/example/mokuroku/mokuroku/core/FormatByCliNamePinLaw" = true := by first | (simp [plainName, overriddenIn]; done) | decide +kernel
def QrmExp (Z : State) (b1 : Addr) (kb : ClassId) (nn : Int32) (c0 : Int32) (c1 : Int32) (c2 : Int32) (c3 : Int32) (c4 : Int32) (c5 : Int32) (c6 : Int32) (h0 : Heap) (n0 : Nat) (v : Option Value) (h : Heap) (L : List Loc) : Prop := v = some (.int (expI nn c0 c1 c2 c3 c4 c5 c6)) ∧ Fr n0 L ∧ h = h0
set_option maxRecDepth 65536 in
set_option maxHeartbeats 40000000 in
theorem rmExp (l : Launch) (Z : State) (a0 : Array Value) (hw : ∀ d ∈ tables_1, d.before a0 Z = true) (ws : List Jvm.Cond) (b1 : Addr) (kb : ClassId) (nn : Int32) (c0 : Int32) (c1 : Int32) (c2 : Int32) (c3 : Int32) (c4 : Int32) (c5 : Int32) (c6 : Int32) (h0 : Heap) (n0 : Nat) (Z0 : n0 ≤ h0.size) (A_b : Arv Z h0 b1 kb .char 7 [.int c0, .int c1, .int c2, .int c3, .int c4, .int c5, .int c6] (.int 0)) :
    MetFree l (⟨"com/example/mokuroku/mokuroku/core/FormatByCliNamePinLaw", "expected", "([CI)I"⟩ : MethodName) (head1 (Jvm.Cond.code (⟨"com/example/mokuroku/mokuroku/core/FormatByCliNamePinLaw", "expected", "([CI)I"⟩ : MethodName) method_5_code 2 (some .int) :: ws) ({ frames := 0, cells := 0, slots := 0, locals := 0 } : Room)) (fun a U => a = #[(.ref b1), (.int nn)] ∧ Z.Warmed39 U.vm ∧ U.heap = h0) (fun _ _ _ _ _ => True) (fun _ U o U' => ∃ v L, o = .returned v ∧ QrmExp Z b1 kb nn c0 c1 c2 c3 c4 c5 c6 h0 n0 v U'.heap L ∧ FrameEnd U o U' L ({ frames := 0, cells := 0, slots := 0, locals := 0 } : Room).cells ({ frames := 0, cells := 0, slots := 0, locals := 0 } : Room).slots) := by
  refine MetFree.of_bodySF (plainFor_of_name pn_16) hisR ?_
  intro p e s m args below meth c s₁ Bd hml0 hP hK
  obtain ⟨rfl, hZ, hh⟩ := hP
  have hml : c.maxLocals = 2 := hml0
  have hlk : meth.locks = false := Bd.notSynchronized
  have hret := Bd.returns
  have hnm := (name_of_methodNamed Bd.named Bd.method).1
  have P0 : Own.Wk Z "com/example/mokuroku/mokuroku/core/FormatByCliNamePinLaw" method_5_code h0 p l e ({ frames := 0, cells := 0, slots := 0, locals := 0 } : Room) s m #[(.ref b1), (.int nn)] below meth c s₁ [] 0 0 := ⟨Stand.of_body Bd, Bd.exec, Bd.bytes, hZ, findClass_of_methodNamed Bd.named, by rw [← hh, Bd.state]; rfl⟩
  have N0 := Fr.nil n0
  show Own.Goes p.tables e below (fun s₂ o => ∃ v L, o = .returned v ∧ QrmExp Z b1 kb nn c0 c1 c2 c3 c4 c5 c6 h0 n0 v s₂.heap L ∧ FrameEnd s o s₂ L ({ frames := 0, cells := 0, slots := 0, locals := 0 } : Room).cells ({ frames := 0, cells := 0, slots := 0, locals := 0 } : Room).slots) (s₁.setTop (entryFrame m #[(.ref b1), (.int nn)] 2))
  rw [show entryFrame m #[(.ref b1), (.int nn)] 2 = mkF m 0 #[.val (.ref b1), .val (.int nn)] [] from by first | rfl | (simp [entryFrame, mkF, argsToLocals, Value.category]; done)]
  refine Own.iloadN (q := 1) P0 d16_0 rfl rfl ?_
  refine Own.bipush (q := 3) (v := (6 : Int32)) P0 d16_1 rfl rfl ?_
  refine Own.icmp_ne (q := 6) (qy := 56) P0 d16_3 (by decide) rfl (fun q3 => ?_) (fun q3 => ?_)
  · refine Own.iloadN (q := 57) P0 d16_56 rfl rfl ?_
    refine Own.iconst (q := 58) (v := (4 : Int32)) P0 d16_57 rfl rfl ?_
    refine Own.icmp_ne (q := 61) (qy := 95) P0 d16_58 (by decide) rfl (fun q58 => ?_) (fun q58 => ?_)
    · refine Own.iloadN (q := 96) P0 d16_95 rfl rfl ?_
      refine Own.iconst (q := 97) (v := (5 : Int32)) P0 d16_96 rfl rfl ?_
      refine Own.icmp_ne (q := 100) (qy := 142) P0 d16_97 (by decide) rfl (fun q97 => ?_) (fun q97 => ?_)
      · refine Own.iconst (q := 143) (v := (-1 : Int32)) P0 d16_142 rfl rfl ?_
        refine Own.retI (Q := QrmExp Z b1 kb nn c0 c1 c2 c3 c4 c5 c6 h0 n0) P0 d16_143 hret hlk (by decide) (by decide) ?_
        exact ⟨by simp [expI, *], N0, rfl⟩
      · refine Own.aloadN (q := 101) P0 d16_100 rfl rfl rfl ?_
        refine Own.iconst (q := 102) (v := (0 : Int32)) P0 d16_101 rfl rfl ?_
        refine Own.caload (q := 103) (v := (.int c0)) P0 d16_102 A_b (by decide) (by decide) rfl rfl ?_
        refine Own.bipush (q := 105) (v := (100 : Int32)) P0 d16_103 rfl rfl ?_
        refine Own.icmp_ne (q := 108) (qy := 142) P0 d16_105 (by decide) rfl (fun q105 => ?_) (fun q105 => ?_)
        · refine Own.iconst (q := 143) (v := (-1 : Int32)) P0 d16_142 rfl rfl ?_
          refine Own.retI (Q := QrmExp Z b1 kb nn c0 c1 c2 c3 c4 c5 c6 h0 n0) P0 d16_143 hret hlk (by decide) (by decide) ?_
          exact ⟨by simp [expI, *], N0, rfl⟩
        · refine Own.aloadN (q := 109) P0 d16_108 rfl rfl rfl ?_
          refine Own.iconst (q := 110) (v := (1 : Int32)) P0 d16_109 rfl rfl ?_
          refine Own.caload (q := 111) (v := (.int c1)) P0 d16_110 A_b (by decide) (by decide) rfl rfl ?_
          refine Own.bipush (q := 113) (v := (99 : Int32)) P0 d16_111 rfl rfl ?_
          refine Own.icmp_ne (q := 116) (qy := 142) P0 d16_113 (by decide) rfl (fun q113 => ?_) (fun q113 => ?_)
          · refine Own.iconst (q := 143) (v := (-1 : Int32)) P0 d16_142 rfl rfl ?_
            refine Own.retI (Q := QrmExp Z b1 kb nn c0 c1 c2 c3 c4 c5 c6 h0 n0) P0 d16_143 hret hlk (by decide) (by decide) ?_
            exact ⟨by simp [expI, *], N0, rfl⟩
          · refine Own.aloadN (q := 117) P0 d16_116 rfl rfl rfl ?_
            refine Own.iconst (q := 118) (v := (2 : Int32)) P0 d16_117 rfl rfl ?_
            refine Own.caload (q := 119) (v := (.int c2)) P0 d16_118 A_b (by decide) (by decide) rfl rfl ?_
            refine Own.bipush (q := 121) (v := (110 : Int32)) P0 d16_119 rfl rfl ?_
            refine Own.icmp_ne (q := 124) (qy := 142) P0 d16_121 (by decide) rfl (fun q121 => ?_) (fun q121 => ?_)
            · refine Own.iconst (q := 143) (v := (-1 : Int32)) P0 d16_142 rfl rfl ?_
              refine Own.retI (Q := QrmExp Z b1 kb nn c0 c1 c2 c3 c4 c5 c6 h0 n0) P0 d16_143 hret hlk (by decide) (by decide) ?_
              exact ⟨by simp [expI, *], N0, rfl⟩
            · refine Own.aloadN (q := 125) P0 d16_124 rfl rfl rfl ?_
              refine Own.iconst (q := 126) (v := (3 : Int32)) P0 d16_125 rfl rfl ?_
              refine Own.caload (q := 127) (v := (.int c3)) P0 d16_126 A_b (by decide) (by decide) rfl rfl ?_
              refine Own.bipush (q := 129) (v := (100 : Int32)) P0 d16_127 rfl rfl ?_
              refine Own.icmp_ne (q := 132) (qy := 142) P0 d16_129 (by decide) rfl (fun q129 => ?_) (fun q129 => ?_)
              · refine Own.iconst (q := 143) (v := (-1 : Int32)) P0 d16_142 rfl rfl ?_
                refine Own.retI (Q := QrmExp Z b1 kb nn c0 c1 c2 c3 c4 c5 c6 h0 n0) P0 d16_143 hret hlk (by decide) (by decide) ?_
                exact ⟨by simp [expI, *], N0, rfl⟩
              · refine Own.aloadN (q := 133) P0 d16_132 rfl rfl rfl ?_
                refine Own.iconst (q := 134) (v := (4 : Int32)) P0 d16_133 rfl rfl ?_
                refine Own.caload (q := 135) (v := (.int c4)) P0 d16_134 A_b (by decide) (by decide) rfl rfl ?_
                refine Own.bipush (q := 137) (v := (108 : Int32)) P0 d16_135 rfl rfl ?_
                refine Own.icmp_ne (q := 140) (qy := 142) P0 d16_137 (by decide) rfl (fun q137 => ?_) (fun q137 => ?_)
                · refine Own.iconst (q := 143) (v := (-1 : Int32)) P0 d16_142 rfl rfl ?_
                  refine Own.retI (Q := QrmExp Z b1 kb nn c0 c1 c2 c3 c4 c5 c6 h0 n0) P0 d16_143 hret hlk (by decide) (by decide) ?_
                  exact ⟨by simp [expI, *], N0, rfl⟩
                · refine Own.iconst (q := 141) (v := (2 : Int32)) P0 d16_140 rfl rfl ?_
                  refine Own.retI (Q := QrmExp Z b1 kb nn c0 c1 c2 c3 c4 c5 c6 h0 n0) P0 d16_141 hret hlk (by decide) (by decide) ?_
                  exact ⟨by simp [expI, *], N0, rfl⟩
    · refine Own.aloadN (q := 62) P0 d16_61 rfl rfl rfl ?_
      refine Own.iconst (q := 63) (v := (0 : Int32)) P0 d16_62 rfl rfl ?_
      refine Own.caload (q := 64) (v := (.int c0)) P0 d16_63 A_b (by decide) (by decide) rfl rfl ?_
      refine Own.bipush (q := 66) (v := (109 : Int32)) P0 d16_64 rfl rfl ?_
      refine Own.icmp_ne (q := 69) (qy := 95) P0 d16_66 (by decide) rfl (fun q66 => ?_) (fun q66 => ?_)
      · refine Own.iloadN (q := 96) P0 d16_95 rfl rfl ?_
        refine Own.iconst (q := 97) (v := (5 : Int32)) P0 d16_96 rfl rfl ?_
        refine Own.icmp_ne (q := 100) (qy := 142) P0 d16_97 (by decide) rfl (fun _ => ?_) (fun z => absurd z (by rw [q58]; decide))
        refine Own.iconst (q := 143) (v := (-1 : Int32)) P0 d16_142 rfl rfl ?_
        refine Own.retI (Q := QrmExp Z b1 kb nn c0 c1 c2 c3 c4 c5 c6 h0 n0) P0 d16_143 hret hlk (by decide) (by decide) ?_
        exact ⟨by simp [expI, *], N0, rfl⟩
      · refine Own.aloadN (q := 70) P0 d16_69 rfl rfl rfl ?_
        refine Own.iconst (q := 71) (v := (1 : Int32)) P0 d16_70 rfl rfl ?_
        refine Own.caload (q := 72) (v := (.int c1)) P0 d16_71 A_b (by decide) (by decide) rfl rfl ?_
        refine Own.bipush (q := 74) (v := (97 : Int32)) P0 d16_72 rfl rfl ?_
        refine Own.icmp_ne (q := 77) (qy := 95) P0 d16_74 (by decide) rfl (fun q74 => ?_) (fun q74 => ?_)
        · refine Own.iloadN (q := 96) P0 d16_95 rfl rfl ?_
          refine Own.iconst (q := 97) (v := (5 : Int32)) P0 d16_96 rfl rfl ?_
          refine Own.icmp_ne (q := 100) (qy := 142) P0 d16_97 (by decide) rfl (fun _ => ?_) (fun z => absurd z (by rw [q58]; decide))
          refine Own.iconst (q := 143) (v := (-1 : Int32)) P0 d16_142 rfl rfl ?_
          refine Own.retI (Q := QrmExp Z b1 kb nn c0 c1 c2 c3 c4 c5 c6 h0 n0) P0 d16_143 hret hlk (by decide) (by decide) ?_
          exact ⟨by simp [expI, *], N0, rfl⟩
        · refine Own.aloadN (q := 78) P0 d16_77 rfl rfl rfl ?_
          refine Own.iconst (q := 79) (v := (2 : Int32)) P0 d16_78 rfl rfl ?_
          refine Own.caload (q := 80) (v := (.int c2)) P0 d16_79 A_b (by decide) (by decide) rfl rfl ?_
          refine Own.bipush (q := 82) (v := (114 : Int32)) P0 d16_80 rfl rfl ?_
          refine Own.icmp_ne (q := 85) (qy := 95) P0 d16_82 (by decide) rfl (fun q82 => ?_) (fun q82 => ?_)
          · refine Own.iloadN (q := 96) P0 d16_95 rfl rfl ?_
            refine Own.iconst (q := 97) (v := (5 : Int32)) P0 d16_96 rfl rfl ?_
            refine Own.icmp_ne (q := 100) (qy := 142) P0 d16_97 (by decide) rfl (fun _ => ?_) (fun z => absurd z (by rw [q58]; decide))
            refine Own.iconst (q := 143) (v := (-1 : Int32)) P0 d16_142 rfl rfl ?_
            refine Own.retI (Q := QrmExp Z b1 kb nn c0 c1 c2 c3 c4 c5 c6 h0 n0) P0 d16_143 hret hlk (by decide) (by decide) ?_
            exact ⟨by simp [expI, *], N0, rfl⟩
          · refine Own.aloadN (q := 86) P0 d16_85 rfl rfl rfl ?_
            refine Own.iconst (q := 87) (v := (3 : Int32)) P0 d16_86 rfl rfl ?_
            refine Own.caload (q := 88) (v := (.int c3)) P0 d16_87 A_b (by decide) (by decide) rfl rfl ?_
            refine Own.bipush (q := 90) (v := (99 : Int32)) P0 d16_88 rfl rfl ?_
            refine Own.icmp_ne (q := 93) (qy := 95) P0 d16_90 (by decide) rfl (fun q90 => ?_) (fun q90 => ?_)
            · refine Own.iloadN (q := 96) P0 d16_95 rfl rfl ?_
              refine Own.iconst (q := 97) (v := (5 : Int32)) P0 d16_96 rfl rfl ?_
              refine Own.icmp_ne (q := 100) (qy := 142) P0 d16_97 (by decide) rfl (fun _ => ?_) (fun z => absurd z (by rw [q58]; decide))
              refine Own.iconst (q := 143) (v := (-1 : Int32)) P0 d16_142 rfl rfl ?_
              refine Own.retI (Q := QrmExp Z b1 kb nn c0 c1 c2 c3 c4 c5 c6 h0 n0) P0 d16_143 hret hlk (by decide) (by decide) ?_
              exact ⟨by simp [expI, *], N0, rfl⟩
            · refine Own.iconst (q := 94) (v := (1 : Int32)) P0 d16_93 rfl rfl ?_
              refine Own.retI (Q := QrmExp Z b1 kb nn c0 c1 c2 c3 c4 c5 c6 h0 n0) P0 d16_94 hret hlk (by decide) (by decide) ?_
              exact ⟨by simp [expI, *], N0, rfl⟩
  · refine Own.aloadN (q := 7) P0 d16_6 rfl rfl rfl ?_
    refine Own.iconst (q := 8) (v := (0 : Int32)) P0 d16_7 rfl rfl ?_
    refine Own.caload (q := 9) (v := (.int c0)) P0 d16_8 A_b (by decide) (by decide) rfl rfl ?_
    refine Own.bipush (q := 11) (v := (106 : Int32)) P0 d16_9 rfl rfl ?_
    refine Own.icmp_ne (q := 14) (qy := 56) P0 d16_11 (by decide) rfl (fun q11 => ?_) (fun q11 => ?_)
    · refine Own.iloadN (q := 57) P0 d16_56 rfl rfl ?_
      refine Own.iconst (q := 58) (v := (4 : Int32)) P0 d16_57 rfl rfl ?_
      refine Own.icmp_ne (q := 61) (qy := 95) P0 d16_58 (by decide) rfl (fun _ => ?_) (fun z => absurd z (by rw [q3]; decide))
      refine Own.iloadN (q := 96) P0 d16_95 rfl rfl ?_
      refine Own.iconst (q := 97) (v := (5 : Int32)) P0 d16_96 rfl rfl ?_
      refine Own.icmp_ne (q := 100) (qy := 142) P0 d16_97 (by decide) rfl (fun _ => ?_) (fun z => absurd z (by rw [q3]; decide))
      refine Own.iconst (q := 143) (v := (-1 : Int32)) P0 d16_142 rfl rfl ?_
      refine Own.retI (Q := QrmExp Z b1 kb nn c0 c1 c2 c3 c4 c5 c6 h0 n0) P0 d16_143 hret hlk (by decide) (by decide) ?_
      exact ⟨by simp [expI, *], N0, rfl⟩
    · refine Own.aloadN (q := 15) P0 d16_14 rfl rfl rfl ?_
      refine Own.iconst (q := 16) (v := (1 : Int32)) P0 d16_15 rfl rfl ?_
      refine Own.caload (q := 17) (v := (.int c1)) P0 d16_16 A_b (by decide) (by decide) rfl rfl ?_
      refine Own.bipush (q := 19) (v := (112 : Int32)) P0 d16_17 rfl rfl ?_
      refine Own.icmp_ne (q := 22) (qy := 56) P0 d16_19 (by decide) rfl (fun q19 => ?_) (fun q19 => ?_)
      · refine Own.iloadN (q := 57) P0 d16_56 rfl rfl ?_
        refine Own.iconst (q := 58) (v := (4 : Int32)) P0 d16_57 rfl rfl ?_
        refine Own.icmp_ne (q := 61) (qy := 95) P0 d16_58 (by decide) rfl (fun _ => ?_) (fun z => absurd z (by rw [q3]; decide))
        refine Own.iloadN (q := 96) P0 d16_95 rfl rfl ?_
        refine Own.iconst (q := 97) (v := (5 : Int32)) P0 d16_96 rfl rfl ?_
        refine Own.icmp_ne (q := 100) (qy := 142) P0 d16_97 (by decide) rfl (fun _ => ?_) (fun z => absurd z (by rw [q3]; decide))
        refine Own.iconst (q := 143) (v := (-1 : Int32)) P0 d16_142 rfl rfl ?_
        refine Own.retI (Q := QrmExp Z b1 kb nn c0 c1 c2 c3 c4 c5 c6 h0 n0) P0 d16_143 hret hlk (by decide) (by decide) ?_
        exact ⟨by simp [expI, *], N0, rfl⟩
      · refine Own.aloadN (q := 23) P0 d16_22 rfl rfl rfl ?_
        refine Own.iconst (q := 24) (v := (2 : Int32)) P0 d16_23 rfl rfl ?_
        refine Own.caload (q := 25) (v := (.int c2)) P0 d16_24 A_b (by decide) (by decide) rfl rfl ?_
        refine Own.bipush (q := 27) (v := (99 : Int32)) P0 d16_25 rfl rfl ?_
        refine Own.icmp_ne (q := 30) (qy := 56) P0 d16_27 (by decide) rfl (fun q27 => ?_) (fun q27 => ?_)
        · refine Own.iloadN (q := 57) P0 d16_56 rfl rfl ?_
          refine Own.iconst (q := 58) (v := (4 : Int32)) P0 d16_57 rfl rfl ?_
          refine Own.icmp_ne (q := 61) (qy := 95) P0 d16_58 (by decide) rfl (fun _ => ?_) (fun z => absurd z (by rw [q3]; decide))
          refine Own.iloadN (q := 96) P0 d16_95 rfl rfl ?_
          refine Own.iconst (q := 97) (v := (5 : Int32)) P0 d16_96 rfl rfl ?_
          refine Own.icmp_ne (q := 100) (qy := 142) P0 d16_97 (by decide) rfl (fun _ => ?_) (fun z => absurd z (by rw [q3]; decide))
          refine Own.iconst (q := 143) (v := (-1 : Int32)) P0 d16_142 rfl rfl ?_
          refine Own.retI (Q := QrmExp Z b1 kb nn c0 c1 c2 c3 c4 c5 c6 h0 n0) P0 d16_143 hret hlk (by decide) (by decide) ?_
          exact ⟨by simp [expI, *], N0, rfl⟩
        · refine Own.aloadN (q := 31) P0 d16_30 rfl rfl rfl ?_
          refine Own.iconst (q := 32) (v := (3 : Int32)) P0 d16_31 rfl rfl ?_
          refine Own.caload (q := 33) (v := (.int c3)) P0 d16_32 A_b (by decide) (by decide) rfl rfl ?_
          refine Own.bipush (q := 35) (v := (111 : Int32)) P0 d16_33 rfl rfl ?_
          refine Own.icmp_ne (q := 38) (qy := 56) P0 d16_35 (by decide) rfl (fun q35 => ?_) (fun q35 => ?_)
          · refine Own.iloadN (q := 57) P0 d16_56 rfl rfl ?_
            refine Own.iconst (q := 58) (v := (4 : Int32)) P0 d16_57 rfl rfl ?_
            refine Own.icmp_ne (q := 61) (qy := 95) P0 d16_58 (by decide) rfl (fun _ => ?_) (fun z => absurd z (by rw [q3]; decide))
            refine Own.iloadN (q := 96) P0 d16_95 rfl rfl ?_
            refine Own.iconst (q := 97) (v := (5 : Int32)) P0 d16_96 rfl rfl ?_
            refine Own.icmp_ne (q := 100) (qy := 142) P0 d16_97 (by decide) rfl (fun _ => ?_) (fun z => absurd z (by rw [q3]; decide))
            refine Own.iconst (q := 143) (v := (-1 : Int32)) P0 d16_142 rfl rfl ?_
            refine Own.retI (Q := QrmExp Z b1 kb nn c0 c1 c2 c3 c4 c5 c6 h0 n0) P0 d16_143 hret hlk (by decide) (by decide) ?_
            exact ⟨by simp [expI, *], N0, rfl⟩
          · refine Own.aloadN (q := 39) P0 d16_38 rfl rfl rfl ?_
            refine Own.iconst (q := 40) (v := (4 : Int32)) P0 d16_39 rfl rfl ?_
            refine Own.caload (q := 41) (v := (.int c4)) P0 d16_40 A_b (by decide) (by decide) rfl rfl ?_
            refine Own.bipush (q := 43) (v := (97 : Int32)) P0 d16_41 rfl rfl ?_
            refine Own.icmp_ne (q := 46) (qy := 56) P0 d16_43 (by decide) rfl (fun q43 => ?_) (fun q43 => ?_)
            · refine Own.iloadN (q := 57) P0 d16_56 rfl rfl ?_
              refine Own.iconst (q := 58) (v := (4 : Int32)) P0 d16_57 rfl rfl ?_
              refine Own.icmp_ne (q := 61) (qy := 95) P0 d16_58 (by decide) rfl (fun _ => ?_) (fun z => absurd z (by rw [q3]; decide))
              refine Own.iloadN (q := 96) P0 d16_95 rfl rfl ?_
              refine Own.iconst (q := 97) (v := (5 : Int32)) P0 d16_96 rfl rfl ?_
              refine Own.icmp_ne (q := 100) (qy := 142) P0 d16_97 (by decide) rfl (fun _ => ?_) (fun z => absurd z (by rw [q3]; decide))
              refine Own.iconst (q := 143) (v := (-1 : Int32)) P0 d16_142 rfl rfl ?_
              refine Own.retI (Q := QrmExp Z b1 kb nn c0 c1 c2 c3 c4 c5 c6 h0 n0) P0 d16_143 hret hlk (by decide) (by decide) ?_
              exact ⟨by simp [expI, *], N0, rfl⟩
            · refine Own.aloadN (q := 47) P0 d16_46 rfl rfl rfl ?_
              refine Own.iconst (q := 48) (v := (5 : Int32)) P0 d16_47 rfl rfl ?_
              refine Own.caload (q := 49) (v := (.int c5)) P0 d16_48 A_b (by decide) (by decide) rfl rfl ?_
              refine Own.bipush (q := 51) (v := (114 : Int32)) P0 d16_49 rfl rfl ?_
              refine Own.icmp_ne (q := 54) (qy := 56) P0 d16_51 (by decide) rfl (fun q51 => ?_) (fun q51 => ?_)
              · refine Own.iloadN (q := 57) P0 d16_56 rfl rfl ?_
                refine Own.iconst (q := 58) (v := (4 : Int32)) P0 d16_57 rfl rfl ?_
                refine Own.icmp_ne (q := 61) (qy := 95) P0 d16_58 (by decide) rfl (fun _ => ?_) (fun z => absurd z (by rw [q3]; decide))
                refine Own.iloadN (q := 96) P0 d16_95 rfl rfl ?_
                refine Own.iconst (q := 97) (v := (5 : Int32)) P0 d16_96 rfl rfl ?_
                refine Own.icmp_ne (q := 100) (qy := 142) P0 d16_97 (by decide) rfl (fun _ => ?_) (fun z => absurd z (by rw [q3]; decide))
                refine Own.iconst (q := 143) (v := (-1 : Int32)) P0 d16_142 rfl rfl ?_
                refine Own.retI (Q := QrmExp Z b1 kb nn c0 c1 c2 c3 c4 c5 c6 h0 n0) P0 d16_143 hret hlk (by decide) (by decide) ?_
                exact ⟨by simp [expI, *], N0, rfl⟩
              · refine Own.iconst (q := 55) (v := (0 : Int32)) P0 d16_54 rfl rfl ?_
                refine Own.retI (Q := QrmExp Z b1 kb nn c0 c1 c2 c3 c4 c5 c6 h0 n0) P0 d16_55 hret hlk (by decide) (by decide) ?_
                exact ⟨by simp [expI, *], N0, rfl⟩
theorem d24_0 : decode jdk_31_method_10_code 0 = .ok (.aload_n 0, 1) := by decide +kernel
theorem d24_1 : decode jdk_31_method_10_code 1 = .ok (.ifnonnull 11, 3) := by decide +kernel
theorem d24_4 : decode jdk_31_method_10_code 4 = .ok (.new 84, 3) := by decide +kernel
theorem d24_7 : decode jdk_31_method_10_code 7 = .ok (.dup, 1) := by decide +kernel
theorem d24_8 : decode jdk_31_method_10_code 8 = .ok (.invokespecial 86, 3) := by decide +kernel
theorem d24_11 : decode jdk_31_method_10_code 11 = .ok (.athrow, 1) := by decide +kernel
theorem d24_12 : decode jdk_31_method_10_code 12 = .ok (.aload_n 0, 1) := by decide +kernel
theorem d24_13 : decode jdk_31_method_10_code 13 = .ok (.areturn, 1) := by decide +kernel
theorem pn_24 : plainName "java/util/Objects" = true := by first | (simp [plainName, overriddenIn]; done) | decide +kernel
def QrmRnn (Z : State) (a1 : Addr) (h0 : Heap) (n0 : Nat) (v : Option Value) (h : Heap) (L : List Loc) : Prop := v = some (.ref a1) ∧ Fr n0 L ∧ h = h0
set_option maxRecDepth 65536 in
set_option maxHeartbeats 40000000 in
theorem rmRnn (l : Launch) (Z : State) (a0 : Array Value) (hw : ∀ d ∈ tables_1, d.before a0 Z = true) (ws : List Jvm.Cond) (a1 : Addr) (h0 : Heap) (n0 : Nat) (Z0 : n0 ≤ h0.size)  :
    MetFree l (⟨"java/util/Objects", "requireNonNull", "(Ljava/lang/Object;)Ljava/lang/Object;"⟩ : MethodName) (head1 (Jvm.Cond.code (⟨"java/util/Objects", "requireNonNull", "(Ljava/lang/Object;)Ljava/lang/Object;"⟩ : MethodName) jdk_31_method_10_code 1 (some (.object "java/lang/Object")) :: ws) ({ frames := 0, cells := 0, slots := 0, locals := 0 } : Room)) (fun a U => a = #[(.ref a1)] ∧ Z.Warmed39 U.vm ∧ U.heap = h0) (fun _ _ _ _ _ => True) (fun _ U o U' => ∃ v L, o = .returned v ∧ QrmRnn Z a1 h0 n0 v U'.heap L ∧ FrameEnd U o U' L ({ frames := 0, cells := 0, slots := 0, locals := 0 } : Room).cells ({ frames := 0, cells := 0, slots := 0, locals := 0 } : Room).slots) := by
  refine MetFree.of_bodySF (plainFor_of_name pn_24) hisR ?_
  intro p e s m args below meth c s₁ Bd hml0 hP hK
  obtain ⟨rfl, hZ, hh⟩ := hP
  have hml : c.maxLocals = 1 := hml0
  have hlk : meth.locks = false := Bd.notSynchronized
  have hret := Bd.returns
  have hnm := (name_of_methodNamed Bd.named Bd.method).1
  have P0 : Own.Wk Z "java/util/Objects" jdk_31_method_10_code h0 p l e ({ frames := 0, cells := 0, slots := 0, locals := 0 } : Room) s m #[(.ref a1)] below meth c s₁ [] 0 0 := ⟨Stand.of_body Bd, Bd.exec, Bd.bytes, hZ, findClass_of_methodNamed Bd.named, by rw [← hh, Bd.state]; rfl⟩
  have N0 := Fr.nil n0
  show Own.Goes p.tables e below (fun s₂ o => ∃ v L, o = .returned v ∧ QrmRnn Z a1 h0 n0 v s₂.heap L ∧ FrameEnd s o s₂ L ({ frames := 0, cells := 0, slots := 0, locals := 0 } : Room).cells ({ frames := 0, cells := 0, slots := 0, locals := 0 } : Room).slots) (s₁.setTop (entryFrame m #[(.ref a1)] 1))
  rw [show entryFrame m #[(.ref a1)] 1 = mkF m 0 #[.val (.ref a1)] [] from by first | rfl | (simp [entryFrame, mkF, argsToLocals, Value.category]; done)]
  refine Own.aloadN (q := 1) P0 d24_0 rfl rfl rfl ?_
  refine Own.nonnullY (q := 12) P0 d24_1 (by decide) ?_
  refine Own.aloadN (q := 13) P0 d24_12 rfl rfl rfl ?_
  refine Own.retA (Q := QrmRnn Z a1 h0 n0) P0 d24_13 hret rfl rfl rfl hlk (by decide) (by decide) ?_
  exact ⟨rfl, N0, rfl⟩
theorem d25_0 : decode jdk_32_method_2_code 0 = .ok (.aload_n 0, 1) := by decide +kernel
theorem d25_1 : decode jdk_32_method_2_code 1 = .ok (.invokespecial 7, 3) := by decide +kernel
theorem d25_4 : decode jdk_32_method_2_code 4 = .ok (.aload_n 0, 1) := by decide +kernel
theorem d25_5 : decode jdk_32_method_2_code 5 = .ok (.aload_n 1, 1) := by decide +kernel
theorem d25_6 : decode jdk_32_method_2_code 6 = .ok (.putfield 13, 3) := by decide +kernel
theorem d25_9 : decode jdk_32_method_2_code 9 = .ok (.return_, 1) := by decide +kernel
theorem pn_25 : plainName "java/util/Optional" = true := by first | (simp [plainName, overriddenIn]; done) | decide +kernel
def QrmOI (Z : State) (a1 : Addr) (a2 : Addr) (u0 : Value) (h0 : Heap) (n0 : Nat) (v : Option Value) (h : Heap) (L : List Loc) : Prop := v = none ∧ Fr n0 L ∧ Keep h0 h [a1] ∧ Exa Z h a1 "java/util/Optional" ∧ Fld Z h a1 "java/util/Optional" "value" "Ljava/lang/Object;" (.ref a2)
set_option maxRecDepth 65536 in
set_option maxHeartbeats 40000000 in
theorem rmOI (l : Launch) (Z : State) (a0 : Array Value) (hw : ∀ d ∈ tables_1, d.before a0 Z = true) (ws : List Jvm.Cond) (a1 : Addr) (a2 : Addr) (u0 : Value) (h0 : Heap) (n0 : Nat) (Z0 : n0 ≤ h0.size) (E_a1 : Exa Z h0 a1 "java/util/Optional") (f0 : Fld Z h0 a1 "java/util/Optional" "value" "Ljava/lang/Object;" u0) (g_a1 : n0 ≤ a1) :
    MetFree l (⟨"java/util/Optional", "<init>", "(Ljava/lang/Object;)V"⟩ : MethodName) (head1 (Jvm.Cond.code (⟨"java/util/Optional", "<init>", "(Ljava/lang/Object;)V"⟩ : MethodName) jdk_32_method_2_code 2 none :: ws) ({ frames := 1, cells := 0, slots := 0, locals := 12 } : Room)) (fun a U => a = #[(.ref a1), (.ref a2)] ∧ Z.Warmed39 U.vm ∧ U.heap = h0) (fun _ _ _ _ _ => True) (fun _ U o U' => ∃ v L, o = .returned v ∧ QrmOI Z a1 a2 u0 h0 n0 v U'.heap L ∧ FrameEnd U o U' L ({ frames := 1, cells := 0, slots := 0, locals := 12 } : Room).cells ({ frames := 1, cells := 0, slots := 0, locals := 12 } : Room).slots) := by
  refine MetFree.of_bodySF (plainFor_of_name pn_25) hisR ?_
  intro p e s m args below meth c s₁ Bd hml0 hP hK
  obtain ⟨rfl, hZ, hh⟩ := hP
  have hml : c.maxLocals = 2 := hml0
  have hlk : meth.locks = false := Bd.notSynchronized
  have hret := Bd.returns
  have hnm := (name_of_methodNamed Bd.named Bd.method).1
  have P0 : Own.Wk Z "java/util/Optional" jdk_32_method_2_code h0 p l e ({ frames := 1, cells := 0, slots := 0, locals := 12 } : Room) s m #[(.ref a1), (.ref a2)] below meth c s₁ [] 0 0 := ⟨Stand.of_body Bd, Bd.exec, Bd.bytes, hZ, findClass_of_methodNamed Bd.named, by rw [← hh, Bd.state]; rfl⟩
  have N0 := Fr.nil n0
  show Own.Goes p.tables e below (fun s₂ o => ∃ v L, o = .returned v ∧ QrmOI Z a1 a2 u0 h0 n0 v s₂.heap L ∧ FrameEnd s o s₂ L ({ frames := 1, cells := 0, slots := 0, locals := 12 } : Room).cells ({ frames := 1, cells := 0, slots := 0, locals := 12 } : Room).slots) (s₁.setTop (entryFrame m #[(.ref a1), (.ref a2)] 2))
  rw [show entryFrame m #[(.ref a1), (.ref a2)] 2 = mkF m 0 #[.val (.ref a1), .val (.ref a2)] [] from by first | rfl | (simp [entryFrame, mkF, argsToLocals, Value.category]; done)]
  refine Own.aloadN (q := 1) P0 d25_0 rfl rfl rfl ?_
  refine Own.objinit (q := 4) (W := 0) P0 d25_1 (hw _ (List.mem_of_getElem? (i := 135) rfl)) (hw _ (List.mem_of_getElem? (i := 60) rfl)) (hw _ (List.mem_of_getElem? (i := 61) rfl)) (by rw [hml]; rfl) (by decide) (by show 2 * 0 + _ ≤ _; exact Nat.le_of_eq rfl) (by decide) rfl ?_
  intro T21 P21
  refine Own.aloadN (q := 5) P21 d25_4 rfl rfl rfl ?_
  refine Own.aloadN (q := 6) P21 d25_5 rfl rfl rfl ?_
  refine Own.putfield (q := 9) P21 d25_6 (hw _ (List.mem_of_getElem? (i := 118) rfl)) f0 E_a1 (Or.inr ⟨(hw _ (List.mem_of_getElem? (i := 119) rfl)), rfl, hnm⟩) (hw _ (List.mem_of_getElem? (i := 126) rfl)) (ty := (.object "java/lang/Object")) (by decide) rfl rfl rfl ?_
  intro T22 h22 lc22 hl22 P22 W22
  have F22_value := Fld.same W22 f0
  have A22 := E_a1.wr W22
  have N22 := Own.Fr.one N0 hl22 g_a1
  refine Own.retV (Q := QrmOI Z a1 a2 u0 h0 n0) P22 d25_9 hret hlk (by decide) (by decide) ?_
  exact ⟨rfl, N22, (Keep.wr (Keep.refl h0 _) W22 (Or.inl (by simp))), A22, F22_value⟩
theorem d23_0 : decode jdk_32_method_3_code 0 = .ok (.new 2, 3) := by decide +kernel
theorem d23_3 : decode jdk_32_method_3_code 3 = .ok (.dup, 1) := by decide +kernel
theorem d23_4 : decode jdk_32_method_3_code 4 = .ok (.aload_n 0, 1) := by decide +kernel
theorem d23_5 : decode jdk_32_method_3_code 5 = .ok (.invokestatic 17, 3) := by decide +kernel
theorem d23_8 : decode jdk_32_method_3_code 8 = .ok (.invokespecial 23, 3) := by decide +kernel
theorem d23_11 : decode jdk_32_method_3_code 11 = .ok (.areturn, 1) := by decide +kernel
theorem pn_23 : plainName "java/util/Optional" = true := by first | (simp [plainName, overriddenIn]; done) | decide +kernel
def QrmOf (Z : State) (b1 : Addr) (h0 : Heap) (n0 : Nat) (v : Option Value) (h : Heap) (L : List Loc) : Prop := ∃ r, v = some (.ref r) ∧ Fr n0 L ∧ Ext h0 h ∧ Exa Z h r "java/util/Optional" ∧ Fld Z h r "java/util/Optional" "value" "Ljava/lang/Object;" (.ref b1)
set_option maxRecDepth 65536 in
set_option maxHeartbeats 40000000 in
theorem rmOf (l : Launch) (Z : State) (a0 : Array Value) (hw : ∀ d ∈ tables_1, d.before a0 Z = true) (ws : List Jvm.Cond) (b1 : Addr) (h0 : Heap) (n0 : Nat) (Z0 : n0 ≤ h0.size)  :
    MetFree l (⟨"java/util/Optional", "of", "(Ljava/lang/Object;)Ljava/util/Optional;"⟩ : MethodName) (head1 (Jvm.Cond.code (⟨"java/util/Optional", "of", "(Ljava/lang/Object;)Ljava/util/Optional;"⟩ : MethodName) jdk_32_method_3_code 1 (some (.object "java/util/Optional")) :: ws) ({ frames := 2, cells := 1, slots := 1, locals := 26 } : Room)) (fun a U => a = #[(.ref b1)] ∧ Z.Warmed39 U.vm ∧ U.heap = h0) (fun _ _ _ _ _ => True) (fun _ U o U' => ∃ v L, o = .returned v ∧ QrmOf Z b1 h0 n0 v U'.heap L ∧ FrameEnd U o U' L ({ frames := 2, cells := 1, slots := 1, locals := 26 } : Room).cells ({ frames := 2, cells := 1, slots := 1, locals := 26 } : Room).slots) := by
  refine MetFree.of_bodySF (plainFor_of_name pn_23) hisR ?_
  intro p e s m args below meth c s₁ Bd hml0 hP hK
  obtain ⟨rfl, hZ, hh⟩ := hP
  have hml : c.maxLocals = 1 := hml0
  have hlk : meth.locks = false := Bd.notSynchronized
  have hret := Bd.returns
  have hnm := (name_of_methodNamed Bd.named Bd.method).1
  have P0 : Own.Wk Z "java/util/Optional" jdk_32_method_3_code h0 p l e ({ frames := 2, cells := 1, slots := 1, locals := 26 } : Room) s m #[(.ref b1)] below meth c s₁ [] 0 0 := ⟨Stand.of_body Bd, Bd.exec, Bd.bytes, hZ, findClass_of_methodNamed Bd.named, by rw [← hh, Bd.state]; rfl⟩
  have N0 := Fr.nil n0
  show Own.Goes p.tables e below (fun s₂ o => ∃ v L, o = .returned v ∧ QrmOf Z b1 h0 n0 v s₂.heap L ∧ FrameEnd s o s₂ L ({ frames := 2, cells := 1, slots := 1, locals := 26 } : Room).cells ({ frames := 2, cells := 1, slots := 1, locals := 26 } : Room).slots) (s₁.setTop (entryFrame m #[(.ref b1)] 1))
  rw [show entryFrame m #[(.ref b1)] 1 = mkF m 0 #[.val (.ref b1)] [] from by first | rfl | (simp [entryFrame, mkF, argsToLocals, Value.category]; done)]
  refine Own.newobj (q := 3) P0 d23_0 (hw _ (List.mem_of_getElem? (i := 125) rfl)) (hw _ (List.mem_of_getElem? (i := 126) rfl)) (hw _ (List.mem_of_getElem? (i := 110) rfl)) (by decide) (by decide) rfl ?_
  intro T21 h21 a21 ha21 P21 E21 A21 D21
  have F21_value : Fld Z h21 a21 "java/util/Optional" "value" "Ljava/lang/Object;" .null := D21 (Or.inr (hw _ (List.mem_of_getElem? (i := 119) rfl))) (ty := (.object "java/lang/Object")) (by decide)
  refine Own.dup (q := 4) P21 d23_3 rfl rfl ?_
  refine Own.aloadN (q := 5) P21 d23_4 rfl rfl rfl ?_
  have E0_1_22 : Ext h0 h21 := E21
  refine Own.invStatic (q := 8) (W := 2) (y := (⟨"java/util/Objects", "requireNonNull", "(Ljava/lang/Object;)Ljava/lang/Object;"⟩ : MethodName)) (argsL := [(.ref b1)]) (rest := [(.ref a21), (.ref a21)]) P21 d23_5 (hw _ (List.mem_of_getElem? (i := 127) rfl)) (hw _ (List.mem_of_getElem? (i := 128) rfl)) (hw _ (List.mem_of_getElem? (i := 129) rfl)) (hw _ (List.mem_of_getElem? (i := 130) rfl)) (by decide) (backOf (W := 2) (rmRnn l Z a0 hw [] b1 h21 n0 (Nat.le_trans Z0 E0_1_22.1) ) P21.2.2.2.1 (hw _ (List.mem_of_getElem? (i := 130) rfl)) (hw _ (List.mem_of_getElem? (i := 129) rfl)) (by decide) (by decide)) rfl rfl (by rw [hml]; rfl) (lenOf (show parseMethodDescriptor "(Ljava/lang/Object;)Ljava/lang/Object;" = some ⟨[(.object "java/lang/Object")], some (.object "java/lang/Object")⟩ from by decide +kernel) rfl) (by show 2 * 0 + _ ≤ _; exact Nat.le_of_eq rfl) (by decide) (by decide) rfl ?_
  rintro v23 T23 h23 L23 ⟨rfl, N23q, e23⟩ P23
  rw [e23] at P23
  have N23 := Fr.app N0 N23q
  show Own.Goes _ _ _ _ (T23.setTop (mkF m 8 #[.val (.ref b1)] [(.ref b1), (.ref a21), (.ref a21)]))
  refine Own.invSpecial (q := 11) (W := 1) (y := (⟨"java/util/Optional", "<init>", "(Ljava/lang/Object;)V"⟩ : MethodName)) (a := a21) (argsL := [(.ref b1)]) (rest := [(.ref a21)]) P23 d23_8 rfl (hw _ (List.mem_of_getElem? (i := 131) rfl)) (hw _ (List.mem_of_getElem? (i := 132) rfl)) (hw _ (List.mem_of_getElem? (i := 134) rfl)) (by decide) (backOf (W := 1) (rmOI l Z a0 hw [] a21 b1 .null h21 n0 (Nat.le_trans Z0 E0_1_22.1) A21 F21_value (Nat.le_trans Z0 (Nat.le_of_eq ha21.symm))) P23.2.2.2.1 (hw _ (List.mem_of_getElem? (i := 134) rfl)) (hw _ (List.mem_of_getElem? (i := 110) rfl)) (by decide) (by decide)) rfl rfl (by rw [hml]; rfl) (lenOf (show parseMethodDescriptor "(Ljava/lang/Object;)V" = some ⟨[(.object "java/lang/Object")], none⟩ from by decide +kernel) rfl) (by show 2 * 0 + _ ≤ _; exact Nat.le_of_eq rfl) (by decide) (by decide) rfl ?_
  rintro v24 T24 h24 L24 ⟨rfl, N24q, K24, G24, F24⟩ P24
  have N24 := Fr.app N23 N24q
  show Own.Goes _ _ _ _ (T24.setTop (mkF m 11 #[.val (.ref b1)] [(.ref a21)]))
  have E0_2_25 : Ext h0 h24 := (Own.Ext.kp E0_1_22 K24 (allS (Nat.le_of_eq ha21.symm) all0))
  refine Own.retA (Q := QrmOf Z b1 h0 n0) P24 d23_11 hret rfl rfl rfl hlk (by decide) (by decide) ?_
  exact ⟨_, rfl, N24, E0_2_25, G24, F24⟩
theorem d21_0 : decode jdk_32_method_1_code 0 = .ok (.getstatic 1, 3) := by decide +kernel
theorem d21_3 : decode jdk_32_method_1_code 3 = .ok (.astore_n 0, 1) := by decide +kernel
theorem d21_4 : decode jdk_32_method_1_code 4 = .ok (.aload_n 0, 1) := by decide +kernel
theorem d21_5 : decode jdk_32_method_1_code 5 = .ok (.areturn, 1) := by decide +kernel
theorem pn_21 : plainName "java/util/Optional" = true := by first | (simp [plainName, overriddenIn]; done) | decide +kernel
def QrmOE (Z : State) (eo : Addr) (h0 : Heap) (n0 : Nat) (v : Option Value) (h : Heap) (L : List Loc) : Prop := v = some (.ref eo) ∧ Fr n0 L ∧ h = h0
set_option maxRecDepth 65536 in
set_option maxHeartbeats 40000000 in
theorem rmOE (l : Launch) (Z : State) (a0 : Array Value) (hw : ∀ d ∈ tables_1, d.before a0 Z = true) (ws : List Jvm.Cond) (eo : Addr) (h0 : Heap) (n0 : Nat) (Z0 : n0 ≤ h0.size) (TE : Sta Z h0 "java/util/Optional" "EMPTY" "Ljava/util/Optional;" (.ref eo)) :
    MetFree l (⟨"java/util/Optional", "empty", "()Ljava/util/Optional;"⟩ : MethodName) (head1 (Jvm.Cond.code (⟨"java/util/Optional", "empty", "()Ljava/util/Optional;"⟩ : MethodName) jdk_32_method_1_code 1 (some (.object "java/util/Optional")) :: ws) ({ frames := 0, cells := 0, slots := 0, locals := 0 } : Room)) (fun a U => a = #[] ∧ Z.Warmed39 U.vm ∧ U.heap = h0) (fun _ _ _ _ _ => True) (fun _ U o U' => ∃ v L, o = .returned v ∧ QrmOE Z eo h0 n0 v U'.heap L ∧ FrameEnd U o U' L ({ frames := 0, cells := 0, slots := 0, locals := 0 } : Room).cells ({ frames := 0, cells := 0, slots := 0, locals := 0 } : Room).slots) := by
  refine MetFree.of_bodySF (plainFor_of_name pn_21) hisR ?_
  intro p e s m args below meth c s₁ Bd hml0 hP hK
  obtain ⟨rfl, hZ, hh⟩ := hP
  have hml : c.maxLocals = 1 := hml0
  have hlk : meth.locks = false := Bd.notSynchronized
  have hret := Bd.returns
  have hnm := (name_of_methodNamed Bd.named Bd.method).1
  have P0 : Own.Wk Z "java/util/Optional" jdk_32_method_1_code h0 p l e ({ frames := 0, cells := 0, slots := 0, locals := 0 } : Room) s m #[] below meth c s₁ [] 0 0 := ⟨Stand.of_body Bd, Bd.exec, Bd.bytes, hZ, findClass_of_methodNamed Bd.named, by rw [← hh, Bd.state]; rfl⟩
  have N0 := Fr.nil n0
  show Own.Goes p.tables e below (fun s₂ o => ∃ v L, o = .returned v ∧ QrmOE Z eo h0 n0 v s₂.heap L ∧ FrameEnd s o s₂ L ({ frames := 0, cells := 0, slots := 0, locals := 0 } : Room).cells ({ frames := 0, cells := 0, slots := 0, locals := 0 } : Room).slots) (s₁.setTop (entryFrame m #[] 1))
  rw [show entryFrame m #[] 1 = mkF m 0 #[.unset] [] from by first | rfl | (simp [entryFrame, mkF, argsToLocals, Value.category]; done)]
  refine Own.getstatic (q := 3) P0 d21_0 (hw _ (List.mem_of_getElem? (i := 112) rfl)) TE rfl ?_
  intro T21 P21
  refine Own.astoreN (q := 4) (L2 := #[.val (.ref eo)]) P21 d21_3 rfl rfl rfl ?_
  refine Own.aloadN (q := 5) P21 d21_4 rfl rfl rfl ?_
  refine Own.retA (Q := QrmOE Z eo h0 n0) P21 d21_5 hret rfl rfl rfl hlk (by decide) (by decide) ?_
  exact ⟨rfl, N0, rfl⟩
theorem d22_0 : decode jdk_32_method_6_code 0 = .ok (.aload_n 0, 1) := by decide +kernel
theorem d22_1 : decode jdk_32_method_6_code 1 = .ok (.getfield 13, 3) := by decide +kernel
theorem d22_4 : decode jdk_32_method_6_code 4 = .ok (.ifnull 7, 3) := by decide +kernel
theorem d22_7 : decode jdk_32_method_6_code 7 = .ok (.iconst 1, 1) := by decide +kernel
theorem d22_8 : decode jdk_32_method_6_code 8 = .ok (.goto 4, 3) := by decide +kernel
theorem d22_11 : decode jdk_32_method_6_code 11 = .ok (.iconst 0, 1) := by decide +kernel
theorem d22_12 : decode jdk_32_method_6_code 12 = .ok (.ireturn, 1) := by decide +kernel
theorem pn_22 : plainName "java/util/Optional" = true := by first | (simp [plainName, overriddenIn]; done) | decide +kernel
def QrmPr0 (Z : State) (a1 : Addr) (h0 : Heap) (n0 : Nat) (v : Option Value) (h : Heap) (L : List Loc) : Prop := v = some (.int 0) ∧ Fr n0 L ∧ h = h0
set_option maxRecDepth 65536 in
set_option maxHeartbeats 40000000 in
theorem rmPr0 (l : Launch) (Z : State) (a0 : Array Value) (hw : ∀ d ∈ tables_1, d.before a0 Z = true) (ws : List Jvm.Cond) (a1 : Addr) (h0 : Heap) (n0 : Nat) (Z0 : n0 ≤ h0.size) (f1 : Fld Z h0 a1 "java/util/Optional" "value" "Ljava/lang/Object;" .null) :
    MetFree l (⟨"java/util/Optional", "isPresent", "()Z"⟩ : MethodName) (head1 (Jvm.Cond.code (⟨"java/util/Optional", "isPresent", "()Z"⟩ : MethodName) jdk_32_method_6_code 1 (some .boolean) :: ws) ({ frames := 0, cells := 0, slots := 0, locals := 0 } : Room)) (fun a U => a = #[(.ref a1)] ∧ Z.Warmed39 U.vm ∧ U.heap = h0) (fun _ _ _ _ _ => True) (fun _ U o U' => ∃ v L, o = .returned v ∧ QrmPr0 Z a1 h0 n0 v U'.heap L ∧ FrameEnd U o U' L ({ frames := 0, cells := 0, slots := 0, locals := 0 } : Room).cells ({ frames := 0, cells := 0, slots := 0, locals := 0 } : Room).slots) := by
  refine MetFree.of_bodySF (plainFor_of_name pn_22) hisR ?_
  intro p e s m args below meth c s₁ Bd hml0 hP hK
  obtain ⟨rfl, hZ, hh⟩ := hP
  have hml : c.maxLocals = 1 := hml0
  have hlk : meth.locks = false := Bd.notSynchronized
  have hret := Bd.returns
  have hnm := (name_of_methodNamed Bd.named Bd.method).1
  have P0 : Own.Wk Z "java/util/Optional" jdk_32_method_6_code h0 p l e ({ frames := 0, cells := 0, slots := 0, locals := 0 } : Room) s m #[(.ref a1)] below meth c s₁ [] 0 0 := ⟨Stand.of_body Bd, Bd.exec, Bd.bytes, hZ, findClass_of_methodNamed Bd.named, by rw [← hh, Bd.state]; rfl⟩
  have N0 := Fr.nil n0
  show Own.Goes p.tables e below (fun s₂ o => ∃ v L, o = .returned v ∧ QrmPr0 Z a1 h0 n0 v s₂.heap L ∧ FrameEnd s o s₂ L ({ frames := 0, cells := 0, slots := 0, locals := 0 } : Room).cells ({ frames := 0, cells := 0, slots := 0, locals := 0 } : Room).slots) (s₁.setTop (entryFrame m #[(.ref a1)] 1))
  rw [show entryFrame m #[(.ref a1)] 1 = mkF m 0 #[.val (.ref a1)] [] from by first | rfl | (simp [entryFrame, mkF, argsToLocals, Value.category]; done)]
  refine Own.aloadN (q := 1) P0 d22_0 rfl rfl rfl ?_
  refine Own.getfield (q := 4) P0 d22_1 (hw _ (List.mem_of_getElem? (i := 118) rfl)) f1 rfl ?_
  intro T21 P21
  refine Own.nullY (q := 11) P21 d22_4 (by decide) ?_
  refine Own.iconst (q := 12) (v := (0 : Int32)) P21 d22_11 rfl rfl ?_
  refine Own.retZ (Q := QrmPr0 Z a1 h0 n0) P21 d22_12 hret (by simp) hlk (by decide) (by decide) ?_
  exact ⟨rfl, N0, rfl⟩

def QrmPr1 (Z : State) (a1 : Addr) (b1 : Addr) (h0 : Heap) (n0 : Nat) (v : Option Value) (h : Heap) (L : List Loc) : Prop := v = some (.int 1) ∧ Fr n0 L ∧ h = h0
set_option maxRecDepth 65536 in
set_option maxHeartbeats 40000000 in
theorem rmPr1 (l : Launch) (Z : State) (a0 : Array Value) (hw : ∀ d ∈ tables_1, d.before a0 Z = true) (ws : List Jvm.Cond) (a1 : Addr) (b1 : Addr) (h0 : Heap) (n0 : Nat) (Z0 : n0 ≤ h0.size) (f1 : Fld Z h0 a1 "java/util/Optional" "value" "Ljava/lang/Object;" (.ref b1)) :
    MetFree l (⟨"java/util/Optional", "isPresent", "()Z"⟩ : MethodName) (head1 (Jvm.Cond.code (⟨"java/util/Optional", "isPresent", "()Z"⟩ : MethodName) jdk_32_method_6_code 1 (some .boolean) :: ws) ({ frames := 0, cells := 0, slots := 0, locals := 0 } : Room)) (fun a U => a = #[(.ref a1)] ∧ Z.Warmed39 U.vm ∧ U.heap = h0) (fun _ _ _ _ _ => True) (fun _ U o U' => ∃ v L, o = .returned v ∧ QrmPr1 Z a1 b1 h0 n0 v U'.heap L ∧ FrameEnd U o U' L ({ frames := 0, cells := 0, slots := 0, locals := 0 } : Room).cells ({ frames := 0, cells := 0, slots := 0, locals := 0 } : Room).slots) := by
  refine MetFree.of_bodySF (plainFor_of_name pn_22) hisR ?_
  intro p e s m args below meth c s₁ Bd hml0 hP hK
  obtain ⟨rfl, hZ, hh⟩ := hP
  have hml : c.maxLocals = 1 := hml0
  have hlk : meth.locks = false := Bd.notSynchronized
  have hret := Bd.returns
  have hnm := (name_of_methodNamed Bd.named Bd.method).1
  have P0 : Own.Wk Z "java/util/Optional" jdk_32_method_6_code h0 p l e ({ frames := 0, cells := 0, slots := 0, locals := 0 } : Room) s m #[(.ref a1)] below meth c s₁ [] 0 0 := ⟨Stand.of_body Bd, Bd.exec, Bd.bytes, hZ, findClass_of_methodNamed Bd.named, by rw [← hh, Bd.state]; rfl⟩
  have N0 := Fr.nil n0
  show Own.Goes p.tables e below (fun s₂ o => ∃ v L, o = .returned v ∧ QrmPr1 Z a1 b1 h0 n0 v s₂.heap L ∧ FrameEnd s o s₂ L ({ frames := 0, cells := 0, slots := 0, locals := 0 } : Room).cells ({ frames := 0, cells := 0, slots := 0, locals := 0 } : Room).slots) (s₁.setTop (entryFrame m #[(.ref a1)] 1))
  rw [show entryFrame m #[(.ref a1)] 1 = mkF m 0 #[.val (.ref a1)] [] from by first | rfl | (simp [entryFrame, mkF, argsToLocals, Value.category]; done)]
  refine Own.aloadN (q := 1) P0 d22_0 rfl rfl rfl ?_
  refine Own.getfield (q := 4) P0 d22_1 (hw _ (List.mem_of_getElem? (i := 118) rfl)) f1 rfl ?_
  intro T21 P21
  refine Own.nullN (q := 7) P21 d22_4  rfl ?_
  refine Own.iconst (q := 8) (v := (1 : Int32)) P21 d22_7 rfl rfl ?_
  refine Own.goto (q := 12) P21 d22_8 (by decide) ?_
  refine Own.retZ (Q := QrmPr1 Z a1 b1 h0 n0) P21 d22_12 hret (by simp) hlk (by decide) (by decide) ?_
  exact ⟨rfl, N0, rfl⟩
theorem d26_0 : decode jdk_32_method_5_code 0 = .ok (.aload_n 0, 1) := by decide +kernel
theorem d26_1 : decode jdk_32_method_5_code 1 = .ok (.getfield 13, 3) := by decide +kernel
theorem d26_4 : decode jdk_32_method_5_code 4 = .ok (.ifnonnull 13, 3) := by decide +kernel
theorem d26_7 : decode jdk_32_method_5_code 7 = .ok (.new 26, 3) := by decide +kernel
theorem d26_10 : decode jdk_32_method_5_code 10 = .ok (.dup, 1) := by decide +kernel
theorem d26_11 : decode jdk_32_method_5_code 11 = .ok (.ldc 28, 2) := by decide +kernel
theorem d26_13 : decode jdk_32_method_5_code 13 = .ok (.invokespecial 30, 3) := by decide +kernel
theorem d26_16 : decode jdk_32_method_5_code 16 = .ok (.athrow, 1) := by decide +kernel
theorem d26_17 : decode jdk_32_method_5_code 17 = .ok (.aload_n 0, 1) := by decide +kernel
theorem d26_18 : decode jdk_32_method_5_code 18 = .ok (.getfield 13, 3) := by decide +kernel
theorem d26_21 : decode jdk_32_method_5_code 21 = .ok (.areturn, 1) := by decide +kernel
theorem pn_26 : plainName "java/util/Optional" = true := by first | (simp [plainName, overriddenIn]; done) | decide +kernel
def QrmGet (Z : State) (a1 : Addr) (b1 : Addr) (h0 : Heap) (n0 : Nat) (v : Option Value) (h : Heap) (L : List Loc) : Prop := v = some (.ref b1) ∧ Fr n0 L ∧ h = h0
set_option maxRecDepth 65536 in
set_option maxHeartbeats 40000000 in
theorem rmGet (l : Launch) (Z : State) (a0 : Array Value) (hw : ∀ d ∈ tables_1, d.before a0 Z = true) (ws : List Jvm.Cond) (a1 : Addr) (b1 : Addr) (h0 : Heap) (n0 : Nat) (Z0 : n0 ≤ h0.size) (f1 : Fld Z h0 a1 "java/util/Optional" "value" "Ljava/lang/Object;" (.ref b1)) :
    MetFree l (⟨"java/util/Optional", "get", "()Ljava/lang/Object;"⟩ : MethodName) (head1 (Jvm.Cond.code (⟨"java/util/Optional", "get", "()Ljava/lang/Object;"⟩ : MethodName) jdk_32_method_5_code 1 (some (.object "java/lang/Object")) :: ws) ({ frames := 0, cells := 0, slots := 0, locals := 0 } : Room)) (fun a U => a = #[(.ref a1)] ∧ Z.Warmed39 U.vm ∧ U.heap = h0) (fun _ _ _ _ _ => True) (fun _ U o U' => ∃ v L, o = .returned v ∧ QrmGet Z a1 b1 h0 n0 v U'.heap L ∧ FrameEnd U o U' L ({ frames := 0, cells := 0, slots := 0, locals := 0 } : Room).cells ({ frames := 0, cells := 0, slots := 0, locals := 0 } : Room).slots) := by
  refine MetFree.of_bodySF (plainFor_of_name pn_26) hisR ?_
  intro p e s m args below meth c s₁ Bd hml0 hP hK
  obtain ⟨rfl, hZ, hh⟩ := hP
  have hml : c.maxLocals = 1 := hml0
  have hlk : meth.locks = false := Bd.notSynchronized
  have hret := Bd.returns
  have hnm := (name_of_methodNamed Bd.named Bd.method).1
  have P0 : Own.Wk Z "java/util/Optional" jdk_32_method_5_code h0 p l e ({ frames := 0, cells := 0, slots := 0, locals := 0 } : Room) s m #[(.ref a1)] below meth c s₁ [] 0 0 := ⟨Stand.of_body Bd, Bd.exec, Bd.bytes, hZ, findClass_of_methodNamed Bd.named, by rw [← hh, Bd.state]; rfl⟩
  have N0 := Fr.nil n0
  show Own.Goes p.tables e below (fun s₂ o => ∃ v L, o = .returned v ∧ QrmGet Z a1 b1 h0 n0 v s₂.heap L ∧ FrameEnd s o s₂ L ({ frames := 0, cells := 0, slots := 0, locals := 0 } : Room).cells ({ frames := 0, cells := 0, slots := 0, locals := 0 } : Room).slots) (s₁.setTop (entryFrame m #[(.ref a1)] 1))
  rw [show entryFrame m #[(.ref a1)] 1 = mkF m 0 #[.val (.ref a1)] [] from by first | rfl | (simp [entryFrame, mkF, argsToLocals, Value.category]; done)]
  refine Own.aloadN (q := 1) P0 d26_0 rfl rfl rfl ?_
  refine Own.getfield (q := 4) P0 d26_1 (hw _ (List.mem_of_getElem? (i := 118) rfl)) f1 rfl ?_
  intro T21 P21
  refine Own.nonnullY (q := 17) P21 d26_4 (by decide) ?_
  refine Own.aloadN (q := 18) P21 d26_17 rfl rfl rfl ?_
  refine Own.getfield (q := 21) P21 d26_18 (hw _ (List.mem_of_getElem? (i := 118) rfl)) f1 rfl ?_
  intro T22 P22
  refine Own.retA (Q := QrmGet Z a1 b1 h0 n0) P22 d26_21 hret rfl rfl rfl hlk (by decide) (by decide) ?_
  exact ⟨rfl, N0, rfl⟩
theorem d18_0 : decode prog_13_method_1_code 0 = .ok (.getstatic 13, 3) := by decide +kernel
theorem d18_3 : decode prog_13_method_1_code 3 = .ok (.invokevirtual 17, 3) := by decide +kernel
theorem d18_6 : decode prog_13_method_1_code 6 = .ok (.checkcast 18, 3) := by decide +kernel
theorem d18_9 : decode prog_13_method_1_code 9 = .ok (.areturn, 1) := by decide +kernel
theorem pn_18 : plainName "com/example/mokuroku/mokuroku/core/Format" = true := by first | (simp [plainName, overriddenIn]; done) | decide +kernel
def QrmValues (Z : State) (ae0 : Addr) (ae1 : Addr) (ae2 : Addr) (se0 : Addr) (se1 : Addr) (se2 : Addr) (av : Addr) (kv : ClassId) (h0 : Heap) (n0 : Nat) (v : Option Value) (h : Heap) (L : List Loc) : Prop := ∃ r kc, v = some (.ref r) ∧ Fr n0 L ∧ Ext h0 h ∧ h0.size ≤ r ∧ Arv Z h r kc (.object "com/example/mokuroku/mokuroku/core/Format") 3 [.ref ae0, .ref ae1, .ref ae2] .null
set_option maxRecDepth 65536 in
set_option maxHeartbeats 40000000 in
theorem rmValues (l : Launch) (Z : State) (a0 : Array Value) (hw : ∀ d ∈ tables_1, d.before a0 Z = true) (ws : List Jvm.Cond) (ae0 : Addr) (ae1 : Addr) (ae2 : Addr) (se0 : Addr) (se1 : Addr) (se2 : Addr) (av : Addr) (kv : ClassId) (h0 : Heap) (n0 : Nat) (Z0 : n0 ≤ h0.size) (en : EN Z h0 ae0 ae1 ae2 se0 se1 se2 av kv) :
    MetFree l (⟨"com/example/mokuroku/mokuroku/core/Format", "values", "()[Lcom/example/mokuroku/mokuroku/core/Format;"⟩ : MethodName) (head1 (Jvm.Cond.code (⟨"com/example/mokuroku/mokuroku/core/Format", "values", "()[Lcom/example/mokuroku/mokuroku/core/Format;"⟩ : MethodName) prog_13_method_1_code 0 (some (.array (.object "com/example/mokuroku/mokuroku/core/Format"))) :: ws) ({ frames := 1, cells := 1, slots := 3, locals := 14 } : Room)) (fun a U => a = #[] ∧ Z.Warmed39 U.vm ∧ U.heap = h0) (fun _ _ _ _ _ => True) (fun _ U o U' => ∃ v L, o = .returned v ∧ QrmValues Z ae0 ae1 ae2 se0 se1 se2 av kv h0 n0 v U'.heap L ∧ FrameEnd U o U' L ({ frames := 1, cells := 1, slots := 3, locals := 14 } : Room).cells ({ frames := 1, cells := 1, slots := 3, locals := 14 } : Room).slots) := by
  refine MetFree.of_bodySF (plainFor_of_name pn_18) hisR ?_
  intro p e s m args below meth c s₁ Bd hml0 hP hK
  obtain ⟨rfl, hZ, hh⟩ := hP
  have hml : c.maxLocals = 0 := hml0
  have hlk : meth.locks = false := Bd.notSynchronized
  have hret := Bd.returns
  have hnm := (name_of_methodNamed Bd.named Bd.method).1
  have P0 : Own.Wk Z "com/example/mokuroku/mokuroku/core/Format" prog_13_method_1_code h0 p l e ({ frames := 1, cells := 1, slots := 3, locals := 14 } : Room) s m #[] below meth c s₁ [] 0 0 := ⟨Stand.of_body Bd, Bd.exec, Bd.bytes, hZ, findClass_of_methodNamed Bd.named, by rw [← hh, Bd.state]; rfl⟩
  have N0 := Fr.nil n0
  show Own.Goes p.tables e below (fun s₂ o => ∃ v L, o = .returned v ∧ QrmValues Z ae0 ae1 ae2 se0 se1 se2 av kv h0 n0 v s₂.heap L ∧ FrameEnd s o s₂ L ({ frames := 1, cells := 1, slots := 3, locals := 14 } : Room).cells ({ frames := 1, cells := 1, slots := 3, locals := 14 } : Room).slots) (s₁.setTop (entryFrame m #[] 0))
  rw [show entryFrame m #[] 0 = mkF m 0 #[] [] from by first | rfl | (simp [entryFrame, mkF, argsToLocals, Value.category]; done)]
  obtain ⟨xe0, xe1, xe2, xe3, xe4, xe5, xe6, xe7, xe8, xe9, xe10, xe11, xe12, xe13, xe14⟩ := id en
  refine Own.getstatic (q := 3) P0 d18_0 (hw _ (List.mem_of_getElem? (i := 82) rfl)) xe3 rfl ?_
  intro T21 P21
  refine Own.cloneArr (q := 6) (W := 0) (cap := 3) P21 d18_3 (hw _ (List.mem_of_getElem? (i := 84) rfl)) (hw _ (List.mem_of_getElem? (i := 85) rfl)) (hw _ (List.mem_of_getElem? (i := 89) rfl)) (hw _ (List.mem_of_getElem? (i := 87) rfl)) (hw _ (List.mem_of_getElem? (i := 88) rfl)) (hw _ (List.mem_of_getElem? (i := 90) rfl)) xe8 xe7 (by rw [hml]; rfl) (by decide) (by show 2 * 0 + _ ≤ _; exact Nat.le_of_eq rfl) (by decide) (by decide) (by decide) (by decide) rfl ?_
  intro T22 h22 r22 ha22 P22 E22 A22 B22
  refine Own.castTo (q := 9) P22 d18_6 (hw _ (List.mem_of_getElem? (i := 95) rfl)) (Ins.self B22) rfl ?_
  intro T23 P23
  have E0_1_24 : Ext h0 h22 := E22
  refine Own.retA (Q := QrmValues Z ae0 ae1 ae2 se0 se1 se2 av kv h0 n0) P23 d18_9 hret rfl rfl rfl hlk (by decide) (by decide) ?_
  exact ⟨_, _, rfl, N0, E0_1_24, (Nat.le_of_eq ha22.symm), A22⟩
theorem d17_0 : decode prog_13_method_5_code 0 = .ok (.invokestatic 36, 3) := by decide +kernel
theorem d17_3 : decode prog_13_method_5_code 3 = .ok (.astore_n 1, 1) := by decide +kernel
theorem d17_4 : decode prog_13_method_5_code 4 = .ok (.aload_n 1, 1) := by decide +kernel
theorem d17_5 : decode prog_13_method_5_code 5 = .ok (.arraylength, 1) := by decide +kernel
theorem d17_6 : decode prog_13_method_5_code 6 = .ok (.istore_n 2, 1) := by decide +kernel
theorem d17_7 : decode prog_13_method_5_code 7 = .ok (.iconst 0, 1) := by decide +kernel
theorem d17_8 : decode prog_13_method_5_code 8 = .ok (.istore_n 3, 1) := by decide +kernel
theorem d17_9 : decode prog_13_method_5_code 9 = .ok (.iload_n 3, 1) := by decide +kernel
theorem d17_10 : decode prog_13_method_5_code 10 = .ok (.iload_n 2, 1) := by decide +kernel
theorem d17_11 : decode prog_13_method_5_code 11 = .ok (.if_icmp .ge 32, 3) := by decide +kernel
theorem d17_14 : decode prog_13_method_5_code 14 = .ok (.aload_n 1, 1) := by decide +kernel
theorem d17_15 : decode prog_13_method_5_code 15 = .ok (.iload_n 3, 1) := by decide +kernel
theorem d17_16 : decode prog_13_method_5_code 16 = .ok (.aaload, 1) := by decide +kernel
theorem d17_17 : decode prog_13_method_5_code 17 = .ok (.astore 4, 2) := by decide +kernel
theorem d17_19 : decode prog_13_method_5_code 19 = .ok (.aload 4, 2) := by decide +kernel
theorem d17_21 : decode prog_13_method_5_code 21 = .ok (.getfield 32, 3) := by decide +kernel
theorem d17_24 : decode prog_13_method_5_code 24 = .ok (.aload_n 0, 1) := by decide +kernel
theorem d17_25 : decode prog_13_method_5_code 25 = .ok (.invokevirtual 40, 3) := by decide +kernel
theorem d17_28 : decode prog_13_method_5_code 28 = .ok (.ifCond .eq 9, 3) := by decide +kernel
theorem d17_31 : decode prog_13_method_5_code 31 = .ok (.aload 4, 2) := by decide +kernel
theorem d17_33 : decode prog_13_method_5_code 33 = .ok (.invokestatic 46, 3) := by decide +kernel
theorem d17_36 : decode prog_13_method_5_code 36 = .ok (.areturn, 1) := by decide +kernel
theorem d17_37 : decode prog_13_method_5_code 37 = .ok (.iinc 3 1, 3) := by decide +kernel
theorem d17_40 : decode prog_13_method_5_code 40 = .ok (.goto (-31), 3) := by decide +kernel
theorem d17_43 : decode prog_13_method_5_code 43 = .ok (.invokestatic 52, 3) := by decide +kernel
theorem d17_46 : decode prog_13_method_5_code 46 = .ok (.areturn, 1) := by decide +kernel
theorem pn_17 : plainName "com/example/mokuroku/mokuroku/core/Format" = true := by first | (simp [plainName, overriddenIn]; done) | decide +kernel
def QrmBc (Z : State) (a1 : Addr) (cs : List Int32) (zc : Int32) (ae0 : Addr) (ae1 : Addr) (ae2 : Addr) (se0 : Addr) (se1 : Addr) (se2 : Addr) (av : Addr) (kv : ClassId) (eo : Addr) (h0 : Heap) (n0 : Nat) (v : Option Value) (h : Heap) (L : List Loc) : Prop := ∃ r u, v = some (.ref r) ∧ Fr n0 L ∧ Ext h0 h ∧ Exa Z h r "java/util/Optional" ∧ Fld Z h r "java/util/Optional" "value" "Ljava/lang/Object;" u ∧ u = optV cs ae0 ae1 ae2
set_option maxRecDepth 65536 in
set_option maxHeartbeats 40000000 in
theorem rmBc (l : Launch) (Z : State) (a0 : Array Value) (hw : ∀ d ∈ tables_1, d.before a0 Z = true) (ws : List Jvm.Cond) (a1 : Addr) (cs : List Int32) (zc : Int32) (ae0 : Addr) (ae1 : Addr) (ae2 : Addr) (se0 : Addr) (se1 : Addr) (se2 : Addr) (av : Addr) (kv : ClassId) (eo : Addr) (h0 : Heap) (n0 : Nat) (Z0 : n0 ≤ h0.size) (SC : Sta Z h0 "java/lang/String" "COMPACT_STRINGS" "Z" (.int zc)) (hzc : ¬ zc = 0) (en : EN Z h0 ae0 ae1 ae2 se0 se1 se2 av kv) (TE : Sta Z h0 "java/util/Optional" "EMPTY" "Ljava/util/Optional;" (.ref eo)) (XE : Exa Z h0 eo "java/util/Optional") (FE : Fld Z h0 eo "java/util/Optional" "value" "Ljava/lang/Object;" .null) (S1 : Own.Str Z h0 a1 cs) :
    MetFree l (⟨"com/example/mokuroku/mokuroku/core/Format", "byCliName", "(Ljava/lang/String;)Ljava/util/Optional;"⟩ : MethodName) (head1 (Jvm.Cond.code (⟨"com/example/mokuroku/mokuroku/core/Format", "byCliName", "(Ljava/lang/String;)Ljava/util/Optional;"⟩ : MethodName) prog_13_method_5_code 5 (some (.object "java/util/Optional")) :: ws) ({ frames := 3, cells := 2, slots := 4, locals := 50 } : Room)) (fun a U => a = #[(.ref a1)] ∧ Z.Warmed39 U.vm ∧ U.heap = h0) (fun _ _ _ _ _ => True) (fun _ U o U' => ∃ v L, o = .returned v ∧ QrmBc Z a1 cs zc ae0 ae1 ae2 se0 se1 se2 av kv eo h0 n0 v U'.heap L ∧ FrameEnd U o U' L ({ frames := 3, cells := 2, slots := 4, locals := 50 } : Room).cells ({ frames := 3, cells := 2, slots := 4, locals := 50 } : Room).slots) := by
  refine MetFree.of_bodySF (plainFor_of_name pn_17) hisR ?_
  intro p e s m args below meth c s₁ Bd hml0 hP hK
  obtain ⟨rfl, hZ, hh⟩ := hP
  have hml : c.maxLocals = 5 := hml0
  have hlk : meth.locks = false := Bd.notSynchronized
  have hret := Bd.returns
  have hnm := (name_of_methodNamed Bd.named Bd.method).1
  have P0 : Own.Wk Z "com/example/mokuroku/mokuroku/core/Format" prog_13_method_5_code h0 p l e ({ frames := 3, cells := 2, slots := 4, locals := 50 } : Room) s m #[(.ref a1)] below meth c s₁ [] 0 0 := ⟨Stand.of_body Bd, Bd.exec, Bd.bytes, hZ, findClass_of_methodNamed Bd.named, by rw [← hh, Bd.state]; rfl⟩
  have N0 := Fr.nil n0
  show Own.Goes p.tables e below (fun s₂ o => ∃ v L, o = .returned v ∧ QrmBc Z a1 cs zc ae0 ae1 ae2 se0 se1 se2 av kv eo h0 n0 v s₂.heap L ∧ FrameEnd s o s₂ L ({ frames := 3, cells := 2, slots := 4, locals := 50 } : Room).cells ({ frames := 3, cells := 2, slots := 4, locals := 50 } : Room).slots) (s₁.setTop (entryFrame m #[(.ref a1)] 5))
  rw [show entryFrame m #[(.ref a1)] 5 = mkF m 0 #[.val (.ref a1), .unset, .unset, .unset, .unset] [] from by first | rfl | (simp [entryFrame, mkF, argsToLocals, Value.category]; done)]
  obtain ⟨xe0, xe1, xe2, xe3, xe4, xe5, xe6, xe7, xe8, xe9, xe10, xe11, xe12, xe13, xe14⟩ := id en
  refine Own.invStatic (q := 3) (W := 0) (y := (⟨"com/example/mokuroku/mokuroku/core/Format", "values", "()[Lcom/example/mokuroku/mokuroku/core/Format;"⟩ : MethodName)) (argsL := []) (rest := []) P0 d17_0 (hw _ (List.mem_of_getElem? (i := 79) rfl)) (hw _ (List.mem_of_getElem? (i := 80) rfl)) (hw _ (List.mem_of_getElem? (i := 77) rfl)) (hw _ (List.mem_of_getElem? (i := 81) rfl)) (by decide) (backOf (W := 0) (rmValues l Z a0 hw [] ae0 ae1 ae2 se0 se1 se2 av kv h0 n0 Z0 en) P0.2.2.2.1 (hw _ (List.mem_of_getElem? (i := 81) rfl)) (hw _ (List.mem_of_getElem? (i := 77) rfl)) (by decide) (by decide)) rfl rfl (by rw [hml]; rfl) (lenOf (show parseMethodDescriptor "()[Lcom/example/mokuroku/mokuroku/core/Format;" = some ⟨[], some (.array (.object "com/example/mokuroku/mokuroku/core/Format"))⟩ from by decide +kernel) rfl) (by show 2 * 0 + _ ≤ _; exact Nat.le_of_eq rfl) (by decide) (by decide) rfl ?_
  rintro v21 T21 h21 L21 ⟨r21, kc21, rfl, N21q, E21, gr21, A21⟩ P21
  have N21 := Fr.app N0 N21q
  show Own.Goes _ _ _ _ (T21.setTop (mkF m 3 #[.val (.ref a1), .unset, .unset, .unset, .unset] [(.ref r21)]))
  refine Own.astoreN (q := 4) (L2 := #[.val (.ref a1), .val (.ref r21), .unset, .unset, .unset]) P21 d17_3 rfl rfl rfl ?_
  refine Own.aloadN (q := 5) P21 d17_4 rfl rfl rfl ?_
  refine Own.arraylength (q := 6) P21 d17_5 A21 rfl ?_
  refine Own.istoreN (q := 7) (L2 := #[.val (.ref a1), .val (.ref r21), .val (.int (3 : Int32)), .unset, .unset]) P21 d17_6 rfl rfl ?_
  refine Own.iconst (q := 8) (v := (0 : Int32)) P21 d17_7 rfl rfl ?_
  refine Own.istoreN (q := 9) (L2 := #[.val (.ref a1), .val (.ref r21), .val (.int (3 : Int32)), .val (.int (0 : Int32)), .unset]) P21 d17_8 rfl rfl ?_
  refine Own.iloadN (q := 10) P21 d17_9 rfl rfl ?_
  refine Own.iloadN (q := 11) P21 d17_10 rfl rfl ?_
  refine Own.icmp_ge (q := 14) (qy := 43) P21 d17_11 (by decide) rfl (fun q => absurd (show _ < _ by decide) q) (fun _ => ?_)
  refine Own.aloadN (q := 15) P21 d17_14 rfl rfl rfl ?_
  refine Own.iloadN (q := 16) P21 d17_15 rfl rfl ?_
  refine Own.aaload (q := 17) (v := (.ref ae0)) P21 d17_16 A21 (by decide) (by decide) rfl rfl ?_
  refine Own.astore (q := 19) (L2 := #[.val (.ref a1), .val (.ref r21), .val (.int (3 : Int32)), .val (.int (0 : Int32)), .val (.ref ae0)]) P21 d17_17 rfl rfl rfl ?_
  refine Own.aload (q := 21) P21 d17_19 rfl rfl rfl ?_
  have E0_1_22 : Ext h0 h21 := E21
  refine Own.getfield (q := 24) P21 d17_21 (hw _ (List.mem_of_getElem? (i := 97) rfl)) (xe9.ext E0_1_22) rfl ?_
  intro T23 P23
  refine Own.aloadN (q := 25) P23 d17_24 rfl rfl rfl ?_
  refine Own.invVirtual (q := 28) (W := 0) (y := (⟨"java/lang/String", "equals", "(Ljava/lang/Object;)Z"⟩ : MethodName)) (a := se0) (argsL := [(.ref a1)]) (rest := []) P23 d17_25 (hw _ (List.mem_of_getElem? (i := 99) rfl)) (hw _ (List.mem_of_getElem? (i := 100) rfl)) (hw _ (List.mem_of_getElem? (i := 102) rfl)) (hw _ (List.mem_of_getElem? (i := 101) rfl)) (notFace_of_selects (args := #[]) (mvT P23.2.2.2.1 (hw _ (List.mem_of_getElem? (i := 102) rfl)))) (by decide) (Own.eqB (W := 0) (n0 := n0) P23.2.2.2.1 (fun d hd => hw d (sub_eqW d hd)) (hw _ (List.mem_of_getElem? (i := 2) rfl)) (xe12.ext E0_1_22) (S1.ext E0_1_22) (SC.ext E0_1_22) hzc (by decide) (by decide)) (xe12.ext E0_1_22).exa rfl rfl (by rw [hml]; rfl) (lenOf (show parseMethodDescriptor "(Ljava/lang/Object;)Z" = some ⟨[(.object "java/lang/Object")], some .boolean⟩ from by decide +kernel) rfl) (by show 2 * 0 + _ ≤ _; exact Nat.le_of_eq rfl) (by decide) (by decide) rfl ?_
  rintro v24 T24 h24 L24 ⟨rfl, N24q, e24⟩ P24
  rw [e24] at P24
  have N24 := Fr.app N21 N24q
  show Own.Goes _ _ _ _ (T24.setTop (mkF m 28 #[.val (.ref a1), .val (.ref r21), .val (.int (3 : Int32)), .val (.int (0 : Int32)), .val (.ref ae0)] [(.int (if tx0 = cs then (1 : Int32) else 0))]))
  refine Own.if_eq (q := 31) (qy := 37) P24 d17_28 (by decide) rfl (fun q0 => ?_) (fun q0 => ?_)
  · have m0 : ¬ tx0 = cs := fun z => by rw [if_pos z] at q0; exact absurd q0 (by decide)
    refine Own.iinc (q := 40) (v := (1 : Int32)) (L2 := #[.val (.ref a1), .val (.ref r21), .val (.int (3 : Int32)), .val (.int ((0 : Int32) + (1 : Int32))), .val (.ref ae0)]) P24 d17_37 rfl rfl rfl rfl ?_
    refine Own.goto (q := 9) P24 d17_40 (by decide) ?_
    refine Own.iloadN (q := 10) P24 d17_9 rfl rfl ?_
    refine Own.iloadN (q := 11) P24 d17_10 rfl rfl ?_
    refine Own.icmp_ge (q := 14) (qy := 43) P24 d17_11 (by decide) rfl (fun q => absurd (show _ < _ by decide) q) (fun _ => ?_)
    refine Own.aloadN (q := 15) P24 d17_14 rfl rfl rfl ?_
    refine Own.iloadN (q := 16) P24 d17_15 rfl rfl ?_
    refine Own.aaload (q := 17) (v := (.ref ae1)) P24 d17_16 A21 (by decide) (by decide) rfl rfl ?_
    refine Own.astore (q := 19) (L2 := #[.val (.ref a1), .val (.ref r21), .val (.int (3 : Int32)), .val (.int ((0 : Int32) + (1 : Int32))), .val (.ref ae1)]) P24 d17_17 rfl rfl rfl ?_
    refine Own.aload (q := 21) P24 d17_19 rfl rfl rfl ?_
    refine Own.getfield (q := 24) P24 d17_21 (hw _ (List.mem_of_getElem? (i := 97) rfl)) (xe10.ext E0_1_22) rfl ?_
    intro T25 P25
    refine Own.aloadN (q := 25) P25 d17_24 rfl rfl rfl ?_
    refine Own.invVirtual (q := 28) (W := 0) (y := (⟨"java/lang/String", "equals", "(Ljava/lang/Object;)Z"⟩ : MethodName)) (a := se1) (argsL := [(.ref a1)]) (rest := []) P25 d17_25 (hw _ (List.mem_of_getElem? (i := 99) rfl)) (hw _ (List.mem_of_getElem? (i := 100) rfl)) (hw _ (List.mem_of_getElem? (i := 102) rfl)) (hw _ (List.mem_of_getElem? (i := 101) rfl)) (notFace_of_selects (args := #[]) (mvT P25.2.2.2.1 (hw _ (List.mem_of_getElem? (i := 102) rfl)))) (by decide) (Own.eqB (W := 0) (n0 := n0) P25.2.2.2.1 (fun d hd => hw d (sub_eqW d hd)) (hw _ (List.mem_of_getElem? (i := 2) rfl)) (xe13.ext E0_1_22) (S1.ext E0_1_22) (SC.ext E0_1_22) hzc (by decide) (by decide)) (xe13.ext E0_1_22).exa rfl rfl (by rw [hml]; rfl) (lenOf (show parseMethodDescriptor "(Ljava/lang/Object;)Z" = some ⟨[(.object "java/lang/Object")], some .boolean⟩ from by decide +kernel) rfl) (by show 2 * 0 + _ ≤ _; exact Nat.le_of_eq rfl) (by decide) (by decide) rfl ?_
    rintro v26 T26 h26 L26 ⟨rfl, N26q, e26⟩ P26
    rw [e26] at P26
    have N26 := Fr.app N24 N26q
    show Own.Goes _ _ _ _ (T26.setTop (mkF m 28 #[.val (.ref a1), .val (.ref r21), .val (.int (3 : Int32)), .val (.int ((0 : Int32) + (1 : Int32))), .val (.ref ae1)] [(.int (if tx1 = cs then (1 : Int32) else 0))]))
    refine Own.if_eq (q := 31) (qy := 37) P26 d17_28 (by decide) rfl (fun q1 => ?_) (fun q1 => ?_)
    · have m1 : ¬ tx1 = cs := fun z => by rw [if_pos z] at q1; exact absurd q1 (by decide)
      refine Own.iinc (q := 40) (v := (1 : Int32)) (L2 := #[.val (.ref a1), .val (.ref r21), .val (.int (3 : Int32)), .val (.int (((0 : Int32) + (1 : Int32)) + (1 : Int32))), .val (.ref ae1)]) P26 d17_37 rfl rfl rfl rfl ?_
      refine Own.goto (q := 9) P26 d17_40 (by decide) ?_
      refine Own.iloadN (q := 10) P26 d17_9 rfl rfl ?_
      refine Own.iloadN (q := 11) P26 d17_10 rfl rfl ?_
      refine Own.icmp_ge (q := 14) (qy := 43) P26 d17_11 (by decide) rfl (fun q => absurd (show _ < _ by decide) q) (fun _ => ?_)
      refine Own.aloadN (q := 15) P26 d17_14 rfl rfl rfl ?_
      refine Own.iloadN (q := 16) P26 d17_15 rfl rfl ?_
      refine Own.aaload (q := 17) (v := (.ref ae2)) P26 d17_16 A21 (by decide) (by decide) rfl rfl ?_
      refine Own.astore (q := 19) (L2 := #[.val (.ref a1), .val (.ref r21), .val (.int (3 : Int32)), .val (.int (((0 : Int32) + (1 : Int32)) + (1 : Int32))), .val (.ref ae2)]) P26 d17_17 rfl rfl rfl ?_
      refine Own.aload (q := 21) P26 d17_19 rfl rfl rfl ?_
      refine Own.getfield (q := 24) P26 d17_21 (hw _ (List.mem_of_getElem? (i := 97) rfl)) (xe11.ext E0_1_22) rfl ?_
      intro T27 P27
      refine Own.aloadN (q := 25) P27 d17_24 rfl rfl rfl ?_
      refine Own.invVirtual (q := 28) (W := 0) (y := (⟨"java/lang/String", "equals", "(Ljava/lang/Object;)Z"⟩ : MethodName)) (a := se2) (argsL := [(.ref a1)]) (rest := []) P27 d17_25 (hw _ (List.mem_of_getElem? (i := 99) rfl)) (hw _ (List.mem_of_getElem? (i := 100) rfl)) (hw _ (List.mem_of_getElem? (i := 102) rfl)) (hw _ (List.mem_of_getElem? (i := 101) rfl)) (notFace_of_selects (args := #[]) (mvT P27.2.2.2.1 (hw _ (List.mem_of_getElem? (i := 102) rfl)))) (by decide) (Own.eqB (W := 0) (n0 := n0) P27.2.2.2.1 (fun d hd => hw d (sub_eqW d hd)) (hw _ (List.mem_of_getElem? (i := 2) rfl)) (xe14.ext E0_1_22) (S1.ext E0_1_22) (SC.ext E0_1_22) hzc (by decide) (by decide)) (xe14.ext E0_1_22).exa rfl rfl (by rw [hml]; rfl) (lenOf (show parseMethodDescriptor "(Ljava/lang/Object;)Z" = some ⟨[(.object "java/lang/Object")], some .boolean⟩ from by decide +kernel) rfl) (by show 2 * 0 + _ ≤ _; exact Nat.le_of_eq rfl) (by decide) (by decide) rfl ?_
      rintro v28 T28 h28 L28 ⟨rfl, N28q, e28⟩ P28
      rw [e28] at P28
      have N28 := Fr.app N26 N28q
      show Own.Goes _ _ _ _ (T28.setTop (mkF m 28 #[.val (.ref a1), .val (.ref r21), .val (.int (3 : Int32)), .val (.int (((0 : Int32) + (1 : Int32)) + (1 : Int32))), .val (.ref ae2)] [(.int (if tx2 = cs then (1 : Int32) else 0))]))
      refine Own.if_eq (q := 31) (qy := 37) P28 d17_28 (by decide) rfl (fun q2 => ?_) (fun q2 => ?_)
      · have m2 : ¬ tx2 = cs := fun z => by rw [if_pos z] at q2; exact absurd q2 (by decide)
        refine Own.iinc (q := 40) (v := (1 : Int32)) (L2 := #[.val (.ref a1), .val (.ref r21), .val (.int (3 : Int32)), .val (.int ((((0 : Int32) + (1 : Int32)) + (1 : Int32)) + (1 : Int32))), .val (.ref ae2)]) P28 d17_37 rfl rfl rfl rfl ?_
        refine Own.goto (q := 9) P28 d17_40 (by decide) ?_
        refine Own.iloadN (q := 10) P28 d17_9 rfl rfl ?_
        refine Own.iloadN (q := 11) P28 d17_10 rfl rfl ?_
        refine Own.icmp_ge (q := 14) (qy := 43) P28 d17_11 (by decide) rfl (fun _ => ?_) (fun q => absurd q (by decide))
        refine Own.invStatic (q := 46) (W := 0) (y := (⟨"java/util/Optional", "empty", "()Ljava/util/Optional;"⟩ : MethodName)) (argsL := []) (rest := []) P28 d17_43 (hw _ (List.mem_of_getElem? (i := 108) rfl)) (hw _ (List.mem_of_getElem? (i := 109) rfl)) (hw _ (List.mem_of_getElem? (i := 110) rfl)) (hw _ (List.mem_of_getElem? (i := 111) rfl)) (by decide) (backOf (W := 0) (rmOE l Z a0 hw [] eo h21 n0 (Nat.le_trans Z0 E0_1_22.1) (TE.ext E0_1_22)) P28.2.2.2.1 (hw _ (List.mem_of_getElem? (i := 111) rfl)) (hw _ (List.mem_of_getElem? (i := 110) rfl)) (by decide) (by decide)) rfl rfl (by rw [hml]; rfl) (lenOf (show parseMethodDescriptor "()Ljava/util/Optional;" = some ⟨[], some (.object "java/util/Optional")⟩ from by decide +kernel) rfl) (by show 2 * 0 + _ ≤ _; exact Nat.le_of_eq rfl) (by decide) (by decide) rfl ?_
        rintro v29 T29 h29 L29 ⟨rfl, N29q, e29⟩ P29
        rw [e29] at P29
        have N29 := Fr.app N28 N29q
        show Own.Goes _ _ _ _ (T29.setTop (mkF m 46 #[.val (.ref a1), .val (.ref r21), .val (.int (3 : Int32)), .val (.int ((((0 : Int32) + (1 : Int32)) + (1 : Int32)) + (1 : Int32))), .val (.ref ae2)] [(.ref eo)]))
        refine Own.retA (Q := QrmBc Z a1 cs zc ae0 ae1 ae2 se0 se1 se2 av kv eo h0 n0) P29 d17_46 hret rfl rfl rfl hlk (by decide) (by decide) ?_
        exact ⟨_, _, rfl, N29, E0_1_22, (XE.ext E0_1_22), (FE.ext E0_1_22), by unfold optV; rw [if_neg m0, if_neg m1, if_neg m2]⟩
      · have m2 : tx2 = cs := Decidable.of_not_not fun z => q2 (if_neg z)
        refine Own.aload (q := 33) P28 d17_31 rfl rfl rfl ?_
        refine Own.invStatic (q := 36) (W := 0) (y := (⟨"java/util/Optional", "of", "(Ljava/lang/Object;)Ljava/util/Optional;"⟩ : MethodName)) (argsL := [(.ref ae2)]) (rest := []) P28 d17_33 (hw _ (List.mem_of_getElem? (i := 122) rfl)) (hw _ (List.mem_of_getElem? (i := 123) rfl)) (hw _ (List.mem_of_getElem? (i := 110) rfl)) (hw _ (List.mem_of_getElem? (i := 124) rfl)) (by decide) (backOf (W := 0) (rmOf l Z a0 hw [] ae2 h21 n0 (Nat.le_trans Z0 E0_1_22.1) ) P28.2.2.2.1 (hw _ (List.mem_of_getElem? (i := 124) rfl)) (hw _ (List.mem_of_getElem? (i := 110) rfl)) (by decide) (by decide)) rfl rfl (by rw [hml]; rfl) (lenOf (show parseMethodDescriptor "(Ljava/lang/Object;)Ljava/util/Optional;" = some ⟨[(.object "java/lang/Object")], some (.object "java/util/Optional")⟩ from by decide +kernel) rfl) (by show 2 * 0 + _ ≤ _; exact Nat.le_of_eq rfl) (by decide) (by decide) rfl ?_
        rintro v30 T30 h30 L30 ⟨r30, rfl, N30q, E30, G30, F30⟩ P30
        have N30 := Fr.app N28 N30q
        show Own.Goes _ _ _ _ (T30.setTop (mkF m 36 #[.val (.ref a1), .val (.ref r21), .val (.int (3 : Int32)), .val (.int (((0 : Int32) + (1 : Int32)) + (1 : Int32))), .val (.ref ae2)] [(.ref r30)]))
        have E0_2_31 : Ext h0 h30 := (Own.Ext.tr E0_1_22 E30)
        refine Own.retA (Q := QrmBc Z a1 cs zc ae0 ae1 ae2 se0 se1 se2 av kv eo h0 n0) P30 d17_36 hret rfl rfl rfl hlk (by decide) (by decide) ?_
        exact ⟨_, _, rfl, N30, E0_2_31, G30, F30, by unfold optV; rw [if_neg m0, if_neg m1, if_pos m2]⟩
    · have m1 : tx1 = cs := Decidable.of_not_not fun z => q1 (if_neg z)
      refine Own.aload (q := 33) P26 d17_31 rfl rfl rfl ?_
      refine Own.invStatic (q := 36) (W := 0) (y := (⟨"java/util/Optional", "of", "(Ljava/lang/Object;)Ljava/util/Optional;"⟩ : MethodName)) (argsL := [(.ref ae1)]) (rest := []) P26 d17_33 (hw _ (List.mem_of_getElem? (i := 122) rfl)) (hw _ (List.mem_of_getElem? (i := 123) rfl)) (hw _ (List.mem_of_getElem? (i := 110) rfl)) (hw _ (List.mem_of_getElem? (i := 124) rfl)) (by decide) (backOf (W := 0) (rmOf l Z a0 hw [] ae1 h21 n0 (Nat.le_trans Z0 E0_1_22.1) ) P26.2.2.2.1 (hw _ (List.mem_of_getElem? (i := 124) rfl)) (hw _ (List.mem_of_getElem? (i := 110) rfl)) (by decide) (by decide)) rfl rfl (by rw [hml]; rfl) (lenOf (show parseMethodDescriptor "(Ljava/lang/Object;)Ljava/util/Optional;" = some ⟨[(.object "java/lang/Object")], some (.object "java/util/Optional")⟩ from by decide +kernel) rfl) (by show 2 * 0 + _ ≤ _; exact Nat.le_of_eq rfl) (by decide) (by decide) rfl ?_
      rintro v32 T32 h32 L32 ⟨r32, rfl, N32q, E32, G32, F32⟩ P32
      have N32 := Fr.app N26 N32q
      show Own.Goes _ _ _ _ (T32.setTop (mkF m 36 #[.val (.ref a1), .val (.ref r21), .val (.int (3 : Int32)), .val (.int ((0 : Int32) + (1 : Int32))), .val (.ref ae1)] [(.ref r32)]))
      have E0_2_33 : Ext h0 h32 := (Own.Ext.tr E0_1_22 E32)
      refine Own.retA (Q := QrmBc Z a1 cs zc ae0 ae1 ae2 se0 se1 se2 av kv eo h0 n0) P32 d17_36 hret rfl rfl rfl hlk (by decide) (by decide) ?_
      exact ⟨_, _, rfl, N32, E0_2_33, G32, F32, by unfold optV; rw [if_neg m0, if_pos m1]⟩
  · have m0 : tx0 = cs := Decidable.of_not_not fun z => q0 (if_neg z)
    refine Own.aload (q := 33) P24 d17_31 rfl rfl rfl ?_
    refine Own.invStatic (q := 36) (W := 0) (y := (⟨"java/util/Optional", "of", "(Ljava/lang/Object;)Ljava/util/Optional;"⟩ : MethodName)) (argsL := [(.ref ae0)]) (rest := []) P24 d17_33 (hw _ (List.mem_of_getElem? (i := 122) rfl)) (hw _ (List.mem_of_getElem? (i := 123) rfl)) (hw _ (List.mem_of_getElem? (i := 110) rfl)) (hw _ (List.mem_of_getElem? (i := 124) rfl)) (by decide) (backOf (W := 0) (rmOf l Z a0 hw [] ae0 h21 n0 (Nat.le_trans Z0 E0_1_22.1) ) P24.2.2.2.1 (hw _ (List.mem_of_getElem? (i := 124) rfl)) (hw _ (List.mem_of_getElem? (i := 110) rfl)) (by decide) (by decide)) rfl rfl (by rw [hml]; rfl) (lenOf (show parseMethodDescriptor "(Ljava/lang/Object;)Ljava/util/Optional;" = some ⟨[(.object "java/lang/Object")], some (.object "java/util/Optional")⟩ from by decide +kernel) rfl) (by show 2 * 0 + _ ≤ _; exact Nat.le_of_eq rfl) (by decide) (by decide) rfl ?_
    rintro v34 T34 h34 L34 ⟨r34, rfl, N34q, E34, G34, F34⟩ P34
    have N34 := Fr.app N24 N34q
    show Own.Goes _ _ _ _ (T34.setTop (mkF m 36 #[.val (.ref a1), .val (.ref r21), .val (.int (3 : Int32)), .val (.int (0 : Int32)), .val (.ref ae0)] [(.ref r34)]))
    have E0_2_35 : Ext h0 h34 := (Own.Ext.tr E0_1_22 E34)
    refine Own.retA (Q := QrmBc Z a1 cs zc ae0 ae1 ae2 se0 se1 se2 av kv eo h0 n0) P34 d17_36 hret rfl rfl rfl hlk (by decide) (by decide) ?_
    exact ⟨_, _, rfl, N34, E0_2_35, G34, F34, by unfold optV; rw [if_pos m0]⟩
theorem Own.n7_i {nn : Int32} (h : N7 nn) : 0 ≤ nn.toInt ∧ nn.toInt ≤ 7 := by unfold N7 at h; rcases h with rfl | rfl | rfl | rfl | rfl | rfl | rfl | rfl <;> decide
theorem Own.i_n7 {nn : Int32} (h0 : 0 ≤ nn.toInt) (h1 : nn.toInt ≤ 7) : N7 nn := by
  have hz : nn.toInt = 0 ∨ nn.toInt = 1 ∨ nn.toInt = 2 ∨ nn.toInt = 3 ∨ nn.toInt = 4 ∨ nn.toInt = 5 ∨ nn.toInt = 6 ∨ nn.toInt = 7 := by omega
  have kk : ∀ {a : Int32} {n : Int}, a.toInt = n → nn.toInt = n → nn = a := fun h1 h2 => Int32.toInt_inj.mp (h2.trans h1.symm)
  unfold N7
  rcases hz with q | q | q | q | q | q | q | q
  · exact Or.inl (kk rfl q)
  · exact Or.inr (Or.inl (kk rfl q))
  · exact Or.inr (Or.inr (Or.inl (kk rfl q)))
  · exact Or.inr (Or.inr (Or.inr (Or.inl (kk rfl q))))
  · exact Or.inr (Or.inr (Or.inr (Or.inr (Or.inl (kk rfl q)))))
  · exact Or.inr (Or.inr (Or.inr (Or.inr (Or.inr (Or.inl (kk rfl q))))))
  · exact Or.inr (Or.inr (Or.inr (Or.inr (Or.inr (Or.inr (Or.inl (kk rfl q)))))))
  · exact Or.inr (Or.inr (Or.inr (Or.inr (Or.inr (Or.inr (Or.inr (kk rfl q)))))))
theorem Own.rem7 (x : Int32) : N7 (Jvm.Free.XT.ushr x 2 % 7) := by
  have hu : (Jvm.Free.XT.ushr x 2).toInt = (x.toInt % 4294967296) / (2 ^ 2 : Nat) := c_iushr x 2 2 (by decide) (by decide)
  generalize Jvm.Free.XT.ushr x 2 = y at hu ⊢
  have hd := (c_irem y 7 7 rfl).1 (by omega)
  exact Own.i_n7 (by omega) (by omega)
theorem Own.rem_in (x : Int32) {nn : Int32} (h : N7 nn) (hp : 0 < nn) : ¬ ((x &&& 2147483647) % nn) < 0 ∧ ((x &&& 2147483647) % nn) < nn := by
  have hu := c_mask x 2147483647 31 (by decide) (by decide)
  generalize (x &&& 2147483647) = y at hu ⊢
  have k0 : (0 : Int32).toInt = 0 := rfl
  rw [Int32.lt_iff_toInt_lt] at hp
  have q := (c_iremV y nn).1 (by omega) (by omega)
  rw [Int32.lt_iff_toInt_lt, Int32.lt_iff_toInt_lt]
  omega
theorem Own.minus1 {nn : Int32} (h : N7 nn) (hp : 0 < nn) : N7 (nn - 1) := by
  obtain ⟨a, b⟩ := Own.n7_i h
  have hs := c_isub nn 1
  have k1 : (1 : Int32).toInt = 1 := rfl
  have k0 : (0 : Int32).toInt = 0 := rfl
  rw [Int32.lt_iff_toInt_lt] at hp
  have r := rng32 (nn - 1)
  exact Own.i_n7 (by omega) (by omega)
theorem Own.plus1 {nn : Int32} (h : N7 nn) (hp : nn < 7) : N7 (nn + 1) := by
  obtain ⟨a, b⟩ := Own.n7_i h
  have hs := c_iadd nn 1
  have k1 : (1 : Int32).toInt = 1 := rfl
  have k7 : (7 : Int32).toInt = 7 := rfl
  rw [Int32.lt_iff_toInt_lt] at hp
  have r := rng32 (nn + 1)
  exact Own.i_n7 (by omega) (by omega)
theorem Own.exp4 (nn c0 c1 c2 c3 c4 c5 c6 : Int32) : expI nn c0 c1 c2 c3 c4 c5 c6 = 0 ∨ expI nn c0 c1 c2 c3 c4 c5 c6 = 1 ∨ expI nn c0 c1 c2 c3 c4 c5 c6 = 2 ∨ expI nn c0 c1 c2 c3 c4 c5 c6 = -1 := by
  unfold expI
  split
  · exact Or.inl rfl
  · split
    · exact Or.inr (Or.inl rfl)
    · split
      · exact Or.inr (Or.inr (Or.inl rfl))
      · exact Or.inr (Or.inr (Or.inr rfl))
theorem Own.set7 (i : Nat) (hi : i < 7) {P : Int32 → Prop} {ch c0 c1 c2 c3 c4 c5 c6 : Int32} (hc : P ch) (h0 : P c0) (h1 : P c1) (h2 : P c2) (h3 : P c3) (h4 : P c4) (h5 : P c5) (h6 : P c6) :
    ∃ d0 d1 d2 d3 d4 d5 d6 : Int32, ([.int c0, .int c1, .int c2, .int c3, .int c4, .int c5, .int c6] : List Value).set i (.int ch) = [.int d0, .int d1, .int d2, .int d3, .int d4, .int d5, .int d6] ∧ P d0 ∧ P d1 ∧ P d2 ∧ P d3 ∧ P d4 ∧ P d5 ∧ P d6 := by
  match i, hi with
  | 0, _ => exact ⟨_, _, _, _, _, _, _, rfl, hc, h1, h2, h3, h4, h5, h6⟩
  | 1, _ => exact ⟨_, _, _, _, _, _, _, rfl, h0, hc, h2, h3, h4, h5, h6⟩
  | 2, _ => exact ⟨_, _, _, _, _, _, _, rfl, h0, h1, hc, h3, h4, h5, h6⟩
  | 3, _ => exact ⟨_, _, _, _, _, _, _, rfl, h0, h1, h2, hc, h4, h5, h6⟩
  | 4, _ => exact ⟨_, _, _, _, _, _, _, rfl, h0, h1, h2, h3, hc, h5, h6⟩
  | 5, _ => exact ⟨_, _, _, _, _, _, _, rfl, h0, h1, h2, h3, h4, hc, h6⟩
  | 6, _ => exact ⟨_, _, _, _, _, _, _, rfl, h0, h1, h2, h3, h4, h5, hc⟩
theorem Own.lt_n7 {j nn : Int32} (h : N7 nn) (hj : j < nn) : j < 7 := by
  have := (Own.n7_i h).2
  have k7 : (7 : Int32).toInt = 7 := rfl
  rw [Int32.lt_iff_toInt_lt] at hj ⊢
  omega
theorem Own.nat7 {j : Int32} (h0 : ¬ j < 0) (h7 : j < 7) : j.toNatClampNeg < 7 := by
  have k7 : (7 : Int32).toInt = 7 := rfl
  have k0 : (0 : Int32).toInt = 0 := rfl
  rw [Int32.lt_iff_toInt_lt] at h0 h7
  simp only [Int32.toNatClampNeg]
  omega
theorem Own.n7_nn {nn : Int32} (h : N7 nn) : ¬ nn < 0 := by
  have := (Own.n7_i h).1
  have k0 : (0 : Int32).toInt = 0 := rfl
  rw [Int32.lt_iff_toInt_lt]
  omega
theorem pn_0 : plainName "com/example/mokuroku/mokuroku/core/FormatByCliNamePinLaw" = true := by first | (simp [plainName, overriddenIn]; done) | decide +kernel
def QrmLaw (Z : State) (x0 : Int32) (x1 : Int32) (x2 : Int32) (x3 : Int32) (d0 : Int64) (zc : Int32) (fm : Value) (ae0 : Addr) (ae1 : Addr) (ae2 : Addr) (se0 : Addr) (se1 : Addr) (se2 : Addr) (av : Addr) (kv : ClassId) (eo : Addr) (h0 : Heap) (n0 : Nat) (v : Option Value) (h : Heap) (L : List Loc) : Prop := v = some (.int 1) ∧ Fr n0 L
set_option maxRecDepth 65536 in
set_option maxHeartbeats 40000000 in
theorem rmLaw (l : Launch) (Z : State) (a0 : Array Value) (hw : ∀ d ∈ tables_1, d.before a0 Z = true) (ws : List Jvm.Cond) (x0 : Int32) (x1 : Int32) (x2 : Int32) (x3 : Int32) (d0 : Int64) (zc : Int32) (fm : Value) (ae0 : Addr) (ae1 : Addr) (ae2 : Addr) (se0 : Addr) (se1 : Addr) (se2 : Addr) (av : Addr) (kv : ClassId) (eo : Addr) (h0 : Heap) (n0 : Nat) (Z0 : n0 ≤ h0.size) (SC : Sta Z h0 "java/lang/String" "COMPACT_STRINGS" "Z" (.int zc)) (hzc : ¬ zc = 0) (SF : Sta Z h0 "jdk/internal/util/Preconditions" "SIOOBE_FORMATTER" "Ljava/util/function/BiFunction;" fm) (hfm : fm.isRef = true) (en : EN Z h0 ae0 ae1 ae2 se0 se1 se2 av kv) (TE : Sta Z h0 "java/util/Optional" "EMPTY" "Ljava/util/Optional;" (.ref eo)) (XE : Exa Z h0 eo "java/util/Optional") (FE : Fld Z h0 eo "java/util/Optional" "value" "Ljava/lang/Object;" .null) :
    MetFree l x (head1 (Jvm.Cond.code x code maxLocals ret :: ws) room_1) (fun a U => a = #[(.int x0), (.int x1), (.int x2), (.int x3), (.long d0)] ∧ Z.Warmed39 U.vm ∧ U.heap = h0 ∧ CHv Z EL U.vm h0 ∧ ∀ x ∈ ([] : List Addr), Safe Z EL U.vm h0 x) (fun _ _ _ _ _ => True) (fun _ U o U' => ∃ v L, o = .returned v ∧ QrmLaw Z x0 x1 x2 x3 d0 zc fm ae0 ae1 ae2 se0 se1 se2 av kv eo h0 n0 v U'.heap L ∧ CHr Z EL U.vm U.heap U'.vm U'.heap ∧ ReturnedEndW U o U' L room_1.cells room_1.slots) := by
  refine MetFree.of_bodySF (plainFor_of_name pn_0) hisR ?_
  intro p e s m args below meth c s₁ Bd hml0 hP hK
  obtain ⟨rfl, hZ, hh, hCH, hSf⟩ := hP
  have hml : c.maxLocals = 17 := hml0
  have hlk : meth.locks = false := Bd.notSynchronized
  have hret := Bd.returns
  have hnm := (name_of_methodNamed Bd.named Bd.method).1
  have P0 : Own.Wk Z "com/example/mokuroku/mokuroku/core/FormatByCliNamePinLaw" code h0 p l e room_1 (s.setVm s.vm) m #[(.int x0), (.int x1), (.int x2), (.int x3), (.long d0)] below meth c s₁ [] 0 0 := ⟨Stand.of_body Bd, Bd.exec, Bd.bytes, hZ, findClass_of_methodNamed Bd.named, by rw [← hh, Bd.state]; rfl⟩
  have H0 : Own.Hd Z EL s s.vm h0 h0 := Own.Hd.start hCH
  have N0 := Fr.nil n0
  show Own.Goes p.tables e below (fun s₂ o => ∃ v L, o = .returned v ∧ QrmLaw Z x0 x1 x2 x3 d0 zc fm ae0 ae1 ae2 se0 se1 se2 av kv eo h0 n0 v s₂.heap L ∧ CHr Z EL s.vm s.heap s₂.vm s₂.heap ∧ ReturnedEndW s o s₂ L room_1.cells room_1.slots) (s₁.setTop (entryFrame m #[(.int x0), (.int x1), (.int x2), (.int x3), (.long d0)] maxLocals))
  rw [show entryFrame m #[(.int x0), (.int x1), (.int x2), (.int x3), (.long d0)] maxLocals = mkF m 0 #[.val (.int x0), .val (.int x1), .val (.int x2), .val (.int x3), .val (.long d0), .second, .unset, .unset, .unset, .unset, .unset, .unset, .unset, .unset, .unset, .unset, .unset] [] from by first | rfl | (simp [entryFrame, mkF, argsToLocals, Value.category, maxLocals]; done)]
  obtain ⟨xe0, xe1, xe2, xe3, xe4, xe5, xe6, xe7, xe8, xe9, xe10, xe11, xe12, xe13, xe14⟩ := id en
  have J327 : ∀ (T21 : State) (lc21 : List Loc) (h21 : Heap) (vm21 : Vm) (nn : Int32) (b0 : Addr) (kb : ClassId) (c0 : Int32) (c1 : Int32) (c2 : Int32) (c3 : Int32) (c4 : Int32) (c5 : Int32) (c6 : Int32) (k6 : Int32) (s7 : Addr) (k9 : Int32), Own.Wk Z "com/example/mokuroku/mokuroku/core/FormatByCliNamePinLaw" code h21 p l e room_1 (s.setVm vm21) m #[(.int x0), (.int x1), (.int x2), (.int x3), (.long d0)] below meth c T21 lc21 3 35 → Fr n0 lc21 → Ext h0 h21 → Own.Hd Z EL s vm21 h0 h21 → N7 nn → Arv Z h21 b0 kb .char 7 [.int c0, .int c1, .int c2, .int c3, .int c4, .int c5, .int c6] (.int 0) → h0.size ≤ b0 → ¬ c0 < 0 ∧ ¬ (255 : Int32) < c0 → ¬ c1 < 0 ∧ ¬ (255 : Int32) < c1 → ¬ c2 < 0 ∧ ¬ (255 : Int32) < c2 → ¬ c3 < 0 ∧ ¬ (255 : Int32) < c3 → ¬ c4 < 0 ∧ ¬ (255 : Int32) < c4 → ¬ c5 < 0 ∧ ¬ (255 : Int32) < c5 → ¬ c6 < 0 ∧ ¬ (255 : Int32) < c6 → Own.Goes p.tables e below (fun s₂ o => ∃ v L, o = .returned v ∧ QrmLaw Z x0 x1 x2 x3 d0 zc fm ae0 ae1 ae2 se0 se1 se2 av kv eo h0 n0 v s₂.heap L ∧ CHr Z EL s.vm s.heap s₂.vm s₂.heap ∧ ReturnedEndW s o s₂ L room_1.cells room_1.slots) (T21.setTop (mkF m 327 #[.val (.int x0), .val (.int x1), .val (.int x2), .val (.int x3), .val (.long d0), .second, .val (.int k6), .val (.ref s7), .val (.int nn), .val (.int k9), .val (.ref b0), .val (.int (x1 &&& (3 : Int32))), .val (.int (x3 &&& (255 : Int32))), .unset, .unset, .unset, .unset] [])) := by
    intro T21 lc21 h21 vm21 nn b0 kb c0 c1 c2 c3 c4 c5 c6 k6 s7 k9 P21 N21 EJ21 H21 hn A_b gb rc0 rc1 rc2 rc3 rc4 rc5 rc6
    refine Own.aload (q := 329) P21 at_327 rfl rfl rfl ?_
    refine Own.iload (q := 331) P21 at_329 rfl rfl ?_
    have E0_1_22 : Ext h0 h21 := EJ21
    refine Own.invStaticH (q := 334) (W := 0) (y := (⟨"com/example/mokuroku/mokuroku/core/FormatByCliNamePinLaw", "make", "([CI)Ljava/lang/String;"⟩ : MethodName)) (argsL := [(.ref b0), (.int nn)]) (rest := []) P21 H21 at_331 (hw _ (List.mem_of_getElem? (i := 48) rfl)) (hw _ (List.mem_of_getElem? (i := 49) rfl)) (hw _ (List.mem_of_getElem? (i := 24) rfl)) (hw _ (List.mem_of_getElem? (i := 50) rfl)) (by decide) (Own.backH (W := 0) (rmMake l Z a0 hw [] b0 kb nn c0 c1 c2 c3 c4 c5 c6 zc h21 n0 (Nat.le_trans Z0 E0_1_22.1) (SC.ext E0_1_22) hzc A_b rc0 rc1 rc2 rc3 rc4 rc5 rc6) P21.2.2.2.1 (hw _ (List.mem_of_getElem? (i := 50) rfl)) (hw _ (List.mem_of_getElem? (i := 24) rfl)) (by decide) (by decide) (ew hw) H21.2.1 all0) rfl rfl (by rw [hml]; rfl) (lenOf (show parseMethodDescriptor "([CI)Ljava/lang/String;" = some ⟨[(.array .char), .int], some (.object "java/lang/String")⟩ from by decide +kernel) rfl) (by show 2 * 0 + _ ≤ _; exact Nat.le_of_eq rfl) (by decide) (by decide) rfl ?_
    rintro v23 T23 vm23 h23 L23 ⟨r23, rfl, N23q, E23, gr23, St23⟩ P23 H23 hr23
    have N23 := Fr.app N21 N23q
    show Own.Goes _ _ _ _ (T23.setTop (mkF m 334 #[.val (.int x0), .val (.int x1), .val (.int x2), .val (.int x3), .val (.long d0), .second, .val (.int k6), .val (.ref s7), .val (.int nn), .val (.int k9), .val (.ref b0), .val (.int (x1 &&& (3 : Int32))), .val (.int (x3 &&& (255 : Int32))), .unset, .unset, .unset, .unset] [(.ref r23)]))
    refine Own.astore (q := 336) (L2 := #[.val (.int x0), .val (.int x1), .val (.int x2), .val (.int x3), .val (.long d0), .second, .val (.int k6), .val (.ref s7), .val (.int nn), .val (.int k9), .val (.ref b0), .val (.int (x1 &&& (3 : Int32))), .val (.int (x3 &&& (255 : Int32))), .val (.ref r23), .unset, .unset, .unset]) P23 at_334 rfl rfl rfl ?_
    refine Own.aload (q := 338) P23 at_336 rfl rfl rfl ?_
    refine Own.iload (q := 340) P23 at_338 rfl rfl ?_
    have E1_2_24 : Ext h21 h23 := E23
    have E0_2_25 : Ext h0 h23 := (Own.Ext.tr E0_1_22 E23)
    refine Own.invStatic (q := 343) (W := 0) (y := (⟨"com/example/mokuroku/mokuroku/core/FormatByCliNamePinLaw", "expected", "([CI)I"⟩ : MethodName)) (argsL := [(.ref b0), (.int nn)]) (rest := []) P23 at_340 (hw _ (List.mem_of_getElem? (i := 72) rfl)) (hw _ (List.mem_of_getElem? (i := 73) rfl)) (hw _ (List.mem_of_getElem? (i := 24) rfl)) (hw _ (List.mem_of_getElem? (i := 74) rfl)) (by decide) (backOf (W := 0) (rmExp l Z a0 hw [] b0 kb nn c0 c1 c2 c3 c4 c5 c6 h23 n0 (Nat.le_trans Z0 E0_2_25.1) (A_b.ext E1_2_24)) P23.2.2.2.1 (hw _ (List.mem_of_getElem? (i := 74) rfl)) (hw _ (List.mem_of_getElem? (i := 24) rfl)) (by decide) (by decide)) rfl rfl (by rw [hml]; rfl) (lenOf (show parseMethodDescriptor "([CI)I" = some ⟨[(.array .char), .int], some .int⟩ from by decide +kernel) rfl) (by show 2 * 0 + _ ≤ _; exact Nat.le_of_eq rfl) (by decide) (by decide) rfl ?_
    rintro v26 T26 h26 L26 ⟨rfl, N26q, e26⟩ P26
    rw [e26] at P26
    have N26 := Fr.app N23 N26q
    show Own.Goes _ _ _ _ (T26.setTop (mkF m 343 #[.val (.int x0), .val (.int x1), .val (.int x2), .val (.int x3), .val (.long d0), .second, .val (.int k6), .val (.ref s7), .val (.int nn), .val (.int k9), .val (.ref b0), .val (.int (x1 &&& (3 : Int32))), .val (.int (x3 &&& (255 : Int32))), .val (.ref r23), .unset, .unset, .unset] [(.int (expI nn c0 c1 c2 c3 c4 c5 c6))]))
    refine Own.istore (q := 345) (L2 := #[.val (.int x0), .val (.int x1), .val (.int x2), .val (.int x3), .val (.long d0), .second, .val (.int k6), .val (.ref s7), .val (.int nn), .val (.int k9), .val (.ref b0), .val (.int (x1 &&& (3 : Int32))), .val (.int (x3 &&& (255 : Int32))), .val (.ref r23), .val (.int (expI nn c0 c1 c2 c3 c4 c5 c6)), .unset, .unset]) P26 at_343 rfl rfl ?_
    refine Own.aload (q := 347) P26 at_345 rfl rfl rfl ?_
    refine Own.invStatic (q := 350) (W := 0) (y := (⟨"com/example/mokuroku/mokuroku/core/Format", "byCliName", "(Ljava/lang/String;)Ljava/util/Optional;"⟩ : MethodName)) (argsL := [(.ref r23)]) (rest := []) P26 at_347 (hw _ (List.mem_of_getElem? (i := 75) rfl)) (hw _ (List.mem_of_getElem? (i := 76) rfl)) (hw _ (List.mem_of_getElem? (i := 77) rfl)) (hw _ (List.mem_of_getElem? (i := 78) rfl)) (by decide) (backOf (W := 0) (rmBc l Z a0 hw [] r23 (mkL nn c0 c1 c2 c3 c4 c5 c6) zc ae0 ae1 ae2 se0 se1 se2 av kv eo h23 n0 (Nat.le_trans Z0 E0_2_25.1) (SC.ext E0_2_25) hzc (en.ext E0_2_25) (TE.ext E0_2_25) (XE.ext E0_2_25) (FE.ext E0_2_25) St23) P26.2.2.2.1 (hw _ (List.mem_of_getElem? (i := 78) rfl)) (hw _ (List.mem_of_getElem? (i := 77) rfl)) (by decide) (by decide)) rfl rfl (by rw [hml]; rfl) (lenOf (show parseMethodDescriptor "(Ljava/lang/String;)Ljava/util/Optional;" = some ⟨[(.object "java/lang/String")], some (.object "java/util/Optional")⟩ from by decide +kernel) rfl) (by show 2 * 0 + _ ≤ _; exact Nat.le_of_eq rfl) (by decide) (by decide) rfl ?_
    rintro v27 T27 h27 L27 ⟨r27, u27, rfl, N27q, E27, G27, F27, hu27⟩ P27
    have N27 := Fr.app N26 N27q
    show Own.Goes _ _ _ _ (T27.setTop (mkF m 350 #[.val (.int x0), .val (.int x1), .val (.int x2), .val (.int x3), .val (.long d0), .second, .val (.int k6), .val (.ref s7), .val (.int nn), .val (.int k9), .val (.ref b0), .val (.int (x1 &&& (3 : Int32))), .val (.int (x3 &&& (255 : Int32))), .val (.ref r23), .val (.int (expI nn c0 c1 c2 c3 c4 c5 c6)), .unset, .unset] [(.ref r27)]))
    refine Own.astore (q := 352) (L2 := #[.val (.int x0), .val (.int x1), .val (.int x2), .val (.int x3), .val (.long d0), .second, .val (.int k6), .val (.ref s7), .val (.int nn), .val (.int k9), .val (.ref b0), .val (.int (x1 &&& (3 : Int32))), .val (.int (x3 &&& (255 : Int32))), .val (.ref r23), .val (.int (expI nn c0 c1 c2 c3 c4 c5 c6)), .val (.ref r27), .unset]) P27 at_350 rfl rfl rfl ?_
    refine Own.iload (q := 354) P27 at_352 rfl rfl ?_
    refine Own.if_ge (q := 357) (qy := 371) P27 at_354 (by decide) rfl (fun q354 => ?_) (fun q354 => ?_)
    · refine Own.iload (q := 373) P27 at_371 rfl rfl ?_
      refine Own.if_ne (q := 376) (qy := 382) P27 at_373 (by decide) rfl (fun q373 => ?_) (fun q373 => ?_)
      · refine Own.iload (q := 384) P27 at_382 rfl rfl ?_
        refine Own.iconst (q := 385) (v := (1 : Int32)) P27 at_384 rfl rfl ?_
        refine Own.icmp_ne (q := 388) (qy := 394) P27 at_385 (by decide) rfl (fun q385 => ?_) (fun q385 => ?_)
        · have m2 : expI nn c0 c1 c2 c3 c4 c5 c6 = 2 := by
            rcases Own.exp4 nn c0 c1 c2 c3 c4 c5 c6 with z | z | z | z
            · exact absurd z q373
            · exact absurd z q385
            · exact z
            · exact absurd (by rw [z]; decide) q354
          have hz27 : u27 = .ref ae2 := by rw [hu27, opt_is hn, if_neg q373, if_neg q385, if_pos m2]
          rw [hz27] at F27
          have E0_3_28 : Ext h0 h27 := (Own.Ext.tr E0_2_25 E27)
          refine Own.getstatic (q := 397) P27 at_394 (hw _ (List.mem_of_getElem? (i := 149) rfl)) (xe2.ext E0_3_28) rfl ?_
          intro T29 P29
          refine Own.astore (q := 399) (L2 := #[.val (.int x0), .val (.int x1), .val (.int x2), .val (.int x3), .val (.long d0), .second, .val (.int k6), .val (.ref s7), .val (.int nn), .val (.int k9), .val (.ref b0), .val (.int (x1 &&& (3 : Int32))), .val (.int (x3 &&& (255 : Int32))), .val (.ref r23), .val (.int (expI nn c0 c1 c2 c3 c4 c5 c6)), .val (.ref r27), .val (.ref ae2)]) P29 at_397 rfl rfl rfl ?_
          refine Own.aload (q := 401) P29 at_399 rfl rfl rfl ?_
          refine Own.invVirtual (q := 404) (W := 0) (y := (⟨"java/util/Optional", "isPresent", "()Z"⟩ : MethodName)) (a := r27) (argsL := []) (rest := []) P29 at_401 (hw _ (List.mem_of_getElem? (i := 113) rfl)) (hw _ (List.mem_of_getElem? (i := 114) rfl)) (hw _ (List.mem_of_getElem? (i := 116) rfl)) (hw _ (List.mem_of_getElem? (i := 115) rfl)) (notFace_of_selects (args := #[]) (mvT P29.2.2.2.1 (hw _ (List.mem_of_getElem? (i := 116) rfl)))) (by decide) (backOf (W := 0) (rmPr1 l Z a0 hw [] r27 ae2 h27 n0 (Nat.le_trans Z0 E0_3_28.1) F27) P29.2.2.2.1 (hw _ (List.mem_of_getElem? (i := 117) rfl)) (hw _ (List.mem_of_getElem? (i := 110) rfl)) (by decide) (by decide)) G27 rfl rfl (by rw [hml]; rfl) (lenOf (show parseMethodDescriptor "()Z" = some ⟨[], some .boolean⟩ from by decide +kernel) rfl) (by show 2 * 0 + _ ≤ _; exact Nat.le_of_eq rfl) (by decide) (by decide) rfl ?_
          rintro v30 T30 h30 L30 ⟨rfl, N30q, e30⟩ P30
          rw [e30] at P30
          have N30 := Fr.app N27 N30q
          show Own.Goes _ _ _ _ (T30.setTop (mkF m 404 #[.val (.int x0), .val (.int x1), .val (.int x2), .val (.int x3), .val (.long d0), .second, .val (.int k6), .val (.ref s7), .val (.int nn), .val (.int k9), .val (.ref b0), .val (.int (x1 &&& (3 : Int32))), .val (.int (x3 &&& (255 : Int32))), .val (.ref r23), .val (.int (expI nn c0 c1 c2 c3 c4 c5 c6)), .val (.ref r27), .val (.ref ae2)] [(.int (1 : Int32))]))
          refine Own.if_eq (q := 407) (qy := 421) P30 at_404 (by decide) rfl (fun q => absurd q (by decide)) (fun _ => ?_)
          refine Own.aload (q := 409) P30 at_407 rfl rfl rfl ?_
          refine Own.invVirtual (q := 412) (W := 0) (y := (⟨"java/util/Optional", "get", "()Ljava/lang/Object;"⟩ : MethodName)) (a := r27) (argsL := []) (rest := []) P30 at_409 (hw _ (List.mem_of_getElem? (i := 137) rfl)) (hw _ (List.mem_of_getElem? (i := 138) rfl)) (hw _ (List.mem_of_getElem? (i := 140) rfl)) (hw _ (List.mem_of_getElem? (i := 139) rfl)) (notFace_of_selects (args := #[]) (mvT P30.2.2.2.1 (hw _ (List.mem_of_getElem? (i := 140) rfl)))) (by decide) (backOf (W := 0) (rmGet l Z a0 hw [] r27 ae2 h27 n0 (Nat.le_trans Z0 E0_3_28.1) F27) P30.2.2.2.1 (hw _ (List.mem_of_getElem? (i := 141) rfl)) (hw _ (List.mem_of_getElem? (i := 110) rfl)) (by decide) (by decide)) G27 rfl rfl (by rw [hml]; rfl) (lenOf (show parseMethodDescriptor "()Ljava/lang/Object;" = some ⟨[], some (.object "java/lang/Object")⟩ from by decide +kernel) rfl) (by show 2 * 0 + _ ≤ _; exact Nat.le_of_eq rfl) (by decide) (by decide) rfl ?_
          rintro v31 T31 h31 L31 ⟨rfl, N31q, e31⟩ P31
          rw [e31] at P31
          have N31 := Fr.app N30 N31q
          show Own.Goes _ _ _ _ (T31.setTop (mkF m 412 #[.val (.int x0), .val (.int x1), .val (.int x2), .val (.int x3), .val (.long d0), .second, .val (.int k6), .val (.ref s7), .val (.int nn), .val (.int k9), .val (.ref b0), .val (.int (x1 &&& (3 : Int32))), .val (.int (x3 &&& (255 : Int32))), .val (.ref r23), .val (.int (expI nn c0 c1 c2 c3 c4 c5 c6)), .val (.ref r27), .val (.ref ae2)] [(.ref ae2)]))
          refine Own.aload (q := 414) P31 at_412 rfl rfl rfl ?_
          refine Own.acmp_ne (q := 417) (qy := 421) P31 at_414 rfl rfl (by decide) rfl (fun q => absurd rfl q) (fun _ => ?_)
          refine Own.iconst (q := 418) (v := (1 : Int32)) P31 at_417 rfl rfl ?_
          refine Own.goto (q := 422) P31 at_418 (by decide) ?_
          have E2_3_32 : Ext h23 h27 := E27
          have Hd33 := (H23.ext E2_3_32)
          refine Own.retZH (Q := QrmLaw Z x0 x1 x2 x3 d0 zc fm ae0 ae1 ae2 se0 se1 se2 av kv eo h0 n0) P31 hh (ew hw) Hd33 at_422 hret (by simp) hlk (by decide) (by decide) ?_
          exact ⟨rfl, N31⟩
        · have hz27 : u27 = .ref ae1 := by rw [hu27, opt_is hn, if_neg q373, if_pos q385]
          rw [hz27] at F27
          have E0_3_34 : Ext h0 h27 := (Own.Ext.tr E0_2_25 E27)
          refine Own.getstatic (q := 391) P27 at_388 (hw _ (List.mem_of_getElem? (i := 136) rfl)) (xe1.ext E0_3_34) rfl ?_
          intro T35 P35
          refine Own.goto (q := 397) P35 at_391 (by decide) ?_
          refine Own.astore (q := 399) (L2 := #[.val (.int x0), .val (.int x1), .val (.int x2), .val (.int x3), .val (.long d0), .second, .val (.int k6), .val (.ref s7), .val (.int nn), .val (.int k9), .val (.ref b0), .val (.int (x1 &&& (3 : Int32))), .val (.int (x3 &&& (255 : Int32))), .val (.ref r23), .val (.int (expI nn c0 c1 c2 c3 c4 c5 c6)), .val (.ref r27), .val (.ref ae1)]) P35 at_397 rfl rfl rfl ?_
          refine Own.aload (q := 401) P35 at_399 rfl rfl rfl ?_
          refine Own.invVirtual (q := 404) (W := 0) (y := (⟨"java/util/Optional", "isPresent", "()Z"⟩ : MethodName)) (a := r27) (argsL := []) (rest := []) P35 at_401 (hw _ (List.mem_of_getElem? (i := 113) rfl)) (hw _ (List.mem_of_getElem? (i := 114) rfl)) (hw _ (List.mem_of_getElem? (i := 116) rfl)) (hw _ (List.mem_of_getElem? (i := 115) rfl)) (notFace_of_selects (args := #[]) (mvT P35.2.2.2.1 (hw _ (List.mem_of_getElem? (i := 116) rfl)))) (by decide) (backOf (W := 0) (rmPr1 l Z a0 hw [] r27 ae1 h27 n0 (Nat.le_trans Z0 E0_3_34.1) F27) P35.2.2.2.1 (hw _ (List.mem_of_getElem? (i := 117) rfl)) (hw _ (List.mem_of_getElem? (i := 110) rfl)) (by decide) (by decide)) G27 rfl rfl (by rw [hml]; rfl) (lenOf (show parseMethodDescriptor "()Z" = some ⟨[], some .boolean⟩ from by decide +kernel) rfl) (by show 2 * 0 + _ ≤ _; exact Nat.le_of_eq rfl) (by decide) (by decide) rfl ?_
          rintro v36 T36 h36 L36 ⟨rfl, N36q, e36⟩ P36
          rw [e36] at P36
          have N36 := Fr.app N27 N36q
          show Own.Goes _ _ _ _ (T36.setTop (mkF m 404 #[.val (.int x0), .val (.int x1), .val (.int x2), .val (.int x3), .val (.long d0), .second, .val (.int k6), .val (.ref s7), .val (.int nn), .val (.int k9), .val (.ref b0), .val (.int (x1 &&& (3 : Int32))), .val (.int (x3 &&& (255 : Int32))), .val (.ref r23), .val (.int (expI nn c0 c1 c2 c3 c4 c5 c6)), .val (.ref r27), .val (.ref ae1)] [(.int (1 : Int32))]))
          refine Own.if_eq (q := 407) (qy := 421) P36 at_404 (by decide) rfl (fun q => absurd q (by decide)) (fun _ => ?_)
          refine Own.aload (q := 409) P36 at_407 rfl rfl rfl ?_
          refine Own.invVirtual (q := 412) (W := 0) (y := (⟨"java/util/Optional", "get", "()Ljava/lang/Object;"⟩ : MethodName)) (a := r27) (argsL := []) (rest := []) P36 at_409 (hw _ (List.mem_of_getElem? (i := 137) rfl)) (hw _ (List.mem_of_getElem? (i := 138) rfl)) (hw _ (List.mem_of_getElem? (i := 140) rfl)) (hw _ (List.mem_of_getElem? (i := 139) rfl)) (notFace_of_selects (args := #[]) (mvT P36.2.2.2.1 (hw _ (List.mem_of_getElem? (i := 140) rfl)))) (by decide) (backOf (W := 0) (rmGet l Z a0 hw [] r27 ae1 h27 n0 (Nat.le_trans Z0 E0_3_34.1) F27) P36.2.2.2.1 (hw _ (List.mem_of_getElem? (i := 141) rfl)) (hw _ (List.mem_of_getElem? (i := 110) rfl)) (by decide) (by decide)) G27 rfl rfl (by rw [hml]; rfl) (lenOf (show parseMethodDescriptor "()Ljava/lang/Object;" = some ⟨[], some (.object "java/lang/Object")⟩ from by decide +kernel) rfl) (by show 2 * 0 + _ ≤ _; exact Nat.le_of_eq rfl) (by decide) (by decide) rfl ?_
          rintro v37 T37 h37 L37 ⟨rfl, N37q, e37⟩ P37
          rw [e37] at P37
          have N37 := Fr.app N36 N37q
          show Own.Goes _ _ _ _ (T37.setTop (mkF m 412 #[.val (.int x0), .val (.int x1), .val (.int x2), .val (.int x3), .val (.long d0), .second, .val (.int k6), .val (.ref s7), .val (.int nn), .val (.int k9), .val (.ref b0), .val (.int (x1 &&& (3 : Int32))), .val (.int (x3 &&& (255 : Int32))), .val (.ref r23), .val (.int (expI nn c0 c1 c2 c3 c4 c5 c6)), .val (.ref r27), .val (.ref ae1)] [(.ref ae1)]))
          refine Own.aload (q := 414) P37 at_412 rfl rfl rfl ?_
          refine Own.acmp_ne (q := 417) (qy := 421) P37 at_414 rfl rfl (by decide) rfl (fun q => absurd rfl q) (fun _ => ?_)
          refine Own.iconst (q := 418) (v := (1 : Int32)) P37 at_417 rfl rfl ?_
          refine Own.goto (q := 422) P37 at_418 (by decide) ?_
          have E2_3_38 : Ext h23 h27 := E27
          have Hd39 := (H23.ext E2_3_38)
          refine Own.retZH (Q := QrmLaw Z x0 x1 x2 x3 d0 zc fm ae0 ae1 ae2 se0 se1 se2 av kv eo h0 n0) P37 hh (ew hw) Hd39 at_422 hret (by simp) hlk (by decide) (by decide) ?_
          exact ⟨rfl, N37⟩
      · have hz27 : u27 = .ref ae0 := by rw [hu27, opt_is hn, if_pos q373]
        rw [hz27] at F27
        have E0_3_40 : Ext h0 h27 := (Own.Ext.tr E0_2_25 E27)
        refine Own.getstatic (q := 379) P27 at_376 (hw _ (List.mem_of_getElem? (i := 147) rfl)) (xe0.ext E0_3_40) rfl ?_
        intro T41 P41
        refine Own.goto (q := 397) P41 at_379 (by decide) ?_
        refine Own.astore (q := 399) (L2 := #[.val (.int x0), .val (.int x1), .val (.int x2), .val (.int x3), .val (.long d0), .second, .val (.int k6), .val (.ref s7), .val (.int nn), .val (.int k9), .val (.ref b0), .val (.int (x1 &&& (3 : Int32))), .val (.int (x3 &&& (255 : Int32))), .val (.ref r23), .val (.int (expI nn c0 c1 c2 c3 c4 c5 c6)), .val (.ref r27), .val (.ref ae0)]) P41 at_397 rfl rfl rfl ?_
        refine Own.aload (q := 401) P41 at_399 rfl rfl rfl ?_
        refine Own.invVirtual (q := 404) (W := 0) (y := (⟨"java/util/Optional", "isPresent", "()Z"⟩ : MethodName)) (a := r27) (argsL := []) (rest := []) P41 at_401 (hw _ (List.mem_of_getElem? (i := 113) rfl)) (hw _ (List.mem_of_getElem? (i := 114) rfl)) (hw _ (List.mem_of_getElem? (i := 116) rfl)) (hw _ (List.mem_of_getElem? (i := 115) rfl)) (notFace_of_selects (args := #[]) (mvT P41.2.2.2.1 (hw _ (List.mem_of_getElem? (i := 116) rfl)))) (by decide) (backOf (W := 0) (rmPr1 l Z a0 hw [] r27 ae0 h27 n0 (Nat.le_trans Z0 E0_3_40.1) F27) P41.2.2.2.1 (hw _ (List.mem_of_getElem? (i := 117) rfl)) (hw _ (List.mem_of_getElem? (i := 110) rfl)) (by decide) (by decide)) G27 rfl rfl (by rw [hml]; rfl) (lenOf (show parseMethodDescriptor "()Z" = some ⟨[], some .boolean⟩ from by decide +kernel) rfl) (by show 2 * 0 + _ ≤ _; exact Nat.le_of_eq rfl) (by decide) (by decide) rfl ?_
        rintro v42 T42 h42 L42 ⟨rfl, N42q, e42⟩ P42
        rw [e42] at P42
        have N42 := Fr.app N27 N42q
        show Own.Goes _ _ _ _ (T42.setTop (mkF m 404 #[.val (.int x0), .val (.int x1), .val (.int x2), .val (.int x3), .val (.long d0), .second, .val (.int k6), .val (.ref s7), .val (.int nn), .val (.int k9), .val (.ref b0), .val (.int (x1 &&& (3 : Int32))), .val (.int (x3 &&& (255 : Int32))), .val (.ref r23), .val (.int (expI nn c0 c1 c2 c3 c4 c5 c6)), .val (.ref r27), .val (.ref ae0)] [(.int (1 : Int32))]))
        refine Own.if_eq (q := 407) (qy := 421) P42 at_404 (by decide) rfl (fun q => absurd q (by decide)) (fun _ => ?_)
        refine Own.aload (q := 409) P42 at_407 rfl rfl rfl ?_
        refine Own.invVirtual (q := 412) (W := 0) (y := (⟨"java/util/Optional", "get", "()Ljava/lang/Object;"⟩ : MethodName)) (a := r27) (argsL := []) (rest := []) P42 at_409 (hw _ (List.mem_of_getElem? (i := 137) rfl)) (hw _ (List.mem_of_getElem? (i := 138) rfl)) (hw _ (List.mem_of_getElem? (i := 140) rfl)) (hw _ (List.mem_of_getElem? (i := 139) rfl)) (notFace_of_selects (args := #[]) (mvT P42.2.2.2.1 (hw _ (List.mem_of_getElem? (i := 140) rfl)))) (by decide) (backOf (W := 0) (rmGet l Z a0 hw [] r27 ae0 h27 n0 (Nat.le_trans Z0 E0_3_40.1) F27) P42.2.2.2.1 (hw _ (List.mem_of_getElem? (i := 141) rfl)) (hw _ (List.mem_of_getElem? (i := 110) rfl)) (by decide) (by decide)) G27 rfl rfl (by rw [hml]; rfl) (lenOf (show parseMethodDescriptor "()Ljava/lang/Object;" = some ⟨[], some (.object "java/lang/Object")⟩ from by decide +kernel) rfl) (by show 2 * 0 + _ ≤ _; exact Nat.le_of_eq rfl) (by decide) (by decide) rfl ?_
        rintro v43 T43 h43 L43 ⟨rfl, N43q, e43⟩ P43
        rw [e43] at P43
        have N43 := Fr.app N42 N43q
        show Own.Goes _ _ _ _ (T43.setTop (mkF m 412 #[.val (.int x0), .val (.int x1), .val (.int x2), .val (.int x3), .val (.long d0), .second, .val (.int k6), .val (.ref s7), .val (.int nn), .val (.int k9), .val (.ref b0), .val (.int (x1 &&& (3 : Int32))), .val (.int (x3 &&& (255 : Int32))), .val (.ref r23), .val (.int (expI nn c0 c1 c2 c3 c4 c5 c6)), .val (.ref r27), .val (.ref ae0)] [(.ref ae0)]))
        refine Own.aload (q := 414) P43 at_412 rfl rfl rfl ?_
        refine Own.acmp_ne (q := 417) (qy := 421) P43 at_414 rfl rfl (by decide) rfl (fun q => absurd rfl q) (fun _ => ?_)
        refine Own.iconst (q := 418) (v := (1 : Int32)) P43 at_417 rfl rfl ?_
        refine Own.goto (q := 422) P43 at_418 (by decide) ?_
        have E2_3_44 : Ext h23 h27 := E27
        have Hd45 := (H23.ext E2_3_44)
        refine Own.retZH (Q := QrmLaw Z x0 x1 x2 x3 d0 zc fm ae0 ae1 ae2 se0 se1 se2 av kv eo h0 n0) P43 hh (ew hw) Hd45 at_422 hret (by simp) hlk (by decide) (by decide) ?_
        exact ⟨rfl, N43⟩
    · have m0 : ¬ expI nn c0 c1 c2 c3 c4 c5 c6 = 0 := fun z => by rw [z] at q354; exact absurd q354 (by decide)
      have m1 : ¬ expI nn c0 c1 c2 c3 c4 c5 c6 = 1 := fun z => by rw [z] at q354; exact absurd q354 (by decide)
      have m2 : ¬ expI nn c0 c1 c2 c3 c4 c5 c6 = 2 := fun z => by rw [z] at q354; exact absurd q354 (by decide)
      have hz27 : u27 = .null := by rw [hu27, opt_is hn, if_neg m0, if_neg m1, if_neg m2]
      rw [hz27] at F27
      refine Own.aload (q := 359) P27 at_357 rfl rfl rfl ?_
      have E0_3_46 : Ext h0 h27 := (Own.Ext.tr E0_2_25 E27)
      refine Own.invVirtual (q := 362) (W := 0) (y := (⟨"java/util/Optional", "isPresent", "()Z"⟩ : MethodName)) (a := r27) (argsL := []) (rest := []) P27 at_359 (hw _ (List.mem_of_getElem? (i := 113) rfl)) (hw _ (List.mem_of_getElem? (i := 114) rfl)) (hw _ (List.mem_of_getElem? (i := 116) rfl)) (hw _ (List.mem_of_getElem? (i := 115) rfl)) (notFace_of_selects (args := #[]) (mvT P27.2.2.2.1 (hw _ (List.mem_of_getElem? (i := 116) rfl)))) (by decide) (backOf (W := 0) (rmPr0 l Z a0 hw [] r27 h27 n0 (Nat.le_trans Z0 E0_3_46.1) F27) P27.2.2.2.1 (hw _ (List.mem_of_getElem? (i := 117) rfl)) (hw _ (List.mem_of_getElem? (i := 110) rfl)) (by decide) (by decide)) G27 rfl rfl (by rw [hml]; rfl) (lenOf (show parseMethodDescriptor "()Z" = some ⟨[], some .boolean⟩ from by decide +kernel) rfl) (by show 2 * 0 + _ ≤ _; exact Nat.le_of_eq rfl) (by decide) (by decide) rfl ?_
      rintro v47 T47 h47 L47 ⟨rfl, N47q, e47⟩ P47
      rw [e47] at P47
      have N47 := Fr.app N27 N47q
      show Own.Goes _ _ _ _ (T47.setTop (mkF m 362 #[.val (.int x0), .val (.int x1), .val (.int x2), .val (.int x3), .val (.long d0), .second, .val (.int k6), .val (.ref s7), .val (.int nn), .val (.int k9), .val (.ref b0), .val (.int (x1 &&& (3 : Int32))), .val (.int (x3 &&& (255 : Int32))), .val (.ref r23), .val (.int (expI nn c0 c1 c2 c3 c4 c5 c6)), .val (.ref r27), .unset] [(.int (0 : Int32))]))
      refine Own.if_ne (q := 365) (qy := 369) P47 at_362 (by decide) rfl (fun q => absurd rfl q) (fun _ => ?_)
      refine Own.iconst (q := 366) (v := (1 : Int32)) P47 at_365 rfl rfl ?_
      refine Own.goto (q := 370) P47 at_366 (by decide) ?_
      have E2_3_48 : Ext h23 h27 := E27
      have Hd49 := (H23.ext E2_3_48)
      refine Own.retZH (Q := QrmLaw Z x0 x1 x2 x3 d0 zc fm ae0 ae1 ae2 se0 se1 se2 av kv eo h0 n0) P47 hh (ew hw) Hd49 at_370 hret (by simp) hlk (by decide) (by decide) ?_
      exact ⟨rfl, N47⟩
  have J242 : ∀ (T50 : State) (lc50 : List Loc) (h50 : Heap) (vm50 : Vm) (nn : Int32) (b0 : Addr) (kb : ClassId) (c0 : Int32) (c1 : Int32) (c2 : Int32) (c3 : Int32) (c4 : Int32) (c5 : Int32) (c6 : Int32) (k6 : Int32) (s7 : Addr) (k9 : Int32), Own.Wk Z "com/example/mokuroku/mokuroku/core/FormatByCliNamePinLaw" code h50 p l e room_1 (s.setVm vm50) m #[(.int x0), (.int x1), (.int x2), (.int x3), (.long d0)] below meth c T50 lc50 3 35 → Fr n0 lc50 → Ext h0 h50 → Own.Hd Z EL s vm50 h0 h50 → N7 nn → Arv Z h50 b0 kb .char 7 [.int c0, .int c1, .int c2, .int c3, .int c4, .int c5, .int c6] (.int 0) → h0.size ≤ b0 → ¬ c0 < 0 ∧ ¬ (255 : Int32) < c0 → ¬ c1 < 0 ∧ ¬ (255 : Int32) < c1 → ¬ c2 < 0 ∧ ¬ (255 : Int32) < c2 → ¬ c3 < 0 ∧ ¬ (255 : Int32) < c3 → ¬ c4 < 0 ∧ ¬ (255 : Int32) < c4 → ¬ c5 < 0 ∧ ¬ (255 : Int32) < c5 → ¬ c6 < 0 ∧ ¬ (255 : Int32) < c6 → Own.Goes p.tables e below (fun s₂ o => ∃ v L, o = .returned v ∧ QrmLaw Z x0 x1 x2 x3 d0 zc fm ae0 ae1 ae2 se0 se1 se2 av kv eo h0 n0 v s₂.heap L ∧ CHr Z EL s.vm s.heap s₂.vm s₂.heap ∧ ReturnedEndW s o s₂ L room_1.cells room_1.slots) (T50.setTop (mkF m 242 #[.val (.int x0), .val (.int x1), .val (.int x2), .val (.int x3), .val (.long d0), .second, .val (.int k6), .val (.ref s7), .val (.int nn), .val (.int k9), .val (.ref b0), .unset, .unset, .unset, .unset, .unset, .unset] [])) := by
    intro T50 lc50 h50 vm50 nn b0 kb c0 c1 c2 c3 c4 c5 c6 k6 s7 k9 P50 N50 EJ50 H50 hn A_b gb rc0 rc1 rc2 rc3 rc4 rc5 rc6
    refine Own.iloadN (q := 243) P50 at_242 rfl rfl ?_
    refine Own.iconst (q := 244) (v := (3 : Int32)) P50 at_243 rfl rfl ?_
    refine Own.iand (q := 245) P50 at_244  rfl ?_
    refine Own.istore (q := 247) (L2 := #[.val (.int x0), .val (.int x1), .val (.int x2), .val (.int x3), .val (.long d0), .second, .val (.int k6), .val (.ref s7), .val (.int nn), .val (.int k9), .val (.ref b0), .val (.int (x1 &&& (3 : Int32))), .unset, .unset, .unset, .unset, .unset]) P50 at_245 rfl rfl ?_
    refine Own.iloadN (q := 248) P50 at_247 rfl rfl ?_
    refine Own.sipush (q := 251) (v := (255 : Int32)) P50 at_248 rfl rfl ?_
    refine Own.iand (q := 252) P50 at_251  rfl ?_
    refine Own.i2cV (q := 253) (v := (x3 &&& (255 : Int32))) P50 at_252 (Own.i2c_id (Own.lo_rng _)) rfl ?_
    refine Own.istore (q := 255) (L2 := #[.val (.int x0), .val (.int x1), .val (.int x2), .val (.int x3), .val (.long d0), .second, .val (.int k6), .val (.ref s7), .val (.int nn), .val (.int k9), .val (.ref b0), .val (.int (x1 &&& (3 : Int32))), .val (.int (x3 &&& (255 : Int32))), .unset, .unset, .unset, .unset]) P50 at_253 rfl rfl ?_
    refine Own.iload (q := 257) P50 at_255 rfl rfl ?_
    refine Own.iconst (q := 258) (v := (1 : Int32)) P50 at_257 rfl rfl ?_
    refine Own.icmp_ne (q := 261) (qy := 281) P50 at_258 (by decide) rfl (fun q258 => ?_) (fun q258 => ?_)
    · refine Own.iload (q := 283) P50 at_281 rfl rfl ?_
      refine Own.iconst (q := 284) (v := (2 : Int32)) P50 at_283 rfl rfl ?_
      refine Own.icmp_ne (q := 287) (qy := 301) P50 at_284 (by decide) rfl (fun q284 => ?_) (fun q284 => ?_)
      · refine Own.iload (q := 303) P50 at_301 rfl rfl ?_
        refine Own.iconst (q := 304) (v := (3 : Int32)) P50 at_303 rfl rfl ?_
        refine Own.icmp_ne (q := 307) (qy := 327) P50 at_304 (by decide) rfl (fun q304 => ?_) (fun q304 => ?_)
        · have E0_1_51 : Ext h0 h50 := EJ50
          exact J327 _ _ _ _ nn b0 kb c0 c1 c2 c3 c4 c5 c6 k6 s7 k9 (Own.Wk.up P50 (by decide) (by decide)) N50 E0_1_51 H50 hn A_b gb rc0 rc1 rc2 rc3 rc4 rc5 rc6
        · refine Own.iload (q := 309) P50 at_307 rfl rfl ?_
          refine Own.bipush (q := 311) (v := (7 : Int32)) P50 at_309 rfl rfl ?_
          refine Own.icmp_ge (q := 314) (qy := 327) P50 at_311 (by decide) rfl (fun q311 => ?_) (fun q311 => ?_)
          · have E0_1_52 : Ext h0 h50 := EJ50
            exact J327 _ _ _ _ nn b0 kb c0 c1 c2 c3 c4 c5 c6 k6 s7 k9 (Own.Wk.up P50 (by decide) (by decide)) N50 E0_1_52 H50 hn A_b gb rc0 rc1 rc2 rc3 rc4 rc5 rc6
          · refine Own.aload (q := 316) P50 at_314 rfl rfl rfl ?_
            refine Own.iload (q := 318) P50 at_316 rfl rfl ?_
            refine Own.iload (q := 320) P50 at_318 rfl rfl ?_
            have j0_320 : ¬ nn < 0 := Own.n7_nn hn
            have j7_320 : nn < 7 := q311
            refine Own.castore (q := 321) (i := (nn).toNatClampNeg) (x2 := (x3 &&& (255 : Int32))) P50 at_320 A_b j0_320 j7_320 (Own.nar_id (Own.lo_rng _)) (Own.fits_ch (Own.lo_rng _)) rfl (Own.nat7 j0_320 j7_320) rfl ?_
            intro T53 h53 lc53 hl53 P53 W53 A53
            have N53 := Own.Fr.one N50 hl53 (Nat.le_trans Z0 gb)
            obtain ⟨d0_53, d1_53, d2_53, d3_53, d4_53, d5_53, d6_53, es53, rd0_53, rd1_53, rd2_53, rd3_53, rd4_53, rd5_53, rd6_53⟩ := Own.set7 _ (Own.nat7 j0_320 j7_320) (P := fun c => ¬ c < 0 ∧ ¬ (255 : Int32) < c) (Own.lo_rng _) rc0 rc1 rc2 rc3 rc4 rc5 rc6
            rw [es53] at A53
            refine Own.iload (q := 323) P53 at_321 rfl rfl ?_
            refine Own.iconst (q := 324) (v := (1 : Int32)) P53 at_323 rfl rfl ?_
            refine Own.iadd (q := 325) P53 at_324  rfl ?_
            refine Own.istore (q := 327) (L2 := #[.val (.int x0), .val (.int x1), .val (.int x2), .val (.int x3), .val (.long d0), .second, .val (.int k6), .val (.ref s7), .val (.int (nn + (1 : Int32))), .val (.int k9), .val (.ref b0), .val (.int (x1 &&& (3 : Int32))), .val (.int (x3 &&& (255 : Int32))), .unset, .unset, .unset, .unset]) P53 at_325 rfl rfl ?_
            have E0_1_54 : Ext h0 h50 := EJ50
            have E0_2_55 : Ext h0 h53 := (Own.Ext.wr E0_1_54 W53 gb)
            have Hd56 := (Own.Hd.wr H50 W53 (Safe.arv P53.2.2.2.1.alike A_b (by decide)))
            exact J327 _ _ _ _ (nn + (1 : Int32)) b0 kb d0_53 d1_53 d2_53 d3_53 d4_53 d5_53 d6_53 k6 s7 k9 (Own.Wk.up P53 (by decide) (by decide)) N53 E0_2_55 Hd56 (Own.plus1 hn q311) A53 gb rd0_53 rd1_53 rd2_53 rd3_53 rd4_53 rd5_53 rd6_53
      · refine Own.iload (q := 289) P50 at_287 rfl rfl ?_
        refine Own.if_le (q := 292) (qy := 301) P50 at_289 (by decide) rfl (fun q289 => ?_) (fun q289 => ?_)
        · refine Own.iload (q := 303) P50 at_301 rfl rfl ?_
          refine Own.iconst (q := 304) (v := (3 : Int32)) P50 at_303 rfl rfl ?_
          refine Own.icmp_ne (q := 307) (qy := 327) P50 at_304 (by decide) rfl (fun q304 => ?_) (fun q304 => ?_)
          · have E0_1_57 : Ext h0 h50 := EJ50
            exact J327 _ _ _ _ nn b0 kb c0 c1 c2 c3 c4 c5 c6 k6 s7 k9 (Own.Wk.up P50 (by decide) (by decide)) N50 E0_1_57 H50 hn A_b gb rc0 rc1 rc2 rc3 rc4 rc5 rc6
          · refine Own.iload (q := 309) P50 at_307 rfl rfl ?_
            refine Own.bipush (q := 311) (v := (7 : Int32)) P50 at_309 rfl rfl ?_
            refine Own.icmp_ge (q := 314) (qy := 327) P50 at_311 (by decide) rfl (fun q311 => ?_) (fun q311 => ?_)
            · have E0_1_58 : Ext h0 h50 := EJ50
              exact J327 _ _ _ _ nn b0 kb c0 c1 c2 c3 c4 c5 c6 k6 s7 k9 (Own.Wk.up P50 (by decide) (by decide)) N50 E0_1_58 H50 hn A_b gb rc0 rc1 rc2 rc3 rc4 rc5 rc6
            · refine Own.aload (q := 316) P50 at_314 rfl rfl rfl ?_
              refine Own.iload (q := 318) P50 at_316 rfl rfl ?_
              refine Own.iload (q := 320) P50 at_318 rfl rfl ?_
              have j0_320 : ¬ nn < 0 := Own.n7_nn hn
              have j7_320 : nn < 7 := q311
              refine Own.castore (q := 321) (i := (nn).toNatClampNeg) (x2 := (x3 &&& (255 : Int32))) P50 at_320 A_b j0_320 j7_320 (Own.nar_id (Own.lo_rng _)) (Own.fits_ch (Own.lo_rng _)) rfl (Own.nat7 j0_320 j7_320) rfl ?_
              intro T59 h59 lc59 hl59 P59 W59 A59
              have N59 := Own.Fr.one N50 hl59 (Nat.le_trans Z0 gb)
              obtain ⟨d0_59, d1_59, d2_59, d3_59, d4_59, d5_59, d6_59, es59, rd0_59, rd1_59, rd2_59, rd3_59, rd4_59, rd5_59, rd6_59⟩ := Own.set7 _ (Own.nat7 j0_320 j7_320) (P := fun c => ¬ c < 0 ∧ ¬ (255 : Int32) < c) (Own.lo_rng _) rc0 rc1 rc2 rc3 rc4 rc5 rc6
              rw [es59] at A59
              refine Own.iload (q := 323) P59 at_321 rfl rfl ?_
              refine Own.iconst (q := 324) (v := (1 : Int32)) P59 at_323 rfl rfl ?_
              refine Own.iadd (q := 325) P59 at_324  rfl ?_
              refine Own.istore (q := 327) (L2 := #[.val (.int x0), .val (.int x1), .val (.int x2), .val (.int x3), .val (.long d0), .second, .val (.int k6), .val (.ref s7), .val (.int (nn + (1 : Int32))), .val (.int k9), .val (.ref b0), .val (.int (x1 &&& (3 : Int32))), .val (.int (x3 &&& (255 : Int32))), .unset, .unset, .unset, .unset]) P59 at_325 rfl rfl ?_
              have E0_1_60 : Ext h0 h50 := EJ50
              have E0_2_61 : Ext h0 h59 := (Own.Ext.wr E0_1_60 W59 gb)
              have Hd62 := (Own.Hd.wr H50 W59 (Safe.arv P59.2.2.2.1.alike A_b (by decide)))
              exact J327 _ _ _ _ (nn + (1 : Int32)) b0 kb d0_59 d1_59 d2_59 d3_59 d4_59 d5_59 d6_59 k6 s7 k9 (Own.Wk.up P59 (by decide) (by decide)) N59 E0_2_61 Hd62 (Own.plus1 hn q311) A59 gb rd0_59 rd1_59 rd2_59 rd3_59 rd4_59 rd5_59 rd6_59
        · refine Own.iload (q := 294) P50 at_292 rfl rfl ?_
          refine Own.iconst (q := 295) (v := (1 : Int32)) P50 at_294 rfl rfl ?_
          refine Own.isub (q := 296) P50 at_295  rfl ?_
          refine Own.istore (q := 298) (L2 := #[.val (.int x0), .val (.int x1), .val (.int x2), .val (.int x3), .val (.long d0), .second, .val (.int k6), .val (.ref s7), .val (.int (nn - (1 : Int32))), .val (.int k9), .val (.ref b0), .val (.int (x1 &&& (3 : Int32))), .val (.int (x3 &&& (255 : Int32))), .unset, .unset, .unset, .unset]) P50 at_296 rfl rfl ?_
          refine Own.goto (q := 327) P50 at_298 (by decide) ?_
          have E0_1_63 : Ext h0 h50 := EJ50
          exact J327 _ _ _ _ (nn - (1 : Int32)) b0 kb c0 c1 c2 c3 c4 c5 c6 k6 s7 k9 (Own.Wk.up P50 (by decide) (by decide)) N50 E0_1_63 H50 (Own.minus1 hn q289) A_b gb rc0 rc1 rc2 rc3 rc4 rc5 rc6
    · refine Own.iload (q := 263) P50 at_261 rfl rfl ?_
      refine Own.if_le (q := 266) (qy := 281) P50 at_263 (by decide) rfl (fun q263 => ?_) (fun q263 => ?_)
      · refine Own.iload (q := 283) P50 at_281 rfl rfl ?_
        refine Own.iconst (q := 284) (v := (2 : Int32)) P50 at_283 rfl rfl ?_
        refine Own.icmp_ne (q := 287) (qy := 301) P50 at_284 (by decide) rfl (fun q284 => ?_) (fun q284 => ?_)
        · refine Own.iload (q := 303) P50 at_301 rfl rfl ?_
          refine Own.iconst (q := 304) (v := (3 : Int32)) P50 at_303 rfl rfl ?_
          refine Own.icmp_ne (q := 307) (qy := 327) P50 at_304 (by decide) rfl (fun q304 => ?_) (fun q304 => ?_)
          · have E0_1_64 : Ext h0 h50 := EJ50
            exact J327 _ _ _ _ nn b0 kb c0 c1 c2 c3 c4 c5 c6 k6 s7 k9 (Own.Wk.up P50 (by decide) (by decide)) N50 E0_1_64 H50 hn A_b gb rc0 rc1 rc2 rc3 rc4 rc5 rc6
          · refine Own.iload (q := 309) P50 at_307 rfl rfl ?_
            refine Own.bipush (q := 311) (v := (7 : Int32)) P50 at_309 rfl rfl ?_
            refine Own.icmp_ge (q := 314) (qy := 327) P50 at_311 (by decide) rfl (fun q311 => ?_) (fun q311 => ?_)
            · have E0_1_65 : Ext h0 h50 := EJ50
              exact J327 _ _ _ _ nn b0 kb c0 c1 c2 c3 c4 c5 c6 k6 s7 k9 (Own.Wk.up P50 (by decide) (by decide)) N50 E0_1_65 H50 hn A_b gb rc0 rc1 rc2 rc3 rc4 rc5 rc6
            · refine Own.aload (q := 316) P50 at_314 rfl rfl rfl ?_
              refine Own.iload (q := 318) P50 at_316 rfl rfl ?_
              refine Own.iload (q := 320) P50 at_318 rfl rfl ?_
              have j0_320 : ¬ nn < 0 := Own.n7_nn hn
              have j7_320 : nn < 7 := q311
              refine Own.castore (q := 321) (i := (nn).toNatClampNeg) (x2 := (x3 &&& (255 : Int32))) P50 at_320 A_b j0_320 j7_320 (Own.nar_id (Own.lo_rng _)) (Own.fits_ch (Own.lo_rng _)) rfl (Own.nat7 j0_320 j7_320) rfl ?_
              intro T66 h66 lc66 hl66 P66 W66 A66
              have N66 := Own.Fr.one N50 hl66 (Nat.le_trans Z0 gb)
              obtain ⟨d0_66, d1_66, d2_66, d3_66, d4_66, d5_66, d6_66, es66, rd0_66, rd1_66, rd2_66, rd3_66, rd4_66, rd5_66, rd6_66⟩ := Own.set7 _ (Own.nat7 j0_320 j7_320) (P := fun c => ¬ c < 0 ∧ ¬ (255 : Int32) < c) (Own.lo_rng _) rc0 rc1 rc2 rc3 rc4 rc5 rc6
              rw [es66] at A66
              refine Own.iload (q := 323) P66 at_321 rfl rfl ?_
              refine Own.iconst (q := 324) (v := (1 : Int32)) P66 at_323 rfl rfl ?_
              refine Own.iadd (q := 325) P66 at_324  rfl ?_
              refine Own.istore (q := 327) (L2 := #[.val (.int x0), .val (.int x1), .val (.int x2), .val (.int x3), .val (.long d0), .second, .val (.int k6), .val (.ref s7), .val (.int (nn + (1 : Int32))), .val (.int k9), .val (.ref b0), .val (.int (x1 &&& (3 : Int32))), .val (.int (x3 &&& (255 : Int32))), .unset, .unset, .unset, .unset]) P66 at_325 rfl rfl ?_
              have E0_1_67 : Ext h0 h50 := EJ50
              have E0_2_68 : Ext h0 h66 := (Own.Ext.wr E0_1_67 W66 gb)
              have Hd69 := (Own.Hd.wr H50 W66 (Safe.arv P66.2.2.2.1.alike A_b (by decide)))
              exact J327 _ _ _ _ (nn + (1 : Int32)) b0 kb d0_66 d1_66 d2_66 d3_66 d4_66 d5_66 d6_66 k6 s7 k9 (Own.Wk.up P66 (by decide) (by decide)) N66 E0_2_68 Hd69 (Own.plus1 hn q311) A66 gb rd0_66 rd1_66 rd2_66 rd3_66 rd4_66 rd5_66 rd6_66
        · refine Own.iload (q := 289) P50 at_287 rfl rfl ?_
          refine Own.if_le (q := 292) (qy := 301) P50 at_289 (by decide) rfl (fun q289 => ?_) (fun q289 => ?_)
          · refine Own.iload (q := 303) P50 at_301 rfl rfl ?_
            refine Own.iconst (q := 304) (v := (3 : Int32)) P50 at_303 rfl rfl ?_
            refine Own.icmp_ne (q := 307) (qy := 327) P50 at_304 (by decide) rfl (fun q304 => ?_) (fun q304 => ?_)
            · have E0_1_70 : Ext h0 h50 := EJ50
              exact J327 _ _ _ _ nn b0 kb c0 c1 c2 c3 c4 c5 c6 k6 s7 k9 (Own.Wk.up P50 (by decide) (by decide)) N50 E0_1_70 H50 hn A_b gb rc0 rc1 rc2 rc3 rc4 rc5 rc6
            · refine Own.iload (q := 309) P50 at_307 rfl rfl ?_
              refine Own.bipush (q := 311) (v := (7 : Int32)) P50 at_309 rfl rfl ?_
              refine Own.icmp_ge (q := 314) (qy := 327) P50 at_311 (by decide) rfl (fun q311 => ?_) (fun q311 => ?_)
              · have E0_1_71 : Ext h0 h50 := EJ50
                exact J327 _ _ _ _ nn b0 kb c0 c1 c2 c3 c4 c5 c6 k6 s7 k9 (Own.Wk.up P50 (by decide) (by decide)) N50 E0_1_71 H50 hn A_b gb rc0 rc1 rc2 rc3 rc4 rc5 rc6
              · refine Own.aload (q := 316) P50 at_314 rfl rfl rfl ?_
                refine Own.iload (q := 318) P50 at_316 rfl rfl ?_
                refine Own.iload (q := 320) P50 at_318 rfl rfl ?_
                have j0_320 : ¬ nn < 0 := Own.n7_nn hn
                have j7_320 : nn < 7 := q311
                refine Own.castore (q := 321) (i := (nn).toNatClampNeg) (x2 := (x3 &&& (255 : Int32))) P50 at_320 A_b j0_320 j7_320 (Own.nar_id (Own.lo_rng _)) (Own.fits_ch (Own.lo_rng _)) rfl (Own.nat7 j0_320 j7_320) rfl ?_
                intro T72 h72 lc72 hl72 P72 W72 A72
                have N72 := Own.Fr.one N50 hl72 (Nat.le_trans Z0 gb)
                obtain ⟨d0_72, d1_72, d2_72, d3_72, d4_72, d5_72, d6_72, es72, rd0_72, rd1_72, rd2_72, rd3_72, rd4_72, rd5_72, rd6_72⟩ := Own.set7 _ (Own.nat7 j0_320 j7_320) (P := fun c => ¬ c < 0 ∧ ¬ (255 : Int32) < c) (Own.lo_rng _) rc0 rc1 rc2 rc3 rc4 rc5 rc6
                rw [es72] at A72
                refine Own.iload (q := 323) P72 at_321 rfl rfl ?_
                refine Own.iconst (q := 324) (v := (1 : Int32)) P72 at_323 rfl rfl ?_
                refine Own.iadd (q := 325) P72 at_324  rfl ?_
                refine Own.istore (q := 327) (L2 := #[.val (.int x0), .val (.int x1), .val (.int x2), .val (.int x3), .val (.long d0), .second, .val (.int k6), .val (.ref s7), .val (.int (nn + (1 : Int32))), .val (.int k9), .val (.ref b0), .val (.int (x1 &&& (3 : Int32))), .val (.int (x3 &&& (255 : Int32))), .unset, .unset, .unset, .unset]) P72 at_325 rfl rfl ?_
                have E0_1_73 : Ext h0 h50 := EJ50
                have E0_2_74 : Ext h0 h72 := (Own.Ext.wr E0_1_73 W72 gb)
                have Hd75 := (Own.Hd.wr H50 W72 (Safe.arv P72.2.2.2.1.alike A_b (by decide)))
                exact J327 _ _ _ _ (nn + (1 : Int32)) b0 kb d0_72 d1_72 d2_72 d3_72 d4_72 d5_72 d6_72 k6 s7 k9 (Own.Wk.up P72 (by decide) (by decide)) N72 E0_2_74 Hd75 (Own.plus1 hn q311) A72 gb rd0_72 rd1_72 rd2_72 rd3_72 rd4_72 rd5_72 rd6_72
          · refine Own.iload (q := 294) P50 at_292 rfl rfl ?_
            refine Own.iconst (q := 295) (v := (1 : Int32)) P50 at_294 rfl rfl ?_
            refine Own.isub (q := 296) P50 at_295  rfl ?_
            refine Own.istore (q := 298) (L2 := #[.val (.int x0), .val (.int x1), .val (.int x2), .val (.int x3), .val (.long d0), .second, .val (.int k6), .val (.ref s7), .val (.int (nn - (1 : Int32))), .val (.int k9), .val (.ref b0), .val (.int (x1 &&& (3 : Int32))), .val (.int (x3 &&& (255 : Int32))), .unset, .unset, .unset, .unset]) P50 at_296 rfl rfl ?_
            refine Own.goto (q := 327) P50 at_298 (by decide) ?_
            have E0_1_76 : Ext h0 h50 := EJ50
            exact J327 _ _ _ _ (nn - (1 : Int32)) b0 kb c0 c1 c2 c3 c4 c5 c6 k6 s7 k9 (Own.Wk.up P50 (by decide) (by decide)) N50 E0_1_76 H50 (Own.minus1 hn q289) A_b gb rc0 rc1 rc2 rc3 rc4 rc5 rc6
      · refine Own.aload (q := 268) P50 at_266 rfl rfl rfl ?_
        refine Own.iloadN (q := 269) P50 at_268 rfl rfl ?_
        refine Own.ldcI (q := 271) (v := (2147483647 : Int32)) P50 at_269 (hw _ (List.mem_of_getElem? (i := 146) rfl)) rfl ?_
        refine Own.iand (q := 272) P50 at_271  rfl ?_
        refine Own.iload (q := 274) P50 at_272 rfl rfl ?_
        refine Own.irem (q := 275) P50 at_274 (fun z => absurd q263 (by rw [z]; decide)) rfl ?_
        refine Own.iload (q := 277) P50 at_275 rfl rfl ?_
        have j0_277 : ¬ ((x2 &&& (2147483647 : Int32)) % nn) < 0 := (Own.rem_in _ hn q263).1
        have j7_277 : ((x2 &&& (2147483647 : Int32)) % nn) < 7 := Own.lt_n7 hn (Own.rem_in _ hn q263).2
        refine Own.castore (q := 278) (i := (((x2 &&& (2147483647 : Int32)) % nn)).toNatClampNeg) (x2 := (x3 &&& (255 : Int32))) P50 at_277 A_b j0_277 j7_277 (Own.nar_id (Own.lo_rng _)) (Own.fits_ch (Own.lo_rng _)) rfl (Own.nat7 j0_277 j7_277) rfl ?_
        intro T77 h77 lc77 hl77 P77 W77 A77
        have N77 := Own.Fr.one N50 hl77 (Nat.le_trans Z0 gb)
        obtain ⟨d0_77, d1_77, d2_77, d3_77, d4_77, d5_77, d6_77, es77, rd0_77, rd1_77, rd2_77, rd3_77, rd4_77, rd5_77, rd6_77⟩ := Own.set7 _ (Own.nat7 j0_277 j7_277) (P := fun c => ¬ c < 0 ∧ ¬ (255 : Int32) < c) (Own.lo_rng _) rc0 rc1 rc2 rc3 rc4 rc5 rc6
        rw [es77] at A77
        refine Own.goto (q := 327) P77 at_278 (by decide) ?_
        have E0_1_78 : Ext h0 h50 := EJ50
        have E0_2_79 : Ext h0 h77 := (Own.Ext.wr E0_1_78 W77 gb)
        have Hd80 := (Own.Hd.wr H50 W77 (Safe.arv P77.2.2.2.1.alike A_b (by decide)))
        exact J327 _ _ _ _ nn b0 kb d0_77 d1_77 d2_77 d3_77 d4_77 d5_77 d6_77 k6 s7 k9 (Own.Wk.up P77 (by decide) (by decide)) N77 E0_2_79 Hd80 hn A77 gb rd0_77 rd1_77 rd2_77 rd3_77 rd4_77 rd5_77 rd6_77
  refine Own.iloadN (q := 1) P0 at_0 rfl rfl ?_
  refine Own.iconst (q := 2) (v := (3 : Int32)) P0 at_1 rfl rfl ?_
  refine Own.iand (q := 3) P0 at_2  rfl ?_
  refine Own.istore (q := 5) (L2 := #[.val (.int x0), .val (.int x1), .val (.int x2), .val (.int x3), .val (.long d0), .second, .val (.int (x0 &&& (3 : Int32))), .unset, .unset, .unset, .unset, .unset, .unset, .unset, .unset, .unset, .unset]) P0 at_3 rfl rfl ?_
  refine Own.iload (q := 7) P0 at_5 rfl rfl ?_
  refine Own.if_ne (q := 10) (qy := 15) P0 at_7 (by decide) rfl (fun q7 => ?_) (fun q7 => ?_)
  · refine Own.iload (q := 17) P0 at_15 rfl rfl ?_
    refine Own.iconst (q := 18) (v := (1 : Int32)) P0 at_17 rfl rfl ?_
    refine Own.icmp_ne (q := 21) (qy := 26) P0 at_18 (by decide) rfl (fun q18 => ?_) (fun q18 => ?_)
    · refine Own.ldcStr (q := 28) (n := 20) (cs := [(100 : Int32), (99 : Int32), (110 : Int32), (100 : Int32), (108 : Int32)]) P0 H0 at_26 (hw _ (List.mem_of_getElem? (i := 120) rfl)) (fun a ha => hw a (sub_str a ha)) (ew hw) (by decide) (by decide) (Own.chS (by decide) (Own.chS (by decide) (Own.chS (by decide) (Own.chS (by decide) (Own.chS (by decide) Own.ch0))))) (by decide) (by decide) (by decide) (by decide) (by decide) (by decide) (by decide) rfl ?_
      intro T81 vm81 h81 a81 P81 H81 hr81 E81 St81
      refine Own.astore (q := 30) (L2 := #[.val (.int x0), .val (.int x1), .val (.int x2), .val (.int x3), .val (.long d0), .second, .val (.int (x0 &&& (3 : Int32))), .val (.ref a81), .unset, .unset, .unset, .unset, .unset, .unset, .unset, .unset, .unset]) P81 at_28 rfl rfl rfl ?_
      refine Own.iload (q := 32) P81 at_30 rfl rfl ?_
      refine Own.iconst (q := 33) (v := (3 : Int32)) P81 at_32 rfl rfl ?_
      refine Own.icmp_ne (q := 36) (qy := 45) P81 at_33 (by decide) rfl (fun q33 => ?_) (fun q33 => ?_)
      · refine Own.aload (q := 47) P81 at_45 rfl rfl rfl ?_
        have E0_1_82 : Ext h0 h81 := E81
        refine Own.invVirtual (q := 50) (W := 0) (y := (⟨"java/lang/String", "length", "()I"⟩ : MethodName)) (a := a81) (argsL := []) (rest := []) P81 at_47 (hw _ (List.mem_of_getElem? (i := 8) rfl)) (hw _ (List.mem_of_getElem? (i := 9) rfl)) (hw _ (List.mem_of_getElem? (i := 11) rfl)) (hw _ (List.mem_of_getElem? (i := 10) rfl)) (notFace_of_selects (args := #[]) (mvT P81.2.2.2.1 (hw _ (List.mem_of_getElem? (i := 11) rfl)))) (by decide) (Own.lenB (W := 0) (n0 := n0) P81.2.2.2.1 (fun d hd => hw d (sub_lenW d hd)) (hw _ (List.mem_of_getElem? (i := 2) rfl)) St81 (SC.ext E0_1_82) hzc (by decide) (by decide)) St81.exa rfl rfl (by rw [hml]; rfl) (lenOf (show parseMethodDescriptor "()I" = some ⟨[], some .int⟩ from by decide +kernel) rfl) (by show 2 * 0 + _ ≤ _; exact Nat.le_of_eq rfl) (by decide) (by decide) rfl ?_
        rintro v83 T83 h83 L83 ⟨rfl, N83q, e83⟩ P83
        rw [e83] at P83
        have N83 := Fr.app N0 N83q
        show Own.Goes _ _ _ _ (T83.setTop (mkF m 50 #[.val (.int x0), .val (.int x1), .val (.int x2), .val (.int x3), .val (.long d0), .second, .val (.int (x0 &&& (3 : Int32))), .val (.ref a81), .unset, .unset, .unset, .unset, .unset, .unset, .unset, .unset, .unset] [(.int (5 : Int32))]))
        refine Own.istore (q := 52) (L2 := #[.val (.int x0), .val (.int x1), .val (.int x2), .val (.int x3), .val (.long d0), .second, .val (.int (x0 &&& (3 : Int32))), .val (.ref a81), .val (.int (5 : Int32)), .unset, .unset, .unset, .unset, .unset, .unset, .unset, .unset]) P83 at_50 rfl rfl ?_
        refine Own.iload (q := 54) P83 at_52 rfl rfl ?_
        refine Own.iconst (q := 55) (v := (3 : Int32)) P83 at_54 rfl rfl ?_
        refine Own.icmp_ne (q := 58) (qy := 62) P83 at_55 (by decide) rfl (fun _ => ?_) (fun z => absurd z q33)
        refine Own.iconst (q := 63) (v := (0 : Int32)) P83 at_62 rfl rfl ?_
        refine Own.istore (q := 65) (L2 := #[.val (.int x0), .val (.int x1), .val (.int x2), .val (.int x3), .val (.long d0), .second, .val (.int (x0 &&& (3 : Int32))), .val (.ref a81), .val (.int (5 : Int32)), .val (.int (0 : Int32)), .unset, .unset, .unset, .unset, .unset, .unset, .unset]) P83 at_63 rfl rfl ?_
        refine Own.bipush (q := 67) (v := (7 : Int32)) P83 at_65 rfl rfl ?_
        refine Own.newarr (q := 69) (cap := 7) P83 at_67 (hw _ (List.mem_of_getElem? (i := 21) rfl)) (by decide) (by decide) (by decide) (by decide) (by decide) rfl ?_
        intro T84 h84 a84 k84 ha84 P84 E84 A84
        have V84 : Arv Z h84 a84 k84 .char (7 : Int32) [(.int 0), (.int 0), (.int 0), (.int 0), (.int 0), (.int 0), (.int 0)] (.int 0) := Arv.pad A84 (pad_rep [] _ 7)
        refine Own.astore (q := 71) (L2 := #[.val (.int x0), .val (.int x1), .val (.int x2), .val (.int x3), .val (.long d0), .second, .val (.int (x0 &&& (3 : Int32))), .val (.ref a81), .val (.int (5 : Int32)), .val (.int (0 : Int32)), .val (.ref a84), .unset, .unset, .unset, .unset, .unset, .unset]) P84 at_69 rfl rfl rfl ?_
        refine Own.aload (q := 73) P84 at_71 rfl rfl rfl ?_
        refine Own.iconst (q := 74) (v := (0 : Int32)) P84 at_73 rfl rfl ?_
        refine Own.iload (q := 76) P84 at_74 rfl rfl ?_
        refine Own.if_eq (q := 79) (qy := 88) P84 at_76 (by decide) rfl (fun _ => ?_) (fun q => absurd rfl q)
        refine Own.aload (q := 90) P84 at_88 rfl rfl rfl ?_
        refine Own.iconst (q := 91) (v := (0 : Int32)) P84 at_90 rfl rfl ?_
        have E0_2_85 : Ext h0 h84 := (Own.Ext.tr E0_1_82 E84)
        have E1_2_86 : Ext h81 h84 := E84
        refine Own.invStatic (q := 94) (W := 2) (y := (⟨"com/example/mokuroku/mokuroku/core/FormatByCliNamePinLaw", "at", "(Ljava/lang/String;I)C"⟩ : MethodName)) (argsL := [(.ref a81), (.int (0 : Int32))]) (rest := [(.int (0 : Int32)), (.ref a84)]) P84 at_91 (hw _ (List.mem_of_getElem? (i := 22) rfl)) (hw _ (List.mem_of_getElem? (i := 23) rfl)) (hw _ (List.mem_of_getElem? (i := 24) rfl)) (hw _ (List.mem_of_getElem? (i := 25) rfl)) (by decide) (backOf (W := 2) (rmAt l Z a0 hw [] a81 [(100 : Int32), (99 : Int32), (110 : Int32), (100 : Int32), (108 : Int32)] (0 : Int32) 0 zc fm h84 n0 (Nat.le_trans Z0 E0_2_85.1) (SC.ext E0_2_85) hzc (SF.ext E0_2_85) hfm (St81.ext E1_2_86) rfl (by decide)) P84.2.2.2.1 (hw _ (List.mem_of_getElem? (i := 25) rfl)) (hw _ (List.mem_of_getElem? (i := 24) rfl)) (by decide) (by decide)) rfl rfl (by rw [hml]; rfl) (lenOf (show parseMethodDescriptor "(Ljava/lang/String;I)C" = some ⟨[(.object "java/lang/String"), .int], some .char⟩ from by decide +kernel) rfl) (by show 2 * 0 + _ ≤ _; exact Nat.le_of_eq rfl) (by decide) (by decide) rfl ?_
        rintro v87 T87 h87 L87 ⟨rfl, N87q, e87⟩ P87
        rw [e87] at P87
        have N87 := Fr.app N83 N87q
        show Own.Goes _ _ _ _ (T87.setTop (mkF m 94 #[.val (.int x0), .val (.int x1), .val (.int x2), .val (.int x3), .val (.long d0), .second, .val (.int (x0 &&& (3 : Int32))), .val (.ref a81), .val (.int (5 : Int32)), .val (.int (0 : Int32)), .val (.ref a84), .unset, .unset, .unset, .unset, .unset, .unset] [(.int (([(100 : Int32), (99 : Int32), (110 : Int32), (100 : Int32), (108 : Int32)] : List Int32).getD 0 0)), (.int (0 : Int32)), (.ref a84)]))
        have rc0 := Own.getD_rng (Own.Str.rng (St81.ext E1_2_86)) 0
        generalize (([(100 : Int32), (99 : Int32), (110 : Int32), (100 : Int32), (108 : Int32)] : List Int32).getD 0 0) = c0 at rc0 ⊢
        refine Own.castore (q := 95) (i := 0) (x2 := c0) P87 at_94 V84 (by decide) (by decide) (Own.nar_id rc0) (Own.fits_ch rc0) (by decide) (Own.ltb rfl) rfl ?_
        intro T88 h88 lc88 hl88 P88 W88 A88
        have V88 : Arv Z h88 a84 k84 .char (7 : Int32) [(.int c0), (.int 0), (.int 0), (.int 0), (.int 0), (.int 0), (.int 0)] (.int 0) := A88
        have N88 := Own.Fr.one N87 hl88 (Nat.le_trans Z0 (Nat.le_trans E0_1_82.1 (Nat.le_of_eq ha84.symm)))
        refine Own.aload (q := 97) P88 at_95 rfl rfl rfl ?_
        refine Own.iconst (q := 98) (v := (1 : Int32)) P88 at_97 rfl rfl ?_
        refine Own.iload (q := 100) P88 at_98 rfl rfl ?_
        refine Own.if_eq (q := 103) (qy := 112) P88 at_100 (by decide) rfl (fun _ => ?_) (fun q => absurd rfl q)
        refine Own.aload (q := 114) P88 at_112 rfl rfl rfl ?_
        refine Own.iconst (q := 115) (v := (1 : Int32)) P88 at_114 rfl rfl ?_
        have E0_3_89 : Ext h0 h88 := (Own.Ext.wr E0_2_85 W88 (Nat.le_trans E0_1_82.1 (Nat.le_of_eq ha84.symm)))
        have E1_3_90 : Ext h81 h88 := (Own.Ext.wr E1_2_86 W88 (Nat.le_of_eq ha84.symm))
        refine Own.invStatic (q := 118) (W := 2) (y := (⟨"com/example/mokuroku/mokuroku/core/FormatByCliNamePinLaw", "at", "(Ljava/lang/String;I)C"⟩ : MethodName)) (argsL := [(.ref a81), (.int (1 : Int32))]) (rest := [(.int (1 : Int32)), (.ref a84)]) P88 at_115 (hw _ (List.mem_of_getElem? (i := 22) rfl)) (hw _ (List.mem_of_getElem? (i := 23) rfl)) (hw _ (List.mem_of_getElem? (i := 24) rfl)) (hw _ (List.mem_of_getElem? (i := 25) rfl)) (by decide) (backOf (W := 2) (rmAt l Z a0 hw [] a81 [(100 : Int32), (99 : Int32), (110 : Int32), (100 : Int32), (108 : Int32)] (1 : Int32) 1 zc fm h88 n0 (Nat.le_trans Z0 E0_3_89.1) (SC.ext E0_3_89) hzc (SF.ext E0_3_89) hfm (St81.ext E1_3_90) rfl (by decide)) P88.2.2.2.1 (hw _ (List.mem_of_getElem? (i := 25) rfl)) (hw _ (List.mem_of_getElem? (i := 24) rfl)) (by decide) (by decide)) rfl rfl (by rw [hml]; rfl) (lenOf (show parseMethodDescriptor "(Ljava/lang/String;I)C" = some ⟨[(.object "java/lang/String"), .int], some .char⟩ from by decide +kernel) rfl) (by show 2 * 0 + _ ≤ _; exact Nat.le_of_eq rfl) (by decide) (by decide) rfl ?_
        rintro v91 T91 h91 L91 ⟨rfl, N91q, e91⟩ P91
        rw [e91] at P91
        have N91 := Fr.app N88 N91q
        show Own.Goes _ _ _ _ (T91.setTop (mkF m 118 #[.val (.int x0), .val (.int x1), .val (.int x2), .val (.int x3), .val (.long d0), .second, .val (.int (x0 &&& (3 : Int32))), .val (.ref a81), .val (.int (5 : Int32)), .val (.int (0 : Int32)), .val (.ref a84), .unset, .unset, .unset, .unset, .unset, .unset] [(.int (([(100 : Int32), (99 : Int32), (110 : Int32), (100 : Int32), (108 : Int32)] : List Int32).getD 1 0)), (.int (1 : Int32)), (.ref a84)]))
        have rc1 := Own.getD_rng (Own.Str.rng (St81.ext E1_3_90)) 1
        generalize (([(100 : Int32), (99 : Int32), (110 : Int32), (100 : Int32), (108 : Int32)] : List Int32).getD 1 0) = c1 at rc1 ⊢
        refine Own.castore (q := 119) (i := 1) (x2 := c1) P91 at_118 V88 (by decide) (by decide) (Own.nar_id rc1) (Own.fits_ch rc1) (by decide) (Own.ltb rfl) rfl ?_
        intro T92 h92 lc92 hl92 P92 W92 A92
        have V92 : Arv Z h92 a84 k84 .char (7 : Int32) [(.int c0), (.int c1), (.int 0), (.int 0), (.int 0), (.int 0), (.int 0)] (.int 0) := A92
        have N92 := Own.Fr.one N91 hl92 (Nat.le_trans Z0 (Nat.le_trans E0_1_82.1 (Nat.le_of_eq ha84.symm)))
        refine Own.aload (q := 121) P92 at_119 rfl rfl rfl ?_
        refine Own.iconst (q := 122) (v := (2 : Int32)) P92 at_121 rfl rfl ?_
        refine Own.iload (q := 124) P92 at_122 rfl rfl ?_
        refine Own.if_eq (q := 127) (qy := 136) P92 at_124 (by decide) rfl (fun _ => ?_) (fun q => absurd rfl q)
        refine Own.aload (q := 138) P92 at_136 rfl rfl rfl ?_
        refine Own.iconst (q := 139) (v := (2 : Int32)) P92 at_138 rfl rfl ?_
        have E0_4_93 : Ext h0 h92 := (Own.Ext.wr E0_3_89 W92 (Nat.le_trans E0_1_82.1 (Nat.le_of_eq ha84.symm)))
        have E1_4_94 : Ext h81 h92 := (Own.Ext.wr E1_3_90 W92 (Nat.le_of_eq ha84.symm))
        refine Own.invStatic (q := 142) (W := 2) (y := (⟨"com/example/mokuroku/mokuroku/core/FormatByCliNamePinLaw", "at", "(Ljava/lang/String;I)C"⟩ : MethodName)) (argsL := [(.ref a81), (.int (2 : Int32))]) (rest := [(.int (2 : Int32)), (.ref a84)]) P92 at_139 (hw _ (List.mem_of_getElem? (i := 22) rfl)) (hw _ (List.mem_of_getElem? (i := 23) rfl)) (hw _ (List.mem_of_getElem? (i := 24) rfl)) (hw _ (List.mem_of_getElem? (i := 25) rfl)) (by decide) (backOf (W := 2) (rmAt l Z a0 hw [] a81 [(100 : Int32), (99 : Int32), (110 : Int32), (100 : Int32), (108 : Int32)] (2 : Int32) 2 zc fm h92 n0 (Nat.le_trans Z0 E0_4_93.1) (SC.ext E0_4_93) hzc (SF.ext E0_4_93) hfm (St81.ext E1_4_94) rfl (by decide)) P92.2.2.2.1 (hw _ (List.mem_of_getElem? (i := 25) rfl)) (hw _ (List.mem_of_getElem? (i := 24) rfl)) (by decide) (by decide)) rfl rfl (by rw [hml]; rfl) (lenOf (show parseMethodDescriptor "(Ljava/lang/String;I)C" = some ⟨[(.object "java/lang/String"), .int], some .char⟩ from by decide +kernel) rfl) (by show 2 * 0 + _ ≤ _; exact Nat.le_of_eq rfl) (by decide) (by decide) rfl ?_
        rintro v95 T95 h95 L95 ⟨rfl, N95q, e95⟩ P95
        rw [e95] at P95
        have N95 := Fr.app N92 N95q
        show Own.Goes _ _ _ _ (T95.setTop (mkF m 142 #[.val (.int x0), .val (.int x1), .val (.int x2), .val (.int x3), .val (.long d0), .second, .val (.int (x0 &&& (3 : Int32))), .val (.ref a81), .val (.int (5 : Int32)), .val (.int (0 : Int32)), .val (.ref a84), .unset, .unset, .unset, .unset, .unset, .unset] [(.int (([(100 : Int32), (99 : Int32), (110 : Int32), (100 : Int32), (108 : Int32)] : List Int32).getD 2 0)), (.int (2 : Int32)), (.ref a84)]))
        have rc2 := Own.getD_rng (Own.Str.rng (St81.ext E1_4_94)) 2
        generalize (([(100 : Int32), (99 : Int32), (110 : Int32), (100 : Int32), (108 : Int32)] : List Int32).getD 2 0) = c2 at rc2 ⊢
        refine Own.castore (q := 143) (i := 2) (x2 := c2) P95 at_142 V92 (by decide) (by decide) (Own.nar_id rc2) (Own.fits_ch rc2) (by decide) (Own.ltb rfl) rfl ?_
        intro T96 h96 lc96 hl96 P96 W96 A96
        have V96 : Arv Z h96 a84 k84 .char (7 : Int32) [(.int c0), (.int c1), (.int c2), (.int 0), (.int 0), (.int 0), (.int 0)] (.int 0) := A96
        have N96 := Own.Fr.one N95 hl96 (Nat.le_trans Z0 (Nat.le_trans E0_1_82.1 (Nat.le_of_eq ha84.symm)))
        refine Own.aload (q := 145) P96 at_143 rfl rfl rfl ?_
        refine Own.iconst (q := 146) (v := (3 : Int32)) P96 at_145 rfl rfl ?_
        refine Own.iload (q := 148) P96 at_146 rfl rfl ?_
        refine Own.if_eq (q := 151) (qy := 160) P96 at_148 (by decide) rfl (fun _ => ?_) (fun q => absurd rfl q)
        refine Own.aload (q := 162) P96 at_160 rfl rfl rfl ?_
        refine Own.iconst (q := 163) (v := (3 : Int32)) P96 at_162 rfl rfl ?_
        have E0_5_97 : Ext h0 h96 := (Own.Ext.wr E0_4_93 W96 (Nat.le_trans E0_1_82.1 (Nat.le_of_eq ha84.symm)))
        have E1_5_98 : Ext h81 h96 := (Own.Ext.wr E1_4_94 W96 (Nat.le_of_eq ha84.symm))
        refine Own.invStatic (q := 166) (W := 2) (y := (⟨"com/example/mokuroku/mokuroku/core/FormatByCliNamePinLaw", "at", "(Ljava/lang/String;I)C"⟩ : MethodName)) (argsL := [(.ref a81), (.int (3 : Int32))]) (rest := [(.int (3 : Int32)), (.ref a84)]) P96 at_163 (hw _ (List.mem_of_getElem? (i := 22) rfl)) (hw _ (List.mem_of_getElem? (i := 23) rfl)) (hw _ (List.mem_of_getElem? (i := 24) rfl)) (hw _ (List.mem_of_getElem? (i := 25) rfl)) (by decide) (backOf (W := 2) (rmAt l Z a0 hw [] a81 [(100 : Int32), (99 : Int32), (110 : Int32), (100 : Int32), (108 : Int32)] (3 : Int32) 3 zc fm h96 n0 (Nat.le_trans Z0 E0_5_97.1) (SC.ext E0_5_97) hzc (SF.ext E0_5_97) hfm (St81.ext E1_5_98) rfl (by decide)) P96.2.2.2.1 (hw _ (List.mem_of_getElem? (i := 25) rfl)) (hw _ (List.mem_of_getElem? (i := 24) rfl)) (by decide) (by decide)) rfl rfl (by rw [hml]; rfl) (lenOf (show parseMethodDescriptor "(Ljava/lang/String;I)C" = some ⟨[(.object "java/lang/String"), .int], some .char⟩ from by decide +kernel) rfl) (by show 2 * 0 + _ ≤ _; exact Nat.le_of_eq rfl) (by decide) (by decide) rfl ?_
        rintro v99 T99 h99 L99 ⟨rfl, N99q, e99⟩ P99
        rw [e99] at P99
        have N99 := Fr.app N96 N99q
        show Own.Goes _ _ _ _ (T99.setTop (mkF m 166 #[.val (.int x0), .val (.int x1), .val (.int x2), .val (.int x3), .val (.long d0), .second, .val (.int (x0 &&& (3 : Int32))), .val (.ref a81), .val (.int (5 : Int32)), .val (.int (0 : Int32)), .val (.ref a84), .unset, .unset, .unset, .unset, .unset, .unset] [(.int (([(100 : Int32), (99 : Int32), (110 : Int32), (100 : Int32), (108 : Int32)] : List Int32).getD 3 0)), (.int (3 : Int32)), (.ref a84)]))
        have rc3 := Own.getD_rng (Own.Str.rng (St81.ext E1_5_98)) 3
        generalize (([(100 : Int32), (99 : Int32), (110 : Int32), (100 : Int32), (108 : Int32)] : List Int32).getD 3 0) = c3 at rc3 ⊢
        refine Own.castore (q := 167) (i := 3) (x2 := c3) P99 at_166 V96 (by decide) (by decide) (Own.nar_id rc3) (Own.fits_ch rc3) (by decide) (Own.ltb rfl) rfl ?_
        intro T100 h100 lc100 hl100 P100 W100 A100
        have V100 : Arv Z h100 a84 k84 .char (7 : Int32) [(.int c0), (.int c1), (.int c2), (.int c3), (.int 0), (.int 0), (.int 0)] (.int 0) := A100
        have N100 := Own.Fr.one N99 hl100 (Nat.le_trans Z0 (Nat.le_trans E0_1_82.1 (Nat.le_of_eq ha84.symm)))
        refine Own.aload (q := 169) P100 at_167 rfl rfl rfl ?_
        refine Own.iconst (q := 170) (v := (4 : Int32)) P100 at_169 rfl rfl ?_
        refine Own.iload (q := 172) P100 at_170 rfl rfl ?_
        refine Own.if_eq (q := 175) (qy := 184) P100 at_172 (by decide) rfl (fun _ => ?_) (fun q => absurd rfl q)
        refine Own.aload (q := 186) P100 at_184 rfl rfl rfl ?_
        refine Own.iconst (q := 187) (v := (4 : Int32)) P100 at_186 rfl rfl ?_
        have E0_6_101 : Ext h0 h100 := (Own.Ext.wr E0_5_97 W100 (Nat.le_trans E0_1_82.1 (Nat.le_of_eq ha84.symm)))
        have E1_6_102 : Ext h81 h100 := (Own.Ext.wr E1_5_98 W100 (Nat.le_of_eq ha84.symm))
        refine Own.invStatic (q := 190) (W := 2) (y := (⟨"com/example/mokuroku/mokuroku/core/FormatByCliNamePinLaw", "at", "(Ljava/lang/String;I)C"⟩ : MethodName)) (argsL := [(.ref a81), (.int (4 : Int32))]) (rest := [(.int (4 : Int32)), (.ref a84)]) P100 at_187 (hw _ (List.mem_of_getElem? (i := 22) rfl)) (hw _ (List.mem_of_getElem? (i := 23) rfl)) (hw _ (List.mem_of_getElem? (i := 24) rfl)) (hw _ (List.mem_of_getElem? (i := 25) rfl)) (by decide) (backOf (W := 2) (rmAt l Z a0 hw [] a81 [(100 : Int32), (99 : Int32), (110 : Int32), (100 : Int32), (108 : Int32)] (4 : Int32) 4 zc fm h100 n0 (Nat.le_trans Z0 E0_6_101.1) (SC.ext E0_6_101) hzc (SF.ext E0_6_101) hfm (St81.ext E1_6_102) rfl (by decide)) P100.2.2.2.1 (hw _ (List.mem_of_getElem? (i := 25) rfl)) (hw _ (List.mem_of_getElem? (i := 24) rfl)) (by decide) (by decide)) rfl rfl (by rw [hml]; rfl) (lenOf (show parseMethodDescriptor "(Ljava/lang/String;I)C" = some ⟨[(.object "java/lang/String"), .int], some .char⟩ from by decide +kernel) rfl) (by show 2 * 0 + _ ≤ _; exact Nat.le_of_eq rfl) (by decide) (by decide) rfl ?_
        rintro v103 T103 h103 L103 ⟨rfl, N103q, e103⟩ P103
        rw [e103] at P103
        have N103 := Fr.app N100 N103q
        show Own.Goes _ _ _ _ (T103.setTop (mkF m 190 #[.val (.int x0), .val (.int x1), .val (.int x2), .val (.int x3), .val (.long d0), .second, .val (.int (x0 &&& (3 : Int32))), .val (.ref a81), .val (.int (5 : Int32)), .val (.int (0 : Int32)), .val (.ref a84), .unset, .unset, .unset, .unset, .unset, .unset] [(.int (([(100 : Int32), (99 : Int32), (110 : Int32), (100 : Int32), (108 : Int32)] : List Int32).getD 4 0)), (.int (4 : Int32)), (.ref a84)]))
        have rc4 := Own.getD_rng (Own.Str.rng (St81.ext E1_6_102)) 4
        generalize (([(100 : Int32), (99 : Int32), (110 : Int32), (100 : Int32), (108 : Int32)] : List Int32).getD 4 0) = c4 at rc4 ⊢
        refine Own.castore (q := 191) (i := 4) (x2 := c4) P103 at_190 V100 (by decide) (by decide) (Own.nar_id rc4) (Own.fits_ch rc4) (by decide) (Own.ltb rfl) rfl ?_
        intro T104 h104 lc104 hl104 P104 W104 A104
        have V104 : Arv Z h104 a84 k84 .char (7 : Int32) [(.int c0), (.int c1), (.int c2), (.int c3), (.int c4), (.int 0), (.int 0)] (.int 0) := A104
        have N104 := Own.Fr.one N103 hl104 (Nat.le_trans Z0 (Nat.le_trans E0_1_82.1 (Nat.le_of_eq ha84.symm)))
        refine Own.aload (q := 193) P104 at_191 rfl rfl rfl ?_
        refine Own.iconst (q := 194) (v := (5 : Int32)) P104 at_193 rfl rfl ?_
        refine Own.iload (q := 196) P104 at_194 rfl rfl ?_
        refine Own.if_eq (q := 199) (qy := 208) P104 at_196 (by decide) rfl (fun _ => ?_) (fun q => absurd rfl q)
        refine Own.aload (q := 210) P104 at_208 rfl rfl rfl ?_
        refine Own.iconst (q := 211) (v := (5 : Int32)) P104 at_210 rfl rfl ?_
        have E0_7_105 : Ext h0 h104 := (Own.Ext.wr E0_6_101 W104 (Nat.le_trans E0_1_82.1 (Nat.le_of_eq ha84.symm)))
        have E1_7_106 : Ext h81 h104 := (Own.Ext.wr E1_6_102 W104 (Nat.le_of_eq ha84.symm))
        refine Own.invStatic (q := 214) (W := 2) (y := (⟨"com/example/mokuroku/mokuroku/core/FormatByCliNamePinLaw", "at", "(Ljava/lang/String;I)C"⟩ : MethodName)) (argsL := [(.ref a81), (.int (5 : Int32))]) (rest := [(.int (5 : Int32)), (.ref a84)]) P104 at_211 (hw _ (List.mem_of_getElem? (i := 22) rfl)) (hw _ (List.mem_of_getElem? (i := 23) rfl)) (hw _ (List.mem_of_getElem? (i := 24) rfl)) (hw _ (List.mem_of_getElem? (i := 25) rfl)) (by decide) (backOf (W := 2) (rmAt l Z a0 hw [] a81 [(100 : Int32), (99 : Int32), (110 : Int32), (100 : Int32), (108 : Int32)] (5 : Int32) 5 zc fm h104 n0 (Nat.le_trans Z0 E0_7_105.1) (SC.ext E0_7_105) hzc (SF.ext E0_7_105) hfm (St81.ext E1_7_106) rfl (by decide)) P104.2.2.2.1 (hw _ (List.mem_of_getElem? (i := 25) rfl)) (hw _ (List.mem_of_getElem? (i := 24) rfl)) (by decide) (by decide)) rfl rfl (by rw [hml]; rfl) (lenOf (show parseMethodDescriptor "(Ljava/lang/String;I)C" = some ⟨[(.object "java/lang/String"), .int], some .char⟩ from by decide +kernel) rfl) (by show 2 * 0 + _ ≤ _; exact Nat.le_of_eq rfl) (by decide) (by decide) rfl ?_
        rintro v107 T107 h107 L107 ⟨rfl, N107q, e107⟩ P107
        rw [e107] at P107
        have N107 := Fr.app N104 N107q
        show Own.Goes _ _ _ _ (T107.setTop (mkF m 214 #[.val (.int x0), .val (.int x1), .val (.int x2), .val (.int x3), .val (.long d0), .second, .val (.int (x0 &&& (3 : Int32))), .val (.ref a81), .val (.int (5 : Int32)), .val (.int (0 : Int32)), .val (.ref a84), .unset, .unset, .unset, .unset, .unset, .unset] [(.int (([(100 : Int32), (99 : Int32), (110 : Int32), (100 : Int32), (108 : Int32)] : List Int32).getD 5 0)), (.int (5 : Int32)), (.ref a84)]))
        have rc5 := Own.getD_rng (Own.Str.rng (St81.ext E1_7_106)) 5
        generalize (([(100 : Int32), (99 : Int32), (110 : Int32), (100 : Int32), (108 : Int32)] : List Int32).getD 5 0) = c5 at rc5 ⊢
        refine Own.castore (q := 215) (i := 5) (x2 := c5) P107 at_214 V104 (by decide) (by decide) (Own.nar_id rc5) (Own.fits_ch rc5) (by decide) (Own.ltb rfl) rfl ?_
        intro T108 h108 lc108 hl108 P108 W108 A108
        have V108 : Arv Z h108 a84 k84 .char (7 : Int32) [(.int c0), (.int c1), (.int c2), (.int c3), (.int c4), (.int c5), (.int 0)] (.int 0) := A108
        have N108 := Own.Fr.one N107 hl108 (Nat.le_trans Z0 (Nat.le_trans E0_1_82.1 (Nat.le_of_eq ha84.symm)))
        refine Own.aload (q := 217) P108 at_215 rfl rfl rfl ?_
        refine Own.bipush (q := 219) (v := (6 : Int32)) P108 at_217 rfl rfl ?_
        refine Own.iload (q := 221) P108 at_219 rfl rfl ?_
        refine Own.if_eq (q := 224) (qy := 234) P108 at_221 (by decide) rfl (fun _ => ?_) (fun q => absurd rfl q)
        refine Own.aload (q := 236) P108 at_234 rfl rfl rfl ?_
        refine Own.bipush (q := 238) (v := (6 : Int32)) P108 at_236 rfl rfl ?_
        have E0_8_109 : Ext h0 h108 := (Own.Ext.wr E0_7_105 W108 (Nat.le_trans E0_1_82.1 (Nat.le_of_eq ha84.symm)))
        have E1_8_110 : Ext h81 h108 := (Own.Ext.wr E1_7_106 W108 (Nat.le_of_eq ha84.symm))
        refine Own.invStatic (q := 241) (W := 2) (y := (⟨"com/example/mokuroku/mokuroku/core/FormatByCliNamePinLaw", "at", "(Ljava/lang/String;I)C"⟩ : MethodName)) (argsL := [(.ref a81), (.int (6 : Int32))]) (rest := [(.int (6 : Int32)), (.ref a84)]) P108 at_238 (hw _ (List.mem_of_getElem? (i := 22) rfl)) (hw _ (List.mem_of_getElem? (i := 23) rfl)) (hw _ (List.mem_of_getElem? (i := 24) rfl)) (hw _ (List.mem_of_getElem? (i := 25) rfl)) (by decide) (backOf (W := 2) (rmAt l Z a0 hw [] a81 [(100 : Int32), (99 : Int32), (110 : Int32), (100 : Int32), (108 : Int32)] (6 : Int32) 6 zc fm h108 n0 (Nat.le_trans Z0 E0_8_109.1) (SC.ext E0_8_109) hzc (SF.ext E0_8_109) hfm (St81.ext E1_8_110) rfl (by decide)) P108.2.2.2.1 (hw _ (List.mem_of_getElem? (i := 25) rfl)) (hw _ (List.mem_of_getElem? (i := 24) rfl)) (by decide) (by decide)) rfl rfl (by rw [hml]; rfl) (lenOf (show parseMethodDescriptor "(Ljava/lang/String;I)C" = some ⟨[(.object "java/lang/String"), .int], some .char⟩ from by decide +kernel) rfl) (by show 2 * 0 + _ ≤ _; exact Nat.le_of_eq rfl) (by decide) (by decide) rfl ?_
        rintro v111 T111 h111 L111 ⟨rfl, N111q, e111⟩ P111
        rw [e111] at P111
        have N111 := Fr.app N108 N111q
        show Own.Goes _ _ _ _ (T111.setTop (mkF m 241 #[.val (.int x0), .val (.int x1), .val (.int x2), .val (.int x3), .val (.long d0), .second, .val (.int (x0 &&& (3 : Int32))), .val (.ref a81), .val (.int (5 : Int32)), .val (.int (0 : Int32)), .val (.ref a84), .unset, .unset, .unset, .unset, .unset, .unset] [(.int (([(100 : Int32), (99 : Int32), (110 : Int32), (100 : Int32), (108 : Int32)] : List Int32).getD 6 0)), (.int (6 : Int32)), (.ref a84)]))
        have rc6 := Own.getD_rng (Own.Str.rng (St81.ext E1_8_110)) 6
        generalize (([(100 : Int32), (99 : Int32), (110 : Int32), (100 : Int32), (108 : Int32)] : List Int32).getD 6 0) = c6 at rc6 ⊢
        refine Own.castore (q := 242) (i := 6) (x2 := c6) P111 at_241 V108 (by decide) (by decide) (Own.nar_id rc6) (Own.fits_ch rc6) (by decide) (Own.ltb rfl) rfl ?_
        intro T112 h112 lc112 hl112 P112 W112 A112
        have V112 : Arv Z h112 a84 k84 .char (7 : Int32) [(.int c0), (.int c1), (.int c2), (.int c3), (.int c4), (.int c5), (.int c6)] (.int 0) := A112
        have N112 := Own.Fr.one N111 hl112 (Nat.le_trans Z0 (Nat.le_trans E0_1_82.1 (Nat.le_of_eq ha84.symm)))
        have E0_9_113 : Ext h0 h112 := (Own.Ext.wr E0_8_109 W112 (Nat.le_trans E0_1_82.1 (Nat.le_of_eq ha84.symm)))
        have E1_9_114 : Ext h81 h112 := (Own.Ext.wr E1_8_110 W112 (Nat.le_of_eq ha84.symm))
        have Hd115 := (H81.ext E1_9_114)
        exact J242 _ _ _ _ (5 : Int32) a84 k84 c0 c1 c2 c3 c4 c5 c6 (x0 &&& (3 : Int32)) a81 (0 : Int32) (Own.Wk.up P112 (by decide) (by decide)) N112 E0_9_113 Hd115 (Or.inr (Or.inr (Or.inr (Or.inr (Or.inr (Or.inl rfl)))))) V112 (Nat.le_trans E0_1_82.1 (Nat.le_of_eq ha84.symm)) rc0 rc1 rc2 rc3 rc4 rc5 rc6
      · refine Own.iloadN (q := 37) P81 at_36 rfl rfl ?_
        refine Own.iconst (q := 38) (v := (2 : Int32)) P81 at_37 rfl rfl ?_
        refine Own.iushr (q := 39) P81 at_38  rfl ?_
        refine Own.bipush (q := 41) (v := (7 : Int32)) P81 at_39 rfl rfl ?_
        refine Own.irem (q := 42) P81 at_41 (by decide) rfl ?_
        refine Own.goto (q := 50) P81 at_42 (by decide) ?_
        refine Own.istore (q := 52) (L2 := #[.val (.int x0), .val (.int x1), .val (.int x2), .val (.int x3), .val (.long d0), .second, .val (.int (x0 &&& (3 : Int32))), .val (.ref a81), .val (.int ((Jvm.Free.XT.ushr x0 (2 : Int32)) % (7 : Int32))), .unset, .unset, .unset, .unset, .unset, .unset, .unset, .unset]) P81 at_50 rfl rfl ?_
        refine Own.iload (q := 54) P81 at_52 rfl rfl ?_
        refine Own.iconst (q := 55) (v := (3 : Int32)) P81 at_54 rfl rfl ?_
        refine Own.icmp_ne (q := 58) (qy := 62) P81 at_55 (by decide) rfl (fun z => absurd q33 z) (fun _ => ?_)
        refine Own.iconst (q := 59) (v := (1 : Int32)) P81 at_58 rfl rfl ?_
        refine Own.goto (q := 63) P81 at_59 (by decide) ?_
        refine Own.istore (q := 65) (L2 := #[.val (.int x0), .val (.int x1), .val (.int x2), .val (.int x3), .val (.long d0), .second, .val (.int (x0 &&& (3 : Int32))), .val (.ref a81), .val (.int ((Jvm.Free.XT.ushr x0 (2 : Int32)) % (7 : Int32))), .val (.int (1 : Int32)), .unset, .unset, .unset, .unset, .unset, .unset, .unset]) P81 at_63 rfl rfl ?_
        refine Own.bipush (q := 67) (v := (7 : Int32)) P81 at_65 rfl rfl ?_
        refine Own.newarr (q := 69) (cap := 7) P81 at_67 (hw _ (List.mem_of_getElem? (i := 21) rfl)) (by decide) (by decide) (by decide) (by decide) (by decide) rfl ?_
        intro T116 h116 a116 k116 ha116 P116 E116 A116
        have V116 : Arv Z h116 a116 k116 .char (7 : Int32) [(.int 0), (.int 0), (.int 0), (.int 0), (.int 0), (.int 0), (.int 0)] (.int 0) := Arv.pad A116 (pad_rep [] _ 7)
        refine Own.astore (q := 71) (L2 := #[.val (.int x0), .val (.int x1), .val (.int x2), .val (.int x3), .val (.long d0), .second, .val (.int (x0 &&& (3 : Int32))), .val (.ref a81), .val (.int ((Jvm.Free.XT.ushr x0 (2 : Int32)) % (7 : Int32))), .val (.int (1 : Int32)), .val (.ref a116), .unset, .unset, .unset, .unset, .unset, .unset]) P116 at_69 rfl rfl rfl ?_
        refine Own.aload (q := 73) P116 at_71 rfl rfl rfl ?_
        refine Own.iconst (q := 74) (v := (0 : Int32)) P116 at_73 rfl rfl ?_
        refine Own.iload (q := 76) P116 at_74 rfl rfl ?_
        refine Own.if_eq (q := 79) (qy := 88) P116 at_76 (by decide) rfl (fun q => absurd q (by decide)) (fun _ => ?_)
        refine Own.lload (q := 81) P116 at_79 rfl rfl ?_
        refine Own.iconst (q := 82) (v := (0 : Int32)) P116 at_81 rfl rfl ?_
        have E0_1_117 : Ext h0 h81 := E81
        have E0_2_118 : Ext h0 h116 := (Own.Ext.tr E0_1_117 E116)
        refine Own.invStatic (q := 85) (W := 2) (y := (⟨"com/example/mokuroku/mokuroku/core/FormatByCliNamePinLaw", "by", "(JI)C"⟩ : MethodName)) (argsL := [(.long d0), (.int (0 : Int32))]) (rest := [(.int (0 : Int32)), (.ref a116)]) P116 at_82 (hw _ (List.mem_of_getElem? (i := 142) rfl)) (hw _ (List.mem_of_getElem? (i := 143) rfl)) (hw _ (List.mem_of_getElem? (i := 24) rfl)) (hw _ (List.mem_of_getElem? (i := 144) rfl)) (by decide) (backOf (W := 2) (rmBy l Z a0 hw [] d0 (0 : Int32) h116 n0 (Nat.le_trans Z0 E0_2_118.1) ) P116.2.2.2.1 (hw _ (List.mem_of_getElem? (i := 144) rfl)) (hw _ (List.mem_of_getElem? (i := 24) rfl)) (by decide) (by decide)) rfl rfl (by rw [hml]; rfl) (lenOf (show parseMethodDescriptor "(JI)C" = some ⟨[.long, .int], some .char⟩ from by decide +kernel) rfl) (by show 2 * 0 + _ ≤ _; exact Nat.le_of_eq rfl) (by decide) (by decide) rfl ?_
        rintro v119 T119 h119 L119 ⟨c0, rfl, rc0, N119q, e119⟩ P119
        rw [e119] at P119
        have N119 := Fr.app N0 N119q
        show Own.Goes _ _ _ _ (T119.setTop (mkF m 85 #[.val (.int x0), .val (.int x1), .val (.int x2), .val (.int x3), .val (.long d0), .second, .val (.int (x0 &&& (3 : Int32))), .val (.ref a81), .val (.int ((Jvm.Free.XT.ushr x0 (2 : Int32)) % (7 : Int32))), .val (.int (1 : Int32)), .val (.ref a116), .unset, .unset, .unset, .unset, .unset, .unset] [(.int c0), (.int (0 : Int32)), (.ref a116)]))
        refine Own.goto (q := 94) P119 at_85 (by decide) ?_
        refine Own.castore (q := 95) (i := 0) (x2 := c0) P119 at_94 V116 (by decide) (by decide) (Own.nar_id rc0) (Own.fits_ch rc0) (by decide) (Own.ltb rfl) rfl ?_
        intro T120 h120 lc120 hl120 P120 W120 A120
        have V120 : Arv Z h120 a116 k116 .char (7 : Int32) [(.int c0), (.int 0), (.int 0), (.int 0), (.int 0), (.int 0), (.int 0)] (.int 0) := A120
        have N120 := Own.Fr.one N119 hl120 (Nat.le_trans Z0 (Nat.le_trans E0_1_117.1 (Nat.le_of_eq ha116.symm)))
        refine Own.aload (q := 97) P120 at_95 rfl rfl rfl ?_
        refine Own.iconst (q := 98) (v := (1 : Int32)) P120 at_97 rfl rfl ?_
        refine Own.iload (q := 100) P120 at_98 rfl rfl ?_
        refine Own.if_eq (q := 103) (qy := 112) P120 at_100 (by decide) rfl (fun q => absurd q (by decide)) (fun _ => ?_)
        refine Own.lload (q := 105) P120 at_103 rfl rfl ?_
        refine Own.iconst (q := 106) (v := (1 : Int32)) P120 at_105 rfl rfl ?_
        have E0_3_121 : Ext h0 h120 := (Own.Ext.wr E0_2_118 W120 (Nat.le_trans E0_1_117.1 (Nat.le_of_eq ha116.symm)))
        refine Own.invStatic (q := 109) (W := 2) (y := (⟨"com/example/mokuroku/mokuroku/core/FormatByCliNamePinLaw", "by", "(JI)C"⟩ : MethodName)) (argsL := [(.long d0), (.int (1 : Int32))]) (rest := [(.int (1 : Int32)), (.ref a116)]) P120 at_106 (hw _ (List.mem_of_getElem? (i := 142) rfl)) (hw _ (List.mem_of_getElem? (i := 143) rfl)) (hw _ (List.mem_of_getElem? (i := 24) rfl)) (hw _ (List.mem_of_getElem? (i := 144) rfl)) (by decide) (backOf (W := 2) (rmBy l Z a0 hw [] d0 (1 : Int32) h120 n0 (Nat.le_trans Z0 E0_3_121.1) ) P120.2.2.2.1 (hw _ (List.mem_of_getElem? (i := 144) rfl)) (hw _ (List.mem_of_getElem? (i := 24) rfl)) (by decide) (by decide)) rfl rfl (by rw [hml]; rfl) (lenOf (show parseMethodDescriptor "(JI)C" = some ⟨[.long, .int], some .char⟩ from by decide +kernel) rfl) (by show 2 * 0 + _ ≤ _; exact Nat.le_of_eq rfl) (by decide) (by decide) rfl ?_
        rintro v122 T122 h122 L122 ⟨c1, rfl, rc1, N122q, e122⟩ P122
        rw [e122] at P122
        have N122 := Fr.app N120 N122q
        show Own.Goes _ _ _ _ (T122.setTop (mkF m 109 #[.val (.int x0), .val (.int x1), .val (.int x2), .val (.int x3), .val (.long d0), .second, .val (.int (x0 &&& (3 : Int32))), .val (.ref a81), .val (.int ((Jvm.Free.XT.ushr x0 (2 : Int32)) % (7 : Int32))), .val (.int (1 : Int32)), .val (.ref a116), .unset, .unset, .unset, .unset, .unset, .unset] [(.int c1), (.int (1 : Int32)), (.ref a116)]))
        refine Own.goto (q := 118) P122 at_109 (by decide) ?_
        refine Own.castore (q := 119) (i := 1) (x2 := c1) P122 at_118 V120 (by decide) (by decide) (Own.nar_id rc1) (Own.fits_ch rc1) (by decide) (Own.ltb rfl) rfl ?_
        intro T123 h123 lc123 hl123 P123 W123 A123
        have V123 : Arv Z h123 a116 k116 .char (7 : Int32) [(.int c0), (.int c1), (.int 0), (.int 0), (.int 0), (.int 0), (.int 0)] (.int 0) := A123
        have N123 := Own.Fr.one N122 hl123 (Nat.le_trans Z0 (Nat.le_trans E0_1_117.1 (Nat.le_of_eq ha116.symm)))
        refine Own.aload (q := 121) P123 at_119 rfl rfl rfl ?_
        refine Own.iconst (q := 122) (v := (2 : Int32)) P123 at_121 rfl rfl ?_
        refine Own.iload (q := 124) P123 at_122 rfl rfl ?_
        refine Own.if_eq (q := 127) (qy := 136) P123 at_124 (by decide) rfl (fun q => absurd q (by decide)) (fun _ => ?_)
        refine Own.lload (q := 129) P123 at_127 rfl rfl ?_
        refine Own.iconst (q := 130) (v := (2 : Int32)) P123 at_129 rfl rfl ?_
        have E0_4_124 : Ext h0 h123 := (Own.Ext.wr E0_3_121 W123 (Nat.le_trans E0_1_117.1 (Nat.le_of_eq ha116.symm)))
        refine Own.invStatic (q := 133) (W := 2) (y := (⟨"com/example/mokuroku/mokuroku/core/FormatByCliNamePinLaw", "by", "(JI)C"⟩ : MethodName)) (argsL := [(.long d0), (.int (2 : Int32))]) (rest := [(.int (2 : Int32)), (.ref a116)]) P123 at_130 (hw _ (List.mem_of_getElem? (i := 142) rfl)) (hw _ (List.mem_of_getElem? (i := 143) rfl)) (hw _ (List.mem_of_getElem? (i := 24) rfl)) (hw _ (List.mem_of_getElem? (i := 144) rfl)) (by decide) (backOf (W := 2) (rmBy l Z a0 hw [] d0 (2 : Int32) h123 n0 (Nat.le_trans Z0 E0_4_124.1) ) P123.2.2.2.1 (hw _ (List.mem_of_getElem? (i := 144) rfl)) (hw _ (List.mem_of_getElem? (i := 24) rfl)) (by decide) (by decide)) rfl rfl (by rw [hml]; rfl) (lenOf (show parseMethodDescriptor "(JI)C" = some ⟨[.long, .int], some .char⟩ from by decide +kernel) rfl) (by show 2 * 0 + _ ≤ _; exact Nat.le_of_eq rfl) (by decide) (by decide) rfl ?_
        rintro v125 T125 h125 L125 ⟨c2, rfl, rc2, N125q, e125⟩ P125
        rw [e125] at P125
        have N125 := Fr.app N123 N125q
        show Own.Goes _ _ _ _ (T125.setTop (mkF m 133 #[.val (.int x0), .val (.int x1), .val (.int x2), .val (.int x3), .val (.long d0), .second, .val (.int (x0 &&& (3 : Int32))), .val (.ref a81), .val (.int ((Jvm.Free.XT.ushr x0 (2 : Int32)) % (7 : Int32))), .val (.int (1 : Int32)), .val (.ref a116), .unset, .unset, .unset, .unset, .unset, .unset] [(.int c2), (.int (2 : Int32)), (.ref a116)]))
        refine Own.goto (q := 142) P125 at_133 (by decide) ?_
        refine Own.castore (q := 143) (i := 2) (x2 := c2) P125 at_142 V123 (by decide) (by decide) (Own.nar_id rc2) (Own.fits_ch rc2) (by decide) (Own.ltb rfl) rfl ?_
        intro T126 h126 lc126 hl126 P126 W126 A126
        have V126 : Arv Z h126 a116 k116 .char (7 : Int32) [(.int c0), (.int c1), (.int c2), (.int 0), (.int 0), (.int 0), (.int 0)] (.int 0) := A126
        have N126 := Own.Fr.one N125 hl126 (Nat.le_trans Z0 (Nat.le_trans E0_1_117.1 (Nat.le_of_eq ha116.symm)))
        refine Own.aload (q := 145) P126 at_143 rfl rfl rfl ?_
        refine Own.iconst (q := 146) (v := (3 : Int32)) P126 at_145 rfl rfl ?_
        refine Own.iload (q := 148) P126 at_146 rfl rfl ?_
        refine Own.if_eq (q := 151) (qy := 160) P126 at_148 (by decide) rfl (fun q => absurd q (by decide)) (fun _ => ?_)
        refine Own.lload (q := 153) P126 at_151 rfl rfl ?_
        refine Own.iconst (q := 154) (v := (3 : Int32)) P126 at_153 rfl rfl ?_
        have E0_5_127 : Ext h0 h126 := (Own.Ext.wr E0_4_124 W126 (Nat.le_trans E0_1_117.1 (Nat.le_of_eq ha116.symm)))
        refine Own.invStatic (q := 157) (W := 2) (y := (⟨"com/example/mokuroku/mokuroku/core/FormatByCliNamePinLaw", "by", "(JI)C"⟩ : MethodName)) (argsL := [(.long d0), (.int (3 : Int32))]) (rest := [(.int (3 : Int32)), (.ref a116)]) P126 at_154 (hw _ (List.mem_of_getElem? (i := 142) rfl)) (hw _ (List.mem_of_getElem? (i := 143) rfl)) (hw _ (List.mem_of_getElem? (i := 24) rfl)) (hw _ (List.mem_of_getElem? (i := 144) rfl)) (by decide) (backOf (W := 2) (rmBy l Z a0 hw [] d0 (3 : Int32) h126 n0 (Nat.le_trans Z0 E0_5_127.1) ) P126.2.2.2.1 (hw _ (List.mem_of_getElem? (i := 144) rfl)) (hw _ (List.mem_of_getElem? (i := 24) rfl)) (by decide) (by decide)) rfl rfl (by rw [hml]; rfl) (lenOf (show parseMethodDescriptor "(JI)C" = some ⟨[.long, .int], some .char⟩ from by decide +kernel) rfl) (by show 2 * 0 + _ ≤ _; exact Nat.le_of_eq rfl) (by decide) (by decide) rfl ?_
        rintro v128 T128 h128 L128 ⟨c3, rfl, rc3, N128q, e128⟩ P128
        rw [e128] at P128
        have N128 := Fr.app N126 N128q
        show Own.Goes _ _ _ _ (T128.setTop (mkF m 157 #[.val (.int x0), .val (.int x1), .val (.int x2), .val (.int x3), .val (.long d0), .second, .val (.int (x0 &&& (3 : Int32))), .val (.ref a81), .val (.int ((Jvm.Free.XT.ushr x0 (2 : Int32)) % (7 : Int32))), .val (.int (1 : Int32)), .val (.ref a116), .unset, .unset, .unset, .unset, .unset, .unset] [(.int c3), (.int (3 : Int32)), (.ref a116)]))
        refine Own.goto (q := 166) P128 at_157 (by decide) ?_
        refine Own.castore (q := 167) (i := 3) (x2 := c3) P128 at_166 V126 (by decide) (by decide) (Own.nar_id rc3) (Own.fits_ch rc3) (by decide) (Own.ltb rfl) rfl ?_
        intro T129 h129 lc129 hl129 P129 W129 A129
        have V129 : Arv Z h129 a116 k116 .char (7 : Int32) [(.int c0), (.int c1), (.int c2), (.int c3), (.int 0), (.int 0), (.int 0)] (.int 0) := A129
        have N129 := Own.Fr.one N128 hl129 (Nat.le_trans Z0 (Nat.le_trans E0_1_117.1 (Nat.le_of_eq ha116.symm)))
        refine Own.aload (q := 169) P129 at_167 rfl rfl rfl ?_
        refine Own.iconst (q := 170) (v := (4 : Int32)) P129 at_169 rfl rfl ?_
        refine Own.iload (q := 172) P129 at_170 rfl rfl ?_
        refine Own.if_eq (q := 175) (qy := 184) P129 at_172 (by decide) rfl (fun q => absurd q (by decide)) (fun _ => ?_)
        refine Own.lload (q := 177) P129 at_175 rfl rfl ?_
        refine Own.iconst (q := 178) (v := (4 : Int32)) P129 at_177 rfl rfl ?_
        have E0_6_130 : Ext h0 h129 := (Own.Ext.wr E0_5_127 W129 (Nat.le_trans E0_1_117.1 (Nat.le_of_eq ha116.symm)))
        refine Own.invStatic (q := 181) (W := 2) (y := (⟨"com/example/mokuroku/mokuroku/core/FormatByCliNamePinLaw", "by", "(JI)C"⟩ : MethodName)) (argsL := [(.long d0), (.int (4 : Int32))]) (rest := [(.int (4 : Int32)), (.ref a116)]) P129 at_178 (hw _ (List.mem_of_getElem? (i := 142) rfl)) (hw _ (List.mem_of_getElem? (i := 143) rfl)) (hw _ (List.mem_of_getElem? (i := 24) rfl)) (hw _ (List.mem_of_getElem? (i := 144) rfl)) (by decide) (backOf (W := 2) (rmBy l Z a0 hw [] d0 (4 : Int32) h129 n0 (Nat.le_trans Z0 E0_6_130.1) ) P129.2.2.2.1 (hw _ (List.mem_of_getElem? (i := 144) rfl)) (hw _ (List.mem_of_getElem? (i := 24) rfl)) (by decide) (by decide)) rfl rfl (by rw [hml]; rfl) (lenOf (show parseMethodDescriptor "(JI)C" = some ⟨[.long, .int], some .char⟩ from by decide +kernel) rfl) (by show 2 * 0 + _ ≤ _; exact Nat.le_of_eq rfl) (by decide) (by decide) rfl ?_
        rintro v131 T131 h131 L131 ⟨c4, rfl, rc4, N131q, e131⟩ P131
        rw [e131] at P131
        have N131 := Fr.app N129 N131q
        show Own.Goes _ _ _ _ (T131.setTop (mkF m 181 #[.val (.int x0), .val (.int x1), .val (.int x2), .val (.int x3), .val (.long d0), .second, .val (.int (x0 &&& (3 : Int32))), .val (.ref a81), .val (.int ((Jvm.Free.XT.ushr x0 (2 : Int32)) % (7 : Int32))), .val (.int (1 : Int32)), .val (.ref a116), .unset, .unset, .unset, .unset, .unset, .unset] [(.int c4), (.int (4 : Int32)), (.ref a116)]))
        refine Own.goto (q := 190) P131 at_181 (by decide) ?_
        refine Own.castore (q := 191) (i := 4) (x2 := c4) P131 at_190 V129 (by decide) (by decide) (Own.nar_id rc4) (Own.fits_ch rc4) (by decide) (Own.ltb rfl) rfl ?_
        intro T132 h132 lc132 hl132 P132 W132 A132
        have V132 : Arv Z h132 a116 k116 .char (7 : Int32) [(.int c0), (.int c1), (.int c2), (.int c3), (.int c4), (.int 0), (.int 0)] (.int 0) := A132
        have N132 := Own.Fr.one N131 hl132 (Nat.le_trans Z0 (Nat.le_trans E0_1_117.1 (Nat.le_of_eq ha116.symm)))
        refine Own.aload (q := 193) P132 at_191 rfl rfl rfl ?_
        refine Own.iconst (q := 194) (v := (5 : Int32)) P132 at_193 rfl rfl ?_
        refine Own.iload (q := 196) P132 at_194 rfl rfl ?_
        refine Own.if_eq (q := 199) (qy := 208) P132 at_196 (by decide) rfl (fun q => absurd q (by decide)) (fun _ => ?_)
        refine Own.lload (q := 201) P132 at_199 rfl rfl ?_
        refine Own.iconst (q := 202) (v := (5 : Int32)) P132 at_201 rfl rfl ?_
        have E0_7_133 : Ext h0 h132 := (Own.Ext.wr E0_6_130 W132 (Nat.le_trans E0_1_117.1 (Nat.le_of_eq ha116.symm)))
        refine Own.invStatic (q := 205) (W := 2) (y := (⟨"com/example/mokuroku/mokuroku/core/FormatByCliNamePinLaw", "by", "(JI)C"⟩ : MethodName)) (argsL := [(.long d0), (.int (5 : Int32))]) (rest := [(.int (5 : Int32)), (.ref a116)]) P132 at_202 (hw _ (List.mem_of_getElem? (i := 142) rfl)) (hw _ (List.mem_of_getElem? (i := 143) rfl)) (hw _ (List.mem_of_getElem? (i := 24) rfl)) (hw _ (List.mem_of_getElem? (i := 144) rfl)) (by decide) (backOf (W := 2) (rmBy l Z a0 hw [] d0 (5 : Int32) h132 n0 (Nat.le_trans Z0 E0_7_133.1) ) P132.2.2.2.1 (hw _ (List.mem_of_getElem? (i := 144) rfl)) (hw _ (List.mem_of_getElem? (i := 24) rfl)) (by decide) (by decide)) rfl rfl (by rw [hml]; rfl) (lenOf (show parseMethodDescriptor "(JI)C" = some ⟨[.long, .int], some .char⟩ from by decide +kernel) rfl) (by show 2 * 0 + _ ≤ _; exact Nat.le_of_eq rfl) (by decide) (by decide) rfl ?_
        rintro v134 T134 h134 L134 ⟨c5, rfl, rc5, N134q, e134⟩ P134
        rw [e134] at P134
        have N134 := Fr.app N132 N134q
        show Own.Goes _ _ _ _ (T134.setTop (mkF m 205 #[.val (.int x0), .val (.int x1), .val (.int x2), .val (.int x3), .val (.long d0), .second, .val (.int (x0 &&& (3 : Int32))), .val (.ref a81), .val (.int ((Jvm.Free.XT.ushr x0 (2 : Int32)) % (7 : Int32))), .val (.int (1 : Int32)), .val (.ref a116), .unset, .unset, .unset, .unset, .unset, .unset] [(.int c5), (.int (5 : Int32)), (.ref a116)]))
        refine Own.goto (q := 214) P134 at_205 (by decide) ?_
        refine Own.castore (q := 215) (i := 5) (x2 := c5) P134 at_214 V132 (by decide) (by decide) (Own.nar_id rc5) (Own.fits_ch rc5) (by decide) (Own.ltb rfl) rfl ?_
        intro T135 h135 lc135 hl135 P135 W135 A135
        have V135 : Arv Z h135 a116 k116 .char (7 : Int32) [(.int c0), (.int c1), (.int c2), (.int c3), (.int c4), (.int c5), (.int 0)] (.int 0) := A135
        have N135 := Own.Fr.one N134 hl135 (Nat.le_trans Z0 (Nat.le_trans E0_1_117.1 (Nat.le_of_eq ha116.symm)))
        refine Own.aload (q := 217) P135 at_215 rfl rfl rfl ?_
        refine Own.bipush (q := 219) (v := (6 : Int32)) P135 at_217 rfl rfl ?_
        refine Own.iload (q := 221) P135 at_219 rfl rfl ?_
        refine Own.if_eq (q := 224) (qy := 234) P135 at_221 (by decide) rfl (fun q => absurd q (by decide)) (fun _ => ?_)
        refine Own.lload (q := 226) P135 at_224 rfl rfl ?_
        refine Own.bipush (q := 228) (v := (6 : Int32)) P135 at_226 rfl rfl ?_
        have E0_8_136 : Ext h0 h135 := (Own.Ext.wr E0_7_133 W135 (Nat.le_trans E0_1_117.1 (Nat.le_of_eq ha116.symm)))
        refine Own.invStatic (q := 231) (W := 2) (y := (⟨"com/example/mokuroku/mokuroku/core/FormatByCliNamePinLaw", "by", "(JI)C"⟩ : MethodName)) (argsL := [(.long d0), (.int (6 : Int32))]) (rest := [(.int (6 : Int32)), (.ref a116)]) P135 at_228 (hw _ (List.mem_of_getElem? (i := 142) rfl)) (hw _ (List.mem_of_getElem? (i := 143) rfl)) (hw _ (List.mem_of_getElem? (i := 24) rfl)) (hw _ (List.mem_of_getElem? (i := 144) rfl)) (by decide) (backOf (W := 2) (rmBy l Z a0 hw [] d0 (6 : Int32) h135 n0 (Nat.le_trans Z0 E0_8_136.1) ) P135.2.2.2.1 (hw _ (List.mem_of_getElem? (i := 144) rfl)) (hw _ (List.mem_of_getElem? (i := 24) rfl)) (by decide) (by decide)) rfl rfl (by rw [hml]; rfl) (lenOf (show parseMethodDescriptor "(JI)C" = some ⟨[.long, .int], some .char⟩ from by decide +kernel) rfl) (by show 2 * 0 + _ ≤ _; exact Nat.le_of_eq rfl) (by decide) (by decide) rfl ?_
        rintro v137 T137 h137 L137 ⟨c6, rfl, rc6, N137q, e137⟩ P137
        rw [e137] at P137
        have N137 := Fr.app N135 N137q
        show Own.Goes _ _ _ _ (T137.setTop (mkF m 231 #[.val (.int x0), .val (.int x1), .val (.int x2), .val (.int x3), .val (.long d0), .second, .val (.int (x0 &&& (3 : Int32))), .val (.ref a81), .val (.int ((Jvm.Free.XT.ushr x0 (2 : Int32)) % (7 : Int32))), .val (.int (1 : Int32)), .val (.ref a116), .unset, .unset, .unset, .unset, .unset, .unset] [(.int c6), (.int (6 : Int32)), (.ref a116)]))
        refine Own.goto (q := 241) P137 at_231 (by decide) ?_
        refine Own.castore (q := 242) (i := 6) (x2 := c6) P137 at_241 V135 (by decide) (by decide) (Own.nar_id rc6) (Own.fits_ch rc6) (by decide) (Own.ltb rfl) rfl ?_
        intro T138 h138 lc138 hl138 P138 W138 A138
        have V138 : Arv Z h138 a116 k116 .char (7 : Int32) [(.int c0), (.int c1), (.int c2), (.int c3), (.int c4), (.int c5), (.int c6)] (.int 0) := A138
        have N138 := Own.Fr.one N137 hl138 (Nat.le_trans Z0 (Nat.le_trans E0_1_117.1 (Nat.le_of_eq ha116.symm)))
        have E0_9_139 : Ext h0 h138 := (Own.Ext.wr E0_8_136 W138 (Nat.le_trans E0_1_117.1 (Nat.le_of_eq ha116.symm)))
        have E1_2_140 : Ext h81 h116 := E116
        have E1_3_141 : Ext h81 h120 := (Own.Ext.wr E1_2_140 W120 (Nat.le_of_eq ha116.symm))
        have E1_4_142 : Ext h81 h123 := (Own.Ext.wr E1_3_141 W123 (Nat.le_of_eq ha116.symm))
        have E1_5_143 : Ext h81 h126 := (Own.Ext.wr E1_4_142 W126 (Nat.le_of_eq ha116.symm))
        have E1_6_144 : Ext h81 h129 := (Own.Ext.wr E1_5_143 W129 (Nat.le_of_eq ha116.symm))
        have E1_7_145 : Ext h81 h132 := (Own.Ext.wr E1_6_144 W132 (Nat.le_of_eq ha116.symm))
        have E1_8_146 : Ext h81 h135 := (Own.Ext.wr E1_7_145 W135 (Nat.le_of_eq ha116.symm))
        have E1_9_147 : Ext h81 h138 := (Own.Ext.wr E1_8_146 W138 (Nat.le_of_eq ha116.symm))
        have Hd148 := (H81.ext E1_9_147)
        exact J242 _ _ _ _ ((Jvm.Free.XT.ushr x0 (2 : Int32)) % (7 : Int32)) a116 k116 c0 c1 c2 c3 c4 c5 c6 (x0 &&& (3 : Int32)) a81 (1 : Int32) (Own.Wk.up P138 (by decide) (by decide)) N138 E0_9_139 Hd148 (Own.rem7 _) V138 (Nat.le_trans E0_1_117.1 (Nat.le_of_eq ha116.symm)) rc0 rc1 rc2 rc3 rc4 rc5 rc6
    · refine Own.ldcStr (q := 23) (n := 16) (cs := [(109 : Int32), (97 : Int32), (114 : Int32), (99 : Int32)]) P0 H0 at_21 (hw _ (List.mem_of_getElem? (i := 121) rfl)) (fun a ha => hw a (sub_str a ha)) (ew hw) (by decide) (by decide) (Own.chS (by decide) (Own.chS (by decide) (Own.chS (by decide) (Own.chS (by decide) Own.ch0)))) (by decide) (by decide) (by decide) (by decide) (by decide) (by decide) (by decide) rfl ?_
      intro T149 vm149 h149 a149 P149 H149 hr149 E149 St149
      refine Own.goto (q := 28) P149 at_23 (by decide) ?_
      refine Own.astore (q := 30) (L2 := #[.val (.int x0), .val (.int x1), .val (.int x2), .val (.int x3), .val (.long d0), .second, .val (.int (x0 &&& (3 : Int32))), .val (.ref a149), .unset, .unset, .unset, .unset, .unset, .unset, .unset, .unset, .unset]) P149 at_28 rfl rfl rfl ?_
      refine Own.iload (q := 32) P149 at_30 rfl rfl ?_
      refine Own.iconst (q := 33) (v := (3 : Int32)) P149 at_32 rfl rfl ?_
      refine Own.icmp_ne (q := 36) (qy := 45) P149 at_33 (by decide) rfl (fun _ => ?_) (fun z => absurd z (by rw [q18]; decide))
      refine Own.aload (q := 47) P149 at_45 rfl rfl rfl ?_
      have E0_1_150 : Ext h0 h149 := E149
      refine Own.invVirtual (q := 50) (W := 0) (y := (⟨"java/lang/String", "length", "()I"⟩ : MethodName)) (a := a149) (argsL := []) (rest := []) P149 at_47 (hw _ (List.mem_of_getElem? (i := 8) rfl)) (hw _ (List.mem_of_getElem? (i := 9) rfl)) (hw _ (List.mem_of_getElem? (i := 11) rfl)) (hw _ (List.mem_of_getElem? (i := 10) rfl)) (notFace_of_selects (args := #[]) (mvT P149.2.2.2.1 (hw _ (List.mem_of_getElem? (i := 11) rfl)))) (by decide) (Own.lenB (W := 0) (n0 := n0) P149.2.2.2.1 (fun d hd => hw d (sub_lenW d hd)) (hw _ (List.mem_of_getElem? (i := 2) rfl)) St149 (SC.ext E0_1_150) hzc (by decide) (by decide)) St149.exa rfl rfl (by rw [hml]; rfl) (lenOf (show parseMethodDescriptor "()I" = some ⟨[], some .int⟩ from by decide +kernel) rfl) (by show 2 * 0 + _ ≤ _; exact Nat.le_of_eq rfl) (by decide) (by decide) rfl ?_
      rintro v151 T151 h151 L151 ⟨rfl, N151q, e151⟩ P151
      rw [e151] at P151
      have N151 := Fr.app N0 N151q
      show Own.Goes _ _ _ _ (T151.setTop (mkF m 50 #[.val (.int x0), .val (.int x1), .val (.int x2), .val (.int x3), .val (.long d0), .second, .val (.int (x0 &&& (3 : Int32))), .val (.ref a149), .unset, .unset, .unset, .unset, .unset, .unset, .unset, .unset, .unset] [(.int (4 : Int32))]))
      refine Own.istore (q := 52) (L2 := #[.val (.int x0), .val (.int x1), .val (.int x2), .val (.int x3), .val (.long d0), .second, .val (.int (x0 &&& (3 : Int32))), .val (.ref a149), .val (.int (4 : Int32)), .unset, .unset, .unset, .unset, .unset, .unset, .unset, .unset]) P151 at_50 rfl rfl ?_
      refine Own.iload (q := 54) P151 at_52 rfl rfl ?_
      refine Own.iconst (q := 55) (v := (3 : Int32)) P151 at_54 rfl rfl ?_
      refine Own.icmp_ne (q := 58) (qy := 62) P151 at_55 (by decide) rfl (fun _ => ?_) (fun z => absurd z (by rw [q18]; decide))
      refine Own.iconst (q := 63) (v := (0 : Int32)) P151 at_62 rfl rfl ?_
      refine Own.istore (q := 65) (L2 := #[.val (.int x0), .val (.int x1), .val (.int x2), .val (.int x3), .val (.long d0), .second, .val (.int (x0 &&& (3 : Int32))), .val (.ref a149), .val (.int (4 : Int32)), .val (.int (0 : Int32)), .unset, .unset, .unset, .unset, .unset, .unset, .unset]) P151 at_63 rfl rfl ?_
      refine Own.bipush (q := 67) (v := (7 : Int32)) P151 at_65 rfl rfl ?_
      refine Own.newarr (q := 69) (cap := 7) P151 at_67 (hw _ (List.mem_of_getElem? (i := 21) rfl)) (by decide) (by decide) (by decide) (by decide) (by decide) rfl ?_
      intro T152 h152 a152 k152 ha152 P152 E152 A152
      have V152 : Arv Z h152 a152 k152 .char (7 : Int32) [(.int 0), (.int 0), (.int 0), (.int 0), (.int 0), (.int 0), (.int 0)] (.int 0) := Arv.pad A152 (pad_rep [] _ 7)
      refine Own.astore (q := 71) (L2 := #[.val (.int x0), .val (.int x1), .val (.int x2), .val (.int x3), .val (.long d0), .second, .val (.int (x0 &&& (3 : Int32))), .val (.ref a149), .val (.int (4 : Int32)), .val (.int (0 : Int32)), .val (.ref a152), .unset, .unset, .unset, .unset, .unset, .unset]) P152 at_69 rfl rfl rfl ?_
      refine Own.aload (q := 73) P152 at_71 rfl rfl rfl ?_
      refine Own.iconst (q := 74) (v := (0 : Int32)) P152 at_73 rfl rfl ?_
      refine Own.iload (q := 76) P152 at_74 rfl rfl ?_
      refine Own.if_eq (q := 79) (qy := 88) P152 at_76 (by decide) rfl (fun _ => ?_) (fun q => absurd rfl q)
      refine Own.aload (q := 90) P152 at_88 rfl rfl rfl ?_
      refine Own.iconst (q := 91) (v := (0 : Int32)) P152 at_90 rfl rfl ?_
      have E0_2_153 : Ext h0 h152 := (Own.Ext.tr E0_1_150 E152)
      have E1_2_154 : Ext h149 h152 := E152
      refine Own.invStatic (q := 94) (W := 2) (y := (⟨"com/example/mokuroku/mokuroku/core/FormatByCliNamePinLaw", "at", "(Ljava/lang/String;I)C"⟩ : MethodName)) (argsL := [(.ref a149), (.int (0 : Int32))]) (rest := [(.int (0 : Int32)), (.ref a152)]) P152 at_91 (hw _ (List.mem_of_getElem? (i := 22) rfl)) (hw _ (List.mem_of_getElem? (i := 23) rfl)) (hw _ (List.mem_of_getElem? (i := 24) rfl)) (hw _ (List.mem_of_getElem? (i := 25) rfl)) (by decide) (backOf (W := 2) (rmAt l Z a0 hw [] a149 [(109 : Int32), (97 : Int32), (114 : Int32), (99 : Int32)] (0 : Int32) 0 zc fm h152 n0 (Nat.le_trans Z0 E0_2_153.1) (SC.ext E0_2_153) hzc (SF.ext E0_2_153) hfm (St149.ext E1_2_154) rfl (by decide)) P152.2.2.2.1 (hw _ (List.mem_of_getElem? (i := 25) rfl)) (hw _ (List.mem_of_getElem? (i := 24) rfl)) (by decide) (by decide)) rfl rfl (by rw [hml]; rfl) (lenOf (show parseMethodDescriptor "(Ljava/lang/String;I)C" = some ⟨[(.object "java/lang/String"), .int], some .char⟩ from by decide +kernel) rfl) (by show 2 * 0 + _ ≤ _; exact Nat.le_of_eq rfl) (by decide) (by decide) rfl ?_
      rintro v155 T155 h155 L155 ⟨rfl, N155q, e155⟩ P155
      rw [e155] at P155
      have N155 := Fr.app N151 N155q
      show Own.Goes _ _ _ _ (T155.setTop (mkF m 94 #[.val (.int x0), .val (.int x1), .val (.int x2), .val (.int x3), .val (.long d0), .second, .val (.int (x0 &&& (3 : Int32))), .val (.ref a149), .val (.int (4 : Int32)), .val (.int (0 : Int32)), .val (.ref a152), .unset, .unset, .unset, .unset, .unset, .unset] [(.int (([(109 : Int32), (97 : Int32), (114 : Int32), (99 : Int32)] : List Int32).getD 0 0)), (.int (0 : Int32)), (.ref a152)]))
      have rc0 := Own.getD_rng (Own.Str.rng (St149.ext E1_2_154)) 0
      generalize (([(109 : Int32), (97 : Int32), (114 : Int32), (99 : Int32)] : List Int32).getD 0 0) = c0 at rc0 ⊢
      refine Own.castore (q := 95) (i := 0) (x2 := c0) P155 at_94 V152 (by decide) (by decide) (Own.nar_id rc0) (Own.fits_ch rc0) (by decide) (Own.ltb rfl) rfl ?_
      intro T156 h156 lc156 hl156 P156 W156 A156
      have V156 : Arv Z h156 a152 k152 .char (7 : Int32) [(.int c0), (.int 0), (.int 0), (.int 0), (.int 0), (.int 0), (.int 0)] (.int 0) := A156
      have N156 := Own.Fr.one N155 hl156 (Nat.le_trans Z0 (Nat.le_trans E0_1_150.1 (Nat.le_of_eq ha152.symm)))
      refine Own.aload (q := 97) P156 at_95 rfl rfl rfl ?_
      refine Own.iconst (q := 98) (v := (1 : Int32)) P156 at_97 rfl rfl ?_
      refine Own.iload (q := 100) P156 at_98 rfl rfl ?_
      refine Own.if_eq (q := 103) (qy := 112) P156 at_100 (by decide) rfl (fun _ => ?_) (fun q => absurd rfl q)
      refine Own.aload (q := 114) P156 at_112 rfl rfl rfl ?_
      refine Own.iconst (q := 115) (v := (1 : Int32)) P156 at_114 rfl rfl ?_
      have E0_3_157 : Ext h0 h156 := (Own.Ext.wr E0_2_153 W156 (Nat.le_trans E0_1_150.1 (Nat.le_of_eq ha152.symm)))
      have E1_3_158 : Ext h149 h156 := (Own.Ext.wr E1_2_154 W156 (Nat.le_of_eq ha152.symm))
      refine Own.invStatic (q := 118) (W := 2) (y := (⟨"com/example/mokuroku/mokuroku/core/FormatByCliNamePinLaw", "at", "(Ljava/lang/String;I)C"⟩ : MethodName)) (argsL := [(.ref a149), (.int (1 : Int32))]) (rest := [(.int (1 : Int32)), (.ref a152)]) P156 at_115 (hw _ (List.mem_of_getElem? (i := 22) rfl)) (hw _ (List.mem_of_getElem? (i := 23) rfl)) (hw _ (List.mem_of_getElem? (i := 24) rfl)) (hw _ (List.mem_of_getElem? (i := 25) rfl)) (by decide) (backOf (W := 2) (rmAt l Z a0 hw [] a149 [(109 : Int32), (97 : Int32), (114 : Int32), (99 : Int32)] (1 : Int32) 1 zc fm h156 n0 (Nat.le_trans Z0 E0_3_157.1) (SC.ext E0_3_157) hzc (SF.ext E0_3_157) hfm (St149.ext E1_3_158) rfl (by decide)) P156.2.2.2.1 (hw _ (List.mem_of_getElem? (i := 25) rfl)) (hw _ (List.mem_of_getElem? (i := 24) rfl)) (by decide) (by decide)) rfl rfl (by rw [hml]; rfl) (lenOf (show parseMethodDescriptor "(Ljava/lang/String;I)C" = some ⟨[(.object "java/lang/String"), .int], some .char⟩ from by decide +kernel) rfl) (by show 2 * 0 + _ ≤ _; exact Nat.le_of_eq rfl) (by decide) (by decide) rfl ?_
      rintro v159 T159 h159 L159 ⟨rfl, N159q, e159⟩ P159
      rw [e159] at P159
      have N159 := Fr.app N156 N159q
      show Own.Goes _ _ _ _ (T159.setTop (mkF m 118 #[.val (.int x0), .val (.int x1), .val (.int x2), .val (.int x3), .val (.long d0), .second, .val (.int (x0 &&& (3 : Int32))), .val (.ref a149), .val (.int (4 : Int32)), .val (.int (0 : Int32)), .val (.ref a152), .unset, .unset, .unset, .unset, .unset, .unset] [(.int (([(109 : Int32), (97 : Int32), (114 : Int32), (99 : Int32)] : List Int32).getD 1 0)), (.int (1 : Int32)), (.ref a152)]))
      have rc1 := Own.getD_rng (Own.Str.rng (St149.ext E1_3_158)) 1
      generalize (([(109 : Int32), (97 : Int32), (114 : Int32), (99 : Int32)] : List Int32).getD 1 0) = c1 at rc1 ⊢
      refine Own.castore (q := 119) (i := 1) (x2 := c1) P159 at_118 V156 (by decide) (by decide) (Own.nar_id rc1) (Own.fits_ch rc1) (by decide) (Own.ltb rfl) rfl ?_
      intro T160 h160 lc160 hl160 P160 W160 A160
      have V160 : Arv Z h160 a152 k152 .char (7 : Int32) [(.int c0), (.int c1), (.int 0), (.int 0), (.int 0), (.int 0), (.int 0)] (.int 0) := A160
      have N160 := Own.Fr.one N159 hl160 (Nat.le_trans Z0 (Nat.le_trans E0_1_150.1 (Nat.le_of_eq ha152.symm)))
      refine Own.aload (q := 121) P160 at_119 rfl rfl rfl ?_
      refine Own.iconst (q := 122) (v := (2 : Int32)) P160 at_121 rfl rfl ?_
      refine Own.iload (q := 124) P160 at_122 rfl rfl ?_
      refine Own.if_eq (q := 127) (qy := 136) P160 at_124 (by decide) rfl (fun _ => ?_) (fun q => absurd rfl q)
      refine Own.aload (q := 138) P160 at_136 rfl rfl rfl ?_
      refine Own.iconst (q := 139) (v := (2 : Int32)) P160 at_138 rfl rfl ?_
      have E0_4_161 : Ext h0 h160 := (Own.Ext.wr E0_3_157 W160 (Nat.le_trans E0_1_150.1 (Nat.le_of_eq ha152.symm)))
      have E1_4_162 : Ext h149 h160 := (Own.Ext.wr E1_3_158 W160 (Nat.le_of_eq ha152.symm))
      refine Own.invStatic (q := 142) (W := 2) (y := (⟨"com/example/mokuroku/mokuroku/core/FormatByCliNamePinLaw", "at", "(Ljava/lang/String;I)C"⟩ : MethodName)) (argsL := [(.ref a149), (.int (2 : Int32))]) (rest := [(.int (2 : Int32)), (.ref a152)]) P160 at_139 (hw _ (List.mem_of_getElem? (i := 22) rfl)) (hw _ (List.mem_of_getElem? (i := 23) rfl)) (hw _ (List.mem_of_getElem? (i := 24) rfl)) (hw _ (List.mem_of_getElem? (i := 25) rfl)) (by decide) (backOf (W := 2) (rmAt l Z a0 hw [] a149 [(109 : Int32), (97 : Int32), (114 : Int32), (99 : Int32)] (2 : Int32) 2 zc fm h160 n0 (Nat.le_trans Z0 E0_4_161.1) (SC.ext E0_4_161) hzc (SF.ext E0_4_161) hfm (St149.ext E1_4_162) rfl (by decide)) P160.2.2.2.1 (hw _ (List.mem_of_getElem? (i := 25) rfl)) (hw _ (List.mem_of_getElem? (i := 24) rfl)) (by decide) (by decide)) rfl rfl (by rw [hml]; rfl) (lenOf (show parseMethodDescriptor "(Ljava/lang/String;I)C" = some ⟨[(.object "java/lang/String"), .int], some .char⟩ from by decide +kernel) rfl) (by show 2 * 0 + _ ≤ _; exact Nat.le_of_eq rfl) (by decide) (by decide) rfl ?_
      rintro v163 T163 h163 L163 ⟨rfl, N163q, e163⟩ P163
      rw [e163] at P163
      have N163 := Fr.app N160 N163q
      show Own.Goes _ _ _ _ (T163.setTop (mkF m 142 #[.val (.int x0), .val (.int x1), .val (.int x2), .val (.int x3), .val (.long d0), .second, .val (.int (x0 &&& (3 : Int32))), .val (.ref a149), .val (.int (4 : Int32)), .val (.int (0 : Int32)), .val (.ref a152), .unset, .unset, .unset, .unset, .unset, .unset] [(.int (([(109 : Int32), (97 : Int32), (114 : Int32), (99 : Int32)] : List Int32).getD 2 0)), (.int (2 : Int32)), (.ref a152)]))
      have rc2 := Own.getD_rng (Own.Str.rng (St149.ext E1_4_162)) 2
      generalize (([(109 : Int32), (97 : Int32), (114 : Int32), (99 : Int32)] : List Int32).getD 2 0) = c2 at rc2 ⊢
      refine Own.castore (q := 143) (i := 2) (x2 := c2) P163 at_142 V160 (by decide) (by decide) (Own.nar_id rc2) (Own.fits_ch rc2) (by decide) (Own.ltb rfl) rfl ?_
      intro T164 h164 lc164 hl164 P164 W164 A164
      have V164 : Arv Z h164 a152 k152 .char (7 : Int32) [(.int c0), (.int c1), (.int c2), (.int 0), (.int 0), (.int 0), (.int 0)] (.int 0) := A164
      have N164 := Own.Fr.one N163 hl164 (Nat.le_trans Z0 (Nat.le_trans E0_1_150.1 (Nat.le_of_eq ha152.symm)))
      refine Own.aload (q := 145) P164 at_143 rfl rfl rfl ?_
      refine Own.iconst (q := 146) (v := (3 : Int32)) P164 at_145 rfl rfl ?_
      refine Own.iload (q := 148) P164 at_146 rfl rfl ?_
      refine Own.if_eq (q := 151) (qy := 160) P164 at_148 (by decide) rfl (fun _ => ?_) (fun q => absurd rfl q)
      refine Own.aload (q := 162) P164 at_160 rfl rfl rfl ?_
      refine Own.iconst (q := 163) (v := (3 : Int32)) P164 at_162 rfl rfl ?_
      have E0_5_165 : Ext h0 h164 := (Own.Ext.wr E0_4_161 W164 (Nat.le_trans E0_1_150.1 (Nat.le_of_eq ha152.symm)))
      have E1_5_166 : Ext h149 h164 := (Own.Ext.wr E1_4_162 W164 (Nat.le_of_eq ha152.symm))
      refine Own.invStatic (q := 166) (W := 2) (y := (⟨"com/example/mokuroku/mokuroku/core/FormatByCliNamePinLaw", "at", "(Ljava/lang/String;I)C"⟩ : MethodName)) (argsL := [(.ref a149), (.int (3 : Int32))]) (rest := [(.int (3 : Int32)), (.ref a152)]) P164 at_163 (hw _ (List.mem_of_getElem? (i := 22) rfl)) (hw _ (List.mem_of_getElem? (i := 23) rfl)) (hw _ (List.mem_of_getElem? (i := 24) rfl)) (hw _ (List.mem_of_getElem? (i := 25) rfl)) (by decide) (backOf (W := 2) (rmAt l Z a0 hw [] a149 [(109 : Int32), (97 : Int32), (114 : Int32), (99 : Int32)] (3 : Int32) 3 zc fm h164 n0 (Nat.le_trans Z0 E0_5_165.1) (SC.ext E0_5_165) hzc (SF.ext E0_5_165) hfm (St149.ext E1_5_166) rfl (by decide)) P164.2.2.2.1 (hw _ (List.mem_of_getElem? (i := 25) rfl)) (hw _ (List.mem_of_getElem? (i := 24) rfl)) (by decide) (by decide)) rfl rfl (by rw [hml]; rfl) (lenOf (show parseMethodDescriptor "(Ljava/lang/String;I)C" = some ⟨[(.object "java/lang/String"), .int], some .char⟩ from by decide +kernel) rfl) (by show 2 * 0 + _ ≤ _; exact Nat.le_of_eq rfl) (by decide) (by decide) rfl ?_
      rintro v167 T167 h167 L167 ⟨rfl, N167q, e167⟩ P167
      rw [e167] at P167
      have N167 := Fr.app N164 N167q
      show Own.Goes _ _ _ _ (T167.setTop (mkF m 166 #[.val (.int x0), .val (.int x1), .val (.int x2), .val (.int x3), .val (.long d0), .second, .val (.int (x0 &&& (3 : Int32))), .val (.ref a149), .val (.int (4 : Int32)), .val (.int (0 : Int32)), .val (.ref a152), .unset, .unset, .unset, .unset, .unset, .unset] [(.int (([(109 : Int32), (97 : Int32), (114 : Int32), (99 : Int32)] : List Int32).getD 3 0)), (.int (3 : Int32)), (.ref a152)]))
      have rc3 := Own.getD_rng (Own.Str.rng (St149.ext E1_5_166)) 3
      generalize (([(109 : Int32), (97 : Int32), (114 : Int32), (99 : Int32)] : List Int32).getD 3 0) = c3 at rc3 ⊢
      refine Own.castore (q := 167) (i := 3) (x2 := c3) P167 at_166 V164 (by decide) (by decide) (Own.nar_id rc3) (Own.fits_ch rc3) (by decide) (Own.ltb rfl) rfl ?_
      intro T168 h168 lc168 hl168 P168 W168 A168
      have V168 : Arv Z h168 a152 k152 .char (7 : Int32) [(.int c0), (.int c1), (.int c2), (.int c3), (.int 0), (.int 0), (.int 0)] (.int 0) := A168
      have N168 := Own.Fr.one N167 hl168 (Nat.le_trans Z0 (Nat.le_trans E0_1_150.1 (Nat.le_of_eq ha152.symm)))
      refine Own.aload (q := 169) P168 at_167 rfl rfl rfl ?_
      refine Own.iconst (q := 170) (v := (4 : Int32)) P168 at_169 rfl rfl ?_
      refine Own.iload (q := 172) P168 at_170 rfl rfl ?_
      refine Own.if_eq (q := 175) (qy := 184) P168 at_172 (by decide) rfl (fun _ => ?_) (fun q => absurd rfl q)
      refine Own.aload (q := 186) P168 at_184 rfl rfl rfl ?_
      refine Own.iconst (q := 187) (v := (4 : Int32)) P168 at_186 rfl rfl ?_
      have E0_6_169 : Ext h0 h168 := (Own.Ext.wr E0_5_165 W168 (Nat.le_trans E0_1_150.1 (Nat.le_of_eq ha152.symm)))
      have E1_6_170 : Ext h149 h168 := (Own.Ext.wr E1_5_166 W168 (Nat.le_of_eq ha152.symm))
      refine Own.invStatic (q := 190) (W := 2) (y := (⟨"com/example/mokuroku/mokuroku/core/FormatByCliNamePinLaw", "at", "(Ljava/lang/String;I)C"⟩ : MethodName)) (argsL := [(.ref a149), (.int (4 : Int32))]) (rest := [(.int (4 : Int32)), (.ref a152)]) P168 at_187 (hw _ (List.mem_of_getElem? (i := 22) rfl)) (hw _ (List.mem_of_getElem? (i := 23) rfl)) (hw _ (List.mem_of_getElem? (i := 24) rfl)) (hw _ (List.mem_of_getElem? (i := 25) rfl)) (by decide) (backOf (W := 2) (rmAt l Z a0 hw [] a149 [(109 : Int32), (97 : Int32), (114 : Int32), (99 : Int32)] (4 : Int32) 4 zc fm h168 n0 (Nat.le_trans Z0 E0_6_169.1) (SC.ext E0_6_169) hzc (SF.ext E0_6_169) hfm (St149.ext E1_6_170) rfl (by decide)) P168.2.2.2.1 (hw _ (List.mem_of_getElem? (i := 25) rfl)) (hw _ (List.mem_of_getElem? (i := 24) rfl)) (by decide) (by decide)) rfl rfl (by rw [hml]; rfl) (lenOf (show parseMethodDescriptor "(Ljava/lang/String;I)C" = some ⟨[(.object "java/lang/String"), .int], some .char⟩ from by decide +kernel) rfl) (by show 2 * 0 + _ ≤ _; exact Nat.le_of_eq rfl) (by decide) (by decide) rfl ?_
      rintro v171 T171 h171 L171 ⟨rfl, N171q, e171⟩ P171
      rw [e171] at P171
      have N171 := Fr.app N168 N171q
      show Own.Goes _ _ _ _ (T171.setTop (mkF m 190 #[.val (.int x0), .val (.int x1), .val (.int x2), .val (.int x3), .val (.long d0), .second, .val (.int (x0 &&& (3 : Int32))), .val (.ref a149), .val (.int (4 : Int32)), .val (.int (0 : Int32)), .val (.ref a152), .unset, .unset, .unset, .unset, .unset, .unset] [(.int (([(109 : Int32), (97 : Int32), (114 : Int32), (99 : Int32)] : List Int32).getD 4 0)), (.int (4 : Int32)), (.ref a152)]))
      have rc4 := Own.getD_rng (Own.Str.rng (St149.ext E1_6_170)) 4
      generalize (([(109 : Int32), (97 : Int32), (114 : Int32), (99 : Int32)] : List Int32).getD 4 0) = c4 at rc4 ⊢
      refine Own.castore (q := 191) (i := 4) (x2 := c4) P171 at_190 V168 (by decide) (by decide) (Own.nar_id rc4) (Own.fits_ch rc4) (by decide) (Own.ltb rfl) rfl ?_
      intro T172 h172 lc172 hl172 P172 W172 A172
      have V172 : Arv Z h172 a152 k152 .char (7 : Int32) [(.int c0), (.int c1), (.int c2), (.int c3), (.int c4), (.int 0), (.int 0)] (.int 0) := A172
      have N172 := Own.Fr.one N171 hl172 (Nat.le_trans Z0 (Nat.le_trans E0_1_150.1 (Nat.le_of_eq ha152.symm)))
      refine Own.aload (q := 193) P172 at_191 rfl rfl rfl ?_
      refine Own.iconst (q := 194) (v := (5 : Int32)) P172 at_193 rfl rfl ?_
      refine Own.iload (q := 196) P172 at_194 rfl rfl ?_
      refine Own.if_eq (q := 199) (qy := 208) P172 at_196 (by decide) rfl (fun _ => ?_) (fun q => absurd rfl q)
      refine Own.aload (q := 210) P172 at_208 rfl rfl rfl ?_
      refine Own.iconst (q := 211) (v := (5 : Int32)) P172 at_210 rfl rfl ?_
      have E0_7_173 : Ext h0 h172 := (Own.Ext.wr E0_6_169 W172 (Nat.le_trans E0_1_150.1 (Nat.le_of_eq ha152.symm)))
      have E1_7_174 : Ext h149 h172 := (Own.Ext.wr E1_6_170 W172 (Nat.le_of_eq ha152.symm))
      refine Own.invStatic (q := 214) (W := 2) (y := (⟨"com/example/mokuroku/mokuroku/core/FormatByCliNamePinLaw", "at", "(Ljava/lang/String;I)C"⟩ : MethodName)) (argsL := [(.ref a149), (.int (5 : Int32))]) (rest := [(.int (5 : Int32)), (.ref a152)]) P172 at_211 (hw _ (List.mem_of_getElem? (i := 22) rfl)) (hw _ (List.mem_of_getElem? (i := 23) rfl)) (hw _ (List.mem_of_getElem? (i := 24) rfl)) (hw _ (List.mem_of_getElem? (i := 25) rfl)) (by decide) (backOf (W := 2) (rmAt l Z a0 hw [] a149 [(109 : Int32), (97 : Int32), (114 : Int32), (99 : Int32)] (5 : Int32) 5 zc fm h172 n0 (Nat.le_trans Z0 E0_7_173.1) (SC.ext E0_7_173) hzc (SF.ext E0_7_173) hfm (St149.ext E1_7_174) rfl (by decide)) P172.2.2.2.1 (hw _ (List.mem_of_getElem? (i := 25) rfl)) (hw _ (List.mem_of_getElem? (i := 24) rfl)) (by decide) (by decide)) rfl rfl (by rw [hml]; rfl) (lenOf (show parseMethodDescriptor "(Ljava/lang/String;I)C" = some ⟨[(.object "java/lang/String"), .int], some .char⟩ from by decide +kernel) rfl) (by show 2 * 0 + _ ≤ _; exact Nat.le_of_eq rfl) (by decide) (by decide) rfl ?_
      rintro v175 T175 h175 L175 ⟨rfl, N175q, e175⟩ P175
      rw [e175] at P175
      have N175 := Fr.app N172 N175q
      show Own.Goes _ _ _ _ (T175.setTop (mkF m 214 #[.val (.int x0), .val (.int x1), .val (.int x2), .val (.int x3), .val (.long d0), .second, .val (.int (x0 &&& (3 : Int32))), .val (.ref a149), .val (.int (4 : Int32)), .val (.int (0 : Int32)), .val (.ref a152), .unset, .unset, .unset, .unset, .unset, .unset] [(.int (([(109 : Int32), (97 : Int32), (114 : Int32), (99 : Int32)] : List Int32).getD 5 0)), (.int (5 : Int32)), (.ref a152)]))
      have rc5 := Own.getD_rng (Own.Str.rng (St149.ext E1_7_174)) 5
      generalize (([(109 : Int32), (97 : Int32), (114 : Int32), (99 : Int32)] : List Int32).getD 5 0) = c5 at rc5 ⊢
      refine Own.castore (q := 215) (i := 5) (x2 := c5) P175 at_214 V172 (by decide) (by decide) (Own.nar_id rc5) (Own.fits_ch rc5) (by decide) (Own.ltb rfl) rfl ?_
      intro T176 h176 lc176 hl176 P176 W176 A176
      have V176 : Arv Z h176 a152 k152 .char (7 : Int32) [(.int c0), (.int c1), (.int c2), (.int c3), (.int c4), (.int c5), (.int 0)] (.int 0) := A176
      have N176 := Own.Fr.one N175 hl176 (Nat.le_trans Z0 (Nat.le_trans E0_1_150.1 (Nat.le_of_eq ha152.symm)))
      refine Own.aload (q := 217) P176 at_215 rfl rfl rfl ?_
      refine Own.bipush (q := 219) (v := (6 : Int32)) P176 at_217 rfl rfl ?_
      refine Own.iload (q := 221) P176 at_219 rfl rfl ?_
      refine Own.if_eq (q := 224) (qy := 234) P176 at_221 (by decide) rfl (fun _ => ?_) (fun q => absurd rfl q)
      refine Own.aload (q := 236) P176 at_234 rfl rfl rfl ?_
      refine Own.bipush (q := 238) (v := (6 : Int32)) P176 at_236 rfl rfl ?_
      have E0_8_177 : Ext h0 h176 := (Own.Ext.wr E0_7_173 W176 (Nat.le_trans E0_1_150.1 (Nat.le_of_eq ha152.symm)))
      have E1_8_178 : Ext h149 h176 := (Own.Ext.wr E1_7_174 W176 (Nat.le_of_eq ha152.symm))
      refine Own.invStatic (q := 241) (W := 2) (y := (⟨"com/example/mokuroku/mokuroku/core/FormatByCliNamePinLaw", "at", "(Ljava/lang/String;I)C"⟩ : MethodName)) (argsL := [(.ref a149), (.int (6 : Int32))]) (rest := [(.int (6 : Int32)), (.ref a152)]) P176 at_238 (hw _ (List.mem_of_getElem? (i := 22) rfl)) (hw _ (List.mem_of_getElem? (i := 23) rfl)) (hw _ (List.mem_of_getElem? (i := 24) rfl)) (hw _ (List.mem_of_getElem? (i := 25) rfl)) (by decide) (backOf (W := 2) (rmAt l Z a0 hw [] a149 [(109 : Int32), (97 : Int32), (114 : Int32), (99 : Int32)] (6 : Int32) 6 zc fm h176 n0 (Nat.le_trans Z0 E0_8_177.1) (SC.ext E0_8_177) hzc (SF.ext E0_8_177) hfm (St149.ext E1_8_178) rfl (by decide)) P176.2.2.2.1 (hw _ (List.mem_of_getElem? (i := 25) rfl)) (hw _ (List.mem_of_getElem? (i := 24) rfl)) (by decide) (by decide)) rfl rfl (by rw [hml]; rfl) (lenOf (show parseMethodDescriptor "(Ljava/lang/String;I)C" = some ⟨[(.object "java/lang/String"), .int], some .char⟩ from by decide +kernel) rfl) (by show 2 * 0 + _ ≤ _; exact Nat.le_of_eq rfl) (by decide) (by decide) rfl ?_
      rintro v179 T179 h179 L179 ⟨rfl, N179q, e179⟩ P179
      rw [e179] at P179
      have N179 := Fr.app N176 N179q
      show Own.Goes _ _ _ _ (T179.setTop (mkF m 241 #[.val (.int x0), .val (.int x1), .val (.int x2), .val (.int x3), .val (.long d0), .second, .val (.int (x0 &&& (3 : Int32))), .val (.ref a149), .val (.int (4 : Int32)), .val (.int (0 : Int32)), .val (.ref a152), .unset, .unset, .unset, .unset, .unset, .unset] [(.int (([(109 : Int32), (97 : Int32), (114 : Int32), (99 : Int32)] : List Int32).getD 6 0)), (.int (6 : Int32)), (.ref a152)]))
      have rc6 := Own.getD_rng (Own.Str.rng (St149.ext E1_8_178)) 6
      generalize (([(109 : Int32), (97 : Int32), (114 : Int32), (99 : Int32)] : List Int32).getD 6 0) = c6 at rc6 ⊢
      refine Own.castore (q := 242) (i := 6) (x2 := c6) P179 at_241 V176 (by decide) (by decide) (Own.nar_id rc6) (Own.fits_ch rc6) (by decide) (Own.ltb rfl) rfl ?_
      intro T180 h180 lc180 hl180 P180 W180 A180
      have V180 : Arv Z h180 a152 k152 .char (7 : Int32) [(.int c0), (.int c1), (.int c2), (.int c3), (.int c4), (.int c5), (.int c6)] (.int 0) := A180
      have N180 := Own.Fr.one N179 hl180 (Nat.le_trans Z0 (Nat.le_trans E0_1_150.1 (Nat.le_of_eq ha152.symm)))
      have E0_9_181 : Ext h0 h180 := (Own.Ext.wr E0_8_177 W180 (Nat.le_trans E0_1_150.1 (Nat.le_of_eq ha152.symm)))
      have E1_9_182 : Ext h149 h180 := (Own.Ext.wr E1_8_178 W180 (Nat.le_of_eq ha152.symm))
      have Hd183 := (H149.ext E1_9_182)
      exact J242 _ _ _ _ (4 : Int32) a152 k152 c0 c1 c2 c3 c4 c5 c6 (x0 &&& (3 : Int32)) a149 (0 : Int32) (Own.Wk.up P180 (by decide) (by decide)) N180 E0_9_181 Hd183 (Or.inr (Or.inr (Or.inr (Or.inr (Or.inl rfl))))) V180 (Nat.le_trans E0_1_150.1 (Nat.le_of_eq ha152.symm)) rc0 rc1 rc2 rc3 rc4 rc5 rc6
  · refine Own.ldcStr (q := 12) (n := 24) (cs := [(106 : Int32), (112 : Int32), (99 : Int32), (111 : Int32), (97 : Int32), (114 : Int32)]) P0 H0 at_10 (hw _ (List.mem_of_getElem? (i := 0) rfl)) (fun a ha => hw a (sub_str a ha)) (ew hw) (by decide) (by decide) (Own.chS (by decide) (Own.chS (by decide) (Own.chS (by decide) (Own.chS (by decide) (Own.chS (by decide) (Own.chS (by decide) Own.ch0)))))) (by decide) (by decide) (by decide) (by decide) (by decide) (by decide) (by decide) rfl ?_
    intro T184 vm184 h184 a184 P184 H184 hr184 E184 St184
    refine Own.goto (q := 28) P184 at_12 (by decide) ?_
    refine Own.astore (q := 30) (L2 := #[.val (.int x0), .val (.int x1), .val (.int x2), .val (.int x3), .val (.long d0), .second, .val (.int (x0 &&& (3 : Int32))), .val (.ref a184), .unset, .unset, .unset, .unset, .unset, .unset, .unset, .unset, .unset]) P184 at_28 rfl rfl rfl ?_
    refine Own.iload (q := 32) P184 at_30 rfl rfl ?_
    refine Own.iconst (q := 33) (v := (3 : Int32)) P184 at_32 rfl rfl ?_
    refine Own.icmp_ne (q := 36) (qy := 45) P184 at_33 (by decide) rfl (fun _ => ?_) (fun z => absurd z (by rw [q7]; decide))
    refine Own.aload (q := 47) P184 at_45 rfl rfl rfl ?_
    have E0_1_185 : Ext h0 h184 := E184
    refine Own.invVirtual (q := 50) (W := 0) (y := (⟨"java/lang/String", "length", "()I"⟩ : MethodName)) (a := a184) (argsL := []) (rest := []) P184 at_47 (hw _ (List.mem_of_getElem? (i := 8) rfl)) (hw _ (List.mem_of_getElem? (i := 9) rfl)) (hw _ (List.mem_of_getElem? (i := 11) rfl)) (hw _ (List.mem_of_getElem? (i := 10) rfl)) (notFace_of_selects (args := #[]) (mvT P184.2.2.2.1 (hw _ (List.mem_of_getElem? (i := 11) rfl)))) (by decide) (Own.lenB (W := 0) (n0 := n0) P184.2.2.2.1 (fun d hd => hw d (sub_lenW d hd)) (hw _ (List.mem_of_getElem? (i := 2) rfl)) St184 (SC.ext E0_1_185) hzc (by decide) (by decide)) St184.exa rfl rfl (by rw [hml]; rfl) (lenOf (show parseMethodDescriptor "()I" = some ⟨[], some .int⟩ from by decide +kernel) rfl) (by show 2 * 0 + _ ≤ _; exact Nat.le_of_eq rfl) (by decide) (by decide) rfl ?_
    rintro v186 T186 h186 L186 ⟨rfl, N186q, e186⟩ P186
    rw [e186] at P186
    have N186 := Fr.app N0 N186q
    show Own.Goes _ _ _ _ (T186.setTop (mkF m 50 #[.val (.int x0), .val (.int x1), .val (.int x2), .val (.int x3), .val (.long d0), .second, .val (.int (x0 &&& (3 : Int32))), .val (.ref a184), .unset, .unset, .unset, .unset, .unset, .unset, .unset, .unset, .unset] [(.int (6 : Int32))]))
    refine Own.istore (q := 52) (L2 := #[.val (.int x0), .val (.int x1), .val (.int x2), .val (.int x3), .val (.long d0), .second, .val (.int (x0 &&& (3 : Int32))), .val (.ref a184), .val (.int (6 : Int32)), .unset, .unset, .unset, .unset, .unset, .unset, .unset, .unset]) P186 at_50 rfl rfl ?_
    refine Own.iload (q := 54) P186 at_52 rfl rfl ?_
    refine Own.iconst (q := 55) (v := (3 : Int32)) P186 at_54 rfl rfl ?_
    refine Own.icmp_ne (q := 58) (qy := 62) P186 at_55 (by decide) rfl (fun _ => ?_) (fun z => absurd z (by rw [q7]; decide))
    refine Own.iconst (q := 63) (v := (0 : Int32)) P186 at_62 rfl rfl ?_
    refine Own.istore (q := 65) (L2 := #[.val (.int x0), .val (.int x1), .val (.int x2), .val (.int x3), .val (.long d0), .second, .val (.int (x0 &&& (3 : Int32))), .val (.ref a184), .val (.int (6 : Int32)), .val (.int (0 : Int32)), .unset, .unset, .unset, .unset, .unset, .unset, .unset]) P186 at_63 rfl rfl ?_
    refine Own.bipush (q := 67) (v := (7 : Int32)) P186 at_65 rfl rfl ?_
    refine Own.newarr (q := 69) (cap := 7) P186 at_67 (hw _ (List.mem_of_getElem? (i := 21) rfl)) (by decide) (by decide) (by decide) (by decide) (by decide) rfl ?_
    intro T187 h187 a187 k187 ha187 P187 E187 A187
    have V187 : Arv Z h187 a187 k187 .char (7 : Int32) [(.int 0), (.int 0), (.int 0), (.int 0), (.int 0), (.int 0), (.int 0)] (.int 0) := Arv.pad A187 (pad_rep [] _ 7)
    refine Own.astore (q := 71) (L2 := #[.val (.int x0), .val (.int x1), .val (.int x2), .val (.int x3), .val (.long d0), .second, .val (.int (x0 &&& (3 : Int32))), .val (.ref a184), .val (.int (6 : Int32)), .val (.int (0 : Int32)), .val (.ref a187), .unset, .unset, .unset, .unset, .unset, .unset]) P187 at_69 rfl rfl rfl ?_
    refine Own.aload (q := 73) P187 at_71 rfl rfl rfl ?_
    refine Own.iconst (q := 74) (v := (0 : Int32)) P187 at_73 rfl rfl ?_
    refine Own.iload (q := 76) P187 at_74 rfl rfl ?_
    refine Own.if_eq (q := 79) (qy := 88) P187 at_76 (by decide) rfl (fun _ => ?_) (fun q => absurd rfl q)
    refine Own.aload (q := 90) P187 at_88 rfl rfl rfl ?_
    refine Own.iconst (q := 91) (v := (0 : Int32)) P187 at_90 rfl rfl ?_
    have E0_2_188 : Ext h0 h187 := (Own.Ext.tr E0_1_185 E187)
    have E1_2_189 : Ext h184 h187 := E187
    refine Own.invStatic (q := 94) (W := 2) (y := (⟨"com/example/mokuroku/mokuroku/core/FormatByCliNamePinLaw", "at", "(Ljava/lang/String;I)C"⟩ : MethodName)) (argsL := [(.ref a184), (.int (0 : Int32))]) (rest := [(.int (0 : Int32)), (.ref a187)]) P187 at_91 (hw _ (List.mem_of_getElem? (i := 22) rfl)) (hw _ (List.mem_of_getElem? (i := 23) rfl)) (hw _ (List.mem_of_getElem? (i := 24) rfl)) (hw _ (List.mem_of_getElem? (i := 25) rfl)) (by decide) (backOf (W := 2) (rmAt l Z a0 hw [] a184 [(106 : Int32), (112 : Int32), (99 : Int32), (111 : Int32), (97 : Int32), (114 : Int32)] (0 : Int32) 0 zc fm h187 n0 (Nat.le_trans Z0 E0_2_188.1) (SC.ext E0_2_188) hzc (SF.ext E0_2_188) hfm (St184.ext E1_2_189) rfl (by decide)) P187.2.2.2.1 (hw _ (List.mem_of_getElem? (i := 25) rfl)) (hw _ (List.mem_of_getElem? (i := 24) rfl)) (by decide) (by decide)) rfl rfl (by rw [hml]; rfl) (lenOf (show parseMethodDescriptor "(Ljava/lang/String;I)C" = some ⟨[(.object "java/lang/String"), .int], some .char⟩ from by decide +kernel) rfl) (by show 2 * 0 + _ ≤ _; exact Nat.le_of_eq rfl) (by decide) (by decide) rfl ?_
    rintro v190 T190 h190 L190 ⟨rfl, N190q, e190⟩ P190
    rw [e190] at P190
    have N190 := Fr.app N186 N190q
    show Own.Goes _ _ _ _ (T190.setTop (mkF m 94 #[.val (.int x0), .val (.int x1), .val (.int x2), .val (.int x3), .val (.long d0), .second, .val (.int (x0 &&& (3 : Int32))), .val (.ref a184), .val (.int (6 : Int32)), .val (.int (0 : Int32)), .val (.ref a187), .unset, .unset, .unset, .unset, .unset, .unset] [(.int (([(106 : Int32), (112 : Int32), (99 : Int32), (111 : Int32), (97 : Int32), (114 : Int32)] : List Int32).getD 0 0)), (.int (0 : Int32)), (.ref a187)]))
    have rc0 := Own.getD_rng (Own.Str.rng (St184.ext E1_2_189)) 0
    generalize (([(106 : Int32), (112 : Int32), (99 : Int32), (111 : Int32), (97 : Int32), (114 : Int32)] : List Int32).getD 0 0) = c0 at rc0 ⊢
    refine Own.castore (q := 95) (i := 0) (x2 := c0) P190 at_94 V187 (by decide) (by decide) (Own.nar_id rc0) (Own.fits_ch rc0) (by decide) (Own.ltb rfl) rfl ?_
    intro T191 h191 lc191 hl191 P191 W191 A191
    have V191 : Arv Z h191 a187 k187 .char (7 : Int32) [(.int c0), (.int 0), (.int 0), (.int 0), (.int 0), (.int 0), (.int 0)] (.int 0) := A191
    have N191 := Own.Fr.one N190 hl191 (Nat.le_trans Z0 (Nat.le_trans E0_1_185.1 (Nat.le_of_eq ha187.symm)))
    refine Own.aload (q := 97) P191 at_95 rfl rfl rfl ?_
    refine Own.iconst (q := 98) (v := (1 : Int32)) P191 at_97 rfl rfl ?_
    refine Own.iload (q := 100) P191 at_98 rfl rfl ?_
    refine Own.if_eq (q := 103) (qy := 112) P191 at_100 (by decide) rfl (fun _ => ?_) (fun q => absurd rfl q)
    refine Own.aload (q := 114) P191 at_112 rfl rfl rfl ?_
    refine Own.iconst (q := 115) (v := (1 : Int32)) P191 at_114 rfl rfl ?_
    have E0_3_192 : Ext h0 h191 := (Own.Ext.wr E0_2_188 W191 (Nat.le_trans E0_1_185.1 (Nat.le_of_eq ha187.symm)))
    have E1_3_193 : Ext h184 h191 := (Own.Ext.wr E1_2_189 W191 (Nat.le_of_eq ha187.symm))
    refine Own.invStatic (q := 118) (W := 2) (y := (⟨"com/example/mokuroku/mokuroku/core/FormatByCliNamePinLaw", "at", "(Ljava/lang/String;I)C"⟩ : MethodName)) (argsL := [(.ref a184), (.int (1 : Int32))]) (rest := [(.int (1 : Int32)), (.ref a187)]) P191 at_115 (hw _ (List.mem_of_getElem? (i := 22) rfl)) (hw _ (List.mem_of_getElem? (i := 23) rfl)) (hw _ (List.mem_of_getElem? (i := 24) rfl)) (hw _ (List.mem_of_getElem? (i := 25) rfl)) (by decide) (backOf (W := 2) (rmAt l Z a0 hw [] a184 [(106 : Int32), (112 : Int32), (99 : Int32), (111 : Int32), (97 : Int32), (114 : Int32)] (1 : Int32) 1 zc fm h191 n0 (Nat.le_trans Z0 E0_3_192.1) (SC.ext E0_3_192) hzc (SF.ext E0_3_192) hfm (St184.ext E1_3_193) rfl (by decide)) P191.2.2.2.1 (hw _ (List.mem_of_getElem? (i := 25) rfl)) (hw _ (List.mem_of_getElem? (i := 24) rfl)) (by decide) (by decide)) rfl rfl (by rw [hml]; rfl) (lenOf (show parseMethodDescriptor "(Ljava/lang/String;I)C" = some ⟨[(.object "java/lang/String"), .int], some .char⟩ from by decide +kernel) rfl) (by show 2 * 0 + _ ≤ _; exact Nat.le_of_eq rfl) (by decide) (by decide) rfl ?_
    rintro v194 T194 h194 L194 ⟨rfl, N194q, e194⟩ P194
    rw [e194] at P194
    have N194 := Fr.app N191 N194q
    show Own.Goes _ _ _ _ (T194.setTop (mkF m 118 #[.val (.int x0), .val (.int x1), .val (.int x2), .val (.int x3), .val (.long d0), .second, .val (.int (x0 &&& (3 : Int32))), .val (.ref a184), .val (.int (6 : Int32)), .val (.int (0 : Int32)), .val (.ref a187), .unset, .unset, .unset, .unset, .unset, .unset] [(.int (([(106 : Int32), (112 : Int32), (99 : Int32), (111 : Int32), (97 : Int32), (114 : Int32)] : List Int32).getD 1 0)), (.int (1 : Int32)), (.ref a187)]))
    have rc1 := Own.getD_rng (Own.Str.rng (St184.ext E1_3_193)) 1
    generalize (([(106 : Int32), (112 : Int32), (99 : Int32), (111 : Int32), (97 : Int32), (114 : Int32)] : List Int32).getD 1 0) = c1 at rc1 ⊢
    refine Own.castore (q := 119) (i := 1) (x2 := c1) P194 at_118 V191 (by decide) (by decide) (Own.nar_id rc1) (Own.fits_ch rc1) (by decide) (Own.ltb rfl) rfl ?_
    intro T195 h195 lc195 hl195 P195 W195 A195
    have V195 : Arv Z h195 a187 k187 .char (7 : Int32) [(.int c0), (.int c1), (.int 0), (.int 0), (.int 0), (.int 0), (.int 0)] (.int 0) := A195
    have N195 := Own.Fr.one N194 hl195 (Nat.le_trans Z0 (Nat.le_trans E0_1_185.1 (Nat.le_of_eq ha187.symm)))
    refine Own.aload (q := 121) P195 at_119 rfl rfl rfl ?_
    refine Own.iconst (q := 122) (v := (2 : Int32)) P195 at_121 rfl rfl ?_
    refine Own.iload (q := 124) P195 at_122 rfl rfl ?_
    refine Own.if_eq (q := 127) (qy := 136) P195 at_124 (by decide) rfl (fun _ => ?_) (fun q => absurd rfl q)
    refine Own.aload (q := 138) P195 at_136 rfl rfl rfl ?_
    refine Own.iconst (q := 139) (v := (2 : Int32)) P195 at_138 rfl rfl ?_
    have E0_4_196 : Ext h0 h195 := (Own.Ext.wr E0_3_192 W195 (Nat.le_trans E0_1_185.1 (Nat.le_of_eq ha187.symm)))
    have E1_4_197 : Ext h184 h195 := (Own.Ext.wr E1_3_193 W195 (Nat.le_of_eq ha187.symm))
    refine Own.invStatic (q := 142) (W := 2) (y := (⟨"com/example/mokuroku/mokuroku/core/FormatByCliNamePinLaw", "at", "(Ljava/lang/String;I)C"⟩ : MethodName)) (argsL := [(.ref a184), (.int (2 : Int32))]) (rest := [(.int (2 : Int32)), (.ref a187)]) P195 at_139 (hw _ (List.mem_of_getElem? (i := 22) rfl)) (hw _ (List.mem_of_getElem? (i := 23) rfl)) (hw _ (List.mem_of_getElem? (i := 24) rfl)) (hw _ (List.mem_of_getElem? (i := 25) rfl)) (by decide) (backOf (W := 2) (rmAt l Z a0 hw [] a184 [(106 : Int32), (112 : Int32), (99 : Int32), (111 : Int32), (97 : Int32), (114 : Int32)] (2 : Int32) 2 zc fm h195 n0 (Nat.le_trans Z0 E0_4_196.1) (SC.ext E0_4_196) hzc (SF.ext E0_4_196) hfm (St184.ext E1_4_197) rfl (by decide)) P195.2.2.2.1 (hw _ (List.mem_of_getElem? (i := 25) rfl)) (hw _ (List.mem_of_getElem? (i := 24) rfl)) (by decide) (by decide)) rfl rfl (by rw [hml]; rfl) (lenOf (show parseMethodDescriptor "(Ljava/lang/String;I)C" = some ⟨[(.object "java/lang/String"), .int], some .char⟩ from by decide +kernel) rfl) (by show 2 * 0 + _ ≤ _; exact Nat.le_of_eq rfl) (by decide) (by decide) rfl ?_
    rintro v198 T198 h198 L198 ⟨rfl, N198q, e198⟩ P198
    rw [e198] at P198
    have N198 := Fr.app N195 N198q
    show Own.Goes _ _ _ _ (T198.setTop (mkF m 142 #[.val (.int x0), .val (.int x1), .val (.int x2), .val (.int x3), .val (.long d0), .second, .val (.int (x0 &&& (3 : Int32))), .val (.ref a184), .val (.int (6 : Int32)), .val (.int (0 : Int32)), .val (.ref a187), .unset, .unset, .unset, .unset, .unset, .unset] [(.int (([(106 : Int32), (112 : Int32), (99 : Int32), (111 : Int32), (97 : Int32), (114 : Int32)] : List Int32).getD 2 0)), (.int (2 : Int32)), (.ref a187)]))
    have rc2 := Own.getD_rng (Own.Str.rng (St184.ext E1_4_197)) 2
    generalize (([(106 : Int32), (112 : Int32), (99 : Int32), (111 : Int32), (97 : Int32), (114 : Int32)] : List Int32).getD 2 0) = c2 at rc2 ⊢
    refine Own.castore (q := 143) (i := 2) (x2 := c2) P198 at_142 V195 (by decide) (by decide) (Own.nar_id rc2) (Own.fits_ch rc2) (by decide) (Own.ltb rfl) rfl ?_
    intro T199 h199 lc199 hl199 P199 W199 A199
    have V199 : Arv Z h199 a187 k187 .char (7 : Int32) [(.int c0), (.int c1), (.int c2), (.int 0), (.int 0), (.int 0), (.int 0)] (.int 0) := A199
    have N199 := Own.Fr.one N198 hl199 (Nat.le_trans Z0 (Nat.le_trans E0_1_185.1 (Nat.le_of_eq ha187.symm)))
    refine Own.aload (q := 145) P199 at_143 rfl rfl rfl ?_
    refine Own.iconst (q := 146) (v := (3 : Int32)) P199 at_145 rfl rfl ?_
    refine Own.iload (q := 148) P199 at_146 rfl rfl ?_
    refine Own.if_eq (q := 151) (qy := 160) P199 at_148 (by decide) rfl (fun _ => ?_) (fun q => absurd rfl q)
    refine Own.aload (q := 162) P199 at_160 rfl rfl rfl ?_
    refine Own.iconst (q := 163) (v := (3 : Int32)) P199 at_162 rfl rfl ?_
    have E0_5_200 : Ext h0 h199 := (Own.Ext.wr E0_4_196 W199 (Nat.le_trans E0_1_185.1 (Nat.le_of_eq ha187.symm)))
    have E1_5_201 : Ext h184 h199 := (Own.Ext.wr E1_4_197 W199 (Nat.le_of_eq ha187.symm))
    refine Own.invStatic (q := 166) (W := 2) (y := (⟨"com/example/mokuroku/mokuroku/core/FormatByCliNamePinLaw", "at", "(Ljava/lang/String;I)C"⟩ : MethodName)) (argsL := [(.ref a184), (.int (3 : Int32))]) (rest := [(.int (3 : Int32)), (.ref a187)]) P199 at_163 (hw _ (List.mem_of_getElem? (i := 22) rfl)) (hw _ (List.mem_of_getElem? (i := 23) rfl)) (hw _ (List.mem_of_getElem? (i := 24) rfl)) (hw _ (List.mem_of_getElem? (i := 25) rfl)) (by decide) (backOf (W := 2) (rmAt l Z a0 hw [] a184 [(106 : Int32), (112 : Int32), (99 : Int32), (111 : Int32), (97 : Int32), (114 : Int32)] (3 : Int32) 3 zc fm h199 n0 (Nat.le_trans Z0 E0_5_200.1) (SC.ext E0_5_200) hzc (SF.ext E0_5_200) hfm (St184.ext E1_5_201) rfl (by decide)) P199.2.2.2.1 (hw _ (List.mem_of_getElem? (i := 25) rfl)) (hw _ (List.mem_of_getElem? (i := 24) rfl)) (by decide) (by decide)) rfl rfl (by rw [hml]; rfl) (lenOf (show parseMethodDescriptor "(Ljava/lang/String;I)C" = some ⟨[(.object "java/lang/String"), .int], some .char⟩ from by decide +kernel) rfl) (by show 2 * 0 + _ ≤ _; exact Nat.le_of_eq rfl) (by decide) (by decide) rfl ?_
    rintro v202 T202 h202 L202 ⟨rfl, N202q, e202⟩ P202
    rw [e202] at P202
    have N202 := Fr.app N199 N202q
    show Own.Goes _ _ _ _ (T202.setTop (mkF m 166 #[.val (.int x0), .val (.int x1), .val (.int x2), .val (.int x3), .val (.long d0), .second, .val (.int (x0 &&& (3 : Int32))), .val (.ref a184), .val (.int (6 : Int32)), .val (.int (0 : Int32)), .val (.ref a187), .unset, .unset, .unset, .unset, .unset, .unset] [(.int (([(106 : Int32), (112 : Int32), (99 : Int32), (111 : Int32), (97 : Int32), (114 : Int32)] : List Int32).getD 3 0)), (.int (3 : Int32)), (.ref a187)]))
    have rc3 := Own.getD_rng (Own.Str.rng (St184.ext E1_5_201)) 3
    generalize (([(106 : Int32), (112 : Int32), (99 : Int32), (111 : Int32), (97 : Int32), (114 : Int32)] : List Int32).getD 3 0) = c3 at rc3 ⊢
    refine Own.castore (q := 167) (i := 3) (x2 := c3) P202 at_166 V199 (by decide) (by decide) (Own.nar_id rc3) (Own.fits_ch rc3) (by decide) (Own.ltb rfl) rfl ?_
    intro T203 h203 lc203 hl203 P203 W203 A203
    have V203 : Arv Z h203 a187 k187 .char (7 : Int32) [(.int c0), (.int c1), (.int c2), (.int c3), (.int 0), (.int 0), (.int 0)] (.int 0) := A203
    have N203 := Own.Fr.one N202 hl203 (Nat.le_trans Z0 (Nat.le_trans E0_1_185.1 (Nat.le_of_eq ha187.symm)))
    refine Own.aload (q := 169) P203 at_167 rfl rfl rfl ?_
    refine Own.iconst (q := 170) (v := (4 : Int32)) P203 at_169 rfl rfl ?_
    refine Own.iload (q := 172) P203 at_170 rfl rfl ?_
    refine Own.if_eq (q := 175) (qy := 184) P203 at_172 (by decide) rfl (fun _ => ?_) (fun q => absurd rfl q)
    refine Own.aload (q := 186) P203 at_184 rfl rfl rfl ?_
    refine Own.iconst (q := 187) (v := (4 : Int32)) P203 at_186 rfl rfl ?_
    have E0_6_204 : Ext h0 h203 := (Own.Ext.wr E0_5_200 W203 (Nat.le_trans E0_1_185.1 (Nat.le_of_eq ha187.symm)))
    have E1_6_205 : Ext h184 h203 := (Own.Ext.wr E1_5_201 W203 (Nat.le_of_eq ha187.symm))
    refine Own.invStatic (q := 190) (W := 2) (y := (⟨"com/example/mokuroku/mokuroku/core/FormatByCliNamePinLaw", "at", "(Ljava/lang/String;I)C"⟩ : MethodName)) (argsL := [(.ref a184), (.int (4 : Int32))]) (rest := [(.int (4 : Int32)), (.ref a187)]) P203 at_187 (hw _ (List.mem_of_getElem? (i := 22) rfl)) (hw _ (List.mem_of_getElem? (i := 23) rfl)) (hw _ (List.mem_of_getElem? (i := 24) rfl)) (hw _ (List.mem_of_getElem? (i := 25) rfl)) (by decide) (backOf (W := 2) (rmAt l Z a0 hw [] a184 [(106 : Int32), (112 : Int32), (99 : Int32), (111 : Int32), (97 : Int32), (114 : Int32)] (4 : Int32) 4 zc fm h203 n0 (Nat.le_trans Z0 E0_6_204.1) (SC.ext E0_6_204) hzc (SF.ext E0_6_204) hfm (St184.ext E1_6_205) rfl (by decide)) P203.2.2.2.1 (hw _ (List.mem_of_getElem? (i := 25) rfl)) (hw _ (List.mem_of_getElem? (i := 24) rfl)) (by decide) (by decide)) rfl rfl (by rw [hml]; rfl) (lenOf (show parseMethodDescriptor "(Ljava/lang/String;I)C" = some ⟨[(.object "java/lang/String"), .int], some .char⟩ from by decide +kernel) rfl) (by show 2 * 0 + _ ≤ _; exact Nat.le_of_eq rfl) (by decide) (by decide) rfl ?_
    rintro v206 T206 h206 L206 ⟨rfl, N206q, e206⟩ P206
    rw [e206] at P206
    have N206 := Fr.app N203 N206q
    show Own.Goes _ _ _ _ (T206.setTop (mkF m 190 #[.val (.int x0), .val (.int x1), .val (.int x2), .val (.int x3), .val (.long d0), .second, .val (.int (x0 &&& (3 : Int32))), .val (.ref a184), .val (.int (6 : Int32)), .val (.int (0 : Int32)), .val (.ref a187), .unset, .unset, .unset, .unset, .unset, .unset] [(.int (([(106 : Int32), (112 : Int32), (99 : Int32), (111 : Int32), (97 : Int32), (114 : Int32)] : List Int32).getD 4 0)), (.int (4 : Int32)), (.ref a187)]))
    have rc4 := Own.getD_rng (Own.Str.rng (St184.ext E1_6_205)) 4
    generalize (([(106 : Int32), (112 : Int32), (99 : Int32), (111 : Int32), (97 : Int32), (114 : Int32)] : List Int32).getD 4 0) = c4 at rc4 ⊢
    refine Own.castore (q := 191) (i := 4) (x2 := c4) P206 at_190 V203 (by decide) (by decide) (Own.nar_id rc4) (Own.fits_ch rc4) (by decide) (Own.ltb rfl) rfl ?_
    intro T207 h207 lc207 hl207 P207 W207 A207
    have V207 : Arv Z h207 a187 k187 .char (7 : Int32) [(.int c0), (.int c1), (.int c2), (.int c3), (.int c4), (.int 0), (.int 0)] (.int 0) := A207
    have N207 := Own.Fr.one N206 hl207 (Nat.le_trans Z0 (Nat.le_trans E0_1_185.1 (Nat.le_of_eq ha187.symm)))
    refine Own.aload (q := 193) P207 at_191 rfl rfl rfl ?_
    refine Own.iconst (q := 194) (v := (5 : Int32)) P207 at_193 rfl rfl ?_
    refine Own.iload (q := 196) P207 at_194 rfl rfl ?_
    refine Own.if_eq (q := 199) (qy := 208) P207 at_196 (by decide) rfl (fun _ => ?_) (fun q => absurd rfl q)
    refine Own.aload (q := 210) P207 at_208 rfl rfl rfl ?_
    refine Own.iconst (q := 211) (v := (5 : Int32)) P207 at_210 rfl rfl ?_
    have E0_7_208 : Ext h0 h207 := (Own.Ext.wr E0_6_204 W207 (Nat.le_trans E0_1_185.1 (Nat.le_of_eq ha187.symm)))
    have E1_7_209 : Ext h184 h207 := (Own.Ext.wr E1_6_205 W207 (Nat.le_of_eq ha187.symm))
    refine Own.invStatic (q := 214) (W := 2) (y := (⟨"com/example/mokuroku/mokuroku/core/FormatByCliNamePinLaw", "at", "(Ljava/lang/String;I)C"⟩ : MethodName)) (argsL := [(.ref a184), (.int (5 : Int32))]) (rest := [(.int (5 : Int32)), (.ref a187)]) P207 at_211 (hw _ (List.mem_of_getElem? (i := 22) rfl)) (hw _ (List.mem_of_getElem? (i := 23) rfl)) (hw _ (List.mem_of_getElem? (i := 24) rfl)) (hw _ (List.mem_of_getElem? (i := 25) rfl)) (by decide) (backOf (W := 2) (rmAt l Z a0 hw [] a184 [(106 : Int32), (112 : Int32), (99 : Int32), (111 : Int32), (97 : Int32), (114 : Int32)] (5 : Int32) 5 zc fm h207 n0 (Nat.le_trans Z0 E0_7_208.1) (SC.ext E0_7_208) hzc (SF.ext E0_7_208) hfm (St184.ext E1_7_209) rfl (by decide)) P207.2.2.2.1 (hw _ (List.mem_of_getElem? (i := 25) rfl)) (hw _ (List.mem_of_getElem? (i := 24) rfl)) (by decide) (by decide)) rfl rfl (by rw [hml]; rfl) (lenOf (show parseMethodDescriptor "(Ljava/lang/String;I)C" = some ⟨[(.object "java/lang/String"), .int], some .char⟩ from by decide +kernel) rfl) (by show 2 * 0 + _ ≤ _; exact Nat.le_of_eq rfl) (by decide) (by decide) rfl ?_
    rintro v210 T210 h210 L210 ⟨rfl, N210q, e210⟩ P210
    rw [e210] at P210
    have N210 := Fr.app N207 N210q
    show Own.Goes _ _ _ _ (T210.setTop (mkF m 214 #[.val (.int x0), .val (.int x1), .val (.int x2), .val (.int x3), .val (.long d0), .second, .val (.int (x0 &&& (3 : Int32))), .val (.ref a184), .val (.int (6 : Int32)), .val (.int (0 : Int32)), .val (.ref a187), .unset, .unset, .unset, .unset, .unset, .unset] [(.int (([(106 : Int32), (112 : Int32), (99 : Int32), (111 : Int32), (97 : Int32), (114 : Int32)] : List Int32).getD 5 0)), (.int (5 : Int32)), (.ref a187)]))
    have rc5 := Own.getD_rng (Own.Str.rng (St184.ext E1_7_209)) 5
    generalize (([(106 : Int32), (112 : Int32), (99 : Int32), (111 : Int32), (97 : Int32), (114 : Int32)] : List Int32).getD 5 0) = c5 at rc5 ⊢
    refine Own.castore (q := 215) (i := 5) (x2 := c5) P210 at_214 V207 (by decide) (by decide) (Own.nar_id rc5) (Own.fits_ch rc5) (by decide) (Own.ltb rfl) rfl ?_
    intro T211 h211 lc211 hl211 P211 W211 A211
    have V211 : Arv Z h211 a187 k187 .char (7 : Int32) [(.int c0), (.int c1), (.int c2), (.int c3), (.int c4), (.int c5), (.int 0)] (.int 0) := A211
    have N211 := Own.Fr.one N210 hl211 (Nat.le_trans Z0 (Nat.le_trans E0_1_185.1 (Nat.le_of_eq ha187.symm)))
    refine Own.aload (q := 217) P211 at_215 rfl rfl rfl ?_
    refine Own.bipush (q := 219) (v := (6 : Int32)) P211 at_217 rfl rfl ?_
    refine Own.iload (q := 221) P211 at_219 rfl rfl ?_
    refine Own.if_eq (q := 224) (qy := 234) P211 at_221 (by decide) rfl (fun _ => ?_) (fun q => absurd rfl q)
    refine Own.aload (q := 236) P211 at_234 rfl rfl rfl ?_
    refine Own.bipush (q := 238) (v := (6 : Int32)) P211 at_236 rfl rfl ?_
    have E0_8_212 : Ext h0 h211 := (Own.Ext.wr E0_7_208 W211 (Nat.le_trans E0_1_185.1 (Nat.le_of_eq ha187.symm)))
    have E1_8_213 : Ext h184 h211 := (Own.Ext.wr E1_7_209 W211 (Nat.le_of_eq ha187.symm))
    refine Own.invStatic (q := 241) (W := 2) (y := (⟨"com/example/mokuroku/mokuroku/core/FormatByCliNamePinLaw", "at", "(Ljava/lang/String;I)C"⟩ : MethodName)) (argsL := [(.ref a184), (.int (6 : Int32))]) (rest := [(.int (6 : Int32)), (.ref a187)]) P211 at_238 (hw _ (List.mem_of_getElem? (i := 22) rfl)) (hw _ (List.mem_of_getElem? (i := 23) rfl)) (hw _ (List.mem_of_getElem? (i := 24) rfl)) (hw _ (List.mem_of_getElem? (i := 25) rfl)) (by decide) (backOf (W := 2) (rmAt l Z a0 hw [] a184 [(106 : Int32), (112 : Int32), (99 : Int32), (111 : Int32), (97 : Int32), (114 : Int32)] (6 : Int32) 6 zc fm h211 n0 (Nat.le_trans Z0 E0_8_212.1) (SC.ext E0_8_212) hzc (SF.ext E0_8_212) hfm (St184.ext E1_8_213) rfl (by decide)) P211.2.2.2.1 (hw _ (List.mem_of_getElem? (i := 25) rfl)) (hw _ (List.mem_of_getElem? (i := 24) rfl)) (by decide) (by decide)) rfl rfl (by rw [hml]; rfl) (lenOf (show parseMethodDescriptor "(Ljava/lang/String;I)C" = some ⟨[(.object "java/lang/String"), .int], some .char⟩ from by decide +kernel) rfl) (by show 2 * 0 + _ ≤ _; exact Nat.le_of_eq rfl) (by decide) (by decide) rfl ?_
    rintro v214 T214 h214 L214 ⟨rfl, N214q, e214⟩ P214
    rw [e214] at P214
    have N214 := Fr.app N211 N214q
    show Own.Goes _ _ _ _ (T214.setTop (mkF m 241 #[.val (.int x0), .val (.int x1), .val (.int x2), .val (.int x3), .val (.long d0), .second, .val (.int (x0 &&& (3 : Int32))), .val (.ref a184), .val (.int (6 : Int32)), .val (.int (0 : Int32)), .val (.ref a187), .unset, .unset, .unset, .unset, .unset, .unset] [(.int (([(106 : Int32), (112 : Int32), (99 : Int32), (111 : Int32), (97 : Int32), (114 : Int32)] : List Int32).getD 6 0)), (.int (6 : Int32)), (.ref a187)]))
    have rc6 := Own.getD_rng (Own.Str.rng (St184.ext E1_8_213)) 6
    generalize (([(106 : Int32), (112 : Int32), (99 : Int32), (111 : Int32), (97 : Int32), (114 : Int32)] : List Int32).getD 6 0) = c6 at rc6 ⊢
    refine Own.castore (q := 242) (i := 6) (x2 := c6) P214 at_241 V211 (by decide) (by decide) (Own.nar_id rc6) (Own.fits_ch rc6) (by decide) (Own.ltb rfl) rfl ?_
    intro T215 h215 lc215 hl215 P215 W215 A215
    have V215 : Arv Z h215 a187 k187 .char (7 : Int32) [(.int c0), (.int c1), (.int c2), (.int c3), (.int c4), (.int c5), (.int c6)] (.int 0) := A215
    have N215 := Own.Fr.one N214 hl215 (Nat.le_trans Z0 (Nat.le_trans E0_1_185.1 (Nat.le_of_eq ha187.symm)))
    have E0_9_216 : Ext h0 h215 := (Own.Ext.wr E0_8_212 W215 (Nat.le_trans E0_1_185.1 (Nat.le_of_eq ha187.symm)))
    have E1_9_217 : Ext h184 h215 := (Own.Ext.wr E1_8_213 W215 (Nat.le_of_eq ha187.symm))
    have Hd218 := (H184.ext E1_9_217)
    exact J242 _ _ _ _ (6 : Int32) a187 k187 c0 c1 c2 c3 c4 c5 c6 (x0 &&& (3 : Int32)) a184 (0 : Int32) (Own.Wk.up P215 (by decide) (by decide)) N215 E0_9_216 Hd218 (Or.inr (Or.inr (Or.inr (Or.inr (Or.inr (Or.inr (Or.inl rfl))))))) V215 (Nat.le_trans E0_1_185.1 (Nat.le_of_eq ha187.symm)) rc0 rc1 rc2 rc3 rc4 rc5 rc6
set_option maxRecDepth 65536 in
set_option maxHeartbeats 40000000 in
theorem comes_1 {Post : Tables → Env → Array Value → State → Outcome → State → Prop} (hpost : ∀ tb e args s v u, (limb_1_1.after args s (.returned v) u = true ∧ limb_1_2.after args s (.returned v) u = true ∧ True) → ReturnedEndW s (.returned v) u (Jvm.fieldLocs frame_1_writes args s ++ Jvm.arrayLocs frame_1_arrays args s ++ Jvm.staticLocs frame_1_statics s) 32 4288 → Post tb e args s (.returned v) u) :
    ArmFor flags0 classFile x code maxLocals ret World_1 tables_1 room_1 Calls_1 rest_1 Pre_1 Post := by
  intro l hfl _ _ p e ha hc hk s m args below hf hA hF happ hP
  obtain ⟨hcalls, hrest, hpre⟩ := hP
  obtain ⟨-, -, -, hnamed, -, -, -, hat⟩ := (Spec.applies_iff hf).mp happ
  obtain ⟨hg, hn⟩ := and_e (Cond.before_iff.mp (show (Jvm.Cond.and given_1 narrow_1).before args s = true from hpre))
  obtain ⟨hg0, hg1⟩ := and_e hg
  obtain ⟨hi1, hg2⟩ := and_e hg1
  obtain ⟨hi2, hg3⟩ := and_e hg2
  obtain ⟨hi3, hg4⟩ := and_e hg3
  obtain ⟨hi4, hg5⟩ := and_e hg4
  obtain ⟨w0, w1, w2, w3, w4, rfl⟩ : ∃ w0 w1 w2 w3 w4 : Value, args = #[w0, w1, w2, w3, w4] := by
    have hs : args.size = 5 := by simpa [Cond.value, given_1] using hg0
    obtain ⟨L⟩ := args
    match L, hs with
    | [w0, w1, w2, w3, w4], _ => exact ⟨w0, w1, w2, w3, w4, rfl⟩
  have hw := fun d (hd : d ∈ tables_1) => atoms_spec (ws := Jvm.Cond.code x code maxLocals ret :: tables_1) hat d (List.mem_cons_of_mem _ hd)
  obtain ⟨hsets, hown0⟩ := atoms_of _ (rest_1_c_eq ▸ (show rest_1_c.before _ s = true from hrest))
  have hfit : Fit s := fun {y c} hc i hi => by
    obtain ⟨ha, rfl⟩ := Array.getElem?_eq_some_iff.mp hc
    have q := List.all_eq_true.mp ((Array.all_eq_true_iff_forall_mem.mp hF) _ (Array.getElem_mem ha)) i (List.mem_range.mpr hi)
    simpa [Array.getElem?_eq_getElem hi] using q
  obtain ⟨i0, ei0⟩ := is_v hi1
  obtain rfl : w0 = (.int i0) := Option.some.inj ei0
  obtain ⟨i1, ei1⟩ := is_v hi2
  obtain rfl : w1 = (.int i1) := Option.some.inj ei1
  obtain ⟨i2, ei2⟩ := is_v hi3
  obtain rfl : w2 = (.int i2) := Option.some.inj ei2
  obtain ⟨i3, ei3⟩ := is_v hi4
  obtain rfl : w3 = (.int i3) := Option.some.inj ei3
  obtain ⟨i4, ei4⟩ := isL_v hg5
  obtain rfl : w4 = (.long i4) := Option.some.inj ei4
  have n5 := not_v (Cond.before_iff.mp (hsets _ (List.mem_of_getElem? (i := 2) rfl)))
  obtain ⟨zc, ezc⟩ := is_v (Cond.before_iff.mp (hsets _ (List.mem_of_getElem? (i := 1) rfl)))
  have SC : Sta s s.heap "java/lang/String" "COMPACT_STRINGS" "Z" (.int zc) := Sta.start ezc (Or.inl (hsets _ (List.mem_of_getElem? (i := 0) rfl)))
  have hzc : ¬ (zc = (0 : Int32)) := gotF (Cond.eq_ints ezc (Term.int_eval (0))) n5
  obtain ⟨fm, efm, rfm⟩ := isR_v (Cond.before_iff.mp (hsets _ (List.mem_of_getElem? (i := 8) rfl)))
  have SF : Sta s s.heap "jdk/internal/util/Preconditions" "SIOOBE_FORMATTER" "Ljava/util/function/BiFunction;" fm := Sta.start efm (Or.inl (hsets _ (List.mem_of_getElem? (i := 7) rfl)))
  obtain ⟨nn0, nr0⟩ := and_e hn
  obtain ⟨nn1, nr1⟩ := and_e nr0
  obtain ⟨nn2, nr2⟩ := and_e nr1
  obtain ⟨nn3, nr3⟩ := and_e nr2
  obtain ⟨nn4, nr4⟩ := and_e nr3
  obtain ⟨nn5, nr5⟩ := and_e nr4
  obtain ⟨nn6, nr6⟩ := and_e nr5
  obtain ⟨nn7, nr7⟩ := and_e nr6
  obtain ⟨nn8, nr8⟩ := and_e nr7
  obtain ⟨nn9, nr9⟩ := and_e nr8
  obtain ⟨nn10, nr10⟩ := and_e nr9
  obtain ⟨nn11, nr11⟩ := and_e nr10
  obtain ⟨nn12, nr12⟩ := and_e nr11
  obtain ⟨nn13, nr13⟩ := and_e nr12
  obtain ⟨nn14, nr14⟩ := and_e nr13
  obtain ⟨nn15, nr15⟩ := and_e nr14
  obtain ⟨nn16, nr16⟩ := and_e nr15
  obtain ⟨nn17, nr17⟩ := and_e nr16
  obtain ⟨nn18, nr18⟩ := and_e nr17
  obtain ⟨nn19, nr19⟩ := and_e nr18
  obtain ⟨nn20, nr20⟩ := and_e nr19
  obtain ⟨nn21, nr21⟩ := and_e nr20
  obtain ⟨nn22, nr22⟩ := and_e nr21
  obtain ⟨nn23, nr23⟩ := and_e nr22
  obtain ⟨nn24, nr24⟩ := and_e nr23
  obtain ⟨nn25, nr25⟩ := and_e nr24
  obtain ⟨nn26, nr26⟩ := and_e nr25
  obtain ⟨nn27, nr27⟩ := and_e nr26
  obtain ⟨nn28, nr28⟩ := and_e nr27
  obtain ⟨nn29, nr29⟩ := and_e nr28
  obtain ⟨nn30, nr30⟩ := and_e nr29
  obtain ⟨nn31, nr31⟩ := and_e nr30
  obtain ⟨nn32, nr32⟩ := and_e nr31
  obtain ⟨nn33, nr33⟩ := and_e nr32
  obtain ⟨nn34, nn35⟩ := and_e nr33
  obtain ⟨ae0, ev0⟩ := exa_v nn3
  have T0 : Sta s s.heap "com/example/mokuroku/mokuroku/core/Format" "JPCOAR" "Lcom/example/mokuroku/mokuroku/core/Format;" (.ref ae0) := Sta.start ev0 (Or.inr ⟨(hw _ (List.mem_of_getElem? (i := 77) rfl)), (hw _ (List.mem_of_getElem? (i := 91) rfl))⟩)
  have X0 := Exa.start ev0 nn3
  obtain ⟨ae1, ev1⟩ := exa_v nn5
  have T1 : Sta s s.heap "com/example/mokuroku/mokuroku/core/Format" "MARC" "Lcom/example/mokuroku/mokuroku/core/Format;" (.ref ae1) := Sta.start ev1 (Or.inr ⟨(hw _ (List.mem_of_getElem? (i := 77) rfl)), (hw _ (List.mem_of_getElem? (i := 92) rfl))⟩)
  have X1 := Exa.start ev1 nn5
  obtain ⟨ae2, ev2⟩ := exa_v nn7
  have T2 : Sta s s.heap "com/example/mokuroku/mokuroku/core/Format" "DCNDL" "Lcom/example/mokuroku/mokuroku/core/Format;" (.ref ae2) := Sta.start ev2 (Or.inr ⟨(hw _ (List.mem_of_getElem? (i := 77) rfl)), (hw _ (List.mem_of_getElem? (i := 93) rfl))⟩)
  have X2 := Exa.start ev2 nn7
  obtain ⟨av, eva⟩ := arr_v nn0
  obtain ⟨cl, Ar⟩ := Arr.start eva nn0
  have TV : Sta s s.heap "com/example/mokuroku/mokuroku/core/Format" "$VALUES" "[Lcom/example/mokuroku/mokuroku/core/Format;" (.ref av) := Sta.start eva (Or.inl (hw _ (List.mem_of_getElem? (i := 94) rfl)))
  have XV := Exa.start eva nn1
  obtain ⟨sz1, sz2⟩ := Own.small (Own.eq_int nn2) eva Ar.1
  have sl0 := (elem_in (Own.eq_ref nn4 ev0) eva (Term.int_eval 0) Ar.1).2
  have sl1 := (elem_in (Own.eq_ref nn6 ev1) eva (Term.int_eval 1) Ar.1).2
  have sl2 := (elem_in (Own.eq_ref nn8 ev2) eva (Term.int_eval 2) Ar.1).2
  have AV : Arv s s.heap av cl.cls (.object "com/example/mokuroku/mokuroku/core/Format") 3 [.ref ae0, .ref ae1, .ref ae2] .null := Arv.start hfit Ar sz1 sz2 (by decide) rfl ⟨sl0, sl1, sl2, trivial⟩
  obtain ⟨se0, es0, SS0⟩ := Own.strStart (cs := tx0) (bs := tx0) hfit nn9 nn10 nn11 nn12 (by decide) (by decide) (Own.chS (by decide) (Own.chS (by decide) (Own.chS (by decide) (Own.chS (by decide) (Own.chS (by decide) (Own.chS (by decide) Own.ch0)))))) (by decide) (by decide) (by decide) (fun _ _ ht hcl => ⟨Own.elem_is nn25 ht hcl, Own.elem_is nn26 ht hcl, Own.elem_is nn27 ht hcl, Own.elem_is nn28 ht hcl, Own.elem_is nn29 ht hcl, Own.elem_is nn30 ht hcl, trivial⟩)
  have FF0 : Fld s s.heap ae0 "com/example/mokuroku/mokuroku/core/Format" "cliName" "Ljava/lang/String;" (.ref se0) := Fld.start (by rw [← es0, fld_at ev0])
  obtain ⟨se1, es1, SS1⟩ := Own.strStart (cs := tx1) (bs := tx1) hfit nn13 nn14 nn15 nn16 (by decide) (by decide) (Own.chS (by decide) (Own.chS (by decide) (Own.chS (by decide) (Own.chS (by decide) Own.ch0)))) (by decide) (by decide) (by decide) (fun _ _ ht hcl => ⟨Own.elem_is nn21 ht hcl, Own.elem_is nn22 ht hcl, Own.elem_is nn23 ht hcl, Own.elem_is nn24 ht hcl, trivial⟩)
  have FF1 : Fld s s.heap ae1 "com/example/mokuroku/mokuroku/core/Format" "cliName" "Ljava/lang/String;" (.ref se1) := Fld.start (by rw [← es1, fld_at ev1])
  obtain ⟨se2, es2, SS2⟩ := Own.strStart (cs := tx2) (bs := tx2) hfit nn17 nn18 nn19 nn20 (by decide) (by decide) (Own.chS (by decide) (Own.chS (by decide) (Own.chS (by decide) (Own.chS (by decide) (Own.chS (by decide) Own.ch0))))) (by decide) (by decide) (by decide) (fun _ _ ht hcl => ⟨Own.elem_is nn31 ht hcl, Own.elem_is nn32 ht hcl, Own.elem_is nn33 ht hcl, Own.elem_is nn34 ht hcl, Own.elem_is nn35 ht hcl, trivial⟩)
  have FF2 : Fld s s.heap ae2 "com/example/mokuroku/mokuroku/core/Format" "cliName" "Ljava/lang/String;" (.ref se2) := Fld.start (by rw [← es2, fld_at ev2])
  have en : EN s s.heap ae0 ae1 ae2 se0 se1 se2 av cl.cls := ⟨T0, T1, T2, TV, X0, X1, X2, XV, AV, FF0, FF1, FF2, SS0, SS1, SS2⟩
  obtain ⟨eo, eeo⟩ := exa_v (Cond.before_iff.mp (hsets _ (List.mem_of_getElem? (i := 11) rfl)))
  have XE := Exa.start eeo (Cond.before_iff.mp (hsets _ (List.mem_of_getElem? (i := 11) rfl)))
  have TE : Sta s s.heap "java/util/Optional" "EMPTY" "Ljava/util/Optional;" (.ref eo) := Sta.start eeo (Or.inl (hsets _ (List.mem_of_getElem? (i := 10) rfl)))
  have FE : Fld s s.heap eo "java/util/Optional" "value" "Ljava/lang/Object;" .null := Fld.start (by rw [← null_v (Cond.before_iff.mp (hsets _ (List.mem_of_getElem? (i := 12) rfl))), fld_at eeo])
  have hCH : CHv s EL s.vm s.heap := CHv.start (ew hw) (fun p hp => hcalls.1 p hp) (a0 := #[.int i0, .int i1, .int i2, .int i3, .long i4]) (hsets _ (List.mem_of_getElem? (i := 2) rfl)) (hw _ (List.mem_of_getElem? (i := 3) rfl)) (hw _ (List.mem_of_getElem? (i := 2) rfl))
  obtain ⟨n, o, h1, h2, h3, _, L, rfl, ⟨rfl, N⟩, -, hq⟩ := rmLaw l s _ hw tables_1 i0 i1 i2 i3 i4 zc fm ae0 ae1 ae2 se0 se1 se2 av cl.cls eo s.heap s.heap.size (Nat.le_refl _) SC hzc SF rfm en TE XE FE p e ha hc hk s m _ below hf ((Spec.applies_iff_loose hf).mp happ).1 ⟨rfl, State.Warmed39.refl s, rfl, hCH, fun _ q => nomatch q⟩ trivial
  refine ⟨n, _, h1, h2, h3, hpost _ _ _ _ _ _ ⟨Cond.after_iff.mpr rfl, Cond.after_iff.mpr (eq_i res_at (Term.int_eval (1)) rfl), trivial⟩ ⟨hq.1, hq.2.1, hq.2.2.1, (hq.2.2.2.sift fun y hy => Or.inr (N y hy)).mono (by decide) (by decide)⟩⟩
theorem main_1_1 : Claimed_1_1 := comes_1 fun _ _ _ _ _ _ h hF => ⟨h.1, hF⟩
theorem main_1_2 : Claimed_1_2 := comes_1 fun _ _ _ _ _ _ h hF => ⟨h.2.1, hF⟩
end Jvm.Pilot.@@N@@
namespace Jvm.Pilot.@@N@@
open Jvm Jvm.ClassFile Sem Op Lib Jvm.Free Jvm.Stand Jvm.Pilot.@@N@@.Jvm.D
/-! MADE BY PROGRAM (witnessworld.py) out of the Statement's table words and the real class files: 24 classes; the members and pool entries that the words name. The judged class is class 1, her method 5. -/
namespace start1
open Jvm.ClassFile
def u (s : String) : CpInfo := .utf8 (stringToUtf16 s)
/-- a pool by its gaps: so many unusable entries, then the entry; so many at the end -/
def gap : Nat → List CpInfo → List CpInfo
  | 0, r => r
  | n + 1, r => .unusable :: gap n r
def poolList (es : List (Nat × CpInfo)) (last : Nat) : List CpInfo := es.foldr (fun e r => gap e.1 (e.2 :: r)) (gap last [])
def pool (es : List (Nat × CpInfo)) (last : Nat) : Array CpInfo := ⟨poolList es last⟩
def fileOf (pool : Array CpInfo) (this : Nat) (attrs : Array Attribute := #[]) (ms : Array MethodInfo := #[]) (fl : Nat := 33) (sup : Nat := 0) (ifs : Array Nat := #[]) (fds : Array FieldInfo := #[]) : ClassFile where
  minorVersion := 0
  majorVersion := 65
  constantPool := pool
  accessFlags := fl
  thisClass := this
  superClass := sup
  interfaces := ifs
  fields := fds
  methods := ms
  attributes := attrs
def plain (name : String) (sup : Option ClassId) : Class where
  name := name
  kind := .ordinary
  loader := none
  accessFlags := 33
  super := sup
  interfaces := #[]
  cf := none
  fields := #[]
  methods := #[]
  instanceTypes := #[]
  staticTypes := #[]
  resolved := #[]
  callSites := []
  init := .initialized
  statics := none
  mirror := none

def pool0 : Array CpInfo := pool [(5, u "<init>"), (0, u "()V"), (1, .class_ 10), (1, u "java/lang/Object"), (85, u "clone"), (0, u "()Ljava/lang/Object;")] 26

def k0c0 : Code := { maxStack := 0, maxLocals := 1, code := object_method_1_code, exceptionTable := #[], attributes := #[] }
def k0m0 : Method := { name := "<init>", desc := "()V", sig := { parameters := [], returnType := none }, accessFlags := 1, code := some k0c0 }
def k0m1 : Method := { name := "clone", desc := "()Ljava/lang/Object;", sig := { parameters := [], returnType := some (.object "java/lang/Object") }, accessFlags := 260, code := none }
/-- java/lang/Object -/
def k0 : Class := { plain "java/lang/Object" none with
  accessFlags := 33
  interfaces := #[]
  cf := some (fileOf pool0 8 #[] #[{ accessFlags := 1, nameIndex := 5, descriptorIndex := 6, attributes := #[] }, { accessFlags := 260, nameIndex := 96, descriptorIndex := 97, attributes := #[] }] 33 0 #[] #[])
  fields := #[]
  methods := #[k0m0, k0m1]
  instanceTypes := #[]
  staticTypes := #[]
  resolved := Array.replicate 124 none
  statics := none }

def pool1 : Array CpInfo := pool [(2, .class_ 4), (1, u "java/lang/Object"), (0, u "<init>"), (0, u "()V"), (0, .methodref 8 9), (0, .class_ 10), (0, .nameAndType 11 12), (0, u "java/lang/String"), (0, u "length"), (0, u "()I"), (0, .methodref 8 14), (0, .nameAndType 15 16), (0, u "charAt"), (0, u "(I)C"), (0, .long 255), (1, .methodref 8 20), (0, .nameAndType 5 21), (0, u "([C)V"), (0, .string 23), (0, u "jpcoar"), (0, .string 25), (0, u "marc"), (0, .string 27), (0, u "dcndl"), (0, .methodref 29 30), (0, .class_ 31), (0, .nameAndType 32 33), (0, u "com/example/mokuroku/mokuroku/core/FormatByCliNamePinLaw"), (0, u "by"), (0, u "(JI)C"), (0, .methodref 29 35), (0, .nameAndType 36 37), (0, u "at"), (0, u "(Ljava/lang/String;I)C"), (0, .integer 2147483647), (0, .methodref 29 40), (0, .nameAndType 41 42), (0, u "make"), (0, u "([CI)Ljava/lang/String;"), (0, .methodref 29 44), (0, .nameAndType 45 46), (0, u "expected"), (0, u "([CI)I"), (0, .methodref 48 49), (0, .class_ 50), (0, .nameAndType 51 52), (0, u "com/example/mokuroku/mokuroku/core/Format"), (0, u "byCliName"), (0, u "(Ljava/lang/String;)Ljava/util/Optional;"), (0, .methodref 54 55), (0, .class_ 56), (0, .nameAndType 57 58), (0, u "java/util/Optional"), (0, u "isPresent"), (0, u "()Z"), (0, .fieldref 48 60), (0, .nameAndType 61 62), (0, u "JPCOAR"), (0, u "Lcom/example/mokuroku/mokuroku/core/Format;"), (0, .fieldref 48 64), (0, .nameAndType 65 62), (0, u "MARC"), (0, .fieldref 48 67), (0, .nameAndType 68 62), (0, u "DCNDL"), (0, .methodref 54 70), (0, .nameAndType 71 72), (0, u "get"), (0, u "()Ljava/lang/Object;"), (3, u "law"), (0, u "(IIIIJ)Z")] 4

def k1m0 : Method := { name := "<init>", desc := "()V", sig := { parameters := [], returnType := none }, accessFlags := 1, code := none }
def k1c1 : Code := { maxStack := 2, maxLocals := 2, code := method_2_code, exceptionTable := #[], attributes := #[] }
def k1m1 : Method := { name := "at", desc := "(Ljava/lang/String;I)C", sig := { parameters := [(.object "java/lang/String"), .int], returnType := some .char }, accessFlags := 10, code := some k1c1 }
def k1c2 : Code := { maxStack := 4, maxLocals := 3, code := method_3_code, exceptionTable := #[], attributes := #[] }
def k1m2 : Method := { name := "by", desc := "(JI)C", sig := { parameters := [.long, .int], returnType := some .char }, accessFlags := 10, code := some k1c2 }
def k1c3 : Code := { maxStack := 7, maxLocals := 2, code := method_4_code, exceptionTable := #[], attributes := #[] }
def k1m3 : Method := { name := "make", desc := "([CI)Ljava/lang/String;", sig := { parameters := [(.array .char), .int], returnType := some (.object "java/lang/String") }, accessFlags := 10, code := some k1c3 }
def k1c4 : Code := { maxStack := 2, maxLocals := 2, code := method_5_code, exceptionTable := #[], attributes := #[] }
def k1m4 : Method := { name := "expected", desc := "([CI)I", sig := { parameters := [(.array .char), .int], returnType := some .int }, accessFlags := 10, code := some k1c4 }
def k1c5 : Code := { maxStack := 5, maxLocals := 17, code := code, exceptionTable := #[], attributes := #[] }
def k1m5 : Method := { name := "law", desc := "(IIIIJ)Z", sig := { parameters := [.int, .int, .int, .int, .long], returnType := some .boolean }, accessFlags := 9, code := some k1c5 }
/-- com/example/mokuroku/mokuroku/core/FormatByCliNamePinLaw -/
def k1 : Class := { plain "com/example/mokuroku/mokuroku/core/FormatByCliNamePinLaw" (some 0) with
  accessFlags := 49
  interfaces := #[]
  cf := some (fileOf pool1 29 #[] #[{ accessFlags := 1, nameIndex := 5, descriptorIndex := 6, attributes := #[] }, { accessFlags := 10, nameIndex := 36, descriptorIndex := 37, attributes := #[] }, { accessFlags := 10, nameIndex := 32, descriptorIndex := 33, attributes := #[] }, { accessFlags := 10, nameIndex := 41, descriptorIndex := 42, attributes := #[] }, { accessFlags := 10, nameIndex := 45, descriptorIndex := 46, attributes := #[] }, { accessFlags := 9, nameIndex := 76, descriptorIndex := 77, attributes := #[] }] 49 2 #[] #[])
  fields := #[]
  methods := #[k1m0, k1m1, k1m2, k1m3, k1m4, k1m5]
  instanceTypes := #[]
  staticTypes := #[]
  resolved := Array.replicate 82 none
  statics := none }

def pool2 : Array CpInfo := pool [(1, .class_ 2), (0, u "java/io/Serializable"), (0, .class_ 4), (0, u "java/lang/Object")] 2

/-- java/io/Serializable -/
def k2 : Class := { plain "java/io/Serializable" (some 0) with
  accessFlags := 1537
  interfaces := #[]
  cf := some (fileOf pool2 1 #[] #[] 1537 3 #[] #[])
  fields := #[]
  methods := #[]
  instanceTypes := #[]
  staticTypes := #[]
  resolved := Array.replicate 7 none
  statics := none }

def pool3 : Array CpInfo := pool [(1, .class_ 2), (0, u "java/lang/Comparable"), (0, .class_ 4), (0, u "java/lang/Object")] 7

/-- java/lang/Comparable -/
def k3 : Class := { plain "java/lang/Comparable" (some 0) with
  accessFlags := 1537
  interfaces := #[]
  cf := some (fileOf pool3 1 #[] #[] 1537 3 #[] #[])
  fields := #[]
  methods := #[]
  instanceTypes := #[]
  staticTypes := #[]
  resolved := Array.replicate 12 none
  statics := none }

def pool4 : Array CpInfo := pool [(2, .class_ 4), (1, u "java/lang/CharSequence"), (42, .class_ 48), (0, u "java/lang/CharSequence$1CodePointIterator"), (10, .class_ 60), (0, u "java/lang/CharSequence$1CharIterator"), (5, .class_ 67), (0, u "java/lang/Object")] 63

/-- java/lang/CharSequence -/
def k4 : Class := { plain "java/lang/CharSequence" (some 0) with
  accessFlags := 1537
  interfaces := #[]
  cf := some (fileOf pool4 2 #[.nestMembers #[47, 59]] #[] 1537 66 #[] #[])
  fields := #[]
  methods := #[]
  instanceTypes := #[]
  staticTypes := #[]
  resolved := Array.replicate 131 none
  statics := none }

def pool5 : Array CpInfo := pool [(1, .class_ 2), (0, u "java/lang/constant/Constable"), (0, .class_ 4), (0, u "java/lang/Object")] 6

/-- java/lang/constant/Constable -/
def k5 : Class := { plain "java/lang/constant/Constable" (some 0) with
  accessFlags := 1537
  interfaces := #[]
  cf := some (fileOf pool5 1 #[] #[] 1537 3 #[] #[])
  fields := #[]
  methods := #[]
  instanceTypes := #[]
  staticTypes := #[]
  resolved := Array.replicate 11 none
  statics := none }

def pool6 : Array CpInfo := pool [(1, .class_ 2), (0, u "java/lang/constant/ConstantDesc"), (0, .class_ 4), (0, u "java/lang/Object")] 32

/-- java/lang/constant/ConstantDesc -/
def k6 : Class := { plain "java/lang/constant/ConstantDesc" (some 0) with
  accessFlags := 1537
  interfaces := #[]
  cf := some (fileOf pool6 1 #[] #[] 1537 3 #[] #[])
  fields := #[]
  methods := #[]
  instanceTypes := #[]
  staticTypes := #[]
  resolved := Array.replicate 37 none
  statics := none }

def pool7 : Array CpInfo := pool [(1, .methodref 2 3), (0, .class_ 4), (0, .nameAndType 5 6), (0, u "java/lang/Object"), (0, u "<init>"), (0, u "()V"), (0, .string 8), (0, u ""), (0, .fieldref 10 11), (0, .class_ 12), (0, .nameAndType 13 14), (0, u "java/lang/String"), (0, u "value"), (0, u "[B"), (0, .fieldref 10 16), (0, .nameAndType 17 18), (0, u "coder"), (0, u "B"), (2, u "hash"), (0, u "I"), (2, u "hashIsZero"), (0, u "Z"), (0, .methodref 10 28), (0, .nameAndType 5 29), (0, u "([CIILjava/lang/Void;)V"), (8, .fieldref 10 39), (0, .nameAndType 40 26), (0, u "COMPACT_STRINGS"), (1, .class_ 44), (1, u "java/lang/StringUTF16"), (0, u "compress"), (1, .methodref 42 48), (0, .nameAndType 49 50), (0, u "coderFromArrayLen"), (0, u "([BI)B"), (56, .class_ 109), (1, u "java/lang/StringLatin1"), (32, u "()Z"), (34, .methodref 42 178), (0, .nameAndType 45 179), (0, u "([CII)[B"), (154, u "()I"), (0, .methodref 10 336), (0, .nameAndType 17 337), (0, u "()B"), (25, u "([BI)C"), (27, u "(II)V"), (35, u "(I)C"), (64, .methodref 10 493), (0, .nameAndType 494 142), (0, u "isLatin1"), (0, .methodref 107 496), (0, .nameAndType 497 363), (0, u "charAt"), (3, u "checkIndex"), (5, u "length"), (33, .methodref 107 542), (0, .nameAndType 543 544), (0, u "equals"), (0, u "([B[B)Z"), (28, u "(Ljava/lang/Object;)Z"), (1, .class_ 576), (0, u "java/lang/CharSequence"), (22, u "CASE_INSENSITIVE_ORDER"), (0, u "Ljava/util/Comparator;"), (409, u "([C)V"), (42, .fieldref 1054 1055), (0, .class_ 1056), (0, .nameAndType 1057 1058), (0, u "jdk/internal/util/Preconditions"), (0, u "SIOOBE_FORMATTER"), (0, u "Ljava/util/function/BiFunction;"), (0, .methodref 1054 1060), (0, .nameAndType 501 1061), (0, u "(IILjava/util/function/BiFunction;)I"), (39, u "serialPersistentFields"), (0, u "[Ljava/io/ObjectStreamField;"), (0, .class_ 1104), (0, u "java/lang/String$CaseInsensitiveComparator"), (1, .class_ 1107), (0, u "java/io/Serializable"), (0, .class_ 1109), (0, u "java/lang/Comparable"), (0, .class_ 1111), (0, u "java/lang/constant/Constable"), (0, .class_ 1113), (0, u "java/lang/constant/ConstantDesc"), (2, u "serialVersionUID"), (0, u "J"), (3, u "REPL"), (0, u "C"), (2, u "LATIN1"), (1, u "UTF16")] 323

def k7m0 : Method := { name := "<init>", desc := "()V", sig := { parameters := [], returnType := none }, accessFlags := 1, code := none }
def k7c1 : Code := { maxStack := 5, maxLocals := 2, code := jdk_42_method_3_code, exceptionTable := #[], attributes := #[] }
def k7m1 : Method := { name := "<init>", desc := "([C)V", sig := { parameters := [(.array .char)], returnType := none }, accessFlags := 1, code := some k7c1 }
def k7c2 : Code := { maxStack := 2, maxLocals := 1, code := jdk_42_method_54_code, exceptionTable := #[], attributes := #[] }
def k7m2 : Method := { name := "length", desc := "()I", sig := { parameters := [], returnType := some .int }, accessFlags := 1, code := some k7c2 }
def k7c3 : Code := { maxStack := 2, maxLocals := 2, code := jdk_42_method_56_code, exceptionTable := #[], attributes := #[] }
def k7m3 : Method := { name := "charAt", desc := "(I)C", sig := { parameters := [.int], returnType := some .char }, accessFlags := 1, code := some k7c3 }
def k7c4 : Code := { maxStack := 2, maxLocals := 3, code := jdk_42_method_66_code, exceptionTable := #[], attributes := #[] }
def k7m4 : Method := { name := "equals", desc := "(Ljava/lang/Object;)Z", sig := { parameters := [(.object "java/lang/Object")], returnType := some .boolean }, accessFlags := 1, code := some k7c4 }
def k7c5 : Code := { maxStack := 4, maxLocals := 6, code := jdk_42_method_149_code, exceptionTable := #[], attributes := #[] }
def k7m5 : Method := { name := "<init>", desc := "([CIILjava/lang/Void;)V", sig := { parameters := [(.array .char), .int, .int, (.object "java/lang/Void")], returnType := none }, accessFlags := 2, code := some k7c5 }
def k7c6 : Code := { maxStack := 1, maxLocals := 1, code := jdk_42_method_152_code, exceptionTable := #[], attributes := #[] }
def k7m6 : Method := { name := "coder", desc := "()B", sig := { parameters := [], returnType := some .byte }, accessFlags := 0, code := some k7c6 }
def k7c7 : Code := { maxStack := 1, maxLocals := 1, code := jdk_42_method_154_code, exceptionTable := #[], attributes := #[] }
def k7m7 : Method := { name := "isLatin1", desc := "()Z", sig := { parameters := [], returnType := some .boolean }, accessFlags := 0, code := some k7c7 }
def k7c8 : Code := { maxStack := 3, maxLocals := 2, code := jdk_42_method_155_code, exceptionTable := #[], attributes := #[] }
def k7m8 : Method := { name := "checkIndex", desc := "(II)V", sig := { parameters := [.int, .int], returnType := none }, accessFlags := 8, code := some k7c8 }
/-- java/lang/String -/
def k7 : Class := { plain "java/lang/String" (some 0) with
  accessFlags := 49
  interfaces := #[2, 3, 4, 5, 6]
  cf := some (fileOf pool7 10 #[.nestMembers #[1103]] #[{ accessFlags := 1, nameIndex := 5, descriptorIndex := 6, attributes := #[] }, { accessFlags := 1, nameIndex := 5, descriptorIndex := 1010, attributes := #[] }, { accessFlags := 1, nameIndex := 507, descriptorIndex := 334, attributes := #[] }, { accessFlags := 1, nameIndex := 497, descriptorIndex := 427, attributes := #[] }, { accessFlags := 1, nameIndex := 543, descriptorIndex := 573, attributes := #[] }, { accessFlags := 2, nameIndex := 5, descriptorIndex := 29, attributes := #[] }, { accessFlags := 0, nameIndex := 17, descriptorIndex := 337, attributes := #[] }, { accessFlags := 0, nameIndex := 494, descriptorIndex := 142, attributes := #[] }, { accessFlags := 8, nameIndex := 501, descriptorIndex := 391, attributes := #[] }] 49 2 #[1106, 1108, 575, 1110, 1112] #[{ accessFlags := 18, nameIndex := 13, descriptorIndex := 14, attributes := #[] }, { accessFlags := 18, nameIndex := 17, descriptorIndex := 18, attributes := #[] }, { accessFlags := 2, nameIndex := 21, descriptorIndex := 22, attributes := #[] }, { accessFlags := 2, nameIndex := 25, descriptorIndex := 26, attributes := #[] }, { accessFlags := 26, nameIndex := 1116, descriptorIndex := 1117, attributes := #[] }, { accessFlags := 24, nameIndex := 40, descriptorIndex := 26, attributes := #[] }, { accessFlags := 26, nameIndex := 1101, descriptorIndex := 1102, attributes := #[] }, { accessFlags := 26, nameIndex := 1121, descriptorIndex := 1122, attributes := #[] }, { accessFlags := 25, nameIndex := 599, descriptorIndex := 600, attributes := #[] }, { accessFlags := 24, nameIndex := 1125, descriptorIndex := 18, attributes := #[] }, { accessFlags := 24, nameIndex := 1127, descriptorIndex := 18, attributes := #[] }])
  fields := #[{ name := "value", type := (.array .byte), accessFlags := 18, slot := 0, constantValue := 0 }, { name := "coder", type := .byte, accessFlags := 18, slot := 1, constantValue := 0 }, { name := "hash", type := .int, accessFlags := 2, slot := 2, constantValue := 0 }, { name := "hashIsZero", type := .boolean, accessFlags := 2, slot := 3, constantValue := 0 }, { name := "serialVersionUID", type := .long, accessFlags := 26, slot := 0, constantValue := 0 }, { name := "COMPACT_STRINGS", type := .boolean, accessFlags := 24, slot := 1, constantValue := 0 }, { name := "serialPersistentFields", type := (.array (.object "java/io/ObjectStreamField")), accessFlags := 26, slot := 2, constantValue := 0 }, { name := "REPL", type := .char, accessFlags := 26, slot := 3, constantValue := 0 }, { name := "CASE_INSENSITIVE_ORDER", type := (.object "java/util/Comparator"), accessFlags := 25, slot := 4, constantValue := 0 }, { name := "LATIN1", type := .byte, accessFlags := 24, slot := 5, constantValue := 0 }, { name := "UTF16", type := .byte, accessFlags := 24, slot := 6, constantValue := 0 }]
  methods := #[k7m0, k7m1, k7m2, k7m3, k7m4, k7m5, k7m6, k7m7, k7m8]
  instanceTypes := #[(.array .byte), .byte, .int, .boolean]
  staticTypes := #[.long, .boolean, (.array (.object "java/io/ObjectStreamField")), .char, (.object "java/util/Comparator"), .byte, .byte]
  resolved := Array.replicate 1451 none
  statics := some 0 }

def pool8 : Array CpInfo := pool [(1, .class_ 2), (0, u "java/lang/String"), (1, .class_ 6), (1, u "java/lang/Object"), (0, u "<init>"), (0, u "()V"), (0, .methodref 1 10), (0, .nameAndType 11 12), (0, u "checkIndex"), (0, u "(II)V"), (1, .class_ 16), (1, u "java/lang/StringLatin1"), (36, u "([BI)C"), (67, u "$assertionsDisabled"), (0, u "Z"), (98, .class_ 223), (1, u "java/lang/StringLatin1$LinesSpliterator"), (28, u "charAt"), (28, u "equals"), (0, u "([B[B)Z"), (107, .class_ 391), (0, u "java/lang/StringLatin1$CharsSpliterator")] 3

def k8m0 : Method := { name := "<init>", desc := "()V", sig := { parameters := [], returnType := none }, accessFlags := 0, code := none }
def k8c1 : Code := { maxStack := 2, maxLocals := 2, code := jdk_43_method_2_code, exceptionTable := #[], attributes := #[] }
def k8m1 : Method := { name := "charAt", desc := "([BI)C", sig := { parameters := [(.array .byte), .int], returnType := some .char }, accessFlags := 9, code := some k8c1 }
def k8c2 : Code := { maxStack := 3, maxLocals := 3, code := jdk_43_method_13_code, exceptionTable := #[], attributes := #[] }
def k8m2 : Method := { name := "equals", desc := "([B[B)Z", sig := { parameters := [(.array .byte), (.array .byte)], returnType := some .boolean }, accessFlags := 9, code := some k8c2 }
/-- java/lang/StringLatin1 -/
def k8 : Class := { plain "java/lang/StringLatin1" (some 0) with
  accessFlags := 48
  interfaces := #[]
  cf := some (fileOf pool8 14 #[.nestMembers #[390, 221]] #[{ accessFlags := 0, nameIndex := 7, descriptorIndex := 8, attributes := #[] }, { accessFlags := 9, nameIndex := 252, descriptorIndex := 53, attributes := #[] }, { accessFlags := 9, nameIndex := 281, descriptorIndex := 282, attributes := #[] }] 48 4 #[] #[{ accessFlags := 4120, nameIndex := 121, descriptorIndex := 122, attributes := #[] }])
  fields := #[{ name := "$assertionsDisabled", type := .boolean, accessFlags := 4120, slot := 0, constantValue := 0 }]
  methods := #[k8m0, k8m1, k8m2]
  instanceTypes := #[]
  staticTypes := #[.boolean]
  resolved := Array.replicate 395 none
  statics := none }

def pool9 : Array CpInfo := pool [(2, .class_ 4), (1, u "java/lang/Object"), (0, u "<init>"), (0, u "()V"), (17, .class_ 26), (1, u "jdk/internal/util/Preconditions"), (6, u "checkIndex"), (21, .class_ 56), (0, u "jdk/internal/util/Preconditions$4"), (57, .class_ 115), (0, u "jdk/internal/util/Preconditions$1"), (7, u "SIOOBE_FORMATTER"), (0, u "Ljava/util/function/BiFunction;"), (0, .class_ 126), (0, u "jdk/internal/util/Preconditions$2"), (3, u "AIOOBE_FORMATTER"), (0, .class_ 132), (0, u "jdk/internal/util/Preconditions$3"), (3, u "IOOBE_FORMATTER"), (41, u "(IILjava/util/function/BiFunction;)I")] 15

def k9m0 : Method := { name := "<init>", desc := "()V", sig := { parameters := [], returnType := none }, accessFlags := 1, code := none }
def k9c1 : Code := { maxStack := 3, maxLocals := 3, code := jdk_41_method_11_code, exceptionTable := #[], attributes := #[] }
def k9m1 : Method := { name := "checkIndex", desc := "(IILjava/util/function/BiFunction;)I", sig := { parameters := [.int, .int, (.object "java/util/function/BiFunction")], returnType := some .int }, accessFlags := 9, code := some k9c1 }
/-- jdk/internal/util/Preconditions -/
def k9 : Class := { plain "jdk/internal/util/Preconditions" (some 0) with
  accessFlags := 33
  interfaces := #[]
  cf := some (fileOf pool9 24 #[.nestMembers #[55, 131, 125, 114]] #[{ accessFlags := 1, nameIndex := 5, descriptorIndex := 6, attributes := #[] }, { accessFlags := 9, nameIndex := 33, descriptorIndex := 178, attributes := #[] }] 33 2 #[] #[{ accessFlags := 25, nameIndex := 123, descriptorIndex := 124, attributes := #[] }, { accessFlags := 25, nameIndex := 130, descriptorIndex := 124, attributes := #[] }, { accessFlags := 25, nameIndex := 136, descriptorIndex := 124, attributes := #[] }])
  fields := #[{ name := "SIOOBE_FORMATTER", type := (.object "java/util/function/BiFunction"), accessFlags := 25, slot := 0, constantValue := 0 }, { name := "AIOOBE_FORMATTER", type := (.object "java/util/function/BiFunction"), accessFlags := 25, slot := 1, constantValue := 0 }, { name := "IOOBE_FORMATTER", type := (.object "java/util/function/BiFunction"), accessFlags := 25, slot := 2, constantValue := 0 }]
  methods := #[k9m0, k9m1]
  instanceTypes := #[]
  staticTypes := #[(.object "java/util/function/BiFunction"), (.object "java/util/function/BiFunction"), (.object "java/util/function/BiFunction")]
  resolved := Array.replicate 194 none
  statics := some 1 }

def pool10 : Array CpInfo := pool [(6, .class_ 8), (1, u "java/lang/Object"), (0, u "<init>"), (0, u "()V"), (1, .class_ 14), (1, u "java/lang/StringUTF16"), (31, u "$assertionsDisabled"), (0, u "Z"), (13, u "HI_BYTE_SHIFT"), (0, u "I"), (2, u "LO_BYTE_SHIFT"), (49, .methodref 12 116), (0, .nameAndType 117 118), (0, u "compress"), (0, u "([CI[BII)I"), (3, u "([CII)[B"), (138, u "coderFromArrayLen"), (0, u "([BI)B"), (106, .class_ 371), (1, u "java/lang/StringUTF16$LinesSpliterator"), (58, u "MAX_LENGTH"), (196, .class_ 628), (0, u "java/lang/StringUTF16$CodePointsSpliterator"), (0, .class_ 630), (0, u "java/lang/StringUTF16$CharsSpliterator")] 4

def k10m0 : Method := { name := "<init>", desc := "()V", sig := { parameters := [], returnType := none }, accessFlags := 0, code := none }
def k10c1 : Code := { maxStack := 2, maxLocals := 2, code := jdk_52_method_15_code, exceptionTable := #[], attributes := #[] }
def k10m1 : Method := { name := "coderFromArrayLen", desc := "([BI)B", sig := { parameters := [(.array .byte), .int], returnType := some .byte }, accessFlags := 8, code := some k10c1 }
def k10c2 : Code := { maxStack := 5, maxLocals := 6, code := jdk_52_method_16_code, exceptionTable := #[], attributes := #[] }
def k10m2 : Method := { name := "compress", desc := "([CII)[B", sig := { parameters := [(.array .char), .int, .int], returnType := some (.array .byte) }, accessFlags := 9, code := some k10c2 }
def k10c3 : Code := { maxStack := 3, maxLocals := 7, code := jdk_52_method_21_code, exceptionTable := #[], attributes := #[] }
def k10m3 : Method := { name := "compress", desc := "([CI[BII)I", sig := { parameters := [(.array .char), .int, (.array .byte), .int, .int], returnType := some .int }, accessFlags := 9, code := some k10c3 }
/-- java/lang/StringUTF16 -/
def k10 : Class := { plain "java/lang/StringUTF16" (some 0) with
  accessFlags := 48
  interfaces := #[]
  cf := some (fileOf pool10 12 #[.nestMembers #[627, 629, 369]] #[{ accessFlags := 0, nameIndex := 9, descriptorIndex := 10, attributes := #[] }, { accessFlags := 8, nameIndex := 261, descriptorIndex := 262, attributes := #[] }, { accessFlags := 9, nameIndex := 117, descriptorIndex := 122, attributes := #[] }, { accessFlags := 9, nameIndex := 117, descriptorIndex := 118, attributes := #[] }] 48 6 #[] #[{ accessFlags := 26, nameIndex := 61, descriptorIndex := 62, attributes := #[] }, { accessFlags := 26, nameIndex := 65, descriptorIndex := 62, attributes := #[] }, { accessFlags := 24, nameIndex := 430, descriptorIndex := 62, attributes := #[] }, { accessFlags := 4120, nameIndex := 46, descriptorIndex := 47, attributes := #[] }])
  fields := #[{ name := "HI_BYTE_SHIFT", type := .int, accessFlags := 26, slot := 0, constantValue := 0 }, { name := "LO_BYTE_SHIFT", type := .int, accessFlags := 26, slot := 1, constantValue := 0 }, { name := "MAX_LENGTH", type := .int, accessFlags := 24, slot := 2, constantValue := 0 }, { name := "$assertionsDisabled", type := .boolean, accessFlags := 4120, slot := 3, constantValue := 0 }]
  methods := #[k10m0, k10m1, k10m2, k10m3]
  instanceTypes := #[]
  staticTypes := #[.int, .int, .int, .boolean]
  resolved := Array.replicate 635 none
  statics := none }

def pool11 : Array CpInfo := pool [(2, .class_ 4), (1, u "java/lang/Enum"), (0, u "name"), (0, u "Ljava/lang/String;"), (2, u "ordinal"), (0, u "I"), (1, .class_ 14), (1, u "java/lang/Object"), (4, u "hash"), (86, .class_ 108), (1, u "java/lang/Enum$EnumDesc"), (2, .class_ 112), (0, u "java/lang/constant/Constable"), (0, .class_ 114), (0, u "java/lang/Comparable"), (0, .class_ 116), (0, u "java/io/Serializable")] 87

/-- java/lang/Enum -/
def k11 : Class := { plain "java/lang/Enum" (some 0) with
  accessFlags := 1057
  interfaces := #[5, 3, 2]
  cf := some (fileOf pool11 2 #[.nestMembers #[106]] #[] 1057 12 #[111, 113, 115] #[{ accessFlags := 18, nameIndex := 5, descriptorIndex := 6, attributes := #[] }, { accessFlags := 18, nameIndex := 9, descriptorIndex := 10, attributes := #[] }, { accessFlags := 2, nameIndex := 19, descriptorIndex := 10, attributes := #[] }])
  fields := #[{ name := "name", type := (.object "java/lang/String"), accessFlags := 18, slot := 0, constantValue := 0 }, { name := "ordinal", type := .int, accessFlags := 18, slot := 1, constantValue := 0 }, { name := "hash", type := .int, accessFlags := 2, slot := 2, constantValue := 0 }]
  methods := #[]
  instanceTypes := #[(.object "java/lang/String"), .int, .int]
  staticTypes := #[]
  resolved := Array.replicate 204 none
  statics := none }

def pool12 : Array CpInfo := pool [(1, .class_ 2), (0, u "com/example/mokuroku/mokuroku/core/Format"), (2, u "JPCOAR"), (0, u "Lcom/example/mokuroku/mokuroku/core/Format;"), (2, u "MARC"), (2, u "DCNDL"), (0, .fieldref 1 14), (0, .nameAndType 15 16), (0, u "$VALUES"), (0, u "[Lcom/example/mokuroku/mokuroku/core/Format;"), (0, .methodref 18 19), (0, .class_ 16), (0, .nameAndType 20 21), (0, u "clone"), (0, u "()Ljava/lang/Object;"), (1, .class_ 25), (1, u "java/lang/Enum"), (6, .fieldref 1 33), (0, .nameAndType 34 35), (0, u "cliName"), (0, u "Ljava/lang/String;"), (0, .methodref 1 37), (0, .nameAndType 38 39), (0, u "values"), (0, u "()[Lcom/example/mokuroku/mokuroku/core/Format;"), (0, .methodref 41 42), (0, .class_ 43), (0, .nameAndType 44 45), (0, u "java/lang/String"), (0, u "equals"), (0, u "(Ljava/lang/Object;)Z"), (0, .methodref 47 48), (0, .class_ 49), (0, .nameAndType 50 51), (0, u "java/util/Optional"), (0, u "of"), (0, u "(Ljava/lang/Object;)Ljava/util/Optional;"), (0, .methodref 47 53), (0, .nameAndType 54 55), (0, u "empty"), (0, u "()Ljava/util/Optional;"), (50, u "byCliName"), (0, u "(Ljava/lang/String;)Ljava/util/Optional;")] 29

def k12c0 : Code := { maxStack := 1, maxLocals := 0, code := prog_13_method_1_code, exceptionTable := #[], attributes := #[] }
def k12m0 : Method := { name := "values", desc := "()[Lcom/example/mokuroku/mokuroku/core/Format;", sig := { parameters := [], returnType := some (.array (.object "com/example/mokuroku/mokuroku/core/Format")) }, accessFlags := 9, code := some k12c0 }
def k12c1 : Code := { maxStack := 2, maxLocals := 5, code := prog_13_method_5_code, exceptionTable := #[], attributes := #[] }
def k12m1 : Method := { name := "byCliName", desc := "(Ljava/lang/String;)Ljava/util/Optional;", sig := { parameters := [(.object "java/lang/String")], returnType := some (.object "java/util/Optional") }, accessFlags := 9, code := some k12c1 }
/-- com/example/mokuroku/mokuroku/core/Format -/
def k12 : Class := { plain "com/example/mokuroku/mokuroku/core/Format" (some 11) with
  accessFlags := 16433
  interfaces := #[]
  cf := some (fileOf pool12 1 #[] #[{ accessFlags := 9, nameIndex := 38, descriptorIndex := 39, attributes := #[] }, { accessFlags := 9, nameIndex := 106, descriptorIndex := 107, attributes := #[] }] 16433 23 #[] #[{ accessFlags := 16409, nameIndex := 5, descriptorIndex := 6, attributes := #[] }, { accessFlags := 16409, nameIndex := 9, descriptorIndex := 6, attributes := #[] }, { accessFlags := 16409, nameIndex := 12, descriptorIndex := 6, attributes := #[] }, { accessFlags := 18, nameIndex := 34, descriptorIndex := 35, attributes := #[] }, { accessFlags := 4122, nameIndex := 15, descriptorIndex := 16, attributes := #[] }])
  fields := #[{ name := "JPCOAR", type := (.object "com/example/mokuroku/mokuroku/core/Format"), accessFlags := 16409, slot := 0, constantValue := 0 }, { name := "MARC", type := (.object "com/example/mokuroku/mokuroku/core/Format"), accessFlags := 16409, slot := 1, constantValue := 0 }, { name := "DCNDL", type := (.object "com/example/mokuroku/mokuroku/core/Format"), accessFlags := 16409, slot := 2, constantValue := 0 }, { name := "cliName", type := (.object "java/lang/String"), accessFlags := 18, slot := 3, constantValue := 0 }, { name := "$VALUES", type := (.array (.object "com/example/mokuroku/mokuroku/core/Format")), accessFlags := 4122, slot := 3, constantValue := 0 }]
  methods := #[k12m0, k12m1]
  instanceTypes := #[(.object "java/lang/String"), .int, .int, (.object "java/lang/String")]
  staticTypes := #[(.object "com/example/mokuroku/mokuroku/core/Format"), (.object "com/example/mokuroku/mokuroku/core/Format"), (.object "com/example/mokuroku/mokuroku/core/Format"), (.array (.object "com/example/mokuroku/mokuroku/core/Format"))]
  resolved := Array.replicate 137 none
  statics := some 2 }

def pool13 : Array CpInfo := pool [(1, .class_ 2), (0, u "java/lang/Cloneable"), (0, .class_ 4), (0, u "java/lang/Object")] 2

/-- java/lang/Cloneable -/
def k13 : Class := { plain "java/lang/Cloneable" (some 0) with
  accessFlags := 1537
  interfaces := #[]
  cf := some (fileOf pool13 1 #[] #[] 1537 3 #[] #[])
  fields := #[]
  methods := #[]
  instanceTypes := #[]
  staticTypes := #[]
  resolved := Array.replicate 7 none
  statics := none }

def pool14 : Array CpInfo := pool [(1, .fieldref 2 3), (0, .class_ 4), (0, .nameAndType 5 6), (0, u "java/util/Optional"), (0, u "EMPTY"), (0, u "Ljava/util/Optional;"), (0, .methodref 8 9), (0, .class_ 10), (0, .nameAndType 11 12), (0, u "java/lang/Object"), (0, u "<init>"), (0, u "()V"), (0, .fieldref 2 14), (0, .nameAndType 15 16), (0, u "value"), (0, u "Ljava/lang/Object;"), (0, .methodref 18 19), (0, .class_ 20), (0, .nameAndType 21 22), (0, u "java/util/Objects"), (0, u "requireNonNull"), (0, u "(Ljava/lang/Object;)Ljava/lang/Object;"), (0, .methodref 2 24), (0, .nameAndType 11 25), (0, u "(Ljava/lang/Object;)V"), (20, u "()Z"), (8, u "empty"), (0, u "()Ljava/util/Optional;"), (8, u "(Ljava/lang/Object;)Ljava/util/Optional;"), (2, u "isPresent"), (4, u "get"), (0, u "()Ljava/lang/Object;"), (7, u "of")] 104

def k14c0 : Code := { maxStack := 1, maxLocals := 1, code := jdk_32_method_1_code, exceptionTable := #[], attributes := #[] }
def k14m0 : Method := { name := "empty", desc := "()Ljava/util/Optional;", sig := { parameters := [], returnType := some (.object "java/util/Optional") }, accessFlags := 9, code := some k14c0 }
def k14c1 : Code := { maxStack := 2, maxLocals := 2, code := jdk_32_method_2_code, exceptionTable := #[], attributes := #[] }
def k14m1 : Method := { name := "<init>", desc := "(Ljava/lang/Object;)V", sig := { parameters := [(.object "java/lang/Object")], returnType := none }, accessFlags := 2, code := some k14c1 }
def k14c2 : Code := { maxStack := 3, maxLocals := 1, code := jdk_32_method_3_code, exceptionTable := #[], attributes := #[] }
def k14m2 : Method := { name := "of", desc := "(Ljava/lang/Object;)Ljava/util/Optional;", sig := { parameters := [(.object "java/lang/Object")], returnType := some (.object "java/util/Optional") }, accessFlags := 9, code := some k14c2 }
def k14c3 : Code := { maxStack := 3, maxLocals := 1, code := jdk_32_method_5_code, exceptionTable := #[], attributes := #[] }
def k14m3 : Method := { name := "get", desc := "()Ljava/lang/Object;", sig := { parameters := [], returnType := some (.object "java/lang/Object") }, accessFlags := 1, code := some k14c3 }
def k14c4 : Code := { maxStack := 1, maxLocals := 1, code := jdk_32_method_6_code, exceptionTable := #[], attributes := #[] }
def k14m4 : Method := { name := "isPresent", desc := "()Z", sig := { parameters := [], returnType := some .boolean }, accessFlags := 1, code := some k14c4 }
/-- java/util/Optional -/
def k14 : Class := { plain "java/util/Optional" (some 0) with
  accessFlags := 49
  interfaces := #[]
  cf := some (fileOf pool14 2 #[] #[{ accessFlags := 9, nameIndex := 55, descriptorIndex := 56, attributes := #[] }, { accessFlags := 2, nameIndex := 11, descriptorIndex := 25, attributes := #[] }, { accessFlags := 9, nameIndex := 82, descriptorIndex := 65, attributes := #[] }, { accessFlags := 1, nameIndex := 73, descriptorIndex := 74, attributes := #[] }, { accessFlags := 1, nameIndex := 68, descriptorIndex := 46, attributes := #[] }] 49 8 #[] #[{ accessFlags := 26, nameIndex := 5, descriptorIndex := 6, attributes := #[] }, { accessFlags := 18, nameIndex := 15, descriptorIndex := 16, attributes := #[] }])
  fields := #[{ name := "EMPTY", type := (.object "java/util/Optional"), accessFlags := 26, slot := 0, constantValue := 0 }, { name := "value", type := (.object "java/lang/Object"), accessFlags := 18, slot := 0, constantValue := 0 }]
  methods := #[k14m0, k14m1, k14m2, k14m3, k14m4]
  instanceTypes := #[(.object "java/lang/Object")]
  staticTypes := #[(.object "java/util/Optional")]
  resolved := Array.replicate 187 none
  statics := some 3 }

def pool15 : Array CpInfo := pool [(2, .class_ 4), (1, u "java/lang/Object"), (0, u "<init>"), (0, u "()V"), (35, .class_ 44), (1, u "java/util/Objects"), (0, u "requireNonNull"), (0, u "(Ljava/lang/Object;)Ljava/lang/Object;")] 137

def k15m0 : Method := { name := "<init>", desc := "()V", sig := { parameters := [], returnType := none }, accessFlags := 2, code := none }
def k15c1 : Code := { maxStack := 2, maxLocals := 1, code := jdk_31_method_10_code, exceptionTable := #[], attributes := #[] }
def k15m1 : Method := { name := "requireNonNull", desc := "(Ljava/lang/Object;)Ljava/lang/Object;", sig := { parameters := [(.object "java/lang/Object")], returnType := some (.object "java/lang/Object") }, accessFlags := 9, code := some k15c1 }
/-- java/util/Objects -/
def k15 : Class := { plain "java/util/Objects" (some 0) with
  accessFlags := 49
  interfaces := #[]
  cf := some (fileOf pool15 42 #[] #[{ accessFlags := 2, nameIndex := 5, descriptorIndex := 6, attributes := #[] }, { accessFlags := 9, nameIndex := 45, descriptorIndex := 46, attributes := #[] }] 49 2 #[] #[])
  fields := #[]
  methods := #[k15m0, k15m1]
  instanceTypes := #[]
  staticTypes := #[]
  resolved := Array.replicate 184 none
  statics := none }

def pool16 : Array CpInfo := pool [(9, u "<init>"), (6, .class_ 18), (1, u "java/lang/Object"), (0, u "()V"), (1, .class_ 23), (1, u "jdk/internal/util/ArraysSupport"), (0, u "LOG2_ARRAY_LONG_INDEX_SCALE"), (0, u "I"), (2, u "U"), (0, u "Ljdk/internal/misc/Unsafe;"), (8, u "BIG_ENDIAN"), (0, u "Z"), (8, u "LOG2_BYTE_BIT_SIZE"), (4, u "LOG2_ARRAY_INT_INDEX_SCALE"), (54, u "JLA"), (0, u "Ljdk/internal/access/JavaLangAccess;"), (11, u "LOG2_ARRAY_BOOLEAN_INDEX_SCALE"), (9, u "LOG2_ARRAY_BYTE_INDEX_SCALE"), (5, u "LOG2_ARRAY_CHAR_INDEX_SCALE"), (5, u "LOG2_ARRAY_SHORT_INDEX_SCALE"), (18, u "LOG2_ARRAY_FLOAT_INDEX_SCALE"), (24, u "LOG2_ARRAY_DOUBLE_INDEX_SCALE"), (89, u "T_BOOLEAN"), (2, u "T_CHAR"), (1, u "T_FLOAT"), (1, u "T_DOUBLE"), (1, u "T_BYTE"), (1, u "T_SHORT"), (1, u "T_INT"), (1, u "T_LONG"), (1, u "SOFT_MAX_ARRAY_LENGTH")] 83

def k16m0 : Method := { name := "<init>", desc := "()V", sig := { parameters := [], returnType := none }, accessFlags := 2, code := none }
/-- jdk/internal/util/ArraysSupport -/
def k16 : Class := { plain "jdk/internal/util/ArraysSupport" (some 0) with
  accessFlags := 33
  interfaces := #[]
  cf := some (fileOf pool16 21 #[] #[{ accessFlags := 2, nameIndex := 9, descriptorIndex := 19, attributes := #[] }] 33 16 #[] #[{ accessFlags := 24, nameIndex := 28, descriptorIndex := 29, attributes := #[] }, { accessFlags := 26, nameIndex := 38, descriptorIndex := 39, attributes := #[] }, { accessFlags := 25, nameIndex := 121, descriptorIndex := 25, attributes := #[] }, { accessFlags := 25, nameIndex := 131, descriptorIndex := 25, attributes := #[] }, { accessFlags := 25, nameIndex := 137, descriptorIndex := 25, attributes := #[] }, { accessFlags := 25, nameIndex := 143, descriptorIndex := 25, attributes := #[] }, { accessFlags := 25, nameIndex := 53, descriptorIndex := 25, attributes := #[] }, { accessFlags := 25, nameIndex := 24, descriptorIndex := 25, attributes := #[] }, { accessFlags := 25, nameIndex := 162, descriptorIndex := 25, attributes := #[] }, { accessFlags := 25, nameIndex := 187, descriptorIndex := 25, attributes := #[] }, { accessFlags := 26, nameIndex := 48, descriptorIndex := 25, attributes := #[] }, { accessFlags := 25, nameIndex := 277, descriptorIndex := 25, attributes := #[] }, { accessFlags := 25, nameIndex := 280, descriptorIndex := 25, attributes := #[] }, { accessFlags := 25, nameIndex := 282, descriptorIndex := 25, attributes := #[] }, { accessFlags := 25, nameIndex := 284, descriptorIndex := 25, attributes := #[] }, { accessFlags := 25, nameIndex := 286, descriptorIndex := 25, attributes := #[] }, { accessFlags := 25, nameIndex := 288, descriptorIndex := 25, attributes := #[] }, { accessFlags := 25, nameIndex := 290, descriptorIndex := 25, attributes := #[] }, { accessFlags := 25, nameIndex := 292, descriptorIndex := 25, attributes := #[] }, { accessFlags := 26, nameIndex := 108, descriptorIndex := 109, attributes := #[] }, { accessFlags := 25, nameIndex := 294, descriptorIndex := 25, attributes := #[] }])
  fields := #[{ name := "U", type := (.object "jdk/internal/misc/Unsafe"), accessFlags := 24, slot := 0, constantValue := 0 }, { name := "BIG_ENDIAN", type := .boolean, accessFlags := 26, slot := 1, constantValue := 0 }, { name := "LOG2_ARRAY_BOOLEAN_INDEX_SCALE", type := .int, accessFlags := 25, slot := 2, constantValue := 0 }, { name := "LOG2_ARRAY_BYTE_INDEX_SCALE", type := .int, accessFlags := 25, slot := 3, constantValue := 0 }, { name := "LOG2_ARRAY_CHAR_INDEX_SCALE", type := .int, accessFlags := 25, slot := 4, constantValue := 0 }, { name := "LOG2_ARRAY_SHORT_INDEX_SCALE", type := .int, accessFlags := 25, slot := 5, constantValue := 0 }, { name := "LOG2_ARRAY_INT_INDEX_SCALE", type := .int, accessFlags := 25, slot := 6, constantValue := 0 }, { name := "LOG2_ARRAY_LONG_INDEX_SCALE", type := .int, accessFlags := 25, slot := 7, constantValue := 0 }, { name := "LOG2_ARRAY_FLOAT_INDEX_SCALE", type := .int, accessFlags := 25, slot := 8, constantValue := 0 }, { name := "LOG2_ARRAY_DOUBLE_INDEX_SCALE", type := .int, accessFlags := 25, slot := 9, constantValue := 0 }, { name := "LOG2_BYTE_BIT_SIZE", type := .int, accessFlags := 26, slot := 10, constantValue := 0 }, { name := "T_BOOLEAN", type := .int, accessFlags := 25, slot := 11, constantValue := 0 }, { name := "T_CHAR", type := .int, accessFlags := 25, slot := 12, constantValue := 0 }, { name := "T_FLOAT", type := .int, accessFlags := 25, slot := 13, constantValue := 0 }, { name := "T_DOUBLE", type := .int, accessFlags := 25, slot := 14, constantValue := 0 }, { name := "T_BYTE", type := .int, accessFlags := 25, slot := 15, constantValue := 0 }, { name := "T_SHORT", type := .int, accessFlags := 25, slot := 16, constantValue := 0 }, { name := "T_INT", type := .int, accessFlags := 25, slot := 17, constantValue := 0 }, { name := "T_LONG", type := .int, accessFlags := 25, slot := 18, constantValue := 0 }, { name := "JLA", type := (.object "jdk/internal/access/JavaLangAccess"), accessFlags := 26, slot := 19, constantValue := 0 }, { name := "SOFT_MAX_ARRAY_LENGTH", type := .int, accessFlags := 25, slot := 20, constantValue := 0 }]
  methods := #[k16m0]
  instanceTypes := #[]
  staticTypes := #[(.object "jdk/internal/misc/Unsafe"), .boolean, .int, .int, .int, .int, .int, .int, .int, .int, .int, .int, .int, .int, .int, .int, .int, .int, .int, (.object "jdk/internal/access/JavaLangAccess"), .int]
  resolved := Array.replicate 378 none
  statics := none }

/-- the primitive byte -/
def k17 : Class := { plain "byte" none with kind := .primitive 'B', accessFlags := 0x411 }
/-- [B -/
def k18 : Class := { plain "[B" (some 0) with kind := .array 17 .byte, interfaces := #[13, 2], accessFlags := 1041 }

/-- the primitive char -/
def k19 : Class := { plain "char" none with kind := .primitive 'C', accessFlags := 0x411 }
/-- [C -/
def k20 : Class := { plain "[C" (some 0) with kind := .array 19 .char, interfaces := #[13, 2], accessFlags := 1041 }

/-- the primitive int -/
def k21 : Class := { plain "int" none with kind := .primitive 'I', accessFlags := 0x411 }
/-- [I -/
def k22 : Class := { plain "[I" (some 0) with kind := .array 21 .int, interfaces := #[13, 2], accessFlags := 1041 }

/-- [Lcom/example/mokuroku/mokuroku/core/Format; -/
def k23 : Class := { plain "[Lcom/example/mokuroku/mokuroku/core/Format;" (some 0) with kind := .array 12 (.object "com/example/mokuroku/mokuroku/core/Format"), interfaces := #[13, 2], accessFlags := 1041 }

def heap : Heap := #[{ cls := 7, slots := #[.long 0, .int 1, .null, .int 0, .null, .int 0, .int 0], vm := .statics 7 },
  { cls := 9, slots := #[.null, .null, .null], vm := .statics 9 },
  { cls := 12, slots := #[.ref 5, .ref 6, .ref 7, .ref 4], vm := .statics 12 },
  { cls := 14, slots := #[.ref 14], vm := .statics 14 },
  { cls := 23, slots := #[.ref 5, .ref 6, .ref 7], vm := .none },
  { cls := 12, slots := #[.null, .int 0, .int 0, .ref 8], vm := .none },
  { cls := 12, slots := #[.null, .int 0, .int 0, .ref 9], vm := .none },
  { cls := 12, slots := #[.null, .int 0, .int 0, .ref 10], vm := .none },
  { cls := 7, slots := #[.ref 11, .int 0, .int 0, .int 0], vm := .none },
  { cls := 7, slots := #[.ref 12, .int 0, .int 0, .int 0], vm := .none },
  { cls := 7, slots := #[.ref 13, .int 0, .int 0, .int 0], vm := .none },
  { cls := 18, slots := #[.int 106, .int 112, .int 99, .int 111, .int 97, .int 114], vm := .none },
  { cls := 18, slots := #[.int 109, .int 97, .int 114, .int 99], vm := .none },
  { cls := 18, slots := #[.int 100, .int 99, .int 110, .int 100, .int 108], vm := .none },
  { cls := 14, slots := #[.null], vm := .none }]
def classes : Array Class := #[k0, k1, k2, k3, k4, k5, k6, k7, k8, k9, k10, k11, k12, k13, k14, k15, k16, k17, k18, k19, k20, k21, k22, k23]
def interned : List (Array UInt16 × Addr) := []
def slotsUsed : Nat := 58
def theMethod : MethodId := ⟨1, 5⟩
def args0 : Array Value := #[.int 5, .int 5, .int 5, .int 5, .long 5]
def aboutOver (below : List Frame) : State where
  vm := { classes := classes, interned := interned.toArray }
  heap := heap
  slotsUsed := slotsUsed
  threads := #[{ frames := .invoking theMethod args0 :: below }]
def below0 : List Frame := [.native { method := ⟨0, 0⟩, args := #[] }]
def about1 : State := aboutOver below0
def p0 : Program := .bare "" "" ""
def e0 : Env := launch0.env 0 0 0
theorem w_frames : about1.frames = Frame.invoking theMethod args0 :: below0 := rfl
set_option maxRecDepth 65536 in
theorem w_args : argsFit about1.vm theMethod args0 = true := by decide +kernel
set_option maxRecDepth 65536 in
theorem w_heap : heapFits about1 = true := by decide +kernel
set_option maxRecDepth 65536 in
theorem w_runnable : about1.curStatus? = some .runnable := by decide +kernel
set_option maxRecDepth 65536 in
theorem w_alone : about1.alone = true := by decide +kernel
set_option maxRecDepth 65536 in
theorem w_named : about1.methodNamed? x = some theMethod := by decide +kernel
set_option maxRecDepth 65536 in
theorem w_hears : about1.hears theMethod below0 = true := by decide +kernel
set_option maxRecDepth 65536 in
theorem w_ripe : about1.ripe theMethod args0 below0 = true := by decide +kernel
theorem w_running : about1.status = .running := rfl
set_option maxRecDepth 65536 in
theorem w_room : about1.hasRoom e0.platform room_1 = true :=
  launch0.hasRoom_least _ room_1 (by decide +kernel) (by decide +kernel) (by decide +kernel) (by decide +kernel) (by decide +kernel) (by decide +kernel)
theorem allAtoms_all (ts : List Jvm.Cond) (a : Array Jvm.Value) (st : Jvm.State) : (allAtoms ts).before a st = ts.all (fun c => c.before a st) := by
  induction ts with
  | nil => rfl
  | cons c t ih =>
    show (Jvm.Cond.and c (allAtoms t)).before a st = _
    rw [Jvm.Cond.before_and, ih, List.all_cons]
def words1 : List Jvm.Cond := Jvm.Cond.code x code maxLocals ret :: tables_1
/-- a 'code' word, met by the world's own term for the bytes: nothing is compared byte by byte -/
theorem code_word {y : MethodName} {bytes : ByteArray} {mx : Nat} {rt : Option FieldType} {a : Array Value} {s : State} {m : MethodId} {meth : Method} {c : Code} (h1 : s.methodNamed? y = some m) (h2 : s.vm.method? m = some meth) (h3 : meth.code = some c) (h4 : c.code = bytes)
    (h5 : (c.maxLocals == mx && c.exceptionTable.isEmpty && decide (c.maxStack ≤ mostOperands) && decide (meth.sig.returnType = rt) && !meth.locks && decide (parseMethodDescriptor y.desc = some meth.sig)) = true) : (Jvm.Cond.code y bytes mx rt).before a s = true := by
  simp only [Bool.and_eq_true, beq_iff_eq, Bool.not_eq_true', decide_eq_true_eq] at h5
  obtain ⟨⟨⟨⟨⟨g1, g2⟩, g3⟩, g4⟩, g5⟩, g6⟩ := h5
  simp [Cond.before, Cond.holds, Cond.value, h1, h2, h3, h4, g1, g2, g3, g4, g5, g6]
def isCode : Jvm.Cond → Bool
  | .code _ _ _ _ => true
  | _ => false
theorem all_split {L : List Jvm.Cond} {P : Jvm.Cond → Bool} (h1 : L.all (fun c => isCode c || P c) = true) (h2 : ∀ c ∈ L.filter isCode, P c = true) : L.all P = true := by
  refine List.all_eq_true.mpr fun c hc => ?_
  have h := List.all_eq_true.mp h1 c hc
  rcases Bool.eq_false_or_eq_true (isCode c) with hi | hi
  · exact h2 c (List.mem_filter.mpr ⟨hc, hi⟩)
  · simpa [hi] using h
set_option maxRecDepth 65536 in
theorem w_c0 : (Jvm.Cond.code x code maxLocals ret).before args0 about1 = true := code_word (m := ⟨1, 5⟩) (meth := k1m5) (c := k1c5) (by decide +kernel) rfl rfl rfl (by decide +kernel)
set_option maxRecDepth 65536 in
theorem w_c1 : (Jvm.Cond.code ({ cls := "java/lang/String", name := "length", desc := "()I" } : Jvm.MethodName) jdk_42_method_54_code (1 : Nat) (Option.some Jvm.ClassFile.FieldType.int)).before args0 about1 = true := code_word (m := ⟨7, 2⟩) (meth := k7m2) (c := k7c2) (by decide +kernel) rfl rfl rfl (by decide +kernel)
set_option maxRecDepth 65536 in
theorem w_c2 : (Jvm.Cond.code ({ cls := "java/lang/String", name := "coder", desc := "()B" } : Jvm.MethodName) jdk_42_method_152_code (1 : Nat) (Option.some Jvm.ClassFile.FieldType.byte)).before args0 about1 = true := code_word (m := ⟨7, 6⟩) (meth := k7m6) (c := k7c6) (by decide +kernel) rfl rfl rfl (by decide +kernel)
set_option maxRecDepth 65536 in
theorem w_c3 : (Jvm.Cond.code ({ cls := "com/example/mokuroku/mokuroku/core/FormatByCliNamePinLaw", name := "at", desc := "(Ljava/lang/String;I)C" } : Jvm.MethodName) method_2_code (2 : Nat) (Option.some Jvm.ClassFile.FieldType.char)).before args0 about1 = true := code_word (m := ⟨1, 1⟩) (meth := k1m1) (c := k1c1) (by decide +kernel) rfl rfl rfl (by decide +kernel)
set_option maxRecDepth 65536 in
theorem w_c4 : (Jvm.Cond.code ({ cls := "java/lang/String", name := "charAt", desc := "(I)C" } : Jvm.MethodName) jdk_42_method_56_code (2 : Nat) (Option.some Jvm.ClassFile.FieldType.char)).before args0 about1 = true := code_word (m := ⟨7, 3⟩) (meth := k7m3) (c := k7c3) (by decide +kernel) rfl rfl rfl (by decide +kernel)
set_option maxRecDepth 65536 in
theorem w_c5 : (Jvm.Cond.code ({ cls := "java/lang/String", name := "isLatin1", desc := "()Z" } : Jvm.MethodName) jdk_42_method_154_code (1 : Nat) (Option.some Jvm.ClassFile.FieldType.boolean)).before args0 about1 = true := code_word (m := ⟨7, 7⟩) (meth := k7m7) (c := k7c7) (by decide +kernel) rfl rfl rfl (by decide +kernel)
set_option maxRecDepth 65536 in
theorem w_c6 : (Jvm.Cond.code ({ cls := "java/lang/StringLatin1", name := "charAt", desc := "([BI)C" } : Jvm.MethodName) jdk_43_method_2_code (2 : Nat) (Option.some Jvm.ClassFile.FieldType.char)).before args0 about1 = true := code_word (m := ⟨8, 1⟩) (meth := k8m1) (c := k8c1) (by decide +kernel) rfl rfl rfl (by decide +kernel)
set_option maxRecDepth 65536 in
theorem w_c7 : (Jvm.Cond.code ({ cls := "java/lang/String", name := "checkIndex", desc := "(II)V" } : Jvm.MethodName) jdk_42_method_155_code (2 : Nat) (Option.none : Option Jvm.ClassFile.FieldType)).before args0 about1 = true := code_word (m := ⟨7, 8⟩) (meth := k7m8) (c := k7c8) (by decide +kernel) rfl rfl rfl (by decide +kernel)
set_option maxRecDepth 65536 in
theorem w_c8 : (Jvm.Cond.code ({ cls := "jdk/internal/util/Preconditions", name := "checkIndex", desc := "(IILjava/util/function/BiFunction;)I" } : Jvm.MethodName) jdk_41_method_11_code (3 : Nat) (Option.some Jvm.ClassFile.FieldType.int)).before args0 about1 = true := code_word (m := ⟨9, 1⟩) (meth := k9m1) (c := k9c1) (by decide +kernel) rfl rfl rfl (by decide +kernel)
set_option maxRecDepth 65536 in
theorem w_c9 : (Jvm.Cond.code ({ cls := "com/example/mokuroku/mokuroku/core/FormatByCliNamePinLaw", name := "make", desc := "([CI)Ljava/lang/String;" } : Jvm.MethodName) method_4_code (2 : Nat) (Option.some (Jvm.ClassFile.FieldType.object "java/lang/String"))).before args0 about1 = true := code_word (m := ⟨1, 3⟩) (meth := k1m3) (c := k1c3) (by decide +kernel) rfl rfl rfl (by decide +kernel)
set_option maxRecDepth 65536 in
theorem w_c10 : (Jvm.Cond.code ({ cls := "java/lang/String", name := "<init>", desc := "([C)V" } : Jvm.MethodName) jdk_42_method_3_code (2 : Nat) (Option.none : Option Jvm.ClassFile.FieldType)).before args0 about1 = true := code_word (m := ⟨7, 1⟩) (meth := k7m1) (c := k7c1) (by decide +kernel) rfl rfl rfl (by decide +kernel)
set_option maxRecDepth 65536 in
theorem w_c11 : (Jvm.Cond.code ({ cls := "java/lang/String", name := "<init>", desc := "([CIILjava/lang/Void;)V" } : Jvm.MethodName) jdk_42_method_149_code (6 : Nat) (Option.none : Option Jvm.ClassFile.FieldType)).before args0 about1 = true := code_word (m := ⟨7, 5⟩) (meth := k7m5) (c := k7c5) (by decide +kernel) rfl rfl rfl (by decide +kernel)
set_option maxRecDepth 65536 in
theorem w_c12 : (Jvm.Cond.code ({ cls := "java/lang/Object", name := "<init>", desc := "()V" } : Jvm.MethodName) object_method_1_code (1 : Nat) (Option.none : Option Jvm.ClassFile.FieldType)).before args0 about1 = true := code_word (m := ⟨0, 0⟩) (meth := k0m0) (c := k0c0) (by decide +kernel) rfl rfl rfl (by decide +kernel)
set_option maxRecDepth 65536 in
theorem w_c13 : (Jvm.Cond.code ({ cls := "java/lang/StringUTF16", name := "compress", desc := "([CII)[B" } : Jvm.MethodName) jdk_52_method_16_code (6 : Nat) (Option.some (Jvm.ClassFile.FieldType.array Jvm.ClassFile.FieldType.byte))).before args0 about1 = true := code_word (m := ⟨10, 2⟩) (meth := k10m2) (c := k10c2) (by decide +kernel) rfl rfl rfl (by decide +kernel)
set_option maxRecDepth 65536 in
theorem w_c14 : (Jvm.Cond.code ({ cls := "java/lang/StringUTF16", name := "compress", desc := "([CI[BII)I" } : Jvm.MethodName) jdk_52_method_21_code (7 : Nat) (Option.some Jvm.ClassFile.FieldType.int)).before args0 about1 = true := code_word (m := ⟨10, 3⟩) (meth := k10m3) (c := k10c3) (by decide +kernel) rfl rfl rfl (by decide +kernel)
set_option maxRecDepth 65536 in
theorem w_c15 : (Jvm.Cond.code ({ cls := "java/lang/StringUTF16", name := "coderFromArrayLen", desc := "([BI)B" } : Jvm.MethodName) jdk_52_method_15_code (2 : Nat) (Option.some Jvm.ClassFile.FieldType.byte)).before args0 about1 = true := code_word (m := ⟨10, 1⟩) (meth := k10m1) (c := k10c1) (by decide +kernel) rfl rfl rfl (by decide +kernel)
set_option maxRecDepth 65536 in
theorem w_c16 : (Jvm.Cond.code ({ cls := "com/example/mokuroku/mokuroku/core/FormatByCliNamePinLaw", name := "expected", desc := "([CI)I" } : Jvm.MethodName) method_5_code (2 : Nat) (Option.some Jvm.ClassFile.FieldType.int)).before args0 about1 = true := code_word (m := ⟨1, 4⟩) (meth := k1m4) (c := k1c4) (by decide +kernel) rfl rfl rfl (by decide +kernel)
set_option maxRecDepth 65536 in
theorem w_c17 : (Jvm.Cond.code ({ cls := "com/example/mokuroku/mokuroku/core/Format", name := "byCliName", desc := "(Ljava/lang/String;)Ljava/util/Optional;" } : Jvm.MethodName) prog_13_method_5_code (5 : Nat) (Option.some (Jvm.ClassFile.FieldType.object "java/util/Optional"))).before args0 about1 = true := code_word (m := ⟨12, 1⟩) (meth := k12m1) (c := k12c1) (by decide +kernel) rfl rfl rfl (by decide +kernel)
set_option maxRecDepth 65536 in
theorem w_c18 : (Jvm.Cond.code ({ cls := "com/example/mokuroku/mokuroku/core/Format", name := "values", desc := "()[Lcom/example/mokuroku/mokuroku/core/Format;" } : Jvm.MethodName) prog_13_method_1_code (0 : Nat) (Option.some (Jvm.ClassFile.FieldType.array (Jvm.ClassFile.FieldType.object "com/example/mokuroku/mokuroku/core/Format")))).before args0 about1 = true := code_word (m := ⟨12, 0⟩) (meth := k12m0) (c := k12c0) (by decide +kernel) rfl rfl rfl (by decide +kernel)
set_option maxRecDepth 65536 in
theorem w_c19 : (Jvm.Cond.code ({ cls := "java/lang/String", name := "equals", desc := "(Ljava/lang/Object;)Z" } : Jvm.MethodName) jdk_42_method_66_code (3 : Nat) (Option.some Jvm.ClassFile.FieldType.boolean)).before args0 about1 = true := code_word (m := ⟨7, 4⟩) (meth := k7m4) (c := k7c4) (by decide +kernel) rfl rfl rfl (by decide +kernel)
set_option maxRecDepth 65536 in
theorem w_c20 : (Jvm.Cond.code ({ cls := "java/lang/StringLatin1", name := "equals", desc := "([B[B)Z" } : Jvm.MethodName) jdk_43_method_13_code (3 : Nat) (Option.some Jvm.ClassFile.FieldType.boolean)).before args0 about1 = true := code_word (m := ⟨8, 2⟩) (meth := k8m2) (c := k8c2) (by decide +kernel) rfl rfl rfl (by decide +kernel)
set_option maxRecDepth 65536 in
theorem w_c21 : (Jvm.Cond.code ({ cls := "java/util/Optional", name := "empty", desc := "()Ljava/util/Optional;" } : Jvm.MethodName) jdk_32_method_1_code (1 : Nat) (Option.some (Jvm.ClassFile.FieldType.object "java/util/Optional"))).before args0 about1 = true := code_word (m := ⟨14, 0⟩) (meth := k14m0) (c := k14c0) (by decide +kernel) rfl rfl rfl (by decide +kernel)
set_option maxRecDepth 65536 in
theorem w_c22 : (Jvm.Cond.code ({ cls := "java/util/Optional", name := "isPresent", desc := "()Z" } : Jvm.MethodName) jdk_32_method_6_code (1 : Nat) (Option.some Jvm.ClassFile.FieldType.boolean)).before args0 about1 = true := code_word (m := ⟨14, 4⟩) (meth := k14m4) (c := k14c4) (by decide +kernel) rfl rfl rfl (by decide +kernel)
set_option maxRecDepth 65536 in
theorem w_c23 : (Jvm.Cond.code ({ cls := "java/util/Optional", name := "of", desc := "(Ljava/lang/Object;)Ljava/util/Optional;" } : Jvm.MethodName) jdk_32_method_3_code (1 : Nat) (Option.some (Jvm.ClassFile.FieldType.object "java/util/Optional"))).before args0 about1 = true := code_word (m := ⟨14, 2⟩) (meth := k14m2) (c := k14c2) (by decide +kernel) rfl rfl rfl (by decide +kernel)
set_option maxRecDepth 65536 in
theorem w_c24 : (Jvm.Cond.code ({ cls := "java/util/Objects", name := "requireNonNull", desc := "(Ljava/lang/Object;)Ljava/lang/Object;" } : Jvm.MethodName) jdk_31_method_10_code (1 : Nat) (Option.some (Jvm.ClassFile.FieldType.object "java/lang/Object"))).before args0 about1 = true := code_word (m := ⟨15, 1⟩) (meth := k15m1) (c := k15c1) (by decide +kernel) rfl rfl rfl (by decide +kernel)
set_option maxRecDepth 65536 in
theorem w_c25 : (Jvm.Cond.code ({ cls := "java/util/Optional", name := "<init>", desc := "(Ljava/lang/Object;)V" } : Jvm.MethodName) jdk_32_method_2_code (2 : Nat) (Option.none : Option Jvm.ClassFile.FieldType)).before args0 about1 = true := code_word (m := ⟨14, 1⟩) (meth := k14m1) (c := k14c1) (by decide +kernel) rfl rfl rfl (by decide +kernel)
set_option maxRecDepth 65536 in
theorem w_c26 : (Jvm.Cond.code ({ cls := "java/util/Optional", name := "get", desc := "()Ljava/lang/Object;" } : Jvm.MethodName) jdk_32_method_5_code (1 : Nat) (Option.some (Jvm.ClassFile.FieldType.object "java/lang/Object"))).before args0 about1 = true := code_word (m := ⟨14, 3⟩) (meth := k14m3) (c := k14c3) (by decide +kernel) rfl rfl rfl (by decide +kernel)
set_option maxRecDepth 65536 in
theorem w_c27 : (Jvm.Cond.code ({ cls := "com/example/mokuroku/mokuroku/core/FormatByCliNamePinLaw", name := "by", desc := "(JI)C" } : Jvm.MethodName) method_3_code (3 : Nat) (Option.some Jvm.ClassFile.FieldType.char)).before args0 about1 = true := code_word (m := ⟨1, 2⟩) (meth := k1m2) (c := k1c2) (by decide +kernel) rfl rfl rfl (by decide +kernel)
def codes1 : List Jvm.Cond := [Jvm.Cond.code x code maxLocals ret, Jvm.Cond.code ({ cls := "java/lang/String", name := "length", desc := "()I" } : Jvm.MethodName) jdk_42_method_54_code (1 : Nat) (Option.some Jvm.ClassFile.FieldType.int), Jvm.Cond.code ({ cls := "java/lang/String", name := "coder", desc := "()B" } : Jvm.MethodName) jdk_42_method_152_code (1 : Nat) (Option.some Jvm.ClassFile.FieldType.byte), Jvm.Cond.code ({ cls := "com/example/mokuroku/mokuroku/core/FormatByCliNamePinLaw", name := "at", desc := "(Ljava/lang/String;I)C" } : Jvm.MethodName) method_2_code (2 : Nat) (Option.some Jvm.ClassFile.FieldType.char), Jvm.Cond.code ({ cls := "java/lang/String", name := "charAt", desc := "(I)C" } : Jvm.MethodName) jdk_42_method_56_code (2 : Nat) (Option.some Jvm.ClassFile.FieldType.char), Jvm.Cond.code ({ cls := "java/lang/String", name := "isLatin1", desc := "()Z" } : Jvm.MethodName) jdk_42_method_154_code (1 : Nat) (Option.some Jvm.ClassFile.FieldType.boolean), Jvm.Cond.code ({ cls := "java/lang/StringLatin1", name := "charAt", desc := "([BI)C" } : Jvm.MethodName) jdk_43_method_2_code (2 : Nat) (Option.some Jvm.ClassFile.FieldType.char), Jvm.Cond.code ({ cls := "java/lang/String", name := "checkIndex", desc := "(II)V" } : Jvm.MethodName) jdk_42_method_155_code (2 : Nat) (Option.none : Option Jvm.ClassFile.FieldType), Jvm.Cond.code ({ cls := "jdk/internal/util/Preconditions", name := "checkIndex", desc := "(IILjava/util/function/BiFunction;)I" } : Jvm.MethodName) jdk_41_method_11_code (3 : Nat) (Option.some Jvm.ClassFile.FieldType.int), Jvm.Cond.code ({ cls := "com/example/mokuroku/mokuroku/core/FormatByCliNamePinLaw", name := "make", desc := "([CI)Ljava/lang/String;" } : Jvm.MethodName) method_4_code (2 : Nat) (Option.some (Jvm.ClassFile.FieldType.object "java/lang/String")), Jvm.Cond.code ({ cls := "java/lang/String", name := "<init>", desc := "([C)V" } : Jvm.MethodName) jdk_42_method_3_code (2 : Nat) (Option.none : Option Jvm.ClassFile.FieldType), Jvm.Cond.code ({ cls := "java/lang/String", name := "<init>", desc := "([CIILjava/lang/Void;)V" } : Jvm.MethodName) jdk_42_method_149_code (6 : Nat) (Option.none : Option Jvm.ClassFile.FieldType), Jvm.Cond.code ({ cls := "java/lang/Object", name := "<init>", desc := "()V" } : Jvm.MethodName) object_method_1_code (1 : Nat) (Option.none : Option Jvm.ClassFile.FieldType), Jvm.Cond.code ({ cls := "java/lang/StringUTF16", name := "compress", desc := "([CII)[B" } : Jvm.MethodName) jdk_52_method_16_code (6 : Nat) (Option.some (Jvm.ClassFile.FieldType.array Jvm.ClassFile.FieldType.byte)), Jvm.Cond.code ({ cls := "java/lang/StringUTF16", name := "compress", desc := "([CI[BII)I" } : Jvm.MethodName) jdk_52_method_21_code (7 : Nat) (Option.some Jvm.ClassFile.FieldType.int), Jvm.Cond.code ({ cls := "java/lang/StringUTF16", name := "coderFromArrayLen", desc := "([BI)B" } : Jvm.MethodName) jdk_52_method_15_code (2 : Nat) (Option.some Jvm.ClassFile.FieldType.byte), Jvm.Cond.code ({ cls := "com/example/mokuroku/mokuroku/core/FormatByCliNamePinLaw", name := "expected", desc := "([CI)I" } : Jvm.MethodName) method_5_code (2 : Nat) (Option.some Jvm.ClassFile.FieldType.int), Jvm.Cond.code ({ cls := "com/example/mokuroku/mokuroku/core/Format", name := "byCliName", desc := "(Ljava/lang/String;)Ljava/util/Optional;" } : Jvm.MethodName) prog_13_method_5_code (5 : Nat) (Option.some (Jvm.ClassFile.FieldType.object "java/util/Optional")), Jvm.Cond.code ({ cls := "com/example/mokuroku/mokuroku/core/Format", name := "values", desc := "()[Lcom/example/mokuroku/mokuroku/core/Format;" } : Jvm.MethodName) prog_13_method_1_code (0 : Nat) (Option.some (Jvm.ClassFile.FieldType.array (Jvm.ClassFile.FieldType.object "com/example/mokuroku/mokuroku/core/Format"))), Jvm.Cond.code ({ cls := "java/lang/String", name := "equals", desc := "(Ljava/lang/Object;)Z" } : Jvm.MethodName) jdk_42_method_66_code (3 : Nat) (Option.some Jvm.ClassFile.FieldType.boolean), Jvm.Cond.code ({ cls := "java/lang/StringLatin1", name := "equals", desc := "([B[B)Z" } : Jvm.MethodName) jdk_43_method_13_code (3 : Nat) (Option.some Jvm.ClassFile.FieldType.boolean), Jvm.Cond.code ({ cls := "java/util/Optional", name := "empty", desc := "()Ljava/util/Optional;" } : Jvm.MethodName) jdk_32_method_1_code (1 : Nat) (Option.some (Jvm.ClassFile.FieldType.object "java/util/Optional")), Jvm.Cond.code ({ cls := "java/util/Optional", name := "isPresent", desc := "()Z" } : Jvm.MethodName) jdk_32_method_6_code (1 : Nat) (Option.some Jvm.ClassFile.FieldType.boolean), Jvm.Cond.code ({ cls := "java/util/Optional", name := "of", desc := "(Ljava/lang/Object;)Ljava/util/Optional;" } : Jvm.MethodName) jdk_32_method_3_code (1 : Nat) (Option.some (Jvm.ClassFile.FieldType.object "java/util/Optional")), Jvm.Cond.code ({ cls := "java/util/Objects", name := "requireNonNull", desc := "(Ljava/lang/Object;)Ljava/lang/Object;" } : Jvm.MethodName) jdk_31_method_10_code (1 : Nat) (Option.some (Jvm.ClassFile.FieldType.object "java/lang/Object")), Jvm.Cond.code ({ cls := "java/util/Optional", name := "<init>", desc := "(Ljava/lang/Object;)V" } : Jvm.MethodName) jdk_32_method_2_code (2 : Nat) (Option.none : Option Jvm.ClassFile.FieldType), Jvm.Cond.code ({ cls := "java/util/Optional", name := "get", desc := "()Ljava/lang/Object;" } : Jvm.MethodName) jdk_32_method_5_code (1 : Nat) (Option.some (Jvm.ClassFile.FieldType.object "java/lang/Object")), Jvm.Cond.code ({ cls := "com/example/mokuroku/mokuroku/core/FormatByCliNamePinLaw", name := "by", desc := "(JI)C" } : Jvm.MethodName) method_3_code (3 : Nat) (Option.some Jvm.ClassFile.FieldType.char)]
set_option maxRecDepth 65536 in
theorem codes_eq : words1.filter isCode = codes1 := rfl
theorem w_codes : ∀ c ∈ words1.filter isCode, c.before args0 about1 = true := by
  rw [codes_eq]
  intro c hc
  simp only [codes1, List.mem_cons, List.not_mem_nil, or_false] at hc
  rcases hc with rfl | rfl | rfl | rfl | rfl | rfl | rfl | rfl | rfl | rfl | rfl | rfl | rfl | rfl | rfl | rfl | rfl | rfl | rfl | rfl | rfl | rfl | rfl | rfl | rfl | rfl | rfl | rfl
  · exact w_c0
  · exact w_c1
  · exact w_c2
  · exact w_c3
  · exact w_c4
  · exact w_c5
  · exact w_c6
  · exact w_c7
  · exact w_c8
  · exact w_c9
  · exact w_c10
  · exact w_c11
  · exact w_c12
  · exact w_c13
  · exact w_c14
  · exact w_c15
  · exact w_c16
  · exact w_c17
  · exact w_c18
  · exact w_c19
  · exact w_c20
  · exact w_c21
  · exact w_c22
  · exact w_c23
  · exact w_c24
  · exact w_c25
  · exact w_c26
  · exact w_c27
set_option maxRecDepth 65536 in
theorem w_t1 : (words1.take 24).all (fun c => isCode c || c.before args0 about1) = true := by decide +kernel
set_option maxRecDepth 65536 in
theorem w_t2 : ((words1.drop 24).take 24).all (fun c => isCode c || c.before args0 about1) = true := by decide +kernel
set_option maxRecDepth 65536 in
theorem w_t3 : (((words1.drop 24).drop 24).take 24).all (fun c => isCode c || c.before args0 about1) = true := by decide +kernel
set_option maxRecDepth 65536 in
theorem w_t4 : ((((words1.drop 24).drop 24).drop 24).take 24).all (fun c => isCode c || c.before args0 about1) = true := by decide +kernel
set_option maxRecDepth 65536 in
theorem w_t5 : (((((words1.drop 24).drop 24).drop 24).drop 24).take 24).all (fun c => isCode c || c.before args0 about1) = true := by decide +kernel
set_option maxRecDepth 65536 in
theorem w_t6 : ((((((words1.drop 24).drop 24).drop 24).drop 24).drop 24).take 24).all (fun c => isCode c || c.before args0 about1) = true := by decide +kernel
set_option maxRecDepth 65536 in
theorem w_t7 : ((((((words1.drop 24).drop 24).drop 24).drop 24).drop 24).drop 24).all (fun c => isCode c || c.before args0 about1) = true := by decide +kernel
theorem w_tables : (allAtoms (Jvm.Cond.code x code maxLocals ret :: tables_1)).before args0 about1 = true := by
  rw [allAtoms_all]
  show words1.all (fun c => c.before args0 about1) = true
  refine all_split ?_ w_codes
  rw [← List.take_append_drop 24 words1, List.all_append, w_t1, ← List.take_append_drop 24 (words1.drop 24), List.all_append, w_t2, ← List.take_append_drop 24 ((words1.drop 24).drop 24), List.all_append, w_t3, ← List.take_append_drop 24 (((words1.drop 24).drop 24).drop 24), List.all_append, w_t4, ← List.take_append_drop 24 ((((words1.drop 24).drop 24).drop 24).drop 24), List.all_append, w_t5, ← List.take_append_drop 24 (((((words1.drop 24).drop 24).drop 24).drop 24).drop 24), List.all_append, w_t6, w_t7]
  rfl
set_option maxRecDepth 65536 in
theorem w_rest : rest_1_c.before args0 about1 = true := by decide +kernel
set_option maxRecDepth 65536 in
theorem w_case : (Jvm.Cond.and given_1 narrow_1).before args0 about1 = true := by decide +kernel
set_option maxRecDepth 65536 in
theorem w_consts : constsHeld consts_1 about1 := Jvm.Lit.constsHeldB_iff.mp (by decide +kernel)
theorem w_applies : (headSpec (Jvm.Cond.code x code maxLocals ret :: tables_1) room_1).applies x e0.platform about1 = true :=
  (Spec.applies_iff w_frames).mpr ⟨w_running, w_runnable, w_alone, w_named, w_hears, w_ripe, w_room, w_tables⟩
theorem atStart : AtStart classFile x code maxLocals ret World_1 tables_1 room_1 Calls_1 rest_1 Pre_1 launch0 p0 e0 about1 theMethod args0 below0 :=
  ⟨lists_1, trivial, launch0.admits_env _ _ _, launch0.least_env, fairChoices_fair.cas, fairChoices_fair.clock, w_frames, w_args, w_heap, w_applies, ⟨w_consts, trivial⟩, w_rest, w_case⟩
end start1
theorem witness_1 : WitnessClaimed_1 := ⟨start1.p0, start1.e0, start1.about1, start1.theMethod, start1.args0, start1.below0, start1.atStart⟩
end Jvm.Pilot.@@N@@
