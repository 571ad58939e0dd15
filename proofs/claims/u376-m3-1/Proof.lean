import JvmDerived
import JvmDerived.Pilot.@@N@@Statement
import JvmDerived.Pilot.@@N@@Code
set_option linter.unusedVariables false
set_option linter.unusedSimpArgs false
namespace Jvm.Pilot.@@N@@
namespace Own
open Jvm Jvm.ClassFile Sem Op Lib Jvm.Free Jvm.Stand Jvm.LawKit Jvm.RoadKit Bundle
/-- from the state s the invocation comes to its end, and K holds there -/
def Goes (tb : Tables) (e : Env) (below : List Frame) (K : State → Outcome → Prop) (s : State) : Prop := ∃ s₂ o, Steps tb e below s s₂ ∧ s₂.status = .running ∧ Ended s₂ below o ∧ K s₂ o
theorem Goes.go {tb : Tables} {e : Env} {below : List Frame} {K : State → Outcome → Prop} {s s' : State} (st : ∀ t, Steps tb e below s' t → Steps tb e below s t) (h : Goes tb e below K s') : Goes tb e below K s := by
  obtain ⟨s₂, o, h1, h2⟩ := h
  exact ⟨s₂, o, st _ h1, h2⟩
theorem Goes.tr {tb : Tables} {e : Env} {below : List Frame} {K : State → Outcome → Prop} {s s' : State} (st : Steps tb e below s s') (h : Goes tb e below K s') : Goes tb e below K s := Goes.go (fun _ k => st.trans k) h
/-- where the walk stands, with all that the laws ask beside it -/
def Wk (Z : State) (own : String) (bytes : ByteArray) (h : Heap) (p : Program) (l : Launch) (e : Env) (R : Room) (s : State) (m : MethodId) (args : Array Value) (below : List Frame) (meth : Method) (c : Code) (T : State) (locs : List Loc) (cells slots : Nat) : Prop :=
  Stand p l e R s m args below meth c T locs cells slots ∧ p.tables.exec = Jvm.exec ∧ c.code = bytes ∧ Z.Warmed39 s.vm ∧ s.vm.findClass own = some m.cls ∧ T.heap = h
section Steps
variable {Z : State} {own : String} {bytes : ByteArray} {h : Heap} {p : Program} {l : Launch} {e : Env} {R : Room} {s : State} {m : MethodId} {args : Array Value} {below : List Frame} {meth : Method} {c : Code} {T : State} {locs : List Loc} {cells slots : Nat}
  {K : State → Outcome → Prop} {a0 : Array Value} {pc q : Nat} {Ls : Array Slot} {st : List Value}
theorem iconst {i : Int} {v : Int32} (P : Wk Z own bytes h p l e R s m args below meth c T locs cells slots) (hd : decode bytes pc = .ok (.iconst i, 1)) (hv : Int32.ofInt i = v) (hq : pc + 1 = q) (k : Goes p.tables e below K (T.setTop (mkF m q Ls (.int v :: st)))) : Goes p.tables e below K (T.setTop (mkF m pc Ls (st))) := by
  subst hq
  exact Goes.go (fun _ r => XS.iconst P.1.here P.2.1 rfl (hb P.2.2.1 hd) (hv ▸ r)) k
theorem bipush {i : Int} {v : Int32} (P : Wk Z own bytes h p l e R s m args below meth c T locs cells slots) (hd : decode bytes pc = .ok (.bipush i, 2)) (hv : (Int8.ofInt i).toInt32 = v) (hq : pc + 2 = q) (k : Goes p.tables e below K (T.setTop (mkF m q Ls (.int v :: st)))) : Goes p.tables e below K (T.setTop (mkF m pc Ls (st))) := by
  subst hq
  exact Goes.go (fun _ r => XS.bipush P.1.here P.2.1 rfl (hb P.2.2.1 hd) (hv ▸ r)) k
theorem sipush {i : Int} {v : Int32} (P : Wk Z own bytes h p l e R s m args below meth c T locs cells slots) (hd : decode bytes pc = .ok (.sipush i, 3)) (hv : (Int16.ofInt i).toInt32 = v) (hq : pc + 3 = q) (k : Goes p.tables e below K (T.setTop (mkF m q Ls (.int v :: st)))) : Goes p.tables e below K (T.setTop (mkF m pc Ls (st))) := by
  subst hq
  exact Goes.go (fun _ r => XS.sipush P.1.here P.2.1 rfl (hb P.2.2.1 hd) (hv ▸ r)) k
theorem aconst  (P : Wk Z own bytes h p l e R s m args below meth c T locs cells slots) (hd : decode bytes pc = .ok (.aconst_null, 1))  (hq : pc + 1 = q) (k : Goes p.tables e below K (T.setTop (mkF m q Ls (.null :: st)))) : Goes p.tables e below K (T.setTop (mkF m pc Ls (st))) := by
  subst hq
  exact Goes.go (fun _ r => XS.aconstNull P.1.here P.2.1 rfl (hb P.2.2.1 hd) r) k
theorem iload {k : Nat} {v : Int32} (P : Wk Z own bytes h p l e R s m args below meth c T locs cells slots) (hd : decode bytes pc = .ok (.iload k, 2)) (hl : Ls[k]? = some (.val (.int v))) (hq : pc + 2 = q) (k : Goes p.tables e below K (T.setTop (mkF m q Ls (.int v :: st)))) : Goes p.tables e below K (T.setTop (mkF m pc Ls (st))) := by
  subst hq
  exact Goes.go (fun _ r => XS.iload P.1.here P.2.1 rfl (hb P.2.2.1 hd) hl r) k
theorem iloadN {k : _} {v : Int32} (P : Wk Z own bytes h p l e R s m args below meth c T locs cells slots) (hd : decode bytes pc = .ok (.iload_n k, 1)) (hl : Ls[k.val]? = some (.val (.int v))) (hq : pc + 1 = q) (k : Goes p.tables e below K (T.setTop (mkF m q Ls (.int v :: st)))) : Goes p.tables e below K (T.setTop (mkF m pc Ls (st))) := by
  subst hq
  exact Goes.go (fun _ r => XS.iloadN P.1.here P.2.1 rfl (hb P.2.2.1 hd) hl r) k
theorem aload {k : Nat} {v : Value} (P : Wk Z own bytes h p l e R s m args below meth c T locs cells slots) (hd : decode bytes pc = .ok (.aload k, 2)) (hl : Ls[k]? = some (.val v)) (hv : v.isRef = true) (hq : pc + 2 = q) (k : Goes p.tables e below K (T.setTop (mkF m q Ls (v :: st)))) : Goes p.tables e below K (T.setTop (mkF m pc Ls (st))) := by
  subst hq
  exact Goes.go (fun _ r => XS.aload P.1.here P.2.1 rfl (hb P.2.2.1 hd) hl hv r) k
theorem aloadN {k : _} {v : Value} (P : Wk Z own bytes h p l e R s m args below meth c T locs cells slots) (hd : decode bytes pc = .ok (.aload_n k, 1)) (hl : Ls[k.val]? = some (.val v)) (hv : v.isRef = true) (hq : pc + 1 = q) (k : Goes p.tables e below K (T.setTop (mkF m q Ls (v :: st)))) : Goes p.tables e below K (T.setTop (mkF m pc Ls (st))) := by
  subst hq
  exact Goes.go (fun _ r => XS.aloadN P.1.here P.2.1 rfl (hb P.2.2.1 hd) hl hv r) k
theorem lload {k : Nat} {v : Int64} (P : Wk Z own bytes h p l e R s m args below meth c T locs cells slots) (hd : decode bytes pc = .ok (.lload k, 2)) (hl : Ls[k]? = some (.val (.long v))) (hq : pc + 2 = q) (k : Goes p.tables e below K (T.setTop (mkF m q Ls (.long v :: st)))) : Goes p.tables e below K (T.setTop (mkF m pc Ls (st))) := by
  subst hq
  exact Goes.go (fun _ r => XT.lload P.1.here P.2.1 rfl (hb P.2.2.1 hd) hl r) k
theorem lloadN {k : _} {v : Int64} (P : Wk Z own bytes h p l e R s m args below meth c T locs cells slots) (hd : decode bytes pc = .ok (.lload_n k, 1)) (hl : Ls[k.val]? = some (.val (.long v))) (hq : pc + 1 = q) (k : Goes p.tables e below K (T.setTop (mkF m q Ls (.long v :: st)))) : Goes p.tables e below K (T.setTop (mkF m pc Ls (st))) := by
  subst hq
  exact Goes.go (fun _ r => XT.lloadN P.1.here P.2.1 rfl (hb P.2.2.1 hd) hl r) k
theorem istore {k : Nat} {x : Int32} {L2 : Array Slot} (P : Wk Z own bytes h p l e R s m args below meth c T locs cells slots) (hd : decode bytes pc = .ok (.istore k, 2)) (hl : storeLocals Ls k (.int x) = some L2) (hq : pc + 2 = q) (k : Goes p.tables e below K (T.setTop (mkF m q L2 (st)))) : Goes p.tables e below K (T.setTop (mkF m pc Ls (.int x :: st))) := by
  subst hq
  exact Goes.go (fun _ r => XS.istore P.1.here P.2.1 rfl (hb P.2.2.1 hd) rfl hl r) k
theorem istoreN {k : _} {x : Int32} {L2 : Array Slot} (P : Wk Z own bytes h p l e R s m args below meth c T locs cells slots) (hd : decode bytes pc = .ok (.istore_n k, 1)) (hl : storeLocals Ls k.val (.int x) = some L2) (hq : pc + 1 = q) (k : Goes p.tables e below K (T.setTop (mkF m q L2 (st)))) : Goes p.tables e below K (T.setTop (mkF m pc Ls (.int x :: st))) := by
  subst hq
  exact Goes.go (fun _ r => XS.istoreN P.1.here P.2.1 rfl (hb P.2.2.1 hd) rfl hl r) k
theorem astore {k : Nat} {x : Value} {L2 : Array Slot} (P : Wk Z own bytes h p l e R s m args below meth c T locs cells slots) (hd : decode bytes pc = .ok (.astore k, 2)) (hv : x.isRef = true) (hl : storeLocals Ls k x = some L2) (hq : pc + 2 = q) (k : Goes p.tables e below K (T.setTop (mkF m q L2 (st)))) : Goes p.tables e below K (T.setTop (mkF m pc Ls (x :: st))) := by
  subst hq
  exact Goes.go (fun _ r => XS.astore P.1.here P.2.1 rfl (hb P.2.2.1 hd) rfl hv hl r) k
theorem astoreN {k : _} {x : Value} {L2 : Array Slot} (P : Wk Z own bytes h p l e R s m args below meth c T locs cells slots) (hd : decode bytes pc = .ok (.astore_n k, 1)) (hv : x.isRef = true) (hl : storeLocals Ls k.val x = some L2) (hq : pc + 1 = q) (k : Goes p.tables e below K (T.setTop (mkF m q L2 (st)))) : Goes p.tables e below K (T.setTop (mkF m pc Ls (x :: st))) := by
  subst hq
  exact Goes.go (fun _ r => XS.astoreN P.1.here P.2.1 rfl (hb P.2.2.1 hd) rfl hv hl r) k
theorem iinc {k : Nat} {i : Int} {x v : Int32} {L2 : Array Slot} (P : Wk Z own bytes h p l e R s m args below meth c T locs cells slots) (hd : decode bytes pc = .ok (.iinc k i, 3)) (hl : Ls[k]? = some (.val (.int x))) (hv : Int32.ofInt i = v) (hs : storeLocals Ls k (.int (x + v)) = some L2) (hq : pc + 3 = q) (k : Goes p.tables e below K (T.setTop (mkF m q L2 (st)))) : Goes p.tables e below K (T.setTop (mkF m pc Ls (st))) := by
  subst hq
  exact Goes.go (fun _ r => XS.iinc P.1.here P.2.1 rfl (hb P.2.2.1 hd) hl (hv ▸ hs) r) k
theorem dup {x : Value} (P : Wk Z own bytes h p l e R s m args below meth c T locs cells slots) (hd : decode bytes pc = .ok (.dup, 1)) (hc : x.category = 1) (hq : pc + 1 = q) (k : Goes p.tables e below K (T.setTop (mkF m q Ls (x :: x :: st)))) : Goes p.tables e below K (T.setTop (mkF m pc Ls (x :: st))) := by
  subst hq
  exact Goes.go (fun _ r => XS.dup P.1.here P.2.1 rfl (hb P.2.2.1 hd) rfl hc r) k
theorem pop {x : Value} (P : Wk Z own bytes h p l e R s m args below meth c T locs cells slots) (hd : decode bytes pc = .ok (.pop, 1)) (hc : x.category = 1) (hq : pc + 1 = q) (k : Goes p.tables e below K (T.setTop (mkF m q Ls (st)))) : Goes p.tables e below K (T.setTop (mkF m pc Ls (x :: st))) := by
  subst hq
  exact Goes.go (fun _ r => XT.pop P.1.here P.2.1 rfl (hb P.2.2.1 hd) rfl hc r) k
theorem iadd {x y : Int32} (P : Wk Z own bytes h p l e R s m args below meth c T locs cells slots) (hd : decode bytes pc = .ok (.iadd, 1))  (hq : pc + 1 = q) (k : Goes p.tables e below K (T.setTop (mkF m q Ls (.int (x + y) :: st)))) : Goes p.tables e below K (T.setTop (mkF m pc Ls (.int y :: .int x :: st))) := by
  subst hq
  exact Goes.go (fun _ r => XS.iadd P.1.here P.2.1 rfl (hb P.2.2.1 hd) rfl r) k
theorem isub {x y : Int32} (P : Wk Z own bytes h p l e R s m args below meth c T locs cells slots) (hd : decode bytes pc = .ok (.isub, 1))  (hq : pc + 1 = q) (k : Goes p.tables e below K (T.setTop (mkF m q Ls (.int (x - y) :: st)))) : Goes p.tables e below K (T.setTop (mkF m pc Ls (.int y :: .int x :: st))) := by
  subst hq
  exact Goes.go (fun _ r => XS.isub P.1.here P.2.1 rfl (hb P.2.2.1 hd) rfl r) k
theorem iand {x y : Int32} (P : Wk Z own bytes h p l e R s m args below meth c T locs cells slots) (hd : decode bytes pc = .ok (.iand, 1))  (hq : pc + 1 = q) (k : Goes p.tables e below K (T.setTop (mkF m q Ls (.int (x &&& y) :: st)))) : Goes p.tables e below K (T.setTop (mkF m pc Ls (.int y :: .int x :: st))) := by
  subst hq
  exact Goes.go (fun _ r => XS.iand P.1.here P.2.1 rfl (hb P.2.2.1 hd) rfl r) k
theorem imul {x y : Int32} (P : Wk Z own bytes h p l e R s m args below meth c T locs cells slots) (hd : decode bytes pc = .ok (.imul, 1))  (hq : pc + 1 = q) (k : Goes p.tables e below K (T.setTop (mkF m q Ls (.int (x * y) :: st)))) : Goes p.tables e below K (T.setTop (mkF m pc Ls (.int y :: .int x :: st))) := by
  subst hq
  exact Goes.go (fun _ r => XS.imul P.1.here P.2.1 rfl (hb P.2.2.1 hd) rfl r) k
theorem ixor {x y : Int32} (P : Wk Z own bytes h p l e R s m args below meth c T locs cells slots) (hd : decode bytes pc = .ok (.ixor, 1))  (hq : pc + 1 = q) (k : Goes p.tables e below K (T.setTop (mkF m q Ls (.int (x ^^^ y) :: st)))) : Goes p.tables e below K (T.setTop (mkF m pc Ls (.int y :: .int x :: st))) := by
  subst hq
  exact Goes.go (fun _ r => XT.ixor P.1.here P.2.1 rfl (hb P.2.2.1 hd) rfl r) k
theorem ior {x y : Int32} (P : Wk Z own bytes h p l e R s m args below meth c T locs cells slots) (hd : decode bytes pc = .ok (.ior, 1))  (hq : pc + 1 = q) (k : Goes p.tables e below K (T.setTop (mkF m q Ls (.int (x ||| y) :: st)))) : Goes p.tables e below K (T.setTop (mkF m pc Ls (.int y :: .int x :: st))) := by
  subst hq
  exact Goes.go (fun _ r => XT.ior P.1.here P.2.1 rfl (hb P.2.2.1 hd) rfl r) k
theorem ishl {x y : Int32} (P : Wk Z own bytes h p l e R s m args below meth c T locs cells slots) (hd : decode bytes pc = .ok (.ishl, 1))  (hq : pc + 1 = q) (k : Goes p.tables e below K (T.setTop (mkF m q Ls (.int (x <<< (y &&& 31)) :: st)))) : Goes p.tables e below K (T.setTop (mkF m pc Ls (.int y :: .int x :: st))) := by
  subst hq
  exact Goes.go (fun _ r => XT.ishl P.1.here P.2.1 rfl (hb P.2.2.1 hd) rfl r) k
theorem ishr {x y : Int32} (P : Wk Z own bytes h p l e R s m args below meth c T locs cells slots) (hd : decode bytes pc = .ok (.ishr, 1))  (hq : pc + 1 = q) (k : Goes p.tables e below K (T.setTop (mkF m q Ls (.int (x >>> (y &&& 31)) :: st)))) : Goes p.tables e below K (T.setTop (mkF m pc Ls (.int y :: .int x :: st))) := by
  subst hq
  exact Goes.go (fun _ r => XT.ishr P.1.here P.2.1 rfl (hb P.2.2.1 hd) rfl r) k
theorem iushr {x y : Int32} (P : Wk Z own bytes h p l e R s m args below meth c T locs cells slots) (hd : decode bytes pc = .ok (.iushr, 1))  (hq : pc + 1 = q) (k : Goes p.tables e below K (T.setTop (mkF m q Ls (.int (XT.ushr x y) :: st)))) : Goes p.tables e below K (T.setTop (mkF m pc Ls (.int y :: .int x :: st))) := by
  subst hq
  exact Goes.go (fun _ r => XT.iushr P.1.here P.2.1 rfl (hb P.2.2.1 hd) rfl r) k
theorem irem {x y : Int32} (P : Wk Z own bytes h p l e R s m args below meth c T locs cells slots) (hd : decode bytes pc = .ok (.irem, 1)) (hy : y ≠ 0) (hq : pc + 1 = q) (k : Goes p.tables e below K (T.setTop (mkF m q Ls (.int (x % y) :: st)))) : Goes p.tables e below K (T.setTop (mkF m pc Ls (.int y :: .int x :: st))) := by
  subst hq
  exact Goes.go (fun _ r => iremM P.1 P.2.1 rfl (hb P.2.2.1 hd) rfl hy r) k
theorem idiv {x y : Int32} (P : Wk Z own bytes h p l e R s m args below meth c T locs cells slots) (hd : decode bytes pc = .ok (.idiv, 1)) (hy : y ≠ 0) (hq : pc + 1 = q) (k : Goes p.tables e below K (T.setTop (mkF m q Ls (.int (x / y) :: st)))) : Goes p.tables e below K (T.setTop (mkF m pc Ls (.int y :: .int x :: st))) := by
  subst hq
  exact Goes.go (fun _ r => XS.idiv P.1.here P.2.1 rfl (hb P.2.2.1 hd) rfl hy r) k
theorem i2c {x : Int32} (P : Wk Z own bytes h p l e R s m args below meth c T locs cells slots) (hd : decode bytes pc = .ok (.i2c, 1))  (hq : pc + 1 = q) (k : Goes p.tables e below K (T.setTop (mkF m q Ls (.int x.toUInt32.toUInt16.toUInt32.toInt32 :: st)))) : Goes p.tables e below K (T.setTop (mkF m pc Ls (.int x :: st))) := by
  subst hq
  exact Goes.go (fun _ r => XT.i2c P.1.here P.2.1 rfl (hb P.2.2.1 hd) rfl r) k
theorem i2cV {x v : Int32} (P : Wk Z own bytes h p l e R s m args below meth c T locs cells slots) (hd : decode bytes pc = .ok (.i2c, 1)) (hv : x.toUInt32.toUInt16.toUInt32.toInt32 = v) (hq : pc + 1 = q) (k : Goes p.tables e below K (T.setTop (mkF m q Ls (.int v :: st)))) : Goes p.tables e below K (T.setTop (mkF m pc Ls (.int x :: st))) := by
  subst hq
  exact Goes.go (fun _ r => XT.i2c P.1.here P.2.1 rfl (hb P.2.2.1 hd) rfl (hv ▸ r)) k
theorem i2b {x : Int32} (P : Wk Z own bytes h p l e R s m args below meth c T locs cells slots) (hd : decode bytes pc = .ok (.i2b, 1))  (hq : pc + 1 = q) (k : Goes p.tables e below K (T.setTop (mkF m q Ls (.int x.toInt8.toInt32 :: st)))) : Goes p.tables e below K (T.setTop (mkF m pc Ls (.int x :: st))) := by
  subst hq
  exact Goes.go (fun _ r => XT.i2b P.1.here P.2.1 rfl (hb P.2.2.1 hd) rfl r) k
theorem i2l {x : Int32} (P : Wk Z own bytes h p l e R s m args below meth c T locs cells slots) (hd : decode bytes pc = .ok (.i2l, 1))  (hq : pc + 1 = q) (k : Goes p.tables e below K (T.setTop (mkF m q Ls (.long x.toInt64 :: st)))) : Goes p.tables e below K (T.setTop (mkF m pc Ls (.int x :: st))) := by
  subst hq
  exact Goes.go (fun _ r => XT.i2l P.1.here P.2.1 rfl (hb P.2.2.1 hd) rfl r) k
theorem l2i {x : Int64} (P : Wk Z own bytes h p l e R s m args below meth c T locs cells slots) (hd : decode bytes pc = .ok (.l2i, 1))  (hq : pc + 1 = q) (k : Goes p.tables e below K (T.setTop (mkF m q Ls (.int x.toInt32 :: st)))) : Goes p.tables e below K (T.setTop (mkF m pc Ls (.long x :: st))) := by
  subst hq
  exact Goes.go (fun _ r => XT.l2i P.1.here P.2.1 rfl (hb P.2.2.1 hd) rfl r) k
theorem lushr {x : Int64} {y : Int32} (P : Wk Z own bytes h p l e R s m args below meth c T locs cells slots) (hd : decode bytes pc = .ok (.lushr, 1))  (hq : pc + 1 = q) (k : Goes p.tables e below K (T.setTop (mkF m q Ls (.long (XT.ushrL x y) :: st)))) : Goes p.tables e below K (T.setTop (mkF m pc Ls (.int y :: .long x :: st))) := by
  subst hq
  exact Goes.go (fun _ r => XT.lushr P.1.here P.2.1 rfl (hb P.2.2.1 hd) rfl r) k
theorem land {x y : Int64} (P : Wk Z own bytes h p l e R s m args below meth c T locs cells slots) (hd : decode bytes pc = .ok (.land, 1))  (hq : pc + 1 = q) (k : Goes p.tables e below K (T.setTop (mkF m q Ls (.long (x &&& y) :: st)))) : Goes p.tables e below K (T.setTop (mkF m pc Ls (.long y :: .long x :: st))) := by
  subst hq
  exact Goes.go (fun _ r => XT.land P.1.here P.2.1 rfl (hb P.2.2.1 hd) rfl r) k
theorem lsub {x y : Int64} (P : Wk Z own bytes h p l e R s m args below meth c T locs cells slots) (hd : decode bytes pc = .ok (.lsub, 1))  (hq : pc + 1 = q) (k : Goes p.tables e below K (T.setTop (mkF m q Ls (.long (x - y) :: st)))) : Goes p.tables e below K (T.setTop (mkF m pc Ls (.long y :: .long x :: st))) := by
  subst hq
  exact Goes.go (fun _ r => XT.lsub P.1.here P.2.1 rfl (hb P.2.2.1 hd) rfl r) k
theorem lcmp {x y : Int64} (P : Wk Z own bytes h p l e R s m args below meth c T locs cells slots) (hd : decode bytes pc = .ok (.lcmp, 1))  (hq : pc + 1 = q) (k : Goes p.tables e below K (T.setTop (mkF m q Ls (.int (XT.cmpL x y) :: st)))) : Goes p.tables e below K (T.setTop (mkF m pc Ls (.long y :: .long x :: st))) := by
  subst hq
  exact Goes.go (fun _ r => XT.lcmp P.1.here P.2.1 rfl (hb P.2.2.1 hd) rfl r) k
theorem ldcI {i : Nat} {v : Int32} (P : Wk Z own bytes h p l e R s m args below meth c T locs cells slots) (hd : decode bytes pc = .ok (.ldc i, 2)) (w : (Cond.constant own i v).before a0 Z = true) (hq : pc + 2 = q) (k : Goes p.tables e below K (T.setTop (mkF m q Ls (.int v :: st)))) : Goes p.tables e below K (T.setTop (mkF m pc Ls (st))) := by
  subst hq
  exact Goes.go (fun _ r => Jvm.Stand.ldcI P.1 P.2.1 P.2.2.2.2.1 (mvT P.2.2.2.1 w) rfl (hb P.2.2.1 hd) r) k
theorem ldcJ {i : Nat} {v : Int64} (P : Wk Z own bytes h p l e R s m args below meth c T locs cells slots) (hd : decode bytes pc = .ok (.ldc2_w i, 3)) (w : (Cond.constantLong own i v).before a0 Z = true) (hq : pc + 3 = q) (k : Goes p.tables e below K (T.setTop (mkF m q Ls (.long v :: st)))) : Goes p.tables e below K (T.setTop (mkF m pc Ls (st))) := by
  subst hq
  exact Goes.go (fun _ r => Jvm.Stand.ldc2J P.1 P.2.1 P.2.2.2.2.1 (mvT P.2.2.2.1 w) rfl (hb P.2.2.1 hd) r) k
theorem jmp {o : Int} {n : Nat} (h : (n : Int) + o = (q : Int)) : 0 ≤ (n : Int) + o ∧ ((n : Int) + o).toNat = q := by omega
theorem goto {o : Int} (P : Wk Z own bytes h p l e R s m args below meth c T locs cells slots) (hd : decode bytes pc = .ok (.goto o, 3)) (hq : (pc : Int) + o = (q : Int)) (k : Goes p.tables e below K (T.setTop (mkF m q Ls (st)))) : Goes p.tables e below K (T.setTop (mkF m pc Ls (st))) :=
  Goes.go (fun _ r => XS.goto P.1.here P.2.1 rfl (pc0 := pc) rfl (hb P.2.2.1 hd) (jmp hq).1 (jmp hq).2 r) k
theorem icmp_eq {x y : Int32} {o : Int} {qy : Nat} (P : Wk Z own bytes h p l e R s m args below meth c T locs cells slots) (hd : decode bytes pc = .ok (.if_icmp .eq o, 3)) (hy : (pc : Int) + o = (qy : Int)) (hq : pc + 3 = q) (ky : x = y → Goes p.tables e below K (T.setTop (mkF m qy Ls (st)))) (kn : ¬ x = y → Goes p.tables e below K (T.setTop (mkF m q Ls (st)))) : Goes p.tables e below K (T.setTop (mkF m pc Ls (.int y :: .int x :: st))) := by
  subst hq
  by_cases c0 : x = y
  · exact Goes.go (fun _ r => XS.icmpYes P.1.here P.2.1 rfl (pc0 := pc) rfl (hb P.2.2.1 hd) rfl (XT.ii_eq_t c0) (jmp hy).1 (jmp hy).2 r) (ky c0)
  · exact Goes.go (fun _ r => XS.icmpNo P.1.here P.2.1 rfl (hb P.2.2.1 hd) rfl (XT.ii_eq_f c0) r) (kn c0)
theorem if_eq {x : Int32} {o : Int} {qy : Nat} (P : Wk Z own bytes h p l e R s m args below meth c T locs cells slots) (hd : decode bytes pc = .ok (.ifCond .eq o, 3)) (hy : (pc : Int) + o = (qy : Int)) (hq : pc + 3 = q) (ky : x = 0 → Goes p.tables e below K (T.setTop (mkF m qy Ls (st)))) (kn : ¬ x = 0 → Goes p.tables e below K (T.setTop (mkF m q Ls (st)))) : Goes p.tables e below K (T.setTop (mkF m pc Ls (.int x :: st))) := by
  subst hq
  by_cases c0 : x = 0
  · exact Goes.go (fun _ r => XS.ifYes P.1.here P.2.1 rfl (pc0 := pc) rfl (hb P.2.2.1 hd) rfl (XT.i0_eq_t c0) (jmp hy).1 (jmp hy).2 r) (ky c0)
  · exact Goes.go (fun _ r => XS.ifNo P.1.here P.2.1 rfl (hb P.2.2.1 hd) rfl (XT.i0_eq_f c0) r) (kn c0)
theorem icmp_ne {x y : Int32} {o : Int} {qy : Nat} (P : Wk Z own bytes h p l e R s m args below meth c T locs cells slots) (hd : decode bytes pc = .ok (.if_icmp .ne o, 3)) (hy : (pc : Int) + o = (qy : Int)) (hq : pc + 3 = q) (ky : ¬ x = y → Goes p.tables e below K (T.setTop (mkF m qy Ls (st)))) (kn : x = y → Goes p.tables e below K (T.setTop (mkF m q Ls (st)))) : Goes p.tables e below K (T.setTop (mkF m pc Ls (.int y :: .int x :: st))) := by
  subst hq
  by_cases c0 : x = y
  · exact Goes.go (fun _ r => XS.icmpNo P.1.here P.2.1 rfl (hb P.2.2.1 hd) rfl (XT.ii_ne_f c0) r) (kn c0)
  · exact Goes.go (fun _ r => XS.icmpYes P.1.here P.2.1 rfl (pc0 := pc) rfl (hb P.2.2.1 hd) rfl (XT.ii_ne_t c0) (jmp hy).1 (jmp hy).2 r) (ky c0)
theorem if_ne {x : Int32} {o : Int} {qy : Nat} (P : Wk Z own bytes h p l e R s m args below meth c T locs cells slots) (hd : decode bytes pc = .ok (.ifCond .ne o, 3)) (hy : (pc : Int) + o = (qy : Int)) (hq : pc + 3 = q) (ky : ¬ x = 0 → Goes p.tables e below K (T.setTop (mkF m qy Ls (st)))) (kn : x = 0 → Goes p.tables e below K (T.setTop (mkF m q Ls (st)))) : Goes p.tables e below K (T.setTop (mkF m pc Ls (.int x :: st))) := by
  subst hq
  by_cases c0 : x = 0
  · exact Goes.go (fun _ r => XS.ifNo P.1.here P.2.1 rfl (hb P.2.2.1 hd) rfl (XT.i0_ne_f c0) r) (kn c0)
  · exact Goes.go (fun _ r => XS.ifYes P.1.here P.2.1 rfl (pc0 := pc) rfl (hb P.2.2.1 hd) rfl (XT.i0_ne_t c0) (jmp hy).1 (jmp hy).2 r) (ky c0)
theorem icmp_lt {x y : Int32} {o : Int} {qy : Nat} (P : Wk Z own bytes h p l e R s m args below meth c T locs cells slots) (hd : decode bytes pc = .ok (.if_icmp .lt o, 3)) (hy : (pc : Int) + o = (qy : Int)) (hq : pc + 3 = q) (ky : x < y → Goes p.tables e below K (T.setTop (mkF m qy Ls (st)))) (kn : ¬ x < y → Goes p.tables e below K (T.setTop (mkF m q Ls (st)))) : Goes p.tables e below K (T.setTop (mkF m pc Ls (.int y :: .int x :: st))) := by
  subst hq
  by_cases c0 : x < y
  · exact Goes.go (fun _ r => XS.icmpYes P.1.here P.2.1 rfl (pc0 := pc) rfl (hb P.2.2.1 hd) rfl (XT.ii_lt_t c0) (jmp hy).1 (jmp hy).2 r) (ky c0)
  · exact Goes.go (fun _ r => XS.icmpNo P.1.here P.2.1 rfl (hb P.2.2.1 hd) rfl (XT.ii_lt_f c0) r) (kn c0)
theorem if_lt {x : Int32} {o : Int} {qy : Nat} (P : Wk Z own bytes h p l e R s m args below meth c T locs cells slots) (hd : decode bytes pc = .ok (.ifCond .lt o, 3)) (hy : (pc : Int) + o = (qy : Int)) (hq : pc + 3 = q) (ky : x < 0 → Goes p.tables e below K (T.setTop (mkF m qy Ls (st)))) (kn : ¬ x < 0 → Goes p.tables e below K (T.setTop (mkF m q Ls (st)))) : Goes p.tables e below K (T.setTop (mkF m pc Ls (.int x :: st))) := by
  subst hq
  by_cases c0 : x < 0
  · exact Goes.go (fun _ r => XS.ifYes P.1.here P.2.1 rfl (pc0 := pc) rfl (hb P.2.2.1 hd) rfl (XT.i0_lt_t c0) (jmp hy).1 (jmp hy).2 r) (ky c0)
  · exact Goes.go (fun _ r => XS.ifNo P.1.here P.2.1 rfl (hb P.2.2.1 hd) rfl (XT.i0_lt_f c0) r) (kn c0)
theorem icmp_ge {x y : Int32} {o : Int} {qy : Nat} (P : Wk Z own bytes h p l e R s m args below meth c T locs cells slots) (hd : decode bytes pc = .ok (.if_icmp .ge o, 3)) (hy : (pc : Int) + o = (qy : Int)) (hq : pc + 3 = q) (ky : ¬ x < y → Goes p.tables e below K (T.setTop (mkF m qy Ls (st)))) (kn : x < y → Goes p.tables e below K (T.setTop (mkF m q Ls (st)))) : Goes p.tables e below K (T.setTop (mkF m pc Ls (.int y :: .int x :: st))) := by
  subst hq
  by_cases c0 : x < y
  · exact Goes.go (fun _ r => XS.icmpNo P.1.here P.2.1 rfl (hb P.2.2.1 hd) rfl (XT.ii_ge_f c0) r) (kn c0)
  · exact Goes.go (fun _ r => XS.icmpYes P.1.here P.2.1 rfl (pc0 := pc) rfl (hb P.2.2.1 hd) rfl (XT.ii_ge_t c0) (jmp hy).1 (jmp hy).2 r) (ky c0)
theorem if_ge {x : Int32} {o : Int} {qy : Nat} (P : Wk Z own bytes h p l e R s m args below meth c T locs cells slots) (hd : decode bytes pc = .ok (.ifCond .ge o, 3)) (hy : (pc : Int) + o = (qy : Int)) (hq : pc + 3 = q) (ky : ¬ x < 0 → Goes p.tables e below K (T.setTop (mkF m qy Ls (st)))) (kn : x < 0 → Goes p.tables e below K (T.setTop (mkF m q Ls (st)))) : Goes p.tables e below K (T.setTop (mkF m pc Ls (.int x :: st))) := by
  subst hq
  by_cases c0 : x < 0
  · exact Goes.go (fun _ r => XS.ifNo P.1.here P.2.1 rfl (hb P.2.2.1 hd) rfl (XT.i0_ge_f c0) r) (kn c0)
  · exact Goes.go (fun _ r => XS.ifYes P.1.here P.2.1 rfl (pc0 := pc) rfl (hb P.2.2.1 hd) rfl (XT.i0_ge_t c0) (jmp hy).1 (jmp hy).2 r) (ky c0)
theorem icmp_gt {x y : Int32} {o : Int} {qy : Nat} (P : Wk Z own bytes h p l e R s m args below meth c T locs cells slots) (hd : decode bytes pc = .ok (.if_icmp .gt o, 3)) (hy : (pc : Int) + o = (qy : Int)) (hq : pc + 3 = q) (ky : y < x → Goes p.tables e below K (T.setTop (mkF m qy Ls (st)))) (kn : ¬ y < x → Goes p.tables e below K (T.setTop (mkF m q Ls (st)))) : Goes p.tables e below K (T.setTop (mkF m pc Ls (.int y :: .int x :: st))) := by
  subst hq
  by_cases c0 : y < x
  · exact Goes.go (fun _ r => XS.icmpYes P.1.here P.2.1 rfl (pc0 := pc) rfl (hb P.2.2.1 hd) rfl (XT.ii_gt_t c0) (jmp hy).1 (jmp hy).2 r) (ky c0)
  · exact Goes.go (fun _ r => XS.icmpNo P.1.here P.2.1 rfl (hb P.2.2.1 hd) rfl (XT.ii_gt_f c0) r) (kn c0)
theorem if_gt {x : Int32} {o : Int} {qy : Nat} (P : Wk Z own bytes h p l e R s m args below meth c T locs cells slots) (hd : decode bytes pc = .ok (.ifCond .gt o, 3)) (hy : (pc : Int) + o = (qy : Int)) (hq : pc + 3 = q) (ky : 0 < x → Goes p.tables e below K (T.setTop (mkF m qy Ls (st)))) (kn : ¬ 0 < x → Goes p.tables e below K (T.setTop (mkF m q Ls (st)))) : Goes p.tables e below K (T.setTop (mkF m pc Ls (.int x :: st))) := by
  subst hq
  by_cases c0 : 0 < x
  · exact Goes.go (fun _ r => XS.ifYes P.1.here P.2.1 rfl (pc0 := pc) rfl (hb P.2.2.1 hd) rfl (XT.i0_gt_t c0) (jmp hy).1 (jmp hy).2 r) (ky c0)
  · exact Goes.go (fun _ r => XS.ifNo P.1.here P.2.1 rfl (hb P.2.2.1 hd) rfl (XT.i0_gt_f c0) r) (kn c0)
theorem icmp_le {x y : Int32} {o : Int} {qy : Nat} (P : Wk Z own bytes h p l e R s m args below meth c T locs cells slots) (hd : decode bytes pc = .ok (.if_icmp .le o, 3)) (hy : (pc : Int) + o = (qy : Int)) (hq : pc + 3 = q) (ky : ¬ y < x → Goes p.tables e below K (T.setTop (mkF m qy Ls (st)))) (kn : y < x → Goes p.tables e below K (T.setTop (mkF m q Ls (st)))) : Goes p.tables e below K (T.setTop (mkF m pc Ls (.int y :: .int x :: st))) := by
  subst hq
  by_cases c0 : y < x
  · exact Goes.go (fun _ r => XS.icmpNo P.1.here P.2.1 rfl (hb P.2.2.1 hd) rfl (XT.ii_le_f c0) r) (kn c0)
  · exact Goes.go (fun _ r => XS.icmpYes P.1.here P.2.1 rfl (pc0 := pc) rfl (hb P.2.2.1 hd) rfl (XT.ii_le_t c0) (jmp hy).1 (jmp hy).2 r) (ky c0)
theorem if_le {x : Int32} {o : Int} {qy : Nat} (P : Wk Z own bytes h p l e R s m args below meth c T locs cells slots) (hd : decode bytes pc = .ok (.ifCond .le o, 3)) (hy : (pc : Int) + o = (qy : Int)) (hq : pc + 3 = q) (ky : ¬ 0 < x → Goes p.tables e below K (T.setTop (mkF m qy Ls (st)))) (kn : 0 < x → Goes p.tables e below K (T.setTop (mkF m q Ls (st)))) : Goes p.tables e below K (T.setTop (mkF m pc Ls (.int x :: st))) := by
  subst hq
  by_cases c0 : 0 < x
  · exact Goes.go (fun _ r => XS.ifNo P.1.here P.2.1 rfl (hb P.2.2.1 hd) rfl (XT.i0_le_f c0) r) (kn c0)
  · exact Goes.go (fun _ r => XS.ifYes P.1.here P.2.1 rfl (pc0 := pc) rfl (hb P.2.2.1 hd) rfl (XT.i0_le_t c0) (jmp hy).1 (jmp hy).2 r) (ky c0)
theorem acmp_eq {x y : Value} {o : Int} {qy : Nat} (P : Wk Z own bytes h p l e R s m args below meth c T locs cells slots) (hd : decode bytes pc = .ok (.if_acmp .eq o, 3)) (h1 : x.isRef = true) (h2 : y.isRef = true) (hy : (pc : Int) + o = (qy : Int)) (hq : pc + 3 = q) (ky : x = y → Goes p.tables e below K (T.setTop (mkF m qy Ls (st)))) (kn : ¬ x = y → Goes p.tables e below K (T.setTop (mkF m q Ls (st)))) : Goes p.tables e below K (T.setTop (mkF m pc Ls (y :: x :: st))) := by
  subst hq
  by_cases c0 : x = y
  · exact Goes.go (fun _ r => XT.acmpYes P.1.here P.2.1 rfl (pc0 := pc) rfl (hb P.2.2.1 hd) rfl h1 h2 (XT.aa_eq_t c0) (jmp hy).1 (jmp hy).2 r) (ky c0)
  · exact Goes.go (fun _ r => XT.acmpNo P.1.here P.2.1 rfl (hb P.2.2.1 hd) rfl h1 h2 (XT.aa_eq_f c0) r) (kn c0)
theorem acmp_ne {x y : Value} {o : Int} {qy : Nat} (P : Wk Z own bytes h p l e R s m args below meth c T locs cells slots) (hd : decode bytes pc = .ok (.if_acmp .ne o, 3)) (h1 : x.isRef = true) (h2 : y.isRef = true) (hy : (pc : Int) + o = (qy : Int)) (hq : pc + 3 = q) (ky : ¬ x = y → Goes p.tables e below K (T.setTop (mkF m qy Ls (st)))) (kn : x = y → Goes p.tables e below K (T.setTop (mkF m q Ls (st)))) : Goes p.tables e below K (T.setTop (mkF m pc Ls (y :: x :: st))) := by
  subst hq
  by_cases c0 : x = y
  · exact Goes.go (fun _ r => XT.acmpNo P.1.here P.2.1 rfl (hb P.2.2.1 hd) rfl h1 h2 (XT.aa_ne_f c0) r) (kn c0)
  · exact Goes.go (fun _ r => XT.acmpYes P.1.here P.2.1 rfl (pc0 := pc) rfl (hb P.2.2.1 hd) rfl h1 h2 (XT.aa_ne_t c0) (jmp hy).1 (jmp hy).2 r) (ky c0)
theorem nullY {o : Int} (P : Wk Z own bytes h p l e R s m args below meth c T locs cells slots) (hd : decode bytes pc = .ok (.ifnull o, 3)) (hy : (pc : Int) + o = (q : Int)) (k : Goes p.tables e below K (T.setTop (mkF m q Ls (st)))) : Goes p.tables e below K (T.setTop (mkF m pc Ls (.null :: st))) := Goes.go (fun _ r => XS.ifnullYes P.1.here P.2.1 rfl (pc0 := pc) rfl (hb P.2.2.1 hd) rfl (jmp hy).1 (jmp hy).2 r) k
theorem nullN {o : Int} {b : Addr} (P : Wk Z own bytes h p l e R s m args below meth c T locs cells slots) (hd : decode bytes pc = .ok (.ifnull o, 3)) (hq : pc + 3 = q) (k : Goes p.tables e below K (T.setTop (mkF m q Ls (st)))) : Goes p.tables e below K (T.setTop (mkF m pc Ls (.ref b :: st))) := by
  subst hq
  exact Goes.go (fun _ r => XS.ifnullNo P.1.here P.2.1 rfl (hb P.2.2.1 hd) rfl r) k
theorem nonnullY {o : Int} {b : Addr} (P : Wk Z own bytes h p l e R s m args below meth c T locs cells slots) (hd : decode bytes pc = .ok (.ifnonnull o, 3)) (hy : (pc : Int) + o = (q : Int)) (k : Goes p.tables e below K (T.setTop (mkF m q Ls (st)))) : Goes p.tables e below K (T.setTop (mkF m pc Ls (.ref b :: st))) := Goes.go (fun _ r => XT.ifnonnullYes P.1.here P.2.1 rfl (pc0 := pc) rfl (hb P.2.2.1 hd) rfl (jmp hy).1 (jmp hy).2 r) k
theorem nonnullN {o : Int} (P : Wk Z own bytes h p l e R s m args below meth c T locs cells slots) (hd : decode bytes pc = .ok (.ifnonnull o, 3)) (hq : pc + 3 = q) (k : Goes p.tables e below K (T.setTop (mkF m q Ls (st)))) : Goes p.tables e below K (T.setTop (mkF m pc Ls (.null :: st))) := by
  subst hq
  exact Goes.go (fun _ r => XT.ifnonnullNo P.1.here P.2.1 rfl (hb P.2.2.1 hd) rfl r) k
theorem getfield {O n d : String} {i : Nat} {a : Addr} {v : Value} (P : Wk Z own bytes h p l e R s m args below meth c T locs cells slots) (hd : decode bytes pc = .ok (.getfield i, 3)) (w : (Cond.fieldLink own i O n d).before a0 Z = true) (F : Fld Z h a O n d v) (hq : pc + 3 = q) (k : ∀ T₂, Wk Z own bytes h p l e R s m args below meth c T₂ locs cells slots → Goes p.tables e below K (T₂.setTop (mkF m q Ls (v :: st)))) : Goes p.tables e below K (T.setTop (mkF m pc Ls (.ref a :: st))) := by
  subst hq
  obtain ⟨T₂, X2, e2, st2⟩ := getF P.1 P.2.1 P.2.2.2.1 P.2.2.2.2.1 (host := "") (Or.inl w) Via.refl P.2.2.2.2.2 F (g := mkF m pc Ls (.ref a :: st)) rfl rfl (hb P.2.2.1 hd)
  exact Goes.go st2 (k T₂ ⟨X2, P.2.1, P.2.2.1, P.2.2.2.1, P.2.2.2.2.1, e2⟩)
theorem getstatic {O n d : String} {i : Nat} {v : Value} (P : Wk Z own bytes h p l e R s m args below meth c T locs cells slots) (hd : decode bytes pc = .ok (.getstatic i, 3)) (w : (Cond.fieldLink own i O n d).before a0 Z = true) (F : Sta Z h O n d v) (hq : pc + 3 = q) (k : ∀ T₂, Wk Z own bytes h p l e R s m args below meth c T₂ locs cells slots → Goes p.tables e below K (T₂.setTop (mkF m q Ls (v :: st)))) : Goes p.tables e below K (T.setTop (mkF m pc Ls (st))) := by
  subst hq
  obtain ⟨T₂, X2, e2, st2⟩ := getS P.1 P.2.1 P.2.2.2.1 (host := "") P.2.2.2.2.1 w Via.refl P.2.2.2.2.2 F (g := mkF m pc Ls st) rfl (hb P.2.2.1 hd)
  exact Goes.go st2 (k T₂ ⟨X2, P.2.1, P.2.2.1, P.2.2.2.1, P.2.2.2.2.1, e2⟩)
theorem castTo {C : String} {i : Nat} {a : Addr} (P : Wk Z own bytes h p l e R s m args below meth c T locs cells slots) (hd : decode bytes pc = .ok (.checkcast i, 3)) (w : (Cond.classLink own i C).before a0 Z = true) (F : Ins Z h a C true) (hq : pc + 3 = q) (k : ∀ T₂, Wk Z own bytes h p l e R s m args below meth c T₂ locs cells slots → Goes p.tables e below K (T₂.setTop (mkF m q Ls (.ref a :: st)))) : Goes p.tables e below K (T.setTop (mkF m pc Ls (.ref a :: st))) := by
  subst hq
  obtain ⟨T₂, X2, e2, st2⟩ := castY P.1 P.2.1 P.2.2.2.1 P.2.2.2.2.1 w P.2.2.2.2.2 F (g := mkF m pc Ls (.ref a :: st)) rfl rfl (hb P.2.2.1 hd)
  exact Goes.go st2 (k T₂ ⟨X2, P.2.1, P.2.2.1, P.2.2.2.1, P.2.2.2.2.1, e2⟩)
theorem instOf {C : String} {i : Nat} {a : Addr} (P : Wk Z own bytes h p l e R s m args below meth c T locs cells slots) (hd : decode bytes pc = .ok (.instanceof i, 3)) (w : (Cond.classLink own i C).before a0 Z = true) (F : Ins Z h a C true) (hq : pc + 3 = q) (k : ∀ T₂, Wk Z own bytes h p l e R s m args below meth c T₂ locs cells slots → Goes p.tables e below K (T₂.setTop (mkF m q Ls (.int 1 :: st)))) : Goes p.tables e below K (T.setTop (mkF m pc Ls (.ref a :: st))) := by
  subst hq
  obtain ⟨T₂, X2, e2, st2⟩ := instY P.1 P.2.1 P.2.2.2.1 P.2.2.2.2.1 w P.2.2.2.2.2 F (g := mkF m pc Ls (.ref a :: st)) rfl rfl (hb P.2.2.1 hd)
  exact Goes.go st2 (k T₂ ⟨X2, P.2.1, P.2.2.1, P.2.2.2.1, P.2.2.2.2.1, e2⟩)
theorem caload {a : Addr} {kc : ClassId} {n j : Int32} {vs : List Value} {d v : Value} (P : Wk Z own bytes h p l e R s m args below meth c T locs cells slots) (hd : decode bytes pc = .ok (.caload, 1)) (A : Arv Z h a kc .char n vs d) (h0 : ¬ j < 0) (h1 : j < n) (hv : vs.getD j.toNatClampNeg d = v) (hq : pc + 1 = q) (k : Goes p.tables e below K (T.setTop (mkF m q Ls (v :: st)))) : Goes p.tables e below K (T.setTop (mkF m pc Ls (.int j :: .ref a :: st))) := by
  subst hq
  obtain ⟨cl, Ar, -, S, -, H, -⟩ := A
  have hin := inb_of S ⟨h0, h1⟩
  exact Goes.go (P.1.caload P.2.1 (by rw [P.2.2.2.2.2]; exact Ar.1) (State.isArrayOf_alike P.2.2.2.1.alike Ar.2.1) Ar.2.2 hin (H.at hin hv) (g := mkF m pc Ls (.int j :: .ref a :: st)) rfl rfl (hb P.2.2.1 hd)) k
theorem baload {a : Addr} {kc : ClassId} {n j : Int32} {vs : List Value} {d v : Value} (P : Wk Z own bytes h p l e R s m args below meth c T locs cells slots) (hd : decode bytes pc = .ok (.baload, 1)) (A : Arv Z h a kc .byte n vs d) (h0 : ¬ j < 0) (h1 : j < n) (hv : vs.getD j.toNatClampNeg d = v) (hq : pc + 1 = q) (k : Goes p.tables e below K (T.setTop (mkF m q Ls (v :: st)))) : Goes p.tables e below K (T.setTop (mkF m pc Ls (.int j :: .ref a :: st))) := by
  subst hq
  obtain ⟨cl, Ar, -, S, -, H, -⟩ := A
  have hin := inb_of S ⟨h0, h1⟩
  exact Goes.go (P.1.baloadBytes P.2.1 (by rw [P.2.2.2.2.2]; exact Ar.1) (State.isArrayOf_alike P.2.2.2.1.alike Ar.2.1) Ar.2.2 hin (H.at hin hv) (g := mkF m pc Ls (.int j :: .ref a :: st)) rfl rfl (hb P.2.2.1 hd)) k
theorem aaload {a : Addr} {kc : ClassId} {C : String} {n j : Int32} {vs : List Value} {d v : Value} (P : Wk Z own bytes h p l e R s m args below meth c T locs cells slots) (hd : decode bytes pc = .ok (.aaload, 1)) (A : Arv Z h a kc (.object C) n vs d) (h0 : ¬ j < 0) (h1 : j < n) (hv : vs.getD j.toNatClampNeg d = v) (hq : pc + 1 = q) (k : Goes p.tables e below K (T.setTop (mkF m q Ls (v :: st)))) : Goes p.tables e below K (T.setTop (mkF m pc Ls (.int j :: .ref a :: st))) := by
  subst hq
  obtain ⟨cl, Ar, -, S, -, H, -⟩ := A
  have hin := inb_of S ⟨h0, h1⟩
  exact Goes.go (P.1.aaload P.2.1 (by rw [P.2.2.2.2.2]; exact Ar.1) (State.isArrayOf_alike P.2.2.2.1.alike Ar.2.1) rfl Ar.2.2 hin (H.at hin hv) (g := mkF m pc Ls (.int j :: .ref a :: st)) rfl rfl (hb P.2.2.1 hd)) k
theorem arraylength {a : Addr} {kc : ClassId} {ty : FieldType} {n : Int32} {vs : List Value} {d : Value} (P : Wk Z own bytes h p l e R s m args below meth c T locs cells slots) (hd : decode bytes pc = .ok (.arraylength, 1)) (A : Arv Z h a kc ty n vs d) (hq : pc + 1 = q) (k : Goes p.tables e below K (T.setTop (mkF m q Ls (.int n :: st)))) : Goes p.tables e below K (T.setTop (mkF m pc Ls (.ref a :: st))) := by
  subst hq
  obtain ⟨cl, Ar, -, S, N, H, -⟩ := A
  refine Goes.go (P.1.arraylength P.2.1 (by rw [P.2.2.2.2.2]; exact Ar.1) (State.isArrayOf_alike P.2.2.2.1.alike Ar.2.1) (g := mkF m pc Ls (.ref a :: st)) rfl rfl (hb P.2.2.1 hd)) ?_
  rw [len_of S N]
  exact k
theorem instNull {i : Nat} (P : Wk Z own bytes h p l e R s m args below meth c T locs cells slots) (hd : decode bytes pc = .ok (.instanceof i, 3)) (hq : pc + 3 = q) (k : Goes p.tables e below K (T.setTop (mkF m q Ls (.int 0 :: st)))) : Goes p.tables e below K (T.setTop (mkF m pc Ls (.null :: st))) := by
  subst hq
  exact Goes.go (fun t r => P.1.instanceofNull P.2.1 (g := mkF m pc Ls (.null :: st)) rfl (rest := st) rfl (hb P.2.2.1 hd) t r) k
theorem instNope {C C2 : String} {i : Nat} {a : Addr} (P : Wk Z own bytes h p l e R s m args below meth c T locs cells slots) (hd : decode bytes pc = .ok (.instanceof i, 3)) (w : (Cond.classLink own i C).before a0 Z = true) (E : Exa Z h a C2) (F : ∃ c t, Z.vm.findClass C2 = some c ∧ Z.vm.findClass C = some t ∧ Z.vm.assignable c t = false) (hq : pc + 3 = q) (k : ∀ T₂, Wk Z own bytes h p l e R s m args below meth c T₂ locs cells slots → Goes p.tables e below K (T₂.setTop (mkF m q Ls (.int 0 :: st)))) : Goes p.tables e below K (T.setTop (mkF m pc Ls (.ref a :: st))) := by
  subst hq
  obtain ⟨T₂, X2, e2, st2⟩ := instNo P.1 P.2.1 P.2.2.2.1 P.2.2.2.2.1 w P.2.2.2.2.2 E F (g := mkF m pc Ls (.ref a :: st)) rfl rfl (hb P.2.2.1 hd)
  exact Goes.go st2 (k T₂ ⟨X2, P.2.1, P.2.2.1, P.2.2.2.1, P.2.2.2.2.1, e2⟩)
theorem newobj {C : String} {i n : Nat} (P : Wk Z own bytes h p l e R s m args below meth c T locs cells slots) (hd : decode bytes pc = .ok (.new i, 3)) (w : (Cond.classLink own i C).before a0 Z = true) (wi : (Cond.instantiable C n).before a0 Z = true) (wz : (Cond.initialized C).before a0 Z = true) (hc : cells + 1 ≤ R.cells) (hl : slots + n ≤ R.slots) (hq : pc + 3 = q)
    (k : ∀ T₂ h₂ a, a = h.size → Wk Z own bytes h₂ p l e R s m args below meth c T₂ locs (cells + 1) (slots + n) → Ext h h₂ → Exa Z h₂ a C → (∀ {O nm d : String} {ty : FieldType}, Laid Z a0 C O nm d → parseFieldDescriptor d = some ty → Fld Z h₂ a O nm d (defaultValue ty)) → Goes p.tables e below K (T₂.setTop (mkF m q Ls (.ref a :: st)))) : Goes p.tables e below K (T.setTop (mkF m pc Ls (st))) := by
  subst hq
  obtain ⟨T₂, h₂, X2, e2, E2, A2, D2, -, st2⟩ := newO P.1 P.2.1 P.2.2.2.1 P.2.2.2.2.1 w wi wz P.2.2.2.2.2 (g := mkF m pc Ls st) rfl (hb P.2.2.1 hd) hc hl
  exact Goes.go st2 (k T₂ h₂ h.size rfl ⟨X2, P.2.1, P.2.2.1, P.2.2.2.1, P.2.2.2.2.1, e2⟩ E2 A2 D2)
theorem newarr {aty : ArrayType} {n : Int32} {cap : Nat} (P : Wk Z own bytes h p l e R s m args below meth c T locs cells slots) (hd : decode bytes pc = .ok (.newarray aty, 2)) (w : (Cond.arrayClass (newarray.typeOf aty)).before a0 Z = true) (hn : ¬ n < 0) (hcap : n.toNatClampNeg ≤ cap) (hcb : cap * 8 ≤ 536870912) (hc : cells + 1 ≤ R.cells) (hl : slots + cap ≤ R.slots) (hq : pc + 2 = q)
    (k : ∀ T₂ h₂ a kc, a = h.size → Wk Z own bytes h₂ p l e R s m args below meth c T₂ locs (cells + 1) (slots + cap) → Ext h h₂ → Arv Z h₂ a kc (newarray.typeOf aty) n [] (defaultValue (newarray.typeOf aty)) → Goes p.tables e below K (T₂.setTop (mkF m q Ls (.ref a :: st)))) : Goes p.tables e below K (T.setTop (mkF m pc Ls (.int n :: st))) := by
  subst hq
  obtain ⟨T₂, h₂, kc, X2, e2, E2, A2, st2⟩ := newP P.1 P.2.1 P.2.2.2.1 w P.2.2.2.2.2 (g := mkF m pc Ls (.int n :: st)) rfl (hb P.2.2.1 hd) rfl hn hcap hcb hc hl
  exact Goes.go st2 (k T₂ h₂ h.size kc rfl ⟨X2, P.2.1, P.2.2.1, P.2.2.2.1, P.2.2.2.2.1, e2⟩ E2 (Arv.new A2 hn))
theorem castore {a : Addr} {kc : ClassId} {n j x x2 : Int32} {i : Nat} {vs : List Value} {d : Value} (P : Wk Z own bytes h p l e R s m args below meth c T locs cells slots) (hd : decode bytes pc = .ok (.castore, 1)) (A : Arv Z h a kc .char n vs d) (h0 : ¬ j < 0) (h1 : j < n) (hx2 : nar .char x = x2) (hf : fits .char (.int x2) = true) (hi : j.toNatClampNeg = i) (hi2 : i < vs.length) (hq : pc + 1 = q)
    (k : ∀ T₂ h₂ lc, lc.base = a → Wk Z own bytes h₂ p l e R s m args below meth c T₂ (locs ++ [lc]) cells slots → Wr h h₂ a i (.int x2) → Arv Z h₂ a kc .char n (vs.set i (.int x2)) d → Goes p.tables e below K (T₂.setTop (mkF m q Ls (st)))) : Goes p.tables e below K (T.setTop (mkF m pc Ls (.int x :: .int j :: .ref a :: st))) := by
  subst hq hx2 hi
  obtain ⟨cl, Ar, q1, S, q3, H, G⟩ := A
  have hin := inb_of S ⟨h0, h1⟩
  obtain ⟨T₂, h₂, X2, e2, W2, st2⟩ := stC P.1 P.2.1 P.2.2.2.1 P.2.2.2.2.2 Ar hin (g := mkF m pc Ls (.int x :: .int j :: .ref a :: st)) rfl rfl (hb P.2.2.1 hd)
  exact Goes.go st2 (k T₂ h₂ ⟨a, j.toNatClampNeg⟩ rfl ⟨X2, P.2.1, P.2.2.1, P.2.2.2.1, P.2.2.2.2.1, e2⟩ W2 (Arv.set Ar q1 S q3 H G hf W2 _ rfl hi2))
theorem bastore {a : Addr} {kc : ClassId} {n j x x2 : Int32} {i : Nat} {vs : List Value} {d : Value} (P : Wk Z own bytes h p l e R s m args below meth c T locs cells slots) (hd : decode bytes pc = .ok (.bastore, 1)) (A : Arv Z h a kc .byte n vs d) (h0 : ¬ j < 0) (h1 : j < n) (hx2 : nar .byte x = x2) (hf : fits .byte (.int x2) = true) (hi : j.toNatClampNeg = i) (hi2 : i < vs.length) (hq : pc + 1 = q)
    (k : ∀ T₂ h₂ lc, lc.base = a → Wk Z own bytes h₂ p l e R s m args below meth c T₂ (locs ++ [lc]) cells slots → Wr h h₂ a i (.int x2) → Arv Z h₂ a kc .byte n (vs.set i (.int x2)) d → Goes p.tables e below K (T₂.setTop (mkF m q Ls (st)))) : Goes p.tables e below K (T.setTop (mkF m pc Ls (.int x :: .int j :: .ref a :: st))) := by
  subst hq hx2 hi
  obtain ⟨cl, Ar, q1, S, q3, H, G⟩ := A
  have hin := inb_of S ⟨h0, h1⟩
  obtain ⟨T₂, h₂, X2, e2, W2, st2⟩ := stB P.1 P.2.1 P.2.2.2.1 P.2.2.2.2.2 Ar hin (g := mkF m pc Ls (.int x :: .int j :: .ref a :: st)) rfl rfl (hb P.2.2.1 hd)
  exact Goes.go st2 (k T₂ h₂ ⟨a, j.toNatClampNeg⟩ rfl ⟨X2, P.2.1, P.2.2.1, P.2.2.2.1, P.2.2.2.2.1, e2⟩ W2 (Arv.set Ar q1 S q3 H G hf W2 _ rfl hi2))
theorem putfield {O n d C : String} {i kk : Nat} {ty : FieldType} {a : Addr} {v old : Value} (P : Wk Z own bytes h p l e R s m args below meth c T locs cells slots) (hd : decode bytes pc = .ok (.putfield i, 3)) (w : (Cond.fieldLink own i O n d).before a0 Z = true) (F : Fld Z h a O n d old) (E : Exa Z h a C) (L : (Cond.lays C O n d).before a0 Z = true ∨ ((Cond.laysFinal C O n d).before a0 Z = true ∧ own = O ∧ meth.name = "<init>")) (wi : (Cond.instantiable C kk).before a0 Z = true) (hty : parseFieldDescriptor d = some ty) (hn : narrow ty v = v) (hf : fits ty v = true) (hq : pc + 3 = q)
    (k : ∀ T₂ h₂ lc, lc.base = a → Wk Z own bytes h₂ p l e R s m args below meth c T₂ (locs ++ [lc]) cells slots → Wr h h₂ a (Jvm.RoadKit.slotOf Z O n d) v → Goes p.tables e below K (T₂.setTop (mkF m q Ls (st)))) : Goes p.tables e below K (T.setTop (mkF m pc Ls (v :: .ref a :: st))) := by
  subst hq
  obtain ⟨T₂, h₂, X2, e2, W2, st2⟩ := putF P.1 P.2.1 P.2.2.2.1 P.2.2.2.2.1 (host := "") (Or.inl w) Via.refl P.2.2.2.2.2 F E L wi hty hn hf (g := mkF m pc Ls (v :: .ref a :: st)) rfl rfl (hb P.2.2.1 hd)
  exact Goes.go st2 (k T₂ h₂ ⟨a, Jvm.RoadKit.slotOf Z O n d⟩ rfl ⟨X2, P.2.1, P.2.2.1, P.2.2.2.1, P.2.2.2.2.1, e2⟩ W2)
theorem objinit {i W : Nat} {a : Addr} (P : Wk Z own bytes h p l e R s m args below meth c T locs cells slots) (hd : decode bytes pc = .ok (.invokespecial i, 3)) (w1 : (Cond.methodLink own i Lib.objectInit).before a0 Z = true) (w2 : (Cond.instanceMethod Lib.objectInit).before a0 Z = true) (w3 : (Cond.code Lib.objectInit ⟨#[0xb1]⟩ 1 none).before a0 Z = true) (hz : Ls.size = c.maxLocals) (hf : 1 ≤ R.frames) (hW : 2 * (mkF m pc Ls (.ref a :: st)).monitorRoom + (st.map fun v => v.category).sum ≤ W) (hl : W + 12 ≤ R.locals) (hq : pc + 3 = q) (k : ∀ T₂, Wk Z own bytes h p l e R s m args below meth c T₂ locs cells slots → Goes p.tables e below K (T₂.setTop (mkF m q Ls (st)))) : Goes p.tables e below K (T.setTop (mkF m pc Ls (.ref a :: st))) := by
  subst hq
  obtain ⟨T₂, X2, e2, st2⟩ := initO P.1 P.2.1 P.2.2.2.1 P.2.2.2.2.1 w1 w2 w3 P.2.2.2.2.2 (g := mkF m pc Ls (.ref a :: st)) rfl hz rfl (hb P.2.2.1 hd) hf hW hl
  exact Goes.go st2 (k T₂ ⟨X2, P.2.1, P.2.2.1, P.2.2.2.1, P.2.2.2.2.1, e2⟩)
theorem cloneArr {ad : String} {ty : FieldType} {i W cap : Nat} {a : Addr} {kc : ClassId} {z : Int32} {vs : List Value} {d : Value} (P : Wk Z own bytes h p l e R s m args below meth c T locs cells slots) (hd : decode bytes pc = .ok (.invokevirtual i, 3)) (w1 : (Cond.methodLink own i ⟨ad, "clone", "()Ljava/lang/Object;"⟩).before a0 Z = true) (w2 : (Cond.sameMethod ad "java/lang/Object" "clone" "()Ljava/lang/Object;").before a0 Z = true) (w3 : (Cond.native ⟨"java/lang/Object", "clone", "()Ljava/lang/Object;"⟩).before a0 Z = true) (w4 : (Cond.instanceMethod ⟨"java/lang/Object", "clone", "()Ljava/lang/Object;"⟩).before a0 Z = true) (w5 : (Cond.selects ad ⟨ad, "clone", "()Ljava/lang/Object;"⟩ ⟨"java/lang/Object", "clone", "()Ljava/lang/Object;"⟩).before a0 Z = true) (w6 : (Cond.castable ad "java/lang/Cloneable").before a0 Z = true) (A : Arv Z h a kc ty z vs d) (E : Exa Z h a ad) (hz : Ls.size = c.maxLocals) (hf : 1 ≤ R.frames) (hW : 2 * (mkF m pc Ls (.ref a :: st)).monitorRoom + (st.map fun v => v.category).sum ≤ W) (hl : W + 14 ≤ R.locals) (hcap : z.toNatClampNeg ≤ cap) (hc : cells + 1 ≤ R.cells) (hs : slots + cap ≤ R.slots) (hq : pc + 3 = q)
    (k : ∀ T₂ h₂ r, r = h.size → Wk Z own bytes h₂ p l e R s m args below meth c T₂ locs (cells + 1) (slots + cap) → Ext h h₂ → Arv Z h₂ r kc ty z vs d → Exa Z h₂ r ad → Goes p.tables e below K (T₂.setTop (mkF m q Ls (.ref r :: st)))) : Goes p.tables e below K (T.setTop (mkF m pc Ls (.ref a :: st))) := by
  subst hq
  obtain ⟨T₂, h₂, X2, e2, E2, A2, B2, st2⟩ := cloneH P.1 P.2.1 P.2.2.2.1 P.2.2.2.2.1 w1 w2 w3 w4 w5 w6 P.2.2.2.2.2 (hs := []) A E (g := mkF m pc Ls (.ref a :: st)) rfl hz rfl (hb P.2.2.1 hd) hf hW hl hcap hc hs
  exact Goes.go st2 (k T₂ h₂ h.size rfl ⟨X2, P.2.1, P.2.2.1, P.2.2.2.1, P.2.2.2.2.1, e2⟩ E2 A2 B2)
theorem invStatic {y : MethodName} {cb : ByteArray} {mL : Nat} {ret : Option FieldType} {i W kc ks : Nat} {as' : Array Value} {Q : Option Value → Heap → List Loc → Prop} {argsL rest : List Value} (P : Wk Z own bytes h p l e R s m args below meth c T locs cells slots) (hd : decode bytes pc = .ok (.invokestatic i, 3)) (w1 : (Cond.methodLink own i y).before a0 Z = true) (w2 : (Cond.static y).before a0 Z = true) (w3 : (Cond.initialized y.cls).before a0 Z = true) (w4 : (Cond.code y cb mL ret).before a0 Z = true) (hy : y.cls ≠ "java/lang/invoke/MethodHandle" ∧ y.cls ≠ "java/lang/invoke/VarHandle") (B : Back l R p e below s args y 3 W (fun A a => a = as' ∧ A.U.heap = h ∧ A.cells + kc ≤ R.cells ∧ A.slots + ks ≤ R.slots) (fun A _ v B => ∃ L, Q v B.U.heap L ∧ B.locs = A.locs ++ L ∧ B.cells = A.cells + kc ∧ B.slots = A.slots + ks)) (ha : argsL.toArray = as') (hst : st = argsL.reverse ++ rest) (hz : Ls.size = c.maxLocals) (hlen : ∀ sig, parseMethodDescriptor y.desc = some sig → argsL.length = sig.parameters.length) (hW : 2 * (mkF m pc Ls st).monitorRoom + (rest.map fun v => v.category).sum ≤ W) (hcc : cells + kc ≤ R.cells) (hss : slots + ks ≤ R.slots) (hq : pc + 3 = q) (k : ∀ v T₂ h₂ L, Q v h₂ L → Wk Z own bytes h₂ p l e R s m args below meth c T₂ (locs ++ L) (cells + kc) (slots + ks) → Goes p.tables e below K (T₂.setTop (mkF m q Ls (v.toList ++ rest)))) : Goes p.tables e below K (T.setTop (mkF m pc Ls (st))) := by
  subst hq
  obtain ⟨v, _, ⟨T₂, L₂, c₂, n₂⟩, -, X2, ⟨L, hQ, hl, hc2, hs2⟩, st2⟩ := Jvm.LawKit.callS P.1 P.2.1 (y := y) P.2.2.2.2.1 (mvT P.2.2.2.1 w1) (mvT P.2.2.2.1 w2) (mvT P.2.2.2.1 w3) (mvT P.2.2.2.1 w4) hy B (g := mkF m pc Ls st) rfl hz (argsL := argsL) (rest := rest) hlen hst hW (hb P.2.2.1 hd) (fun _ _ => ⟨ha, P.2.2.2.2.2, hcc, hss⟩)
  dsimp only [Pt.U, Pt.locs, Pt.cells, Pt.slots] at X2 hl hc2 hs2 st2 hQ
  subst hl hc2 hs2
  exact Goes.go st2 (k v T₂ _ L hQ ⟨X2, P.2.1, P.2.2.1, P.2.2.2.1, P.2.2.2.2.1, rfl⟩)
theorem invSpecial {y : MethodName} {cb : ByteArray} {mL : Nat} {i W kc ks : Nat} {as' : Array Value} {Q : Option Value → Heap → List Loc → Prop} {a : Addr} {argsL rest : List Value} (P : Wk Z own bytes h p l e R s m args below meth c T locs cells slots) (hd : decode bytes pc = .ok (.invokespecial i, 3)) (hin : y.name = "<init>") (w1 : (Cond.methodLink own i y).before a0 Z = true) (w2 : (Cond.instanceMethod y).before a0 Z = true) (w4 : (Cond.code y cb mL none).before a0 Z = true) (hy : y.cls ≠ "java/lang/invoke/MethodHandle" ∧ y.cls ≠ "java/lang/invoke/VarHandle") (B : Back l R p e below s args y 3 W (fun A a => a = as' ∧ A.U.heap = h ∧ A.cells + kc ≤ R.cells ∧ A.slots + ks ≤ R.slots) (fun A _ v B => ∃ L, Q v B.U.heap L ∧ B.locs = A.locs ++ L ∧ B.cells = A.cells + kc ∧ B.slots = A.slots + ks)) (ha : (.ref a :: argsL).toArray = as') (hst : st = argsL.reverse ++ .ref a :: rest) (hz : Ls.size = c.maxLocals) (hlen : ∀ sig, parseMethodDescriptor y.desc = some sig → argsL.length = sig.parameters.length) (hW : 2 * (mkF m pc Ls st).monitorRoom + (rest.map fun v => v.category).sum ≤ W) (hcc : cells + kc ≤ R.cells) (hss : slots + ks ≤ R.slots) (hq : pc + 3 = q) (k : ∀ v T₂ h₂ L, Q v h₂ L → Wk Z own bytes h₂ p l e R s m args below meth c T₂ (locs ++ L) (cells + kc) (slots + ks) → Goes p.tables e below K (T₂.setTop (mkF m q Ls (v.toList ++ rest)))) : Goes p.tables e below K (T.setTop (mkF m pc Ls (st))) := by
  subst hq
  obtain ⟨v, _, ⟨T₂, L₂, c₂, n₂⟩, -, X2, ⟨L, hQ, hl, hc2, hs2⟩, st2⟩ := P.1.specialBack P.2.1 (y := y) hin P.2.2.2.2.1 (mvT P.2.2.2.1 w1) (mvT P.2.2.2.1 w2) (mvT P.2.2.2.1 w4) hy B (g := mkF m pc Ls st) rfl hz (Steps.refl _) (a := a) (argsL := argsL) (rest := rest) hlen hst hW (hb P.2.2.1 hd) (fun _ _ => ⟨ha, P.2.2.2.2.2, hcc, hss⟩)
  dsimp only [Pt.U, Pt.locs, Pt.cells, Pt.slots] at X2 hl hc2 hs2 st2 hQ
  subst hl hc2 hs2
  exact Goes.tr st2 (k v T₂ _ L hQ ⟨X2, P.2.1, P.2.2.1, P.2.2.2.1, P.2.2.2.2.1, rfl⟩)
theorem invVirtual {y z : MethodName} {C : String} {i W kc ks : Nat} {as' : Array Value} {Q : Option Value → Heap → List Loc → Prop} {a : Addr} {argsL rest : List Value} (P : Wk Z own bytes h p l e R s m args below meth c T locs cells slots) (hd : decode bytes pc = .ok (.invokevirtual i, 3)) (w1 : (Cond.methodLink own i y).before a0 Z = true) (w2 : (Cond.declares y).before a0 Z = true) (w3 : (Cond.selects C y z).before a0 Z = true) (w4 : (Cond.instanceMethod z).before a0 Z = true) (nf : NotFace s y) (hy : y.cls ≠ "java/lang/invoke/MethodHandle" ∧ y.cls ≠ "java/lang/invoke/VarHandle") (B : Back l R p e below s args z 3 W (fun A a => a = as' ∧ A.U.heap = h ∧ A.cells + kc ≤ R.cells ∧ A.slots + ks ≤ R.slots) (fun A _ v B => ∃ L, Q v B.U.heap L ∧ B.locs = A.locs ++ L ∧ B.cells = A.cells + kc ∧ B.slots = A.slots + ks)) (E : Exa Z h a C) (ha : (.ref a :: argsL).toArray = as') (hst : st = argsL.reverse ++ .ref a :: rest) (hz : Ls.size = c.maxLocals) (hlen : ∀ sig, parseMethodDescriptor y.desc = some sig → argsL.length = sig.parameters.length) (hW : 2 * (mkF m pc Ls st).monitorRoom + (rest.map fun v => v.category).sum ≤ W) (hcc : cells + kc ≤ R.cells) (hss : slots + ks ≤ R.slots) (hq : pc + 3 = q) (k : ∀ v T₂ h₂ L, Q v h₂ L → Wk Z own bytes h₂ p l e R s m args below meth c T₂ (locs ++ L) (cells + kc) (slots + ks) → Goes p.tables e below K (T₂.setTop (mkF m q Ls (v.toList ++ rest)))) : Goes p.tables e below K (T.setTop (mkF m pc Ls (st))) := by
  subst hq
  obtain ⟨cB, kB, r1, -, r3⟩ := isOf P.2.2.2.1 P.2.2.2.2.2 E
  obtain ⟨v, _, ⟨T₂, L₂, c₂, n₂⟩, -, X2, ⟨L, hQ, hl, hc2, hs2⟩, st2⟩ := P.1.virtualBack P.2.1 (y := y) (z := z) P.2.2.2.2.1 (mvT P.2.2.2.1 w1) (mvT P.2.2.2.1 w2) nf (mvT P.2.2.2.1 w3) (mvT P.2.2.2.1 w4) hy B r1 r3 (g := mkF m pc Ls st) rfl hz (Steps.refl _) (argsL := argsL) (rest := rest) hlen hst hW (hb P.2.2.1 hd) (fun _ _ => ⟨ha, P.2.2.2.2.2, hcc, hss⟩)
  dsimp only [Pt.U, Pt.locs, Pt.cells, Pt.slots] at X2 hl hc2 hs2 st2 hQ
  subst hl hc2 hs2
  exact Goes.tr st2 (k v T₂ _ L hQ ⟨X2, P.2.1, P.2.2.1, P.2.2.2.1, P.2.2.2.2.1, rfl⟩)
theorem retV {kc ks : Nat} {Q : Option Value → Heap → List Loc → Prop}  (P : Wk Z own bytes h p l e R s m args below meth c T locs cells slots) (hd : decode bytes pc = .ok (.return_, 1)) (hret : meth.sig.returnType = none) (hlk : meth.locks = false) (hc : cells ≤ kc) (hs : slots ≤ ks) (hQ : Q none h locs) : Goes p.tables e below (fun s₂ o => ∃ v L, o = .returned v ∧ Q v s₂.heap L ∧ FrameEnd s o s₂ L kc ks) (T.setTop (mkF m pc Ls ([]))) := by
  obtain ⟨fs, hr, hrun, hended, hW, hsame⟩ := P.1.leave (v := none) (fun h => by first | rfl | (rw [hret] at h; cases h)) hlk
  exact ⟨_, _, P.1.returnOut P.2.1 hret (hb P.2.2.1 hd) hr, hrun, hended, _, _, rfl, by show Q _ T.heap _; rw [P.2.2.2.2.2]; exact hQ, ⟨_, rfl⟩, hW, hsame.mono hc hs⟩
theorem retZ {kc ks : Nat} {Q : Option Value → Heap → List Loc → Prop} {t : FieldType} {z : Int32} (P : Wk Z own bytes h p l e R s m args below meth c T locs cells slots) (hd : decode bytes pc = .ok (.ireturn, 1)) (hret : meth.sig.returnType = some t) (ht : t = .boolean ∨ t = .byte ∨ t = .char ∨ t = .short) (hlk : meth.locks = false) (hc : cells ≤ kc) (hs : slots ≤ ks) (hQ : Q (some (.int (nar t z))) h locs) : Goes p.tables e below (fun s₂ o => ∃ v L, o = .returned v ∧ Q v s₂.heap L ∧ FrameEnd s o s₂ L kc ks) (T.setTop (mkF m pc Ls (.int z :: st))) := by
  obtain ⟨fs, hr, hrun, hended, hW, hsame⟩ := P.1.leave (v := (some (.int (nar t z)))) (fun h => by first | rfl | (rw [hret] at h; cases h)) hlk
  exact ⟨_, _, retN P.1 P.2.1 hret ht (hb P.2.2.1 hd) hr, hrun, hended, _, _, rfl, by show Q _ T.heap _; rw [P.2.2.2.2.2]; exact hQ, ⟨_, rfl⟩, hW, hsame.mono hc hs⟩
theorem retI {kc ks : Nat} {Q : Option Value → Heap → List Loc → Prop} {z : Int32} (P : Wk Z own bytes h p l e R s m args below meth c T locs cells slots) (hd : decode bytes pc = .ok (.ireturn, 1)) (hret : meth.sig.returnType = some .int) (hlk : meth.locks = false) (hc : cells ≤ kc) (hs : slots ≤ ks) (hQ : Q (some (.int z)) h locs) : Goes p.tables e below (fun s₂ o => ∃ v L, o = .returned v ∧ Q v s₂.heap L ∧ FrameEnd s o s₂ L kc ks) (T.setTop (mkF m pc Ls (.int z :: st))) := by
  obtain ⟨fs, hr, hrun, hended, hW, hsame⟩ := P.1.leave (v := (some (.int z))) (fun h => by first | rfl | (rw [hret] at h; cases h)) hlk
  exact ⟨_, _, retOut P.1 P.2.1 hret rfl (Or.inl ⟨rfl, Or.inl rfl, _, rfl⟩) (hb P.2.2.1 hd) hr, hrun, hended, _, _, rfl, by show Q _ T.heap _; rw [P.2.2.2.2.2]; exact hQ, ⟨_, rfl⟩, hW, hsame.mono hc hs⟩
theorem retA {kc ks : Nat} {Q : Option Value → Heap → List Loc → Prop} {t : FieldType} {v : Value} (P : Wk Z own bytes h p l e R s m args below meth c T locs cells slots) (hd : decode bytes pc = .ok (.areturn, 1)) (hret : meth.sig.returnType = some t) (ht : t.isReference = true) (hv : v.isRef = true) (hn : narrow t v = v) (hlk : meth.locks = false) (hc : cells ≤ kc) (hs : slots ≤ ks) (hQ : Q (some v) h locs) : Goes p.tables e below (fun s₂ o => ∃ v L, o = .returned v ∧ Q v s₂.heap L ∧ FrameEnd s o s₂ L kc ks) (T.setTop (mkF m pc Ls (v :: st))) := by
  obtain ⟨fs, hr, hrun, hended, hW, hsame⟩ := P.1.leave (v := (some v)) (fun h => by first | rfl | (rw [hret] at h; cases h)) hlk
  exact ⟨_, _, retOut P.1 P.2.1 hret hn (Or.inr (Or.inr (Or.inr (Or.inr ⟨rfl, ht, hv⟩)))) (hb P.2.2.1 hd) hr, hrun, hended, _, _, rfl, by show Q _ T.heap _; rw [P.2.2.2.2.2]; exact hQ, ⟨_, rfl⟩, hW, hsame.mono hc hs⟩
theorem Wk.up {c2 s2 : Nat} (P : Wk Z own bytes h p l e R s m args below meth c T locs cells slots) (hc : cells ≤ c2) (hs : slots ≤ s2) : Wk Z own bytes h p l e R s m args below meth c T locs c2 s2 := ⟨P.1.mono hc hs, P.2⟩
end Steps
theorem refc {v : Value} (h : v.isRef = true) : v = .null ∨ ∃ a, v = .ref a := by
  cases v <;> first | exact Or.inl rfl | exact Or.inr ⟨_, rfl⟩ | cases h
theorem ltb {i n : Nat} (h : Nat.ble (i + 1) n = true) : i < n := Nat.le_of_ble_eq_true h
theorem leb {i n : Nat} (h : Nat.ble i n = true) : i ≤ n := Nat.le_of_ble_eq_true h
theorem Ext.rf (h : Heap) : Ext h h := ⟨Nat.le_refl _, fun _ _ q => q⟩
theorem Ext.tr {h h' h2 : Heap} (A : Ext h h') (B : Ext h' h2) : Ext h h2 := ⟨Nat.le_trans A.1 B.1, fun a c q => B.2 a c (A.2 a c q)⟩
theorem Ext.wr {h h' h2 : Heap} {a : Addr} {sl : Nat} {v : Value} (A : Ext h h') (W : Wr h' h2 a sl v) (q : h.size ≤ a) : Ext h h2 := ⟨by rw [W.size]; exact A.1, fun b c hb => by
  have hb2 := A.2 b c hb
  obtain ⟨c2, g1, -, -, -, g5, -⟩ := wr_at W hb2
  have hne : b ≠ a := fun e => by subst e; exact absurd (Array.getElem?_eq_some_iff.mp hb).1 (Nat.not_lt.mpr q)
  rw [g1, g5 hne]⟩
theorem Ext.kp {h h' h2 : Heap} {ws : List Addr} (A : Ext h h') (K : Keep h' h2 ws) (q : ∀ x ∈ ws, h.size ≤ x) : Ext h h2 := ⟨Nat.le_trans A.1 K.1, fun b c hb => K.2.1 b c (A.2 b c hb) fun hm => absurd (Array.getElem?_eq_some_iff.mp hb).1 (Nat.not_lt.mpr (q b hm))⟩
theorem Fr.one {k : Nat} {L : List Loc} {lc : Loc} {a : Addr} (N : Fr k L) (e : lc.base = a) (q : k ≤ a) : Fr k (L ++ [lc]) := N.app fun y hy => by cases List.mem_singleton.mp hy; rw [e]; exact q
end Own
end Jvm.Pilot.@@N@@
namespace Jvm.Pilot.@@N@@
namespace Own
open Jvm Jvm.ClassFile Sem Op Lib Jvm.Free Jvm.Stand Jvm.LawKit Jvm.RoadKit Bundle
theorem lo_rng (x : Int32) : ¬ (x &&& 255) < 0 ∧ ¬ (255 : Int32) < (x &&& 255) := by
  have h := c_mask x 255 8 (by decide) (by decide)
  have h0 : (0 : Int32).toInt = 0 := rfl
  have h5 : (255 : Int32).toInt = 255 := rfl
  constructor
  · rw [Int32.lt_iff_toInt_lt, h0, h]; omega
  · rw [Int32.lt_iff_toInt_lt, h5, h]; omega
theorem i2c_id16 {x : Int32} (h : ¬ x < 0 ∧ ¬ (65535 : Int32) < x) : x.toUInt32.toUInt16.toUInt32.toInt32 = x := by
  obtain ⟨g1, g2, g3⟩ := c_i2c x
  have h0 : (0 : Int32).toInt = 0 := rfl
  have h5 : (65535 : Int32).toInt = 65535 := rfl
  obtain ⟨a, b⟩ := h
  rw [Int32.lt_iff_toInt_lt, h0] at a
  rw [Int32.lt_iff_toInt_lt, h5] at b
  exact Int32.toInt_inj.mp (by omega)
theorem up16 {x : Int32} (h : ¬ x < 0 ∧ ¬ (255 : Int32) < x) : ¬ x < 0 ∧ ¬ (65535 : Int32) < x := by
  refine ⟨h.1, fun q => h.2 ?_⟩
  have h5 : (65535 : Int32).toInt = 65535 := rfl
  have h2 : (255 : Int32).toInt = 255 := rfl
  rw [Int32.lt_iff_toInt_lt] at q ⊢
  omega
theorem i2c_id {x : Int32} (h : ¬ x < 0 ∧ ¬ (255 : Int32) < x) : x.toUInt32.toUInt16.toUInt32.toInt32 = x := i2c_id16 (up16 h)
theorem nar_id {x : Int32} (h : ¬ x < 0 ∧ ¬ (255 : Int32) < x) : nar .char x = x := i2c_id h
theorem nar_id16 {x : Int32} (h : ¬ x < 0 ∧ ¬ (65535 : Int32) < x) : nar .char x = x := i2c_id16 h
theorem fits_ch {x : Int32} (h : ¬ x < 0 ∧ ¬ (255 : Int32) < x) : fits .char (.int x) = true := by
  have q := fits_nar_char x
  rwa [nar_id h] at q
theorem nar_b (x : Int32) : nar .byte x.toInt8.toInt32 = x.toInt8.toInt32 := by simp [nar]
theorem fits_b (x : Int32) : fits .byte (.int x.toInt8.toInt32) = true := fits_nar_byte x
theorem ch0 {P : Int32 → Prop} : ∀ c ∈ ([] : List Int32), P c := fun _ q => nomatch q
theorem chS {P : Int32 → Prop} {a : Int32} {cs : List Int32} (h : P a) (r : ∀ c ∈ cs, P c) : ∀ c ∈ a :: cs, P c := fun c q => (List.mem_cons.mp q).elim (fun u => u ▸ h) (r c)
/-- the object at a is a compact String of the chars cs, each 0 to 255 -/
def Str (Z : State) (h : Heap) (a : Addr) (cs : List Int32) : Prop :=
  (∃ t kb, Exa Z h a "java/lang/String" ∧ Fld Z h a "java/lang/String" "value" "[B" (.ref t) ∧ Fld Z h a "java/lang/String" "coder" "B" (.int 0) ∧ Arv Z h t kb .byte (Int32.ofNat cs.length) ((cs.map fun c => c.toInt8.toInt32).map Value.int) (.int 0)) ∧ (∀ c ∈ cs, ¬ c < 0 ∧ ¬ (255 : Int32) < c) ∧ cs.length ≤ 4000
theorem Str.ext {Z : State} {h h' : Heap} {a : Addr} {cs : List Int32} (S : Str Z h a cs) (E : Ext h h') : Str Z h' a cs := by
  obtain ⟨⟨t, kb, s1, s2, s3, s4⟩, r⟩ := S
  exact ⟨⟨t, kb, s1.ext E, s2.ext E, s3.ext E, s4.ext E⟩, r⟩
theorem Str.exa {Z : State} {h : Heap} {a : Addr} {cs : List Int32} (S : Str Z h a cs) : Exa Z h a "java/lang/String" := by obtain ⟨⟨t, kb, s1, -⟩, -⟩ := S; exact s1
theorem Str.kp1 {Z : State} {h h' : Heap} {a x : Addr} {cs : List Int32} {C : String} {a0 : Array Value} {n : Nat} (S : Str Z h a cs) (K : Keep h h' [x]) (E : Exa Z h x C) (hC : C ≠ "java/lang/String") (wi : (Jvm.Cond.instantiable C n).before a0 Z = true) : Str Z h' a cs := by
  obtain ⟨⟨t, kb, s1, s2, s3, s4⟩, r⟩ := S
  have n1 : a ≠ x := fun e => Exa.ne E s1 hC e.symm
  have n2 : t ≠ x := fun e => Exa.neArv E s4 wi e.symm
  exact ⟨⟨t, kb, s1.keep K, s2.keep K (ninS n1 nin0), s3.keep K (ninS n1 nin0), s4.keep K (ninS n2 nin0)⟩, r⟩
theorem Sta_kp1 {Z : State} {h h' : Heap} {x : Addr} {C D n d : String} {v : Value} (S : Sta Z h D n d v) (K : Keep h h' [x]) (E : Exa Z h x C) : Sta Z h' D n d v := by
  obtain ⟨cf, i, k, f, st, cell, t1, t2, t3, t4, t5, t6, t7⟩ := S
  obtain ⟨cx, kx, e1, -, -, e4, -⟩ := E
  have ne : st ≠ x := fun q => by
    subst q
    cases t5.symm.trans e1
    rw [e4] at t6
    cases t6
  exact ⟨cf, i, k, f, st, cell, t1, t2, t3, t4, K.2.1 _ _ t5 (ninS ne nin0), t6, t7⟩
theorem byte_inj {x y : Int32} (hx : ¬ x < 0 ∧ ¬ (255 : Int32) < x) (hy : ¬ y < 0 ∧ ¬ (255 : Int32) < y) (h : x.toInt8.toInt32 = y.toInt8.toInt32) : x = y := by
  obtain ⟨a1, -, -⟩ := c_i2b x
  obtain ⟨b1, -, -⟩ := c_i2b y
  have h0 : (0 : Int32).toInt = 0 := rfl
  have h5 : (255 : Int32).toInt = 255 := rfl
  have e : x.toInt8.toInt32.toInt = y.toInt8.toInt32.toInt := by rw [h]
  obtain ⟨u1, u2⟩ := hx
  obtain ⟨v1, v2⟩ := hy
  rw [Int32.lt_iff_toInt_lt] at u1 u2 v1 v2
  exact Int32.toInt_inj.mp (by omega)
theorem bytes_inj : ∀ {cs ds : List Int32}, (∀ c ∈ cs, ¬ c < 0 ∧ ¬ (255 : Int32) < c) → (∀ c ∈ ds, ¬ c < 0 ∧ ¬ (255 : Int32) < c) → (cs.map fun c => c.toInt8.toInt32) = (ds.map fun c => c.toInt8.toInt32) → cs = ds
  | [], [], _, _, _ => rfl
  | [], _ :: _, _, _, h => by simp at h
  | _ :: _, [], _, _, h => by simp at h
  | c :: cs, d :: ds, hc, hd, h => by
    simp only [List.map_cons, List.cons.injEq] at h
    rw [byte_inj (hc c (by simp)) (hd d (by simp)) h.1, bytes_inj (fun x hx => hc x (by simp [hx])) (fun x hx => hd x (by simp [hx])) h.2]
theorem ofNat_inj {n k : Nat} (hn : n ≤ 4000) (hk : k ≤ 4000) (h : Int32.ofNat n = Int32.ofNat k) : n = k := by
  have a : (Int32.ofNat n).toInt = n := Int32.toInt_ofNat_of_lt (by omega)
  have b : (Int32.ofNat k).toInt = k := Int32.toInt_ofNat_of_lt (by omega)
  rw [h, b] at a
  omega
theorem Str.inj {Z : State} {h : Heap} {a : Addr} {cs ds : List Int32} (S : Str Z h a cs) (T : Str Z h a ds) : cs = ds := by
  obtain ⟨⟨t, kb, -, s2, -, c1, A1, -, z1, -, H1, -⟩, p1, l1⟩ := S
  obtain ⟨⟨u, ku, -, t2, -, c2, A2, -, z2, -, H2, -⟩, p2, l2⟩ := T
  have e : (Value.ref t) = .ref u := Classical.byContradiction fun q => Fld.ne s2 t2 q rfl
  cases e
  cases A1.1.symm.trans A2.1
  have m1 : (Int32.ofNat cs.length).toNatClampNeg = cs.length := by simp only [Int32.toNatClampNeg, Int32.toInt_ofNat_of_lt (show cs.length < 2 ^ 31 by omega)]; rfl
  have m2 : (Int32.ofNat ds.length).toNatClampNeg = ds.length := by simp only [Int32.toNatClampNeg, Int32.toInt_ofNat_of_lt (show ds.length < 2 ^ 31 by omega)]; rfl
  have n1 : cs.length = ds.length := by omega
  refine bytes_inj p1 p2 (List.ext_getElem (by simp [n1]) fun i g1 g2 => ?_)
  have q1 := H1 i (by simp at g1; omega)
  have q2 := H2 i (by simp at g1; omega)
  rw [q1] at q2
  have q3 := Option.some.inj q2
  simp only [List.getD_eq_getElem?_getD] at q3
  simp at g1
  simp [g1, n1 ▸ g1] at q3
  simpa using q3
theorem Str.up {Z : State} {h : Heap} {a : Addr} {cs : List Int32} (S : Str Z h a cs) : ∀ c ∈ cs, ¬ c < 0 ∧ ¬ (65535 : Int32) < c := fun c hc => up16 (S.2.1 c hc)
end Own
end Jvm.Pilot.@@N@@
/- laws to paste: Road.backV, Road.lenW, Road.chN (cut by pick.py; bodies as the Statement names them) -/
namespace Jvm.Pilot.@@N@@
namespace StrChars
open Jvm Sem ClassFile Op Lib Jvm.Stand Jvm.Free.XT Jvm.Free.ALB Jvm.Free.JM Jvm.Free
open Jvm.Lib.Cold (StaticIs)
/-- a char array whose places are chars -/
def Ch (a : Addr) (A : Cell) (U : State) : Prop := Arr .char a A U ∧ Typed .char A
theorem Ch.mv {a : Addr} {A : Cell} {U U' : State} (h : Ch a A U) (hal : U.vm.Alike U'.vm) (hh : U'.heap = U.heap) : Ch a A U' := ⟨h.1.mv hal hh, h.2⟩
theorem Ch.keep {a : Addr} {A : Cell} {U U' : State} (h : Ch a A U) (hal : U.vm.Alike U'.vm) (hk : U'.heap[a]? = some A) : Ch a A U' := ⟨h.1.keep hal hk, h.2⟩
/-- what place i of a char[]'s cell holds -/
def cv (A : Cell) (i : Nat) : Int32 := match A.slots[i]? with | some (.int x) => x | _ => 0
theorem Ch.get {a : Addr} {A : Cell} {U : State} (h : Ch a A U) {i : Nat} (hi : i < A.slots.size) : A.slots[i]? = some (.int (cv A i)) := by
  have e := Array.getElem?_eq_getElem hi
  have f := h.2 i _ e
  unfold cv; rw [e]
  generalize A.slots[i] = v at f
  cases v <;> simp [fits] at f ⊢
/-- the byte that i2b leaves of a char -/
def lo8 (x : Int32) : Int32 := x.toInt8.toInt32
theorem fits_lo8 (y : Int32) : fits .byte (.int (lo8 y)) = true := by
  have h1 := y.toInt8.le_toInt
  have h2 := y.toInt8.toInt_lt
  simp only [lo8, fits, Bool.and_eq_true, decide_eq_true_eq, Int32.le_iff_toInt_le, Int8.toInt_toInt32, show (-128 : Int32).toInt = -128 from by decide, show (127 : Int32).toInt = 127 from by decide]
  omega
/-- A' is A but that each place j of lo .. hi - 1 holds f j -/
def Laid (A A' : Cell) (lo hi : Nat) (f : Nat → Value) : Prop := A'.cls = A.cls ∧ A'.vm = A.vm ∧ A'.slots.size = A.slots.size ∧ ∀ i, A'.slots[i]? = if lo ≤ i ∧ i < hi then some (f i) else A.slots[i]?
theorem Laid.zero (A : Cell) (lo : Nat) (f : Nat → Value) : Laid A A lo (lo + 0) f := ⟨rfl, rfl, rfl, fun i => by rw [if_neg (by omega)]⟩
theorem Laid.step {A Ak : Cell} {lo k : Nat} {f : Nat → Value} {v : Value} (h : Laid A Ak lo k f) (hlo : lo ≤ k) (hk : k < Ak.slots.size) (hv : v = f k) : Laid A (Ak.setSlot k v) lo (k + 1) f := by
  refine ⟨h.1, h.2.1, by simpa [Cell.setSlot] using h.2.2.1, fun i => ?_⟩
  by_cases e : k = i
  · subst e; rw [Cell.slots_setSlot_self v hk, if_pos (by omega), hv]
  · rw [Cell.slots_setSlot_ne v e, h.2.2.2 i]
    by_cases q : lo ≤ i ∧ i < k
    · rw [if_pos q, if_pos (by omega)]
    · rw [if_neg q, if_neg (by omega)]
def U16 : String := "java/lang/StringUTF16"
namespace Cmp5
def yN : MethodName := ⟨"java/lang/StringUTF16", "compress", "([CI[BII)I"⟩
abbrev yB : ByteArray := jdk_52_method_21_code
theorem d0 : decode yB 0 = .ok (.iconst 0, 1) := by decide +kernel
theorem d1 : decode yB 1 = .ok (.istore 5, 2) := by decide +kernel
theorem d3 : decode yB 3 = .ok (.iload 5, 2) := by decide +kernel
theorem d5 : decode yB 5 = .ok (.iload 4, 2) := by decide +kernel
theorem d7 : decode yB 7 = .ok (.if_icmp (.ge) 37, 3) := by decide +kernel
theorem d10 : decode yB 10 = .ok (.aload_n 0, 1) := by decide +kernel
theorem d11 : decode yB 11 = .ok (.iload_n 1, 1) := by decide +kernel
theorem d12 : decode yB 12 = .ok (.caload, 1) := by decide +kernel
theorem d13 : decode yB 13 = .ok (.istore 6, 2) := by decide +kernel
theorem d15 : decode yB 15 = .ok (.iload 6, 2) := by decide +kernel
theorem d17 : decode yB 17 = .ok (.sipush 255, 3) := by decide +kernel
theorem d20 : decode yB 20 = .ok (.if_icmp (.le) 6, 3) := by decide +kernel
theorem d26 : decode yB 26 = .ok (.aload_n 2, 1) := by decide +kernel
theorem d27 : decode yB 27 = .ok (.iload_n 3, 1) := by decide +kernel
theorem d28 : decode yB 28 = .ok (.iload 6, 2) := by decide +kernel
theorem d30 : decode yB 30 = .ok (.i2b, 1) := by decide +kernel
theorem d31 : decode yB 31 = .ok (.bastore, 1) := by decide +kernel
theorem d32 : decode yB 32 = .ok (.iinc 1 1, 3) := by decide +kernel
theorem d35 : decode yB 35 = .ok (.iinc 3 1, 3) := by decide +kernel
theorem d38 : decode yB 38 = .ok (.iinc 5 1, 3) := by decide +kernel
theorem d41 : decode yB 41 = .ok (.goto (-38), 3) := by decide +kernel
theorem d44 : decode yB 44 = .ok (.iload 4, 2) := by decide +kernel
theorem d46 : decode yB 46 = .ok (.ireturn, 1) := by decide +kernel
def site : List Cond := []
def tab : Cond := tabOf yN yB 7 (some .int) site
def P (b : Addr) (A : Cell) (d : Addr) (B : Cell) (o q len : Nat) (args : Array Value) (s : State) : Prop := args = #[.ref b, .int (Int32.ofNat o), .ref d, .int (Int32.ofNat q), .int (Int32.ofNat len)] ∧ Ch b A s ∧ Arr .byte d B s ∧ b ≠ d ∧ o + len ≤ A.slots.size ∧ q + len ≤ B.slots.size ∧ ∀ i, i < len → ¬ 255 < cv A (o + i)
def E (b : Addr) (A : Cell) (d : Addr) (B : Cell) (o q len : Nat) (r : Option Value) (s u : State) : Prop := r = some (.int (Int32.ofNat len)) ∧ ∃ B', Put d B' s u ∧ Laid B B' q (q + len) (fun j => Value.int (lo8 (cv A (o + (j - q)))))
/-- no char of the range above 255: len; the places written hold each char's low byte -/
theorem law (l : Launch) (b : Addr) (A : Cell) (d : Addr) (B : Cell) (o q len : Nat) : Law l yN 5 5 0 0 yB 7 (some .int) site (P b A d B o q len) (E b A d B o q len) (copyLocs d q len) 0 0 := by
  refine Law.of_walk (plainFor_of_name (by decide +kernel)) (by decide +kernel) (by decide +kernel) (by decide) (fun _ _ h => by rw [h.1]; rfl) (fun _ U U' hal hh h => ⟨h.1, h.2.1.mv hal hh, h.2.2.1.mv hal hh, h.2.2.2⟩) (fun r U U' V V' h1 hal h2 h => ⟨h.1, h.2.elim fun B' q => ⟨B', q.1.mv h1 h2, q.2⟩⟩) ?_
  intro p e s m args below meth c s₁ X0 hexec hbytes hml hret hlk hnm hown hh0 W hP
  obtain ⟨rfl, hA, hB, hne, l1, l2, hp⟩ := hP
  have c1 : Steps p.tables e below (s₁.setTop (entryFrame m #[.ref b, .int (Int32.ofNat o), .ref d, .int (Int32.ofNat q), .int (Int32.ofNat len)] 7)) (s₁.setTop (mkF m 0 #[.val (.ref b), .val (.int (Int32.ofNat o)), .val (.ref d), .val (.int (Int32.ofNat q)), .val (.int (Int32.ofNat len)), .unset, .unset] [])) := entry rfl
  have hA0 := hA.1.mv X0.warmed.alike hh0
  have hB0 := hB.mv X0.warmed.alike hh0
  have a31 := hA.1.2.2.2
  have c2 : Steps p.tables e below (s₁.setTop (entryFrame m #[.ref b, .int (Int32.ofNat o), .ref d, .int (Int32.ofNat q), .int (Int32.ofNat len)] 7)) (s₁.setTop (mkF m 3 #[.val (.ref b), .val (.int (Int32.ofNat o)), .val (.ref d), .val (.int (Int32.ofNat q)), .val (.int (Int32.ofNat len)), .val (.int 0), .unset] [])) := c1.trans (by
    refine iconstV X0.here hexec rfl 0 (hb hbytes d0) (by decide) ?_
    refine XS.istore X0.here hexec rfl (hb hbytes d1) rfl rfl ?_
    exact Steps.refl _)
  have loop : ∀ (r i : Nat), i + r = len → ∀ (z : Slot), (z = .unset ∨ ∃ w, z = .val w ∧ w.category = 1) → ∀ (Tl : State) (Bk : Cell), Stand p l e { frames := 0, locals := 0, cells := 0, slots := 0 } s m #[.ref b, .int (Int32.ofNat o), .ref d, .int (Int32.ofNat q), .int (Int32.ofNat len)] below meth c Tl ([] ++ copyLocs d q i) 0 0 → Put d Bk s₁ Tl → Laid B Bk q (q + i) (fun j => Value.int (lo8 (cv A (o + (j - q))))) →
      Steps p.tables e below (s₁.setTop (entryFrame m #[.ref b, .int (Int32.ofNat o), .ref d, .int (Int32.ofNat q), .int (Int32.ofNat len)] 7)) (Tl.setTop (mkF m 3 #[.val (.ref b), .val (.int (Int32.ofNat (o + i))), .val (.ref d), .val (.int (Int32.ofNat (q + i))), .val (.int (Int32.ofNat len)), .val (.int (Int32.ofNat i)), z] [])) → ∃ (T' : State) (B' : Cell) (z' : Slot), Stand p l e { frames := 0, locals := 0, cells := 0, slots := 0 } s m #[.ref b, .int (Int32.ofNat o), .ref d, .int (Int32.ofNat q), .int (Int32.ofNat len)] below meth c T' ([] ++ copyLocs d q len) 0 0 ∧ Put d B' s₁ T' ∧ Laid B B' q (q + len) (fun j => Value.int (lo8 (cv A (o + (j - q))))) ∧
      Steps p.tables e below (s₁.setTop (entryFrame m #[.ref b, .int (Int32.ofNat o), .ref d, .int (Int32.ofNat q), .int (Int32.ofNat len)] 7)) (T'.setTop (mkF m 3 #[.val (.ref b), .val (.int (Int32.ofNat (o + len))), .val (.ref d), .val (.int (Int32.ofNat (q + len))), .val (.int (Int32.ofNat len)), .val (.int (Int32.ofNat len)), z'] [])) := by
    intro r
    induction r with
    | zero =>
      intro i hi z hz Tl Bk Xl pl fl cl
      have hil : i = len := by omega
      rw [hil] at Xl fl cl
      exact ⟨Tl, Bk, z, Xl, pl, fl, cl⟩
    | succ r ih =>
      intro i hi z hz Tl Bk Xl pl fl cl
      have all := X0.warmed.alike.symm.trans Xl.warmed.alike
      have hAl := hA0.keep all (pl.other hne hA0.1)
      have hBk := hB0.like all pl.1 fl.1 fl.2.1 fl.2.2.1
      have hlt : q + i < Bk.slots.size := by rw [fl.2.2.1]; omega
      have c3 : Steps p.tables e below (s₁.setTop (entryFrame m #[.ref b, .int (Int32.ofNat o), .ref d, .int (Int32.ofNat q), .int (Int32.ofNat len)] 7)) (Tl.setTop (mkF m 12 #[.val (.ref b), .val (.int (Int32.ofNat (o + i))), .val (.ref d), .val (.int (Int32.ofNat (q + i))), .val (.int (Int32.ofNat len)), .val (.int (Int32.ofNat i)), z] [.int (Int32.ofNat (o + i)), .ref b])) := cl.trans (by
        refine XS.iload Xl.here hexec rfl (hb hbytes d3) rfl ?_
        refine XS.iload Xl.here hexec rfl (hb hbytes d5) rfl ?_
        refine XS.icmpNo Xl.here hexec rfl (hb hbytes d7) rfl (ii_ge_f (lt32 (by omega) (by omega))) ?_
        refine XS.aloadN Xl.here hexec rfl (hb hbytes d10) rfl rfl ?_
        refine XS.iloadN Xl.here hexec rfl (hb hbytes d11) rfl ?_
        exact Steps.refl _)
      have c4 : Steps p.tables e below (s₁.setTop (entryFrame m #[.ref b, .int (Int32.ofNat o), .ref d, .int (Int32.ofNat q), .int (Int32.ofNat len)] 7)) (Tl.setTop (mkF m 13 #[.val (.ref b), .val (.int (Int32.ofNat (o + i))), .val (.ref d), .val (.int (Int32.ofNat (q + i))), .val (.int (Int32.ofNat len)), .val (.int (Int32.ofNat i)), z] [.int (cv A (o + i))])) := c3.trans (by
        refine Xl.aget hexec hAl rfl (hA.get (i := o + i) (by omega)) rfl rfl (hb hbytes d12) ?_
        exact Steps.refl _)
      have c5 : Steps p.tables e below (s₁.setTop (entryFrame m #[.ref b, .int (Int32.ofNat o), .ref d, .int (Int32.ofNat q), .int (Int32.ofNat len)] 7)) (Tl.setTop (mkF m 15 #[.val (.ref b), .val (.int (Int32.ofNat (o + i))), .val (.ref d), .val (.int (Int32.ofNat (q + i))), .val (.int (Int32.ofNat len)), .val (.int (Int32.ofNat i)), .val (.int (cv A (o + i)))] [])) := c4.trans (by
        refine XS.istoreS Xl.here hexec rfl (hb hbytes d13) rfl rfl hz ?_
        exact Steps.refl _)
      have c6 : Steps p.tables e below (s₁.setTop (entryFrame m #[.ref b, .int (Int32.ofNat o), .ref d, .int (Int32.ofNat q), .int (Int32.ofNat len)] 7)) (Tl.setTop (mkF m 31 #[.val (.ref b), .val (.int (Int32.ofNat (o + i))), .val (.ref d), .val (.int (Int32.ofNat (q + i))), .val (.int (Int32.ofNat len)), .val (.int (Int32.ofNat i)), .val (.int (cv A (o + i)))] [.int (lo8 (cv A (o + i))), .int (Int32.ofNat (q + i)), .ref d])) := c5.trans (by
        refine XS.iload Xl.here hexec rfl (hb hbytes d15) rfl ?_
        refine sipushV Xl.here hexec rfl 255 (hb hbytes d17) (by decide) ?_
        refine XS.icmpYes Xl.here hexec rfl (pc0 := 20) rfl (hb hbytes d20) rfl (ii_le_t (hp i (by omega))) (by decide) rfl ?_
        refine XS.aloadN Xl.here hexec rfl (hb hbytes d26) rfl rfl ?_
        refine XS.iloadN Xl.here hexec rfl (hb hbytes d27) rfl ?_
        refine XS.iload Xl.here hexec rfl (hb hbytes d28) rfl ?_
        refine i2b Xl.here hexec rfl (hb hbytes d30) rfl ?_
        exact Steps.refl _)
      obtain ⟨T7, X7, p7, st7⟩ := Xl.aput hexec hBk rfl hlt rfl (fits_lo8 (cv A (o + i))) (g := (mkF m 31 #[.val (.ref b), .val (.int (Int32.ofNat (o + i))), .val (.ref d), .val (.int (Int32.ofNat (q + i))), .val (.int (Int32.ofNat len)), .val (.int (Int32.ofNat i)), .val (.int (cv A (o + i)))] [.int (lo8 (cv A (o + i))), .int (Int32.ofNat (q + i)), .ref d])) rfl (rest := []) rfl (hb hbytes d31)
      have c8 : Steps p.tables e below (s₁.setTop (entryFrame m #[.ref b, .int (Int32.ofNat o), .ref d, .int (Int32.ofNat q), .int (Int32.ofNat len)] 7)) (T7.setTop (mkF m 32 #[.val (.ref b), .val (.int (Int32.ofNat (o + i))), .val (.ref d), .val (.int (Int32.ofNat (q + i))), .val (.int (Int32.ofNat len)), .val (.int (Int32.ofNat i)), .val (.int (cv A (o + i)))] [])) := c6.trans (st7 _ (Steps.refl _))
      have c9 : Steps p.tables e below (s₁.setTop (entryFrame m #[.ref b, .int (Int32.ofNat o), .ref d, .int (Int32.ofNat q), .int (Int32.ofNat len)] 7)) (T7.setTop (mkF m 3 #[.val (.ref b), .val (.int (Int32.ofNat (o + i) + 1)), .val (.ref d), .val (.int (Int32.ofNat (q + i) + 1)), .val (.int (Int32.ofNat len)), .val (.int (Int32.ofNat i + 1)), .val (.int (cv A (o + i)))] [])) := c8.trans (by
        refine iincV X7.here hexec rfl 1 (hb hbytes d32) (by decide) rfl rfl ?_
        refine iincV X7.here hexec rfl 1 (hb hbytes d35) (by decide) rfl rfl ?_
        refine iincV X7.here hexec rfl 1 (hb hbytes d38) (by decide) rfl rfl ?_
        refine XS.goto X7.here hexec rfl (pc0 := 41) rfl (hb hbytes d41) (by decide) rfl ?_
        exact Steps.refl _)
      have c10 : Steps p.tables e below (s₁.setTop (entryFrame m #[.ref b, .int (Int32.ofNat o), .ref d, .int (Int32.ofNat q), .int (Int32.ofNat len)] 7)) (T7.setTop (mkF m 3 #[.val (.ref b), .val (.int (Int32.ofNat (o + (i + 1)))), .val (.ref d), .val (.int (Int32.ofNat (q + (i + 1)))), .val (.int (Int32.ofNat len)), .val (.int (Int32.ofNat (i + 1))), .val (.int (cv A (o + i)))] [])) := by
        have := c9
        rw [succ32, succ32, succ32] at this
        exact this
      exact ih (i + 1) (by omega) _ (Or.inr ⟨_, rfl, rfl⟩) T7 _ (by rw [copyLocs_step, ← List.append_assoc]; exact X7) (pl.trans p7) (fl.step (by omega) hlt (by simp)) c10
  obtain ⟨T9, B9, z9, X9, p9, f9, g9⟩ := loop len 0 (by omega) .unset (Or.inl rfl) s₁ B (by simpa [copyLocs] using X0) ⟨hB0.1, fun _ _ => rfl, rfl⟩ (Laid.zero _ _ _) c2
  have c11 : Steps p.tables e below (s₁.setTop (entryFrame m #[.ref b, .int (Int32.ofNat o), .ref d, .int (Int32.ofNat q), .int (Int32.ofNat len)] 7)) (T9.setTop (mkF m 46 #[.val (.ref b), .val (.int (Int32.ofNat (o + len))), .val (.ref d), .val (.int (Int32.ofNat (q + len))), .val (.int (Int32.ofNat len)), .val (.int (Int32.ofNat len)), z9] [.int (Int32.ofNat len)])) := g9.trans (by
    refine XS.iload X9.here hexec rfl (hb hbytes d3) rfl ?_
    refine XS.iload X9.here hexec rfl (hb hbytes d5) rfl ?_
    refine XS.icmpYes X9.here hexec rfl (pc0 := 7) rfl (hb hbytes d7) rfl (ii_ge_t (nlt32 (by omega) (Nat.le_refl _))) (by decide) rfl ?_
    refine XS.iload X9.here hexec rfl (hb hbytes d44) rfl ?_
    exact Steps.refl _)
  exact ⟨T9, some (.int (Int32.ofNat len)), _, _, _, X9, by simp, rfl, rfl, (fun h => by cases h), ⟨rfl, B9, p9.from hh0, f9⟩, fun fs hl => c11.trans (X9.ireturnOut hexec hret rfl (Or.inl rfl) (hb hbytes d46) hl)⟩
end Cmp5
namespace Cmp3
def yN : MethodName := ⟨"java/lang/StringUTF16", "compress", "([CII)[B"⟩
abbrev yB : ByteArray := jdk_52_method_16_code
theorem d0 : decode yB 0 = .ok (.iload_n 2, 1) := by decide +kernel
theorem d1 : decode yB 1 = .ok (.newarray .byte, 2) := by decide +kernel
theorem d3 : decode yB 3 = .ok (.astore_n 3, 1) := by decide +kernel
theorem d4 : decode yB 4 = .ok (.aload_n 0, 1) := by decide +kernel
theorem d5 : decode yB 5 = .ok (.iload_n 1, 1) := by decide +kernel
theorem d6 : decode yB 6 = .ok (.aload_n 3, 1) := by decide +kernel
theorem d7 : decode yB 7 = .ok (.iconst 0, 1) := by decide +kernel
theorem d8 : decode yB 8 = .ok (.iload_n 2, 1) := by decide +kernel
theorem d9 : decode yB 9 = .ok (.invokestatic 115, 3) := by decide +kernel
theorem d12 : decode yB 12 = .ok (.istore 4, 2) := by decide +kernel
theorem d14 : decode yB 14 = .ok (.iload 4, 2) := by decide +kernel
theorem d16 : decode yB 16 = .ok (.iload_n 2, 1) := by decide +kernel
theorem d17 : decode yB 17 = .ok (.if_icmp (.eq) 40, 3) := by decide +kernel
theorem d57 : decode yB 57 = .ok (.aload_n 3, 1) := by decide +kernel
theorem d58 : decode yB 58 = .ok (.areturn, 1) := by decide +kernel
def site : List Cond := [.arrayClass .byte, Cmp5.tab] ++ staticW U16 115 Cmp5.yN
def tab : Cond := tabOf yN yB 6 (some (.array .byte)) site
def P (b : Addr) (A : Cell) (o len : Nat) (args : Array Value) (s : State) : Prop := args = #[.ref b, .int (Int32.ofNat o), .int (Int32.ofNat len)] ∧ Ch b A s ∧ o + len ≤ A.slots.size ∧ len ≤ 536870912 ∧ ∀ i, i < len → ¬ 255 < cv A (o + i)
def E (b : Addr) (A : Cell) (o len : Nat) (r : Option Value) (s u : State) : Prop := NewArr .byte "[B" len (fun j => .int (lo8 (cv A (o + j)))) r s u ∧ u.heap.size = s.heap.size + 1
/-- no char of the range above 255: a new byte[] of their low bytes -/
theorem law (l : Launch) (b : Addr) (A : Cell) (o len : Nat) : Law l yN 3 3 1 18 yB 6 (some (.array .byte)) site (P b A o len) (E b A o len) [] 1 len := by
  refine Law.of_walk (plainFor_of_name (by decide +kernel)) (by decide +kernel) (by decide +kernel) (by decide) (fun _ _ h => by rw [h.1]; rfl) (fun _ U U' hal hh h => ⟨h.1, h.2.1.mv hal hh, h.2.2⟩) (fun r U U' V V' h1 hal h2 h => ⟨NewArr.mv r U U' V V' h1 hal h2 h.1, by rw [h1, h2]; exact h.2⟩) ?_
  intro p e s m args below meth c s₁ X0 hexec hbytes hml hret hlk hnm hown hh0 W hP
  obtain ⟨rfl, hA, l1, l2, hp⟩ := hP
  have a31 := hA.1.2.2.2
  have c1 : Steps p.tables e below (s₁.setTop (entryFrame m #[.ref b, .int (Int32.ofNat o), .int (Int32.ofNat len)] 6)) (s₁.setTop (mkF m 0 #[.val (.ref b), .val (.int (Int32.ofNat o)), .val (.int (Int32.ofNat len)), .unset, .unset, .unset] [])) := entry rfl
  have c2 : Steps p.tables e below (s₁.setTop (entryFrame m #[.ref b, .int (Int32.ofNat o), .int (Int32.ofNat len)] 6)) (s₁.setTop (mkF m 1 #[.val (.ref b), .val (.int (Int32.ofNat o)), .val (.int (Int32.ofNat len)), .unset, .unset, .unset] [.int (Int32.ofNat len)])) := c1.trans (by
    refine XS.iloadN X0.here hexec rfl (hb hbytes d0) rfl ?_
    exact Steps.refl _)
  obtain ⟨T3, B3, X3, ba3, bs3, bv3, bh3, bf3, st3⟩ := X0.anew hexec (atype := .byte) (wk W (.arrayClass .byte)) rfl (by show len * 1 ≤ _; omega) (by omega) (g := (mkF m 1 #[.val (.ref b), .val (.int (Int32.ofNat o)), .val (.int (Int32.ofNat len)), .unset, .unset, .unset] [.int (Int32.ofNat len)])) rfl (hb hbytes d1) (rest := []) rfl (Nat.le_refl _) (by show 0 + len ≤ len; omega)
  rw [hh0] at ba3 st3
  have kp3 : XT.Kept s T3 := (XT.Kept.of_eq hh0).push bh3
  have hA3 := hA.keep X3.warmed.alike (kp3 _ _ hA.1.1)
  have hne : b ≠ s.heap.size := hA.1.ne
  have c4 : Steps p.tables e below (s₁.setTop (entryFrame m #[.ref b, .int (Int32.ofNat o), .int (Int32.ofNat len)] 6)) (T3.setTop (mkF m 3 #[.val (.ref b), .val (.int (Int32.ofNat o)), .val (.int (Int32.ofNat len)), .unset, .unset, .unset] [.ref s.heap.size])) := c2.trans (st3 _ (Steps.refl _))
  have c5 : Steps p.tables e below (s₁.setTop (entryFrame m #[.ref b, .int (Int32.ofNat o), .int (Int32.ofNat len)] 6)) (T3.setTop (mkF m 9 #[.val (.ref b), .val (.int (Int32.ofNat o)), .val (.int (Int32.ofNat len)), .val (.ref s.heap.size), .unset, .unset] [.int (Int32.ofNat len), .int 0, .ref s.heap.size, .int (Int32.ofNat o), .ref b])) := c4.trans (by
    refine XS.astoreN X3.here hexec rfl (hb hbytes d3) rfl rfl rfl ?_
    refine XS.aloadN X3.here hexec rfl (hb hbytes d4) rfl rfl ?_
    refine XS.iloadN X3.here hexec rfl (hb hbytes d5) rfl ?_
    refine XS.aloadN X3.here hexec rfl (hb hbytes d6) rfl rfl ?_
    refine iconstV X3.here hexec rfl 0 (hb hbytes d7) (by decide) ?_
    refine XS.iloadN X3.here hexec rfl (hb hbytes d8) rfl ?_
    exact Steps.refl _)
  obtain ⟨v6, T6, X6, E6, g6⟩ := X3.callS hexec (Cmp5.law l b A s.heap.size B3 o 0 len) hown (wks W (staticW U16 115 Cmp5.yN)) (wk W Cmp5.tab) (W := 0) (Nat.le_of_ble_eq_true rfl) (Nat.le_of_ble_eq_true rfl) (Nat.le_refl _) (by show 0 + len + 0 ≤ len; omega) (g := (mkF m 9 #[.val (.ref b), .val (.int (Int32.ofNat o)), .val (.int (Int32.ofNat len)), .val (.ref s.heap.size), .unset, .unset] [.int (Int32.ofNat len), .int (Int32.ofNat 0), .ref s.heap.size, .int (Int32.ofNat o), .ref b])) rfl (by rw [hml]; rfl) c5 (argsL := [.ref b, .int (Int32.ofNat o), .ref s.heap.size, .int (Int32.ofNat 0), .int (Int32.ofNat len)]) (rest := []) rfl rfl (by show 2 * 0 + 0 ≤ _; decide) (hb hbytes d9) (⟨rfl, hA3, ba3, hne, l1, by rw [bs3]; simp, hp⟩)
  obtain ⟨rfl, B6, p6, f6⟩ := E6
  have c7 : Steps p.tables e below (s₁.setTop (entryFrame m #[.ref b, .int (Int32.ofNat o), .int (Int32.ofNat len)] 6)) (T6.setTop (mkF m 12 #[.val (.ref b), .val (.int (Int32.ofNat o)), .val (.int (Int32.ofNat len)), .val (.ref s.heap.size), .unset, .unset] [.int (Int32.ofNat len)])) := g6
  have c8 : Steps p.tables e below (s₁.setTop (entryFrame m #[.ref b, .int (Int32.ofNat o), .int (Int32.ofNat len)] 6)) (T6.setTop (mkF m 58 #[.val (.ref b), .val (.int (Int32.ofNat o)), .val (.int (Int32.ofNat len)), .val (.ref s.heap.size), .val (.int (Int32.ofNat len)), .unset] [.ref s.heap.size])) := c7.trans (by
    refine XS.istore X6.here hexec rfl (hb hbytes d12) rfl rfl ?_
    refine XS.iload X6.here hexec rfl (hb hbytes d14) rfl ?_
    refine XS.iloadN X6.here hexec rfl (hb hbytes d16) rfl ?_
    refine XS.icmpYes X6.here hexec rfl (pc0 := 17) rfl (hb hbytes d17) rfl (ii_eq_t rfl) (by decide) rfl ?_
    refine XS.aloadN X6.here hexec rfl (hb hbytes d57) rfl rfl ?_
    exact Steps.refl _)
  have X8 := X6.wide (L' := []) (cells' := 1) (slots' := len) (fun x hx hlt => by
    simp only [List.nil_append, copyLocs, List.mem_map, List.mem_range] at hx
    obtain ⟨i, -, rfl⟩ := hx
    exact absurd hlt (Nat.lt_irrefl _)) (Nat.le_refl _) (by omega)
  exact ⟨T6, some (.ref s.heap.size), _, _, _, X8, rfl, rfl, rfl, (fun h => by cases h), ⟨⟨rfl, B6, ba3.like (X3.warmed.alike.symm.trans X6.warmed.alike) p6.1 f6.1 f6.2.1 f6.2.2.1, f6.2.1.trans bv3, by rw [X6.warmed.alike.findClass, f6.1]; exact bf3, by rw [f6.2.2.1, bs3]; simp, fun j hj => by rw [f6.2.2.2 j, if_pos (by omega)]; rfl, kp3.put p6 (Nat.le_refl _)⟩, by rw [p6.2.2, bh3, hh0]; simp⟩, fun fs hl => c8.trans (X8.areturnOut hexec rfl hret rfl (hb hbytes d58) hl)⟩
end Cmp3
namespace CodL
def yN : MethodName := ⟨"java/lang/StringUTF16", "coderFromArrayLen", "([BI)B"⟩
abbrev yB : ByteArray := jdk_52_method_15_code
theorem d0 : decode yB 0 = .ok (.iload_n 1, 1) := by decide +kernel
theorem d1 : decode yB 1 = .ok (.aload_n 0, 1) := by decide +kernel
theorem d2 : decode yB 2 = .ok (.arraylength, 1) := by decide +kernel
theorem d3 : decode yB 3 = .ok (.isub, 1) := by decide +kernel
theorem d4 : decode yB 4 = .ok (.bipush 31, 2) := by decide +kernel
theorem d6 : decode yB 6 = .ok (.iushr, 1) := by decide +kernel
theorem d7 : decode yB 7 = .ok (.i2b, 1) := by decide +kernel
theorem d8 : decode yB 8 = .ok (.ireturn, 1) := by decide +kernel
def site : List Cond := []
def tab : Cond := tabOf yN yB 2 (some .byte) site
def P (d : Addr) (B : Cell) (args : Array Value) (s : State) : Prop := args = #[.ref d, .int (Int32.ofNat B.slots.size)] ∧ Arr .byte d B s
def E (r : Option Value) (s u : State) : Prop := XT.PureE (some (.int 0)) r s u
/-- an array as long as the number of chars: LATIN1 -/
theorem law (l : Launch) (d : Addr) (B : Cell) : Law l yN 2 2 0 0 yB 2 (some .byte) site (P d B) E [] 0 0 := by
  refine Law.of_walk (plainFor_of_name (by decide +kernel)) (by decide +kernel) (by decide +kernel) (by decide) (fun _ _ h => by rw [h.1]; rfl) (fun _ U U' hal hh h => ⟨h.1, h.2.mv hal hh⟩) (fun r U U' V V' h1 hal h2 h => XT.PureE.mv r U U' V V' h1 hal h2 h) ?_
  intro p e s m args below meth c s₁ X0 hexec hbytes hml hret hlk hnm hown hh0 W hP
  obtain ⟨rfl, hB⟩ := hP
  have hB0 := hB.mv X0.warmed.alike hh0
  have c1 : Steps p.tables e below (s₁.setTop (entryFrame m #[.ref d, .int (Int32.ofNat B.slots.size)] 2)) (s₁.setTop (mkF m 0 #[.val (.ref d), .val (.int (Int32.ofNat B.slots.size))] [])) := entry rfl
  have c2 : Steps p.tables e below (s₁.setTop (entryFrame m #[.ref d, .int (Int32.ofNat B.slots.size)] 2)) (s₁.setTop (mkF m 2 #[.val (.ref d), .val (.int (Int32.ofNat B.slots.size))] [.ref d, .int (Int32.ofNat B.slots.size)])) := c1.trans (by
    refine XS.iloadN X0.here hexec rfl (hb hbytes d0) rfl ?_
    refine XS.aloadN X0.here hexec rfl (hb hbytes d1) rfl rfl ?_
    exact Steps.refl _)
  have c3 : Steps p.tables e below (s₁.setTop (entryFrame m #[.ref d, .int (Int32.ofNat B.slots.size)] 2)) (s₁.setTop (mkF m 8 #[.val (.ref d), .val (.int (Int32.ofNat B.slots.size))] [.int (lo8 (ushr (Int32.ofNat B.slots.size - Int32.ofNat B.slots.size) 31))])) := c2.trans (by
    refine X0.alen hexec hB0 rfl rfl (hb hbytes d2) ?_
    refine XS.isub X0.here hexec rfl (hb hbytes d3) rfl ?_
    refine bipushV X0.here hexec rfl 31 (hb hbytes d4) (by decide) ?_
    refine iushr X0.here hexec rfl (hb hbytes d6) rfl ?_
    refine i2b X0.here hexec rfl (hb hbytes d7) rfl ?_
    exact Steps.refl _)
  have e0 : lo8 (ushr (Int32.ofNat B.slots.size - Int32.ofNat B.slots.size) 31) = 0 := by rw [Int32.sub_self]; decide
  rw [e0] at c3
  exact ⟨s₁, some (.int 0), _, _, _, X0, rfl, rfl, rfl, (fun h => by cases h), ⟨rfl, hh0⟩, fun fs hl => c3.trans (X0.ireturnOut hexec hret rfl (Or.inr (Or.inr (Or.inl rfl))) (hb hbytes d8) hl)⟩
end CodL
/-- the String at a is Latin-1 over a new byte[] (the heap's one new cell): the low bytes of the len chars of A from o on; every cell but a is kept -/
def Got (a : Addr) (D : Cell) (fV fC : Field) (A : Cell) (o len : Nat) (r : Option Value) (s u : State) : Prop := r = none ∧ ∃ D' V : Cell, Blank "java/lang/String" a D' u ∧ Same D D' [fV.slot, fC.slot] ∧ D'.slots[fV.slot]? = some (.ref s.heap.size) ∧ D'.slots[fC.slot]? = some (.int 0) ∧ Arr .byte s.heap.size V u ∧ V.vm = .none ∧ u.vm.findClass "[B" = some V.cls ∧ V.slots.size = len ∧ (∀ j, j < len → V.slots[j]? = some (.int (lo8 (cv A (o + j))))) ∧ (∀ (y : Addr) (c : Cell), y ≠ a → s.heap[y]? = some c → u.heap[y]? = some c) ∧ u.heap.size = s.heap.size + 1
theorem Got.mv {a : Addr} {D A : Cell} {fV fC : Field} {o len : Nat} : ∀ r (U U' V V' : State), U'.heap = U.heap → V.vm.Alike V'.vm → V'.heap = V.heap → Got a D fV fC A o len r U V → Got a D fV fC A o len r U' V' :=
  fun r U U' V V' h1 hal h2 ⟨e0, D', X, a1, a2, a3, a4, a5, a6, a7, a8, a9, a10, a11⟩ => ⟨e0, D', X, a1.mv hal h2, a2, by rw [h1]; exact a3, a4, by rw [h1]; exact a5.mv hal h2, a6, by rw [hal.findClass]; exact a7, a8, a9, by rw [h1, h2]; exact a10, by rw [h1, h2]; exact a11⟩
namespace New4
def yN : MethodName := ⟨"java/lang/String", "<init>", "([CIILjava/lang/Void;)V"⟩
abbrev yB : ByteArray := jdk_42_method_149_code
theorem d0 : decode yB 0 = .ok (.aload_n 0, 1) := by decide +kernel
theorem d1 : decode yB 1 = .ok (.invokespecial 1, 3) := by decide +kernel
theorem d4 : decode yB 4 = .ok (.iload_n 3, 1) := by decide +kernel
theorem d5 : decode yB 5 = .ok (.ifCond (.ne) 22, 3) := by decide +kernel
theorem d27 : decode yB 27 = .ok (.getstatic 38, 3) := by decide +kernel
theorem d30 : decode yB 30 = .ok (.ifCond (.eq) 28, 3) := by decide +kernel
theorem d33 : decode yB 33 = .ok (.aload_n 1, 1) := by decide +kernel
theorem d34 : decode yB 34 = .ok (.iload_n 2, 1) := by decide +kernel
theorem d35 : decode yB 35 = .ok (.iload_n 3, 1) := by decide +kernel
theorem d36 : decode yB 36 = .ok (.invokestatic 177, 3) := by decide +kernel
theorem d39 : decode yB 39 = .ok (.astore 5, 2) := by decide +kernel
theorem d41 : decode yB 41 = .ok (.aload_n 0, 1) := by decide +kernel
theorem d42 : decode yB 42 = .ok (.aload 5, 2) := by decide +kernel
theorem d44 : decode yB 44 = .ok (.iload_n 3, 1) := by decide +kernel
theorem d45 : decode yB 45 = .ok (.invokestatic 47, 3) := by decide +kernel
theorem d48 : decode yB 48 = .ok (.putfield 15, 3) := by decide +kernel
theorem d51 : decode yB 51 = .ok (.aload_n 0, 1) := by decide +kernel
theorem d52 : decode yB 52 = .ok (.aload 5, 2) := by decide +kernel
theorem d54 : decode yB 54 = .ok (.putfield 9, 3) := by decide +kernel
theorem d57 : decode yB 57 = .ok (.return_, 1) := by decide +kernel
def site : List Cond := [.fieldLink "java/lang/String" 38 "java/lang/String" "COMPACT_STRINGS" "Z", Cmp3.tab, CodL.tab, .laysFinal "java/lang/String" "java/lang/String" "value" "[B", .fieldLink "java/lang/String" 9 "java/lang/String" "value" "[B", .laysFinal "java/lang/String" "java/lang/String" "coder" "B", .fieldLink "java/lang/String" 15 "java/lang/String" "coder" "B"] ++ objW "java/lang/String" 1 ++ staticW "java/lang/String" 177 Cmp3.yN ++ staticW "java/lang/String" 47 CodL.yN
def tab : Cond := tabOf yN yB 6 none site
def P (a : Addr) (D : Cell) (fV fC : Field) (b : Addr) (A : Cell) (z : Int32) (o len : Nat) (args : Array Value) (s : State) : Prop := args = #[.ref a, .ref b, .int (Int32.ofNat o), .int (Int32.ofNat len), .null] ∧ Blank "java/lang/String" a D s ∧ Found "java/lang/String" "value" "[B" fV s ∧ Found "java/lang/String" "coder" "B" fC s ∧ Ch b A s ∧ StaticIs s "java/lang/String" "COMPACT_STRINGS" "Z" (.int z) ∧ ¬ z = 0 ∧ 0 < len ∧ o + len ≤ A.slots.size ∧ len ≤ 536870912 ∧ ∀ i, i < len → ¬ 255 < cv A (o + i)
def E (a : Addr) (D : Cell) (fV fC : Field) (A : Cell) (o len : Nat) (r : Option Value) (s u : State) : Prop := Got a D fV fC A o len r s u
/-- len > 0, no char of the range above 255: a Latin-1 String of their low bytes -/
theorem law (l : Launch) (a : Addr) (D : Cell) (fV fC : Field) (b : Addr) (A : Cell) (z : Int32) (o len : Nat) : Law l yN 5 4 2 35 yB 6 none site (P a D fV fC b A z o len) (E a D fV fC A o len) [⟨a, fC.slot⟩, ⟨a, fV.slot⟩] 1 len := by
  refine Law.of_walk (plainFor_of_name (by decide +kernel)) (by decide +kernel) (by decide +kernel) (by decide) (fun _ _ h => by rw [h.1]; rfl) (fun _ U U' hal hh h => ⟨h.1, h.2.1.mv hal hh, h.2.2.1.al hal, h.2.2.2.1.al hal, h.2.2.2.2.1.mv hal hh, h.2.2.2.2.2.1.there hal hh, h.2.2.2.2.2.2⟩) (fun r U U' V V' h1 hal h2 h => Got.mv r U U' V V' h1 hal h2 h) ?_
  intro p e s m args below meth c s₁ X0 hexec hbytes hml hret hlk hnm hown hh0 W hP
  obtain ⟨rfl, hB, f1, f2, hA, s1, hz, l0, l1, l2, hp⟩ := hP
  have a31 := hA.1.2.2.2
  have c1 : Steps p.tables e below (s₁.setTop (entryFrame m #[.ref a, .ref b, .int (Int32.ofNat o), .int (Int32.ofNat len), .null] 6)) (s₁.setTop (mkF m 0 #[.val (.ref a), .val (.ref b), .val (.int (Int32.ofNat o)), .val (.int (Int32.ofNat len)), .val .null, .unset] [])) := entry rfl
  have c2 : Steps p.tables e below (s₁.setTop (entryFrame m #[.ref a, .ref b, .int (Int32.ofNat o), .int (Int32.ofNat len), .null] 6)) (s₁.setTop (mkF m 1 #[.val (.ref a), .val (.ref b), .val (.int (Int32.ofNat o)), .val (.int (Int32.ofNat len)), .val .null, .unset] [.ref a])) := c1.trans (by
    refine XS.aloadN X0.here hexec rfl (hb hbytes d0) rfl rfl ?_
    exact Steps.refl _)
  obtain ⟨T3, X3, q3, st3⟩ := X0.oinit hexec hown (wks W (objW "java/lang/String" 1)) (g := (mkF m 1 #[.val (.ref a), .val (.ref b), .val (.int (Int32.ofNat o)), .val (.int (Int32.ofNat len)), .val .null, .unset] [.ref a])) rfl (by rw [hml]; rfl) (rest := []) rfl (hb hbytes d1) (W := 0) (by show 2 * 0 + 0 ≤ _; decide) (Nat.le_of_ble_eq_true rfl) (Nat.le_of_ble_eq_true rfl)
  have hh3 := q3.trans hh0
  have c4 : Steps p.tables e below (s₁.setTop (entryFrame m #[.ref a, .ref b, .int (Int32.ofNat o), .int (Int32.ofNat len), .null] 6)) (T3.setTop (mkF m 27 #[.val (.ref a), .val (.ref b), .val (.int (Int32.ofNat o)), .val (.int (Int32.ofNat len)), .val .null, .unset] [])) := (c2.trans (st3 _ (Steps.refl _))).trans (by
    refine XS.iloadN X3.here hexec rfl (hb hbytes d4) rfl ?_
    refine XS.ifYes X3.here hexec rfl (pc0 := 5) rfl (hb hbytes d5) rfl (i0_ne_t (nz32 (by omega) l0)) (by decide) rfl ?_
    exact Steps.refl _)
  obtain ⟨T5, X5, q5, st5⟩ := X3.sget hexec hown (wk W (.fieldLink "java/lang/String" 38 "java/lang/String" "COMPACT_STRINGS" "Z")) s1 (fun _ _ h => by rw [hh3]; exact h) (g := (mkF m 27 #[.val (.ref a), .val (.ref b), .val (.int (Int32.ofNat o)), .val (.int (Int32.ofNat len)), .val .null, .unset] [])) rfl (hb hbytes d27)
  have hh5 := q5.trans hh3
  have c6 : Steps p.tables e below (s₁.setTop (entryFrame m #[.ref a, .ref b, .int (Int32.ofNat o), .int (Int32.ofNat len), .null] 6)) (T5.setTop (mkF m 30 #[.val (.ref a), .val (.ref b), .val (.int (Int32.ofNat o)), .val (.int (Int32.ofNat len)), .val .null, .unset] [.int z])) := c4.trans (st5 _ (Steps.refl _))
  have c7 : Steps p.tables e below (s₁.setTop (entryFrame m #[.ref a, .ref b, .int (Int32.ofNat o), .int (Int32.ofNat len), .null] 6)) (T5.setTop (mkF m 36 #[.val (.ref a), .val (.ref b), .val (.int (Int32.ofNat o)), .val (.int (Int32.ofNat len)), .val .null, .unset] [.int (Int32.ofNat len), .int (Int32.ofNat o), .ref b])) := c6.trans (by
    refine XS.ifNo X5.here hexec rfl (hb hbytes d30) rfl (i0_eq_f hz) ?_
    refine XS.aloadN X5.here hexec rfl (hb hbytes d33) rfl rfl ?_
    refine XS.iloadN X5.here hexec rfl (hb hbytes d34) rfl ?_
    refine XS.iloadN X5.here hexec rfl (hb hbytes d35) rfl ?_
    exact Steps.refl _)
  obtain ⟨v8, T8, X8, E8, g8⟩ := X5.callS hexec (Cmp3.law l b A o len) hown (wks W (staticW "java/lang/String" 177 Cmp3.yN)) (wk W Cmp3.tab) (W := 0) (Nat.le_of_ble_eq_true rfl) (Nat.le_of_ble_eq_true rfl) (Nat.le_refl _) (by show 0 + len ≤ len; omega) (g := (mkF m 36 #[.val (.ref a), .val (.ref b), .val (.int (Int32.ofNat o)), .val (.int (Int32.ofNat len)), .val .null, .unset] [.int (Int32.ofNat len), .int (Int32.ofNat o), .ref b])) rfl (by rw [hml]; rfl) c7 (argsL := [.ref b, .int (Int32.ofNat o), .int (Int32.ofNat len)]) (rest := []) rfl rfl (by show 2 * 0 + 0 ≤ _; decide) (hb hbytes d36) (⟨rfl, hA.mv X5.warmed.alike hh5, l1, l2, hp⟩)
  obtain ⟨e8, z8⟩ := E8
  obtain ⟨rfl, N, n1, n2, n3, n4, n5, n6⟩ := NewArr.mv _ T5 s _ _ hh5.symm (Vm.Alike.refl _) rfl e8
  rw [hh5] at z8
  have hB1 := hB.keep X8.warmed.alike (n6 _ _ hB.1)
  have hne : s.heap.size ≠ a := (Nat.ne_of_lt (Array.getElem?_eq_some_iff.mp hB.1).1).symm
  have c9 : Steps p.tables e below (s₁.setTop (entryFrame m #[.ref a, .ref b, .int (Int32.ofNat o), .int (Int32.ofNat len), .null] 6)) (T8.setTop (mkF m 39 #[.val (.ref a), .val (.ref b), .val (.int (Int32.ofNat o)), .val (.int (Int32.ofNat len)), .val .null, .unset] [.ref s.heap.size])) := g8
  have c10 : Steps p.tables e below (s₁.setTop (entryFrame m #[.ref a, .ref b, .int (Int32.ofNat o), .int (Int32.ofNat len), .null] 6)) (T8.setTop (mkF m 45 #[.val (.ref a), .val (.ref b), .val (.int (Int32.ofNat o)), .val (.int (Int32.ofNat len)), .val .null, .val (.ref s.heap.size)] [.int (Int32.ofNat N.slots.size), .ref s.heap.size, .ref a])) := by
    have hc : Steps p.tables e below (s₁.setTop (entryFrame m #[.ref a, .ref b, .int (Int32.ofNat o), .int (Int32.ofNat len), .null] 6)) (T8.setTop (mkF m 45 #[.val (.ref a), .val (.ref b), .val (.int (Int32.ofNat o)), .val (.int (Int32.ofNat len)), .val .null, .val (.ref s.heap.size)] [.int (Int32.ofNat len), .ref s.heap.size, .ref a])) := c9.trans (by
      refine XS.astore X8.here hexec rfl (hb hbytes d39) rfl rfl rfl ?_
      refine XS.aloadN X8.here hexec rfl (hb hbytes d41) rfl rfl ?_
      refine XS.aload X8.here hexec rfl (hb hbytes d42) rfl rfl ?_
      refine XS.iloadN X8.here hexec rfl (hb hbytes d44) rfl ?_
      exact Steps.refl _)
    rw [n4]; exact hc
  obtain ⟨v11, T11, X11, E11, g11⟩ := X8.callS hexec (CodL.law l s.heap.size N) hown (wks W (staticW "java/lang/String" 47 CodL.yN)) (wk W CodL.tab) (W := 1) (Nat.le_of_ble_eq_true rfl) (Nat.le_of_ble_eq_true rfl) (Nat.le_refl _) (by show 0 + len + 0 ≤ len; omega) (g := (mkF m 45 #[.val (.ref a), .val (.ref b), .val (.int (Int32.ofNat o)), .val (.int (Int32.ofNat len)), .val .null, .val (.ref s.heap.size)] [.int (Int32.ofNat N.slots.size), .ref s.heap.size, .ref a])) rfl (by rw [hml]; rfl) c10 (argsL := [.ref s.heap.size, .int (Int32.ofNat N.slots.size)]) (rest := [.ref a]) rfl rfl (by show 2 * 0 + (1 + 0) ≤ _; decide) (hb hbytes d45) (⟨rfl, n1⟩)
  obtain ⟨rfl, q11⟩ := E11
  have hB11 := hB1.mv (X8.warmed.alike.symm.trans X11.warmed.alike) q11
  have c12 : Steps p.tables e below (s₁.setTop (entryFrame m #[.ref a, .ref b, .int (Int32.ofNat o), .int (Int32.ofNat len), .null] 6)) (T11.setTop (mkF m 48 #[.val (.ref a), .val (.ref b), .val (.int (Int32.ofNat o)), .val (.int (Int32.ofNat len)), .val .null, .val (.ref s.heap.size)] [.int 0, .ref a])) := g11
  obtain ⟨T13, X13, p13, bl13, sl13, st13⟩ := X11.finit hexec hown (wk W (.fieldLink "java/lang/String" 15 "java/lang/String" "coder" "B")) (Or.inr ⟨_, (wk W (.laysFinal "java/lang/String" "java/lang/String" "coder" "B"))⟩) (Or.inl ⟨rfl, hnm⟩) f2 (Or.inl rfl) hB11 (t := .byte) (by decide +kernel) rfl (g := (mkF m 48 #[.val (.ref a), .val (.ref b), .val (.int (Int32.ofNat o)), .val (.int (Int32.ofNat len)), .val .null, .val (.ref s.heap.size)] [.int 0, .ref a])) rfl (rest := []) rfl (hb hbytes d48)
  have c14 : Steps p.tables e below (s₁.setTop (entryFrame m #[.ref a, .ref b, .int (Int32.ofNat o), .int (Int32.ofNat len), .null] 6)) (T13.setTop (mkF m 54 #[.val (.ref a), .val (.ref b), .val (.int (Int32.ofNat o)), .val (.int (Int32.ofNat len)), .val .null, .val (.ref s.heap.size)] [.ref s.heap.size, .ref a])) := (c12.trans (st13 _ (Steps.refl _))).trans (by
    refine XS.aloadN X13.here hexec rfl (hb hbytes d51) rfl rfl ?_
    refine XS.aload X13.here hexec rfl (hb hbytes d52) rfl rfl ?_
    exact Steps.refl _)
  obtain ⟨T15, X15, p15, bl15, sl15, st15⟩ := X13.finit hexec hown (wk W (.fieldLink "java/lang/String" 9 "java/lang/String" "value" "[B")) (Or.inr ⟨_, (wk W (.laysFinal "java/lang/String" "java/lang/String" "value" "[B"))⟩) (Or.inl ⟨rfl, hnm⟩) f1 (Or.inl rfl) bl13 (t := (.array .byte)) (by decide +kernel) rfl (g := (mkF m 54 #[.val (.ref a), .val (.ref b), .val (.int (Int32.ofNat o)), .val (.int (Int32.ofNat len)), .val .null, .val (.ref s.heap.size)] [.ref s.heap.size, .ref a])) rfl (rest := []) rfl (hb hbytes d54)
  have c16 : Steps p.tables e below (s₁.setTop (entryFrame m #[.ref a, .ref b, .int (Int32.ofNat o), .int (Int32.ofNat len), .null] 6)) (T15.setTop (mkF m 57 #[.val (.ref a), .val (.ref b), .val (.int (Int32.ofNat o)), .val (.int (Int32.ofNat len)), .val .null, .val (.ref s.heap.size)] [])) := c14.trans (st15 _ (Steps.refl _))
  have ap := apart (Or.inr ⟨_, (wk W (.laysFinal "java/lang/String" "java/lang/String" "value" "[B"))⟩) (Or.inr ⟨_, (wk W (.laysFinal "java/lang/String" "java/lang/String" "coder" "B"))⟩) f1 f2 (t₁ := .array .byte) (t₂ := .byte) (by decide +kernel) (by decide +kernel) (by decide)
  have al := X8.warmed.alike.symm.trans X15.warmed.alike
  have n7 : T11.heap[s.heap.size]? = some N := by rw [q11]; exact n1.1
  exact ⟨T15, none, _, _, _, X15, by simp, rfl, by omega, (fun _ => rfl), ⟨rfl, _, N, bl15, ((Same.refl D _).set _ (by simp)).set _ (by simp), sl15, (Cell.slots_setSlot_ne _ ap).trans sl13, n1.keep al (p15.other hne (p13.other hne n7)), n2, by rw [al.findClass]; exact n3, n4, n5, fun y c h1 h2 => p15.other h1 (p13.other h1 (by rw [q11]; exact n6 y c h2)), by rw [p15.2.2, p13.2.2, q11]; exact z8⟩, fun fs hl => c16.trans (X15.returnOut hexec hret (hb hbytes d57) hl)⟩
end New4
namespace New1
def yN : MethodName := ⟨"java/lang/String", "<init>", "([C)V"⟩
abbrev yB : ByteArray := jdk_42_method_3_code
theorem d0 : decode yB 0 = .ok (.aload_n 0, 1) := by decide +kernel
theorem d1 : decode yB 1 = .ok (.aload_n 1, 1) := by decide +kernel
theorem d2 : decode yB 2 = .ok (.iconst 0, 1) := by decide +kernel
theorem d3 : decode yB 3 = .ok (.aload_n 1, 1) := by decide +kernel
theorem d4 : decode yB 4 = .ok (.arraylength, 1) := by decide +kernel
theorem d5 : decode yB 5 = .ok (.aconst_null, 1) := by decide +kernel
theorem d6 : decode yB 6 = .ok (.invokespecial 27, 3) := by decide +kernel
theorem d9 : decode yB 9 = .ok (.return_, 1) := by decide +kernel
def site : List Cond := [New4.tab] ++ initW "java/lang/String" 27 New4.yN
def tab : Cond := tabOf yN yB 2 none site
def P (a : Addr) (D : Cell) (fV fC : Field) (b : Addr) (A : Cell) (z : Int32) (args : Array Value) (s : State) : Prop := args = #[.ref a, .ref b] ∧ Blank "java/lang/String" a D s ∧ Found "java/lang/String" "value" "[B" fV s ∧ Found "java/lang/String" "coder" "B" fC s ∧ Ch b A s ∧ StaticIs s "java/lang/String" "COMPACT_STRINGS" "Z" (.int z) ∧ ¬ z = 0 ∧ 0 < A.slots.size ∧ A.slots.size ≤ 536870912 ∧ ∀ i, i < A.slots.size → ¬ 255 < cv A i
def E (a : Addr) (D : Cell) (fV fC : Field) (A : Cell) (r : Option Value) (s u : State) : Prop := Got a D fV fC A 0 A.slots.size r s u
/-- new String(chars), not empty, no char above 255: a Latin-1 String of their low bytes -/
theorem law (l : Launch) (a : Addr) (D : Cell) (fV fC : Field) (b : Addr) (A : Cell) (z : Int32) : Law l yN 2 1 3 52 yB 2 none site (P a D fV fC b A z) (E a D fV fC A) [⟨a, fC.slot⟩, ⟨a, fV.slot⟩] 1 A.slots.size := by
  refine Law.of_walk (plainFor_of_name (by decide +kernel)) (by decide +kernel) (by decide +kernel) (by decide) (fun _ _ h => by rw [h.1]; rfl) (fun _ U U' hal hh h => ⟨h.1, h.2.1.mv hal hh, h.2.2.1.al hal, h.2.2.2.1.al hal, h.2.2.2.2.1.mv hal hh, h.2.2.2.2.2.1.there hal hh, h.2.2.2.2.2.2⟩) (fun r U U' V V' h1 hal h2 h => Got.mv r U U' V V' h1 hal h2 h) ?_
  intro p e s m args below meth c s₁ X0 hexec hbytes hml hret hlk hnm hown hh0 W hP
  obtain ⟨rfl, hB, f1, f2, hA, s1, hz, l0, l2, hp⟩ := hP
  have c1 : Steps p.tables e below (s₁.setTop (entryFrame m #[.ref a, .ref b] 2)) (s₁.setTop (mkF m 0 #[.val (.ref a), .val (.ref b)] [])) := entry rfl
  have c2 : Steps p.tables e below (s₁.setTop (entryFrame m #[.ref a, .ref b] 2)) (s₁.setTop (mkF m 6 #[.val (.ref a), .val (.ref b)] [.null, .int (Int32.ofNat A.slots.size), .int 0, .ref b, .ref a])) := c1.trans (by
    refine XS.aloadN X0.here hexec rfl (hb hbytes d0) rfl rfl ?_
    refine XS.aloadN X0.here hexec rfl (hb hbytes d1) rfl rfl ?_
    refine iconstV X0.here hexec rfl 0 (hb hbytes d2) (by decide) ?_
    refine XS.aloadN X0.here hexec rfl (hb hbytes d3) rfl rfl ?_
    refine X0.alen hexec (hA.1.mv X0.warmed.alike hh0) rfl rfl (hb hbytes d4) ?_
    refine XS.aconstNull X0.here hexec rfl (hb hbytes d5) ?_
    exact Steps.refl _)
  obtain ⟨v3, T3, X3, E3, g3⟩ := X0.callN hexec (New4.law l a D fV fC b A z 0 A.slots.size) rfl hown (wks W (initW "java/lang/String" 27 New4.yN)) (W New4.tab (by simp only [site, List.mem_cons, List.mem_append, true_or, or_true])) (W := 0) (Nat.le_of_ble_eq_true rfl) (Nat.le_of_ble_eq_true rfl) (Nat.le_refl _) (by show 0 + A.slots.size ≤ A.slots.size; omega) (g := (mkF m 6 #[.val (.ref a), .val (.ref b)] [.null, .int (Int32.ofNat A.slots.size), .int (Int32.ofNat 0), .ref b, .ref a])) rfl (by rw [hml]; rfl) c2 (argsL := [.ref b, .int (Int32.ofNat 0), .int (Int32.ofNat A.slots.size), .null]) (rest := []) rfl rfl (by show 2 * 0 + 0 ≤ _; decide) (hb hbytes d6) (⟨rfl, hB.mv X0.warmed.alike hh0, f1.al X0.warmed.alike, f2.al X0.warmed.alike, hA.mv X0.warmed.alike hh0, s1.there X0.warmed.alike hh0, hz, l0, by omega, l2, fun i hi => by rw [Nat.zero_add]; exact hp i hi⟩)
  have e0 := Got.mv _ s₁ s _ _ hh0.symm (Vm.Alike.refl _) rfl E3
  obtain rfl := e0.1
  have c4 : Steps p.tables e below (s₁.setTop (entryFrame m #[.ref a, .ref b] 2)) (T3.setTop (mkF m 9 #[.val (.ref a), .val (.ref b)] [])) := g3
  exact ⟨T3, none, _, _, _, X3, by simp, rfl, by omega, (fun _ => rfl), e0, fun fs hl => c4.trans (X3.returnOut hexec hret (hb hbytes d9) hl)⟩
theorem pays {l : Launch} {R : Room} {p : Program} {e : Env} {below : List Frame} {s : State} {sargs : Array Value} {len W : Nat} (a : Addr) (D : Cell) (fV fC : Field) (b : Addr) (A : Cell) (z : Int32) (htab : tab.before sargs s = true) (hfr : 4 ≤ R.frames) (hlo : W + 65 ≤ R.locals) :
    Back l R p e below s sargs yN len W (fun A₁ a₁ => A₁.cells + 1 ≤ R.cells ∧ A₁.slots + A.slots.size ≤ R.slots ∧ P a D fV fC b A z a₁ A₁.U) (fun A₁ _ v₁ B₁ => E a D fV fC A v₁ A₁.U B₁.U ∧ B₁.locs = A₁.locs ++ [⟨a, fC.slot⟩, ⟨a, fV.slot⟩] ∧ B₁.cells = A₁.cells + 1 ∧ B₁.slots = A₁.slots + A.slots.size) :=
  (law l a D fV fC b A z).pays htab hfr (by omega)
end New1
/-- the byte, read back as charAt reads it, is the char -/
theorem lo8_mask {x : Int32} (h0 : ¬ x < 0) (h1 : ¬ 255 < x) : lo8 x &&& 255 = x := by
  have t : ∀ k : Fin 256, lo8 (Int32.ofNat k.val) &&& 255 = Int32.ofNat k.val := by decide +kernel
  rw [Int32.lt_iff_toInt_lt] at h0 h1
  have e0 : (0 : Int32).toInt = 0 := rfl
  have e1 : (255 : Int32).toInt = 255 := rfl
  obtain ⟨k, hk⟩ : ∃ k : Nat, x.toInt = k := ⟨x.toInt.toNat, by omega⟩
  have hx : x = Int32.ofNat k := Int32.toInt_inj.mp (by rw [hk, Int32.toInt_ofNat_small (by omega)])
  rw [hx]
  exact t ⟨k, by omega⟩
end StrChars
namespace StrChars.Road
open Jvm Sem ClassFile Op Lib Jvm.Stand Jvm.Free Jvm.Free.XT
open Jvm.Lib.Cold (StaticIs)
abbrev ST : String := "java/lang/String"
/-- every table word that New1's law asks, flat -/
abbrev words : List Jvm.Cond := [.code New1.yN New1.yB 2 none, .initialized ST, .methodLink ST 27 New4.yN, .instanceMethod New4.yN,
  .code New4.yN New4.yB 6 none, .fieldLink ST 38 ST "COMPACT_STRINGS" "Z", .laysFinal ST ST "value" "[B", .fieldLink ST 9 ST "value" "[B", .laysFinal ST ST "coder" "B", .fieldLink ST 15 ST "coder" "B",
  .methodLink ST 1 Lib.objectInit, .instanceMethod Lib.objectInit, .code Lib.objectInit ⟨#[0xb1]⟩ 1 none, .methodLink ST 177 Cmp3.yN, .static Cmp3.yN, .methodLink ST 47 CodL.yN, .static CodL.yN,
  .code Cmp3.yN Cmp3.yB 6 (some (.array .byte)), .initialized U16, .arrayClass .byte, .methodLink U16 115 Cmp5.yN, .static Cmp5.yN, .code Cmp5.yN Cmp5.yB 7 (some .int), .code CodL.yN CodL.yB 2 (some .byte)]
theorem tab_of {a : Array Value} {s : State} (h : ∀ w ∈ words, w.before a s = true) : New1.tab.before a s = true := by
  have h5 : Cmp5.tab.before a s = true := unparts (wk h (.code Cmp5.yN Cmp5.yB 7 (some .int))) (wks h (.initialized Cmp5.yN.cls :: Cmp5.site))
  have hc : CodL.tab.before a s = true := unparts (wk h (.code CodL.yN CodL.yB 2 (some .byte))) (wks h (.initialized CodL.yN.cls :: CodL.site))
  have q5 : ∀ w ∈ Cmp5.tab :: words, w.before a s = true := fun w hw => (List.mem_cons.mp hw).elim (fun e => e ▸ h5) (h w)
  have h3 : Cmp3.tab.before a s = true := unparts (wk q5 (.code Cmp3.yN Cmp3.yB 6 (some (.array .byte)))) (wks q5 (.initialized Cmp3.yN.cls :: Cmp3.site))
  have q3 : ∀ w ∈ Cmp3.tab :: CodL.tab :: words, w.before a s = true := fun w hw => (List.mem_cons.mp hw).elim (fun e => e ▸ h3) fun hw => (List.mem_cons.mp hw).elim (fun e => e ▸ hc) (h w)
  have h4 : New4.tab.before a s = true := unparts (wk q3 (.code New4.yN New4.yB 6 none)) (wks q3 (.initialized New4.yN.cls :: New4.site))
  have q4 : ∀ w ∈ New4.tab :: words, w.before a s = true := fun w hw => (List.mem_cons.mp hw).elim (fun e => e ▸ h4) (h w)
  exact unparts (wk q4 (.code New1.yN New1.yB 2 none)) (wks q4 (.initialized New1.yN.cls :: New1.site))
/-- the words ride from the start Z to the walk's own state -/
theorem moved {Z s : State} {a0 args : Array Value} (hZ : Z.Warmed39 s.vm) (hw : ∀ d ∈ words, d.before a0 Z = true) : ∀ d ∈ words, d.before args s = true := fun d hd => by
  have q := hw d hd
  have t : ∀ d ∈ words, d = .arrayClass .byte ∨ (d.onTables && d.keepsFace) = true := by decide +kernel
  rcases t d hd with rfl | t
  · exact RoadKit.mvA hZ q
  · exact RoadKit.mv hZ q t
/-- WHAT COMES BACK, over the tables of the start Z: h the heap at the call, h' behind it -/
def Q (Z : State) (x : Addr) (A : Cell) (h : Heap) (v : Option Value) (h' : Heap) (L : List Loc) : Prop := v = none ∧ (∀ y ∈ L, y.base = x) ∧ RoadKit.Keep h h' [x] ∧ h'.size = h.size + 1 ∧ RoadKit.Exa Z h' x ST ∧ RoadKit.Fld Z h' x ST "value" "[B" (.ref h.size) ∧ RoadKit.Fld Z h' x ST "coder" "B" (.int 0) ∧
  (∃ V : Cell, RoadKit.Arr Z h' h.size V .byte ∧ V.vm = .none ∧ Z.vm.findClass "[B" = some V.cls ∧ V.slots.size = A.slots.size ∧ ∀ j, j < A.slots.size → V.slots[j]? = some (.int (lo8 (cv A j)))) ∧
  ∀ (O n d : String) (w : Value), RoadKit.Fld Z h x O n d w → RoadKit.slotOf Z O n d ≠ RoadKit.slotOf Z ST "value" "[B" → RoadKit.slotOf Z O n d ≠ RoadKit.slotOf Z ST "coder" "B" → RoadKit.Fld Z h' x O n d w
/-- **new String(chars) AT A CALL, IN THE ROAD'S FORM**: for specialBack behind newO: x the fresh String, b the char[] with the cell A -/
theorem back {p : Program} {l : Launch} {e : Env} {R : Room} {s : State} {args : Array Value} {below : List Frame} {len W : Nat} {Z : State} {a0 : Array Value} {h : Heap} (hZ : Z.Warmed39 s.vm) (hw : ∀ d ∈ words, d.before a0 Z = true) {kI : Nat} (wi : (Jvm.Cond.instantiable ST kI).before a0 Z = true)
    {x b : Addr} {A : Cell} {z : Int32} {v0 c0 : Value} (E : RoadKit.Exa Z h x ST) (V : RoadKit.Fld Z h x ST "value" "[B" v0) (C : RoadKit.Fld Z h x ST "coder" "B" c0) (K : RoadKit.Arr Z h b A .char) (hty : Typed .char A) (S : RoadKit.Sta Z h ST "COMPACT_STRINGS" "Z" (.int z)) (hz : ¬ z = 0)
    (l0 : 0 < A.slots.size) (l2 : A.slots.size ≤ 536870912) (hp : ∀ i, i < A.slots.size → ¬ 255 < cv A i) (hfr : 4 ≤ R.frames) (hlo : W + 65 ≤ R.locals) :
    Back l R p e below s args New1.yN len W (fun P a => a = #[.ref x, .ref b] ∧ P.U.heap = h ∧ P.cells + 1 ≤ R.cells ∧ P.slots + A.slots.size ≤ R.slots)
      (fun P _ v B => ∃ L, Q Z x A h v B.U.heap L ∧ B.locs = P.locs ++ L ∧ B.cells = P.cells + 1 ∧ B.slots = P.slots + A.slots.size) := by
  intro m meth c P g ig mk a X hg hsize hdg hW hn hp'
  obtain ⟨rfl, rfl, r1, r2⟩ := hp'
  have al : Z.vm.Alike P.U.vm := hZ.alike.trans X.warmed.alike
  obtain ⟨D, cfV, kV, iV, fV, hD, gV, stV, knV, obV, asV, slV⟩ := id V
  obtain ⟨D', cfC, kC, iC, fC, hD', gC, stC, -, -, asC, slC⟩ := id C
  cases hD.symm.trans hD'
  obtain ⟨D2, kD, e1, e2, e3, e4, e5⟩ := id E
  cases hD.symm.trans e1
  obtain ⟨c2, k2, i1, i2, i3, -⟩ := Cond.instantiable_spec wi
  cases e2.symm.trans i1
  cases e3.symm.trans i2
  obtain ⟨kU, u1, u2⟩ := al.2.2 _ _ e3
  have hB : Blank ST x D P.U := ⟨hD, ⟨knV, fun q hq => by rw [hq] at obV; cases obV⟩, by rw [al.findClass]; exact e2, kU, u1, by rw [u2]; exact i3, by rw [u2]; exact e5 i3⟩
  have F1 : Found ST "value" "[B" fV P.U := ⟨SBG.found_only al ⟨cfV, kV, iV, gV⟩, stV⟩
  have F2 : Found ST "coder" "B" fC P.U := ⟨SBG.found_only al ⟨cfC, kC, iC, gC⟩, stC⟩
  have hA : Ch b A P.U := ⟨⟨K.1, State.isArrayOf_alike al K.2.1, K.2.2, by omega⟩, hty⟩
  have hS : StaticIs P.U ST "COMPACT_STRINGS" "Z" (.int z) := by
    obtain ⟨cfS, iS, kS, fS, st, cS, t1, t2, t3, t4, t5, t6, t7⟩ := S
    exact StaticIs.there (s := { Z with heap := P.U.heap }) ⟨cfS, iS, kS, fS, st, cS, t1, t2, t3, t4, t5, (fun q => by rw [q] at t6; cases t6), t7⟩ al rfl
  obtain ⟨v, B, X', ⟨⟨hv, E', V', q1, q2, q3, q4, q5, q6, q7, q8, q9, q10, q11⟩, hl, hc, hs⟩, st⟩ := New1.pays x D fV fC b A z (tab_of (moved hZ hw)) hfr hlo m meth c P g ig mk _ X hg hsize hdg hW hn ⟨r1, r2, rfl, hB, F1, F2, hA, hS, hz, l0, l2, hp⟩
  have al' : Z.vm.Alike B.U.vm := hZ.alike.trans X'.warmed.alike
  have hsz : E'.slots.size = D.slots.size := by
    obtain ⟨-, -, -, kB, w1, w2, w3⟩ := q1
    obtain ⟨kB', y1, y2⟩ := al'.2.2 _ _ e3
    rw [q2.2.1] at w1
    cases w1.symm.trans y1
    rw [w3, e5 i3, y2]
  refine ⟨v, B, X', ⟨_, ⟨hv, ?_, ⟨by omega, fun y cy hy hn' => q10 y cy (by simpa using hn') hy, fun y cy hy => ?_⟩, q11, ⟨E', _, q1.1, by rw [q2.2.1]; exact e2, by rw [q2.2.1]; exact e3, by rw [q2.1]; exact obV, fun _ => by rw [hsz]; exact e5 i3⟩,
    ⟨E', cfV, kV, iV, fV, q1.1, gV, stV, by rw [q2.1]; exact knV, by rw [q2.1]; exact obV, by rw [q2.2.1]; exact asV, q3⟩, ⟨E', cfC, kC, iC, fC, q1.1, gC, stC, by rw [q2.1]; exact knV, by rw [q2.1]; exact obV, by rw [q2.2.1]; exact asC, q4⟩,
    ⟨V', ⟨q5.1, State.isArrayOf_alike al'.symm q5.2.1, q5.2.2.1⟩, q6, by rw [← al'.findClass]; exact q7, q8, fun j hj => by have := q9 j hj; rwa [Nat.zero_add] at this⟩, fun O n d w F n1 n2 => ?_⟩, hl, hc, hs⟩, st⟩
  · intro y hy
    simp only [List.mem_cons, List.not_mem_nil, or_false] at hy
    rcases hy with rfl | rfl <;> rfl
  · by_cases q : y = x
    · subst q
      cases hD.symm.trans hy
      exact ⟨E', q1.1, q2.2.1, q2.1, hsz⟩
    · exact ⟨cy, q10 y cy q hy, rfl, rfl, rfl⟩
  · obtain ⟨D3, cf, k, i, f, g1, g2, g3, g4, g5, g6, g7⟩ := F
    cases hD.symm.trans g1
    simp only [RoadKit.slotOf, g2, gV, gC, Option.map_some, Option.getD_some] at n1 n2
    exact ⟨E', cf, k, i, f, q1.1, g2, g3, by rw [q2.1]; exact g4, by rw [q2.1]; exact g5, by rw [q2.2.1]; exact g6, by rw [q2.2.2 f.slot (by simp [n1, n2])]; exact g7⟩
end StrChars.Road
namespace StrChars.Road
open Jvm Sem ClassFile Op Lib Jvm.Stand Jvm.Free Jvm.Free.XT
/-- WHAT COMES BACK, the byte[] as a list of values -/
def QA (Z : State) (x : Addr) (zn : Int32) (cs : List Int32) (h : Heap) (v : Option Value) (h' : Heap) (L : List Loc) : Prop := v = none ∧ (∀ y ∈ L, y.base = x) ∧ RoadKit.Keep h h' [x] ∧ h'.size = h.size + 1 ∧ RoadKit.Exa Z h' x ST ∧ RoadKit.Fld Z h' x ST "value" "[B" (.ref h.size) ∧ RoadKit.Fld Z h' x ST "coder" "B" (.int 0) ∧
  (∃ kb, Z.vm.findClass "[B" = some kb ∧ RoadKit.Arv Z h' h.size kb .byte zn (cs.map fun c => .int (lo8 c)) (.int 0)) ∧
  ∀ (O n d : String) (w : Value), RoadKit.Fld Z h x O n d w → RoadKit.slotOf Z O n d ≠ RoadKit.slotOf Z ST "value" "[B" → RoadKit.slotOf Z O n d ≠ RoadKit.slotOf Z ST "coder" "B" → RoadKit.Fld Z h' x O n d w
/-- **new String(chars) AT A CALL, THE ARRAYS AS LISTS**: the char[] at b holds cs, not empty, no char above 255 -/
theorem backArv {p : Program} {l : Launch} {e : Env} {R : Room} {s : State} {args : Array Value} {below : List Frame} {len W : Nat} {Z : State} {a0 : Array Value} {h : Heap} (hZ : Z.Warmed39 s.vm) (hw : ∀ d ∈ words, d.before a0 Z = true) {kI : Nat} (wi : (Jvm.Cond.instantiable ST kI).before a0 Z = true)
    {x b : Addr} {k : ClassId} {zn z : Int32} {cs : List Int32} {dv v0 c0 : Value} (E : RoadKit.Exa Z h x ST) (V : RoadKit.Fld Z h x ST "value" "[B" v0) (C : RoadKit.Fld Z h x ST "coder" "B" c0) (K : RoadKit.Arv Z h b k .char zn (cs.map Value.int) dv) (S : RoadKit.Sta Z h ST "COMPACT_STRINGS" "Z" (.int z)) (hz : ¬ z = 0)
    (hlen : zn.toNatClampNeg = cs.length) (h0 : 0 < cs.length) (hbig : cs.length ≤ 536870912) (hall : ∀ c ∈ cs, ¬ 255 < c) (hfr : 4 ≤ R.frames) (hlo : W + 65 ≤ R.locals) :
    Back l R p e below s args New1.yN len W (fun P a => a = #[.ref x, .ref b] ∧ P.U.heap = h ∧ P.cells + 1 ≤ R.cells ∧ P.slots + cs.length ≤ R.slots)
      (fun P _ v B => ∃ L, QA Z x zn cs h v B.U.heap L ∧ B.locs = P.locs ++ L ∧ B.cells = P.cells + 1 ∧ B.slots = P.slots + cs.length) := by
  obtain ⟨A, K1, K2, K3, K4, K5, K6⟩ := K
  have e : A.slots.size = cs.length := K3.trans hlen
  have hat : ∀ (i : Nat) (hi : i < cs.length), A.slots[i]? = some (.int cs[i]) := fun i hi => by rw [K5 i (by omega)]; simp [List.getD_eq_getElem?_getD, hi]
  have hcv : ∀ (i : Nat) (hi : i < cs.length), cv A i = cs[i] := fun i hi => by unfold cv; rw [hat i hi]
  have hty : Typed .char A := fun i v hv => by
    have hi : i < A.slots.size := (Array.getElem?_eq_some_iff.mp hv).1
    have q := K5 i hi
    rw [hv] at q
    rw [Option.some.inj q]
    exact K6 i hi
  refine Back.mono (back hZ hw wi E V C K1 hty S hz (by omega) (by omega) (fun i hi => by rw [hcv i (by omega)]; exact hall _ (List.getElem_mem _)) hfr hlo) (fun P a hp => ⟨hp.1, hp.2.1, hp.2.2.1, by rw [e]; exact hp.2.2.2⟩) (fun P a v B hp hq => ?_)
  obtain ⟨L, ⟨q1, q2, q3, q4, q5, q6, q7, ⟨V', v1, v2, v3, v4, v5⟩, q9⟩, hl, hc, hs⟩ := hq
  refine ⟨L, ⟨q1, q2, q3, q4, q5, q6, q7, ⟨V'.cls, v3, V', v1, rfl, by rw [v4, e, hlen], K4, fun i hi => ?_, fun i hi => ?_⟩, q9⟩, hl, hc, by rw [hs, e]⟩
  · have hi' : i < cs.length := by omega
    rw [v5 i (by omega), hcv i hi']; simp [List.getD_eq_getElem?_getD, hi']
  · have hi' : i < cs.length := by omega
    simp only [List.getD_eq_getElem?_getD, List.getElem?_map, List.getElem?_eq_getElem hi', Option.map_some, Option.getD_some]
    exact fits_lo8 _
end StrChars.Road
namespace StrChars.Road
open Jvm Sem ClassFile Op Lib Jvm.Stand Jvm.Free Jvm.Free.XT
/-- WHAT COMES BACK, in the writer's own shape -/
def QV (Z : State) (x : Addr) (N : Int32) (bs : List Int32) (h : Heap) (n0 : Nat) (v : Option Value) (h' : Heap) (L : List Loc) : Prop := v = none ∧ RoadKit.Fr n0 L ∧ RoadKit.Keep h h' [x] ∧ RoadKit.Exa Z h' x ST ∧ RoadKit.Fld Z h' x ST "coder" "B" (.int 0) ∧
  ∃ (t : Addr) (kb : ClassId), n0 ≤ t ∧ h.size ≤ t ∧ ¬ t = x ∧ RoadKit.Fld Z h' x ST "value" "[B" (.ref t) ∧ RoadKit.Arv Z h' t kb .byte N (bs.map Value.int) (.int 0)
/-- **new String(chars) AT A CALL, FOR THE WRITER**: a char[] of n known ints, each 0 to 255 -/
theorem backV {p : Program} {l : Launch} {e : Env} {R : Room} {s : State} {args : Array Value} {below : List Frame} {len W : Nat} {Z : State} {a0 : Array Value} {h : Heap} (hZ : Z.Warmed39 s.vm) (hw : ∀ d ∈ words, d.before a0 Z = true) {kI : Nat} (wi : (Jvm.Cond.instantiable ST kI).before a0 Z = true)
    {x b : Addr} {kC : ClassId} {cs bs : List Int32} {d v0 c0 : Value} {z N : Int32} {n n0 : Nat} (hx0 : n0 ≤ x) (hh0 : n0 ≤ h.size) (E : RoadKit.Exa Z h x ST) (V : RoadKit.Fld Z h x ST "value" "[B" v0) (C : RoadKit.Fld Z h x ST "coder" "B" c0) (K : RoadKit.Arv Z h b kC .char N (cs.map Value.int) d) (S : RoadKit.Sta Z h ST "COMPACT_STRINGS" "Z" (.int z)) (hz : ¬ z = 0)
    (hn : cs.length = n) (hN : N = Int32.ofNat n) (l0 : 0 < n) (l2 : n ≤ 4000) (hp : ∀ c ∈ cs, ¬ c < 0 ∧ ¬ (255 : Int32) < c) (hb : bs = cs.map (fun c => c.toInt8.toInt32)) (hfr : 4 ≤ R.frames) (hlo : W + 65 ≤ R.locals) :
    Back l R p e below s args (⟨"java/lang/String", "<init>", "([C)V"⟩ : MethodName) len W (fun P a => a = #[.ref x, .ref b] ∧ P.U.heap = h ∧ P.cells + 1 ≤ R.cells ∧ P.slots + n ≤ R.slots)
      (fun P _ v B => ∃ L, QV Z x N bs h n0 v B.U.heap L ∧ B.locs = P.locs ++ L ∧ B.cells = P.cells + 1 ∧ B.slots = P.slots + n) := by
  subst hn hN hb
  refine Back.mono (backArv hZ hw wi E V C K S hz (n32 (by omega)) l0 (by omega) (fun c hc => (hp c hc).2) hfr hlo) (fun P a hp => hp) (fun P a v B hp hq => ?_)
  obtain ⟨L, ⟨q1, q2, q3, q4, q5, q6, q7, ⟨kb, v1, v2⟩, q9⟩, hl, hc, hs⟩ := hq
  exact ⟨L, ⟨q1, fun y hy => by rw [q2 y hy]; exact hx0, q3, q5, q7, h.size, kb, hh0, Nat.le_refl _, Nat.ne_of_gt E.lt, q6, by rw [List.map_map]; exact v2⟩, hl, hc, hs⟩
end StrChars.Road
namespace StrChars
open Jvm Sem ClassFile Op Lib Jvm.Stand Jvm.Free.XT Jvm.Free.ALB Jvm.Free.JM Jvm.Free
open Jvm.Lib.Cold (StaticIs)
def hi8 (x : Int32) : Int32 := lo8 (x >>> ((8 : Int32) &&& 31))
/-- what StringUTF16.getChar makes of two bytes -/
def pairCh (u v : Int32) : Int32 := (((u &&& 255) <<< ((0 : Int32) &&& 31)) ||| ((v &&& 255) <<< ((8 : Int32) &&& 31))).toUInt32.toUInt16.toUInt32.toInt32
theorem shr0 (c : Int32) : c >>> ((0 : Int32) &&& 31) = c := by
  have e : ((0 : Int32) &&& 31) = 0 := by decide
  rw [e]
  apply Int32.toBitVec_inj.mp
  rw [Int32.toBitVec_shiftRight]
  have e1 : ((0 : Int32).toBitVec.smod 32) = 0#32 := by decide
  rw [e1, BitVec.sshiftRight_eq']
  exact BitVec.sshiftRight_zero
theorem lo8_and (x : Int32) : (lo8 x &&& 255).toBitVec.toNat = x.toBitVec.toNat % 256 := by
  have h : (lo8 x).toBitVec = (x.toBitVec.signExtend 8).signExtend 32 := by rw [lo8, Int8.toBitVec_toInt32, Int32.toBitVec_toInt8]
  rw [Int32.toBitVec_and, BitVec.toNat_and, h]
  have e : ((x.toBitVec.signExtend 8).signExtend 32).toNat % 256 = x.toBitVec.toNat % 256 := by
    rw [BitVec.toNat_signExtend]
    have hlt := x.toBitVec.isLt
    simp only [BitVec.toNat_setWidth, BitVec.toNat_signExtend]
    split <;> split <;> omega
  rw [← e]
  exact Nat.and_two_pow_sub_one_eq_mod _ 8
theorem pair_says {c : Int32} (h0 : ¬ c < 0) (h1 : ¬ 65535 < c) : pairCh (lo8 c) (hi8 c) = c := by
  rw [Int32.lt_iff_toInt_lt] at h0 h1
  have e0 : (0 : Int32).toInt = 0 := rfl
  have e1 : (65535 : Int32).toInt = 65535 := rfl
  have hc : c.toInt = c.toBitVec.toNat := by
    have := c.toBitVec.isLt
    have e : c.toInt = c.toBitVec.toInt := rfl
    rw [e] at h0 h1
    rw [e]
    rw [BitVec.toInt_eq_toNat_cond] at h0 h1 ⊢
    split at h0 <;> split <;> omega
  have hn : c.toBitVec.toNat < 65536 := by omega
  have a1 := lo8_and c
  have a2 : (hi8 c &&& 255).toBitVec.toNat = c.toBitVec.toNat / 256 := by
    rw [hi8, lo8_and]
    have e : ((8 : Int32) &&& 31) = 8 := by decide
    rw [e, Int32.toBitVec_shiftRight]
    have e2 : ((8 : Int32).toBitVec.smod 32) = 8#32 := by decide
    rw [e2, BitVec.sshiftRight_eq', BitVec.toNat_sshiftRight_of_msb_false (by rw [BitVec.msb_eq_false_iff_two_mul_lt]; omega)]
    show c.toBitVec.toNat >>> 8 % 256 = _
    rw [Nat.shiftRight_eq_div_pow]
    omega
  unfold pairCh
  apply Int32.toBitVec_inj.mp
  apply BitVec.eq_of_toNat_eq
  have f0 : ((0 : Int32) &&& 31) = 0 := by decide
  have f8 : ((8 : Int32) &&& 31) = 8 := by decide
  rw [f0, f8]
  have g : (((lo8 c &&& 255) <<< (0 : Int32)) ||| ((hi8 c &&& 255) <<< (8 : Int32))).toBitVec.toNat = c.toBitVec.toNat := by
    rw [Int32.toBitVec_or, Int32.toBitVec_shiftLeft, Int32.toBitVec_shiftLeft]
    have s0 : ((0 : Int32).toBitVec.smod 32) = 0#32 := by decide
    have s8 : ((8 : Int32).toBitVec.smod 32) = 8#32 := by decide
    rw [s0, s8, BitVec.toNat_or]
    simp only [BitVec.shiftLeft_eq', BitVec.toNat_shiftLeft, a1, a2]
    show (c.toBitVec.toNat % 256) <<< 0 % 2 ^ 32 ||| (c.toBitVec.toNat / 256) <<< 8 % 2 ^ 32 = _
    rw [Nat.shiftLeft_zero, Nat.mod_eq_of_lt (show c.toBitVec.toNat % 256 < 2 ^ 32 by omega), Nat.mod_eq_of_lt (show (c.toBitVec.toNat / 256) <<< 8 < 2 ^ 32 by rw [Nat.shiftLeft_eq]; omega), Nat.or_comm, ← Nat.shiftLeft_add_eq_or_of_lt (by omega), Nat.shiftLeft_eq]
    omega
  show BitVec.toNat (((((lo8 c &&& 255) <<< (0 : Int32)) ||| ((hi8 c &&& 255) <<< (8 : Int32))).toBitVec.setWidth 16).setWidth 32) = _
  rw [BitVec.toNat_setWidth, BitVec.toNat_setWidth, g]
  omega
end StrChars
namespace StrChars
open Jvm Sem ClassFile Op Lib Jvm.Stand Jvm.Free.XT Jvm.Free.ALB Jvm.Free.JM Jvm.Free
open Jvm.Lib.Cold (StaticIs)
theorem shr1 {n : Nat} (h : 2 * n < 2 ^ 31) : Int32.ofNat (2 * n) >>> ((1 : Int32) &&& 31) = Int32.ofNat n := by
  have e : ((1 : Int32) &&& 31) = 1 := by decide
  rw [e]
  apply Int32.toBitVec_inj.mp
  rw [Int32.toBitVec_shiftRight]
  have e1 : ((1 : Int32).toBitVec.smod 32) = 1#32 := by decide
  have hm : (BitVec.ofNat 32 (2 * n)).toNat = 2 * n := by rw [BitVec.toNat_ofNat, Nat.mod_eq_of_lt (by omega)]
  rw [e1, BitVec.sshiftRight_eq']
  apply BitVec.eq_of_toNat_eq
  show ((BitVec.ofNat 32 (2 * n)).sshiftRight 1).toNat = (BitVec.ofNat 32 n).toNat
  rw [BitVec.toNat_sshiftRight_of_msb_false (by rw [BitVec.msb_eq_false_iff_two_mul_lt, hm]; omega), hm, BitVec.toNat_ofNat, Nat.shiftRight_eq_div_pow]
  omega
/-- charAt's cast of a byte read back -/
def chr8 (u : Int32) : Int32 := (u &&& 255).toUInt32.toUInt16.toUInt32.toInt32
theorem chr8_lo8 {c : Int32} (h0 : ¬ c < 0) (h1 : ¬ 255 < c) : chr8 (lo8 c) = c := by
  have t : ∀ k : Fin 256, (Int32.ofNat k.val).toUInt32.toUInt16.toUInt32.toInt32 = Int32.ofNat k.val := by decide +kernel
  unfold chr8
  rw [lo8_mask h0 h1]
  rw [Int32.lt_iff_toInt_lt] at h0 h1
  have e0 : (0 : Int32).toInt = 0 := rfl
  have e1 : (255 : Int32).toInt = 255 := rfl
  obtain ⟨k, hk⟩ : ∃ k : Nat, c.toInt = k := ⟨c.toInt.toNat, by omega⟩
  have hx : c = Int32.ofNat k := Int32.toInt_inj.mp (by rw [hk, Int32.toInt_ofNat_small (by omega)])
  rw [hx]
  exact t ⟨k, by omega⟩
theorem narrow_ch {c : Int32} (h0 : ¬ c < 0) (h1 : ¬ 65535 < c) : narrow .char (.int c) = .int c := by
  have q : narrow .char (.int (pairCh (lo8 c) (hi8 c))) = .int (pairCh (lo8 c) (hi8 c)) := narrow_c _
  rwa [pair_says h0 h1] at q
/-- the array's cell V codes the n chars f 0 .. f (n - 1) by the coder cd, as the JDK does: coder 1 just where some char is above 255 -/
def Cod (cd : Int32) (n : Nat) (f : Nat → Int32) (V : Cell) : Prop := (cd = 0 ∧ V.slots.size = n ∧ ∀ j, j < n → V.slots[j]? = some (.int (lo8 (f j))) ∧ ¬ 255 < f j) ∨ (cd = 1 ∧ V.slots.size = 2 * n ∧ (∀ j, j < n → V.slots[2 * j]? = some (.int (lo8 (f j))) ∧ V.slots[2 * j + 1]? = some (.int (hi8 (f j)))) ∧ ∃ j, j < n ∧ 255 < f j)
theorem Cod.cd {cd : Int32} {n : Nat} {f : Nat → Int32} {V : Cell} (h : Cod cd n f V) : cd = 0 ∨ cd = 1 := h.imp (fun q => q.1) fun q => q.1
theorem Cod.len {cd : Int32} {n : Nat} {f : Nat → Int32} {V : Cell} (h : Cod cd n f V) (hs : V.slots.size < 2 ^ 31) : Int32.ofNat V.slots.size >>> (cd &&& 31) = Int32.ofNat n := by
  rcases h with ⟨rfl, h, -⟩ | ⟨rfl, h, -⟩
  · rw [shr0, h]
  · rw [h, shr1 (by omega)]
/-- **x is a String of the n chars f 0 .. f (n - 1)**, Latin-1 or UTF-16; its array at t has the cell V -/
def Txt (x t : Addr) (V : Cell) (cd : Int32) (n : Nat) (f : Nat → Int32) (U : State) : Prop := Exact "java/lang/String" x U ∧ Has x "java/lang/String" "value" "[B" (.ref t) U ∧ Has x "java/lang/String" "coder" "B" (.int cd) U ∧ XT.Arr .byte t V U ∧ Cod cd n f V ∧ ∀ j, j < n → ¬ f j < 0 ∧ ¬ 65535 < f j
theorem Txt.mv {x t : Addr} {V : Cell} {cd : Int32} {n : Nat} {f : Nat → Int32} {U U' : State} (h : Txt x t V cd n f U) (hal : U.vm.Alike U'.vm) (hh : U'.heap = U.heap) : Txt x t V cd n f U' := ⟨h.1.mv hal hh, h.2.1.mv hal hh, h.2.2.1.mv hal hh, h.2.2.2.1.mv hal hh, h.2.2.2.2⟩
namespace Cdr
def yN : MethodName := ⟨"java/lang/String", "coder", "()B"⟩
abbrev yB : ByteArray := jdk_42_method_152_code
theorem d0 : decode yB 0 = .ok (.getstatic 38, 3) := by decide +kernel
theorem d3 : decode yB 3 = .ok (.ifCond (.eq) 10, 3) := by decide +kernel
theorem d6 : decode yB 6 = .ok (.aload_n 0, 1) := by decide +kernel
theorem d7 : decode yB 7 = .ok (.getfield 15, 3) := by decide +kernel
theorem d10 : decode yB 10 = .ok (.goto 4, 3) := by decide +kernel
theorem d14 : decode yB 14 = .ok (.ireturn, 1) := by decide +kernel
def site : List Cond := [.fieldLink "java/lang/String" 38 "java/lang/String" "COMPACT_STRINGS" "Z", .fieldLink "java/lang/String" 15 "java/lang/String" "coder" "B"]
def tab : Cond := tabOf yN yB 1 (some .byte) site
def P (x : Addr) (cd z : Int32) (args : Array Value) (s : State) : Prop := args = #[.ref x] ∧ Has x "java/lang/String" "coder" "B" (.int cd) s ∧ (cd = 0 ∨ cd = 1) ∧ StaticIs s "java/lang/String" "COMPACT_STRINGS" "Z" (.int z) ∧ ¬ z = 0
def E (cd : Int32) (r : Option Value) (s u : State) : Prop := XT.PureE (some (.int cd)) r s u
theorem law (l : Launch) (x : Addr) (cd z : Int32) : Law l yN 1 0 0 0 yB 1 (some .byte) site (P x cd z) (E cd) [] 0 0 := by
  refine Law.of_walk (plainFor_of_name (by decide +kernel)) (by decide +kernel) (by decide +kernel) (by decide) (fun _ _ h => by rw [h.1]; rfl) (fun _ U U' hal hh h => ⟨h.1, h.2.1.mv hal hh, h.2.2.1, h.2.2.2.1.there hal hh, h.2.2.2.2⟩) (fun r U U' V V' h1 hal h2 h => XT.PureE.mv r U U' V V' h1 hal h2 h) ?_
  intro p e s m args below meth c s₁ X0 hexec hbytes hml hret hlk hnm hown hh0 W hP
  obtain ⟨rfl, hx, hc, s1, hz⟩ := hP
  have c1 : Steps p.tables e below (s₁.setTop (entryFrame m #[.ref x] 1)) (s₁.setTop (mkF m 0 #[.val (.ref x)] [])) := entry rfl
  obtain ⟨T2, X2, q2, st2⟩ := X0.sget hexec hown (wk W (.fieldLink "java/lang/String" 38 "java/lang/String" "COMPACT_STRINGS" "Z")) s1 (fun _ _ h => by rw [hh0]; exact h) (g := (mkF m 0 #[.val (.ref x)] [])) rfl (hb hbytes d0)
  have hh2 := q2.trans hh0
  have c3 : Steps p.tables e below (s₁.setTop (entryFrame m #[.ref x] 1)) (T2.setTop (mkF m 7 #[.val (.ref x)] [.ref x])) := (c1.trans (st2 _ (Steps.refl _))).trans (by
    refine XS.ifNo X2.here hexec rfl (hb hbytes d3) rfl (i0_eq_f hz) ?_
    refine XS.aloadN X2.here hexec rfl (hb hbytes d6) rfl rfl ?_
    exact Steps.refl _)
  obtain ⟨T4, X4, q4, st4⟩ := X2.hget hexec hown (wk W (.fieldLink "java/lang/String" 15 "java/lang/String" "coder" "B")) (hx.mv X2.warmed.alike hh2) (g := (mkF m 7 #[.val (.ref x)] [.ref x])) rfl (rest := []) rfl (hb hbytes d7)
  have c5 : Steps p.tables e below (s₁.setTop (entryFrame m #[.ref x] 1)) (T4.setTop (mkF m 14 #[.val (.ref x)] [.int cd])) := (c3.trans (st4 _ (Steps.refl _))).trans (by
    refine XS.goto X4.here hexec rfl (pc0 := 10) rfl (hb hbytes d10) (by decide) rfl ?_
    exact Steps.refl _)
  exact ⟨T4, some (.int cd), _, _, _, X4, rfl, rfl, rfl, (fun h => by cases h), ⟨rfl, q4.trans hh2⟩, fun fs hl => c5.trans (X4.ireturnOut hexec hret (by rcases hc with rfl | rfl <;> rfl) (Or.inr (Or.inr (Or.inl rfl))) (hb hbytes d14) hl)⟩
end Cdr
namespace Len
def yN : MethodName := ⟨"java/lang/String", "length", "()I"⟩
abbrev yB : ByteArray := jdk_42_method_54_code
theorem d0 : decode yB 0 = .ok (.aload_n 0, 1) := by decide +kernel
theorem d1 : decode yB 1 = .ok (.getfield 9, 3) := by decide +kernel
theorem d4 : decode yB 4 = .ok (.arraylength, 1) := by decide +kernel
theorem d5 : decode yB 5 = .ok (.aload_n 0, 1) := by decide +kernel
theorem d6 : decode yB 6 = .ok (.invokevirtual 335, 3) := by decide +kernel
theorem d9 : decode yB 9 = .ok (.ishr, 1) := by decide +kernel
theorem d10 : decode yB 10 = .ok (.ireturn, 1) := by decide +kernel
def site : List Cond := [.fieldLink "java/lang/String" 9 "java/lang/String" "value" "[B", Cdr.tab] ++ virtW "java/lang/String" 335 "java/lang/String" Cdr.yN Cdr.yN
def tab : Cond := tabOf yN yB 1 (some .int) site
def P (x t : Addr) (V : Cell) (cd : Int32) (n : Nat) (f : Nat → Int32) (z : Int32) (args : Array Value) (s : State) : Prop := args = #[.ref x] ∧ Txt x t V cd n f s ∧ StaticIs s "java/lang/String" "COMPACT_STRINGS" "Z" (.int z) ∧ ¬ z = 0
def E (n : Nat) (r : Option Value) (s u : State) : Prop := XT.PureE (some (.int (Int32.ofNat n))) r s u
/-- length() of a String of n chars, in either coding -/
theorem law (l : Launch) (x t : Addr) (V : Cell) (cd : Int32) (n : Nat) (f : Nat → Int32) (z : Int32) : Law l yN 1 0 1 13 yB 1 (some .int) site (P x t V cd n f z) (E n) [] 0 0 := by
  refine Law.of_walk (plainFor_of_name (by decide +kernel)) (by decide +kernel) (by decide +kernel) (by decide) (fun _ _ h => by rw [h.1]; rfl) (fun _ U U' hal hh h => ⟨h.1, h.2.1.mv hal hh, h.2.2.1.there hal hh, h.2.2.2⟩) (fun r U U' V V' h1 hal h2 h => XT.PureE.mv r U U' V V' h1 hal h2 h) ?_
  intro p e s m args below meth c s₁ X0 hexec hbytes hml hret hlk hnm hown hh0 W hP
  obtain ⟨rfl, hx, s1, hz⟩ := hP
  have v31 := hx.2.2.2.1.2.2.2
  have c1 : Steps p.tables e below (s₁.setTop (entryFrame m #[.ref x] 1)) (s₁.setTop (mkF m 1 #[.val (.ref x)] [.ref x])) := Steps.trans (entry rfl) (by
    show Steps p.tables e below (s₁.setTop (mkF m 0 #[.val (.ref x)] [])) _
    refine XS.aloadN X0.here hexec rfl (hb hbytes d0) rfl rfl ?_
    exact Steps.refl _)
  obtain ⟨T2, X2, q2, st2⟩ := X0.hget hexec hown (wk W (.fieldLink "java/lang/String" 9 "java/lang/String" "value" "[B")) (hx.mv X0.warmed.alike hh0).2.1 (g := (mkF m 1 #[.val (.ref x)] [.ref x])) rfl (rest := []) rfl (hb hbytes d1)
  have hh2 := q2.trans hh0
  have hx2 := hx.mv X2.warmed.alike hh2
  have c3 : Steps p.tables e below (s₁.setTop (entryFrame m #[.ref x] 1)) (T2.setTop (mkF m 6 #[.val (.ref x)] [.ref x, .int (Int32.ofNat V.slots.size)])) := (c1.trans (st2 _ (Steps.refl _))).trans (by
    refine X2.alen hexec hx2.2.2.2.1 rfl rfl (hb hbytes d4) ?_
    refine XS.aloadN X2.here hexec rfl (hb hbytes d5) rfl rfl ?_
    exact Steps.refl _)
  obtain ⟨v4, T4, X4, E4, g4⟩ := X2.callV hexec (Cdr.law l x cd z) hown (wks W (virtW "java/lang/String" 335 "java/lang/String" Cdr.yN Cdr.yN)) rfl (by decide) (wk W Cdr.tab) (W := 1) (Nat.le_of_ble_eq_true rfl) (Nat.le_of_ble_eq_true rfl) (Nat.le_refl _) (Nat.le_refl _) (hx2.1.fc X2.warmed.alike) hx2.1.is (g := (mkF m 6 #[.val (.ref x)] [.ref x, .int (Int32.ofNat V.slots.size)])) rfl (by rw [hml]; rfl) c3 (argsL := []) (rest := [.int (Int32.ofNat V.slots.size)]) rfl rfl (by show 2 * 0 + (1 + 0) ≤ _; decide) (hb hbytes d6) (⟨rfl, hx2.2.2.1, hx.2.2.2.2.1.cd, s1.there X2.warmed.alike hh2, hz⟩)
  obtain ⟨rfl, q4⟩ := E4
  have c5 : Steps p.tables e below (s₁.setTop (entryFrame m #[.ref x] 1)) (T4.setTop (mkF m 10 #[.val (.ref x)] [.int (Int32.ofNat V.slots.size >>> (cd &&& 31))])) := Steps.trans g4 (by
    refine ishr X4.here hexec rfl (hb hbytes d9) rfl ?_
    exact Steps.refl _)
  rw [hx.2.2.2.2.1.len v31] at c5
  exact ⟨T4, some (.int (Int32.ofNat n)), _, _, _, X4, rfl, rfl, rfl, (fun h => by cases h), ⟨rfl, q4.trans hh2⟩, fun fs hl => c5.trans (X4.ireturnOut hexec hret rfl (Or.inl rfl) (hb hbytes d10) hl)⟩
theorem pays {l : Launch} {R : Room} {p : Program} {e : Env} {below : List Frame} {s : State} {sargs : Array Value} {len W : Nat} (x t : Addr) (V : Cell) (cd : Int32) (n : Nat) (f : Nat → Int32) (z : Int32) (htab : tab.before sargs s = true) (hfr : 2 ≤ R.frames) (hlo : W + 25 ≤ R.locals) :
    Back l R p e below s sargs yN len W (fun A₁ a₁ => A₁.cells + 0 ≤ R.cells ∧ A₁.slots + 0 ≤ R.slots ∧ P x t V cd n f z a₁ A₁.U) (fun A₁ _ v₁ B₁ => E n v₁ A₁.U B₁.U ∧ B₁.locs = A₁.locs ++ [] ∧ B₁.cells = A₁.cells + 0 ∧ B₁.slots = A₁.slots + 0) :=
  (law l x t V cd n f z).pays htab hfr (by omega)
end Len
namespace IsL
def yN : MethodName := ⟨"java/lang/String", "isLatin1", "()Z"⟩
abbrev yB : ByteArray := jdk_42_method_154_code
theorem d0 : decode yB 0 = .ok (.getstatic 38, 3) := by decide +kernel
theorem d3 : decode yB 3 = .ok (.ifCond (.eq) 14, 3) := by decide +kernel
theorem d6 : decode yB 6 = .ok (.aload_n 0, 1) := by decide +kernel
theorem d7 : decode yB 7 = .ok (.getfield 15, 3) := by decide +kernel
theorem d10 : decode yB 10 = .ok (.ifCond (.ne) 7, 3) := by decide +kernel
theorem d13 : decode yB 13 = .ok (.iconst 1, 1) := by decide +kernel
theorem d14 : decode yB 14 = .ok (.goto 4, 3) := by decide +kernel
theorem d17 : decode yB 17 = .ok (.iconst 0, 1) := by decide +kernel
theorem d18 : decode yB 18 = .ok (.ireturn, 1) := by decide +kernel
def site : List Cond := [.fieldLink "java/lang/String" 38 "java/lang/String" "COMPACT_STRINGS" "Z", .fieldLink "java/lang/String" 15 "java/lang/String" "coder" "B"]
def tab : Cond := tabOf yN yB 1 (some .boolean) site
def P (x : Addr) (cd z : Int32) (args : Array Value) (s : State) : Prop := args = #[.ref x] ∧ Has x "java/lang/String" "coder" "B" (.int cd) s ∧ (cd = 0 ∨ cd = 1) ∧ StaticIs s "java/lang/String" "COMPACT_STRINGS" "Z" (.int z) ∧ ¬ z = 0
def E (cd : Int32) (r : Option Value) (s u : State) : Prop := XT.PureE (some (.int (1 - cd))) r s u
theorem law (l : Launch) (x : Addr) (cd z : Int32) : Law l yN 1 0 0 0 yB 1 (some .boolean) site (P x cd z) (E cd) [] 0 0 := by
  refine Law.of_walk (plainFor_of_name (by decide +kernel)) (by decide +kernel) (by decide +kernel) (by decide) (fun _ _ h => by rw [h.1]; rfl) (fun _ U U' hal hh h => ⟨h.1, h.2.1.mv hal hh, h.2.2.1, h.2.2.2.1.there hal hh, h.2.2.2.2⟩) (fun r U U' V V' h1 hal h2 h => XT.PureE.mv r U U' V V' h1 hal h2 h) ?_
  intro p e s m args below meth c s₁ X0 hexec hbytes hml hret hlk hnm hown hh0 W hP
  obtain ⟨rfl, hx, hc, s1, hz⟩ := hP
  have c1 : Steps p.tables e below (s₁.setTop (entryFrame m #[.ref x] 1)) (s₁.setTop (mkF m 0 #[.val (.ref x)] [])) := entry rfl
  obtain ⟨T2, X2, q2, st2⟩ := X0.sget hexec hown (wk W (.fieldLink "java/lang/String" 38 "java/lang/String" "COMPACT_STRINGS" "Z")) s1 (fun _ _ h => by rw [hh0]; exact h) (g := (mkF m 0 #[.val (.ref x)] [])) rfl (hb hbytes d0)
  have hh2 := q2.trans hh0
  have c3 : Steps p.tables e below (s₁.setTop (entryFrame m #[.ref x] 1)) (T2.setTop (mkF m 7 #[.val (.ref x)] [.ref x])) := (c1.trans (st2 _ (Steps.refl _))).trans (by
    refine XS.ifNo X2.here hexec rfl (hb hbytes d3) rfl (i0_eq_f hz) ?_
    refine XS.aloadN X2.here hexec rfl (hb hbytes d6) rfl rfl ?_
    exact Steps.refl _)
  obtain ⟨T4, X4, q4, st4⟩ := X2.hget hexec hown (wk W (.fieldLink "java/lang/String" 15 "java/lang/String" "coder" "B")) (hx.mv X2.warmed.alike hh2) (g := (mkF m 7 #[.val (.ref x)] [.ref x])) rfl (rest := []) rfl (hb hbytes d7)
  have c5 : Steps p.tables e below (s₁.setTop (entryFrame m #[.ref x] 1)) (T4.setTop (mkF m 10 #[.val (.ref x)] [.int cd])) := c3.trans (st4 _ (Steps.refl _))
  have c6 : Steps p.tables e below (s₁.setTop (entryFrame m #[.ref x] 1)) (T4.setTop (mkF m 18 #[.val (.ref x)] [.int (1 - cd)])) := by
    rcases hc with rfl | rfl
    · exact c5.trans (by
        refine XS.ifNo X4.here hexec rfl (hb hbytes d10) rfl (i0_ne_f rfl) ?_
        refine iconstV X4.here hexec rfl 1 (hb hbytes d13) (by decide) ?_
        refine XS.goto X4.here hexec rfl (pc0 := 14) rfl (hb hbytes d14) (by decide) rfl ?_
        exact Steps.refl _)
    · exact c5.trans (by
        refine XS.ifYes X4.here hexec rfl (pc0 := 10) rfl (hb hbytes d10) rfl (i0_ne_t (by decide)) (by decide) rfl ?_
        refine iconstV X4.here hexec rfl 0 (hb hbytes d17) (by decide) ?_
        exact Steps.refl _)
  exact ⟨T4, some (.int (1 - cd)), _, _, _, X4, rfl, rfl, rfl, (fun h => by cases h), ⟨rfl, q4.trans hh2⟩, fun fs hl => c6.trans (X4.ireturnOut hexec hret (by rcases hc with rfl | rfl <;> rfl) (Or.inr (Or.inl rfl)) (hb hbytes d18) hl)⟩
end IsL
namespace LChA
def yN : MethodName := ⟨"java/lang/StringLatin1", "charAt", "([BI)C"⟩
abbrev yB : ByteArray := jdk_43_method_2_code
theorem d0 : decode yB 0 = .ok (.iload_n 1, 1) := by decide +kernel
theorem d1 : decode yB 1 = .ok (.aload_n 0, 1) := by decide +kernel
theorem d2 : decode yB 2 = .ok (.arraylength, 1) := by decide +kernel
theorem d3 : decode yB 3 = .ok (.invokestatic 9, 3) := by decide +kernel
theorem d6 : decode yB 6 = .ok (.aload_n 0, 1) := by decide +kernel
theorem d7 : decode yB 7 = .ok (.iload_n 1, 1) := by decide +kernel
theorem d8 : decode yB 8 = .ok (.baload, 1) := by decide +kernel
theorem d9 : decode yB 9 = .ok (.sipush 255, 3) := by decide +kernel
theorem d12 : decode yB 12 = .ok (.iand, 1) := by decide +kernel
theorem d13 : decode yB 13 = .ok (.i2c, 1) := by decide +kernel
theorem d14 : decode yB 14 = .ok (.ireturn, 1) := by decide +kernel
def site : List Cond := [JO.Str_checkIndex.tab] ++ staticW "java/lang/StringLatin1" 9 JO.Str_checkIndex.yN
def tab : Cond := tabOf yN yB 2 (some .char) site
def P (t : Addr) (V : Cell) (i : Nat) (u : Int32) (fm : Value) (args : Array Value) (s : State) : Prop := args = #[.ref t, .int (Int32.ofNat i)] ∧ XT.Arr .byte t V s ∧ V.slots[i]? = some (.int u) ∧ (StaticIs s "jdk/internal/util/Preconditions" "SIOOBE_FORMATTER" "Ljava/util/function/BiFunction;" fm ∧ fm.isRef = true)
def E (u : Int32) (r : Option Value) (s w : State) : Prop := XT.PureE (some (.int (chr8 u))) r s w
theorem law (l : Launch) (t : Addr) (V : Cell) (i : Nat) (u : Int32) (fm : Value) : Law l yN 2 2 2 27 yB 2 (some .char) site (P t V i u fm) (E u) [] 0 0 := by
  refine Law.of_walk (plainFor_of_name (by decide +kernel)) (by decide +kernel) (by decide +kernel) (by decide) (fun _ _ h => by rw [h.1]; rfl) (fun _ U U' hal hh h => ⟨h.1, h.2.1.mv hal hh, h.2.2.1, h.2.2.2.1.there hal hh, h.2.2.2.2⟩) (fun r U U' V V' h1 hal h2 h => XT.PureE.mv r U U' V V' h1 hal h2 h) ?_
  intro p e s m args below meth c s₁ X0 hexec hbytes hml hret hlk hnm hown hh0 W hP
  obtain ⟨rfl, hV, hu, s1, rf⟩ := hP
  have v31 := hV.2.2.2
  have hi : i < V.slots.size := (Array.getElem?_eq_some_iff.mp hu).1
  have c1 : Steps p.tables e below (s₁.setTop (entryFrame m #[.ref t, .int (Int32.ofNat i)] 2)) (s₁.setTop (mkF m 0 #[.val (.ref t), .val (.int (Int32.ofNat i))] [])) := entry rfl
  have c2 : Steps p.tables e below (s₁.setTop (entryFrame m #[.ref t, .int (Int32.ofNat i)] 2)) (s₁.setTop (mkF m 3 #[.val (.ref t), .val (.int (Int32.ofNat i))] [.int (Int32.ofNat V.slots.size), .int (Int32.ofNat i)])) := c1.trans (by
    refine XS.iloadN X0.here hexec rfl (hb hbytes d0) rfl ?_
    refine XS.aloadN X0.here hexec rfl (hb hbytes d1) rfl rfl ?_
    refine X0.alen hexec (hV.mv X0.warmed.alike hh0) rfl rfl (hb hbytes d2) ?_
    exact Steps.refl _)
  obtain ⟨v3, T3, X3, E3, g3⟩ := X0.callS hexec (JO.Str_checkIndex.law l (Int32.ofNat i) (Int32.ofNat V.slots.size) fm) hown (wks W (staticW "java/lang/StringLatin1" 9 JO.Str_checkIndex.yN)) (wk W JO.Str_checkIndex.tab) (W := 0) (Nat.le_of_ble_eq_true rfl) (Nat.le_of_ble_eq_true rfl) (Nat.le_refl _) (Nat.le_refl _) (g := (mkF m 3 #[.val (.ref t), .val (.int (Int32.ofNat i))] [.int (Int32.ofNat V.slots.size), .int (Int32.ofNat i)])) rfl (by rw [hml]; rfl) c2 (argsL := [.int (Int32.ofNat i), .int (Int32.ofNat V.slots.size)]) (rest := []) rfl rfl (by show 2 * 0 + 0 ≤ _; decide) (hb hbytes d3) (⟨rfl, rf, s1.there X0.warmed.alike hh0, Int32.ofNat_not_neg (by omega), lt32 v31 hi⟩)
  obtain ⟨rfl, q3⟩ := E3
  have hh3 := q3.trans hh0
  have c4 : Steps p.tables e below (s₁.setTop (entryFrame m #[.ref t, .int (Int32.ofNat i)] 2)) (T3.setTop (mkF m 14 #[.val (.ref t), .val (.int (Int32.ofNat i))] [.int (chr8 u)])) := Steps.trans g3 (by
    refine XS.aloadN X3.here hexec rfl (hb hbytes d6) rfl rfl ?_
    refine XS.iloadN X3.here hexec rfl (hb hbytes d7) rfl ?_
    refine X3.aget hexec (hV.mv X3.warmed.alike hh3) rfl hu rfl rfl (hb hbytes d8) ?_
    refine sipushV X3.here hexec rfl 255 (hb hbytes d9) (by decide) ?_
    refine XS.iand X3.here hexec rfl (hb hbytes d12) rfl ?_
    refine i2c X3.here hexec rfl (hb hbytes d13) rfl ?_
    exact Steps.refl _)
  exact ⟨T3, some (.int (chr8 u)), _, _, _, X3, rfl, rfl, rfl, (fun h => by cases h), ⟨rfl, hh3⟩, fun fs hl => c4.trans (X3.ireturnOut hexec hret (narrow_c _) (Or.inr (Or.inr (Or.inr (Or.inl rfl)))) (hb hbytes d14) hl)⟩
end LChA
end StrChars
namespace StrChars.Road
open Jvm Sem ClassFile Op Lib Jvm.Stand Jvm.Free Jvm.Free.XT
open Jvm.Lib.Cold (StaticIs)
theorem consq {a : Array Value} {s : State} {c : Jvm.Cond} {L : List Jvm.Cond} (h0 : c.before a s = true) (h : ∀ w ∈ L, w.before a s = true) : ∀ w ∈ c :: L, w.before a s = true := fun w hw => (List.mem_cons.mp hw).elim (fun e => e ▸ h0) (h w)
/-- the words of String.length(), either coding -/
abbrev wordsLen : List Jvm.Cond := [.code Len.yN Len.yB 1 (some .int), .initialized ST, .fieldLink ST 9 ST "value" "[B", .fieldLink ST 38 ST "COMPACT_STRINGS" "Z", .fieldLink ST 15 ST "coder" "B", .code Cdr.yN Cdr.yB 1 (some .byte), .methodLink ST 335 Cdr.yN, .declares Cdr.yN, .selects ST Cdr.yN Cdr.yN, .instanceMethod Cdr.yN]
theorem tabLen_of {a : Array Value} {s : State} (h : ∀ w ∈ wordsLen, w.before a s = true) : Len.tab.before a s = true := by
  have hc : Cdr.tab.before a s = true := unparts (wk h (.code Cdr.yN Cdr.yB 1 (some .byte))) (wks h (.initialized Cdr.yN.cls :: Cdr.site))
  have q := consq hc h
  exact unparts (wk q (.code Len.yN Len.yB 1 (some .int))) (wks q (.initialized Len.yN.cls :: Len.site))
theorem movedLen {Z s : State} {a0 args : Array Value} (hZ : Z.Warmed39 s.vm) (hw : ∀ d ∈ wordsLen, d.before a0 Z = true) : ∀ d ∈ wordsLen, d.before args s = true := fun d hd => by
  have q := hw d hd
  have t : ∀ d ∈ wordsLen, d = .arrayClass .byte ∨ (d.onTables && d.keepsFace) = true := by decide +kernel
  rcases t d hd with rfl | t
  · exact RoadKit.mvA hZ q
  · exact RoadKit.mv hZ q t
/-- the bytes of the chars cs, low before high -/
def wideBytes : List Int32 → List Value
  | [] => []
  | c :: cs => .int (lo8 c) :: .int (hi8 c) :: wideBytes cs
theorem wide_lo (d : Value) : ∀ (cs : List Int32) (j : Nat), j < cs.length → (wideBytes cs).getD (2 * j) d = .int (lo8 (cs.getD j 0))
  | [], j, h => absurd h (Nat.not_lt_zero j)
  | c :: cs, 0, _ => rfl
  | c :: cs, j + 1, h => by
    have q := wide_lo d cs j (by simpa using h)
    rw [show 2 * (j + 1) = 2 * j + 1 + 1 from by omega]
    simpa [wideBytes] using q
theorem wide_hi (d : Value) : ∀ (cs : List Int32) (j : Nat), j < cs.length → (wideBytes cs).getD (2 * j + 1) d = .int (hi8 (cs.getD j 0))
  | [], j, h => absurd h (Nat.not_lt_zero j)
  | c :: cs, 0, _ => rfl
  | c :: cs, j + 1, h => by
    have q := wide_hi d cs j (by simpa using h)
    rw [show 2 * (j + 1) + 1 = 2 * j + 1 + 1 + 1 from by omega]
    simpa [wideBytes] using q
theorem low_at (d : Value) (cs : List Int32) (j : Nat) (h : j < cs.length) : (cs.map fun c => Value.int (lo8 c)).getD j d = .int (lo8 (cs.getD j 0)) := by
  simp [List.getD_eq_getElem?_getD, h]
/-- an array of N2 bytes vs codes the chars cs by the coder cd -/
def CodA (cs : List Int32) (cd N2 : Int32) (vs : List Value) : Prop := (cd = 0 ∧ N2 = Int32.ofNat cs.length ∧ vs = (cs.map fun c => Value.int (lo8 c)) ∧ ∀ c ∈ cs, ¬ 255 < c) ∨ (cd = 1 ∧ N2 = Int32.ofNat (2 * cs.length) ∧ vs = wideBytes cs ∧ ∃ c ∈ cs, 255 < c)
theorem CodA.cod {cs : List Int32} {cd N2 : Int32} {vs : List Value} {V : Cell} (h : CodA cs cd N2 vs) (hn : 2 * cs.length < 2 ^ 31) (hs : V.slots.size = N2.toNatClampNeg) (hv : RoadKit.Has V vs (.int 0)) : Cod cd cs.length (fun j => cs.getD j 0) V := by
  rcases h with ⟨rfl, rfl, rfl, h⟩ | ⟨rfl, rfl, rfl, c, hc, hw⟩
  · rw [n32 (by omega)] at hs
    exact Or.inl ⟨rfl, hs, fun j hj => ⟨by rw [hv j (by omega), low_at _ _ _ hj], by
      have e : cs.getD j 0 = cs[j] := by simp [List.getD_eq_getElem?_getD, hj]
      show ¬ 255 < cs.getD j 0
      rw [e]; exact h _ (List.getElem_mem _)⟩⟩
  · rw [n32 (by omega)] at hs
    obtain ⟨j, hj, rfl⟩ := List.getElem_of_mem hc
    exact Or.inr ⟨rfl, hs, fun j hj => ⟨by rw [hv _ (by omega), wide_lo _ _ _ hj], by rw [hv _ (by omega), wide_hi _ _ _ hj]⟩, j, hj, by
      have e : cs.getD j 0 = cs[j] := by simp [List.getD_eq_getElem?_getD, hj]
      show 255 < cs.getD j 0
      rw [e]; exact hw⟩
/-- an object of exactly java/lang/String, its two fields found: as the laws ask it -/
theorem strObj {Z U : State} {a0 : Array Value} {kI : Nat} (wi : (Jvm.Cond.instantiable ST kI).before a0 Z = true) (al : Z.vm.Alike U.vm) {x : Addr} {v0 c0 : Value} (E : RoadKit.Exa Z U.heap x ST) (V : RoadKit.Fld Z U.heap x ST "value" "[B" v0) (C : RoadKit.Fld Z U.heap x ST "coder" "B" c0) :
    ∃ (D : Cell) (fV fC : Field), Blank ST x D U ∧ Found ST "value" "[B" fV U ∧ Found ST "coder" "B" fC U ∧ D.slots[fV.slot]? = some v0 ∧ D.slots[fC.slot]? = some c0 ∧ RoadKit.slotOf Z ST "value" "[B" = fV.slot ∧ RoadKit.slotOf Z ST "coder" "B" = fC.slot := by
  obtain ⟨D, cfV, kV, iV, fV, hD, gV, stV, knV, obV, asV, slV⟩ := V
  obtain ⟨D', cfC, kC, iC, fC, hD', gC, stC, -, -, asC, slC⟩ := C
  cases hD.symm.trans hD'
  obtain ⟨D2, kD, e1, e2, e3, e4, e5⟩ := E
  cases hD.symm.trans e1
  obtain ⟨c2, k2, i1, i2, i3, -⟩ := Cond.instantiable_spec wi
  cases e2.symm.trans i1
  cases e3.symm.trans i2
  obtain ⟨kU, u1, u2⟩ := al.2.2 _ _ e3
  exact ⟨D, fV, fC, ⟨hD, ⟨knV, fun q hq => by rw [hq] at obV; cases obV⟩, by rw [al.findClass]; exact e2, kU, u1, by rw [u2]; exact i3, by rw [u2]; exact e5 i3⟩, ⟨SBG.found_only al ⟨cfV, kV, iV, gV⟩, stV⟩, ⟨SBG.found_only al ⟨cfC, kC, iC, gC⟩, stC⟩, slV, slC, by simp [RoadKit.slotOf, gV], by simp [RoadKit.slotOf, gC]⟩
theorem sta_is {Z U : State} (al : Z.vm.Alike U.vm) {C n d : String} {v : Value} (S : RoadKit.Sta Z U.heap C n d v) : StaticIs U C n d v := by
  obtain ⟨cfS, iS, kS, fS, st, cS, t1, t2, t3, t4, t5, t6, t7⟩ := S
  exact StaticIs.there (s := { Z with heap := U.heap }) ⟨cfS, iS, kS, fS, st, cS, t1, t2, t3, t4, t5, (fun q => by rw [q] at t6; cases t6), t7⟩ al rfl
/-- **length() OF SUCH A STRING** -/
theorem lenW {p : Program} {l : Launch} {e : Env} {R : Room} {s : State} {args : Array Value} {below : List Frame} {len W : Nat} {Z : State} {a0 : Array Value} {h : Heap} (hZ : Z.Warmed39 s.vm) (hw : ∀ d ∈ wordsLen, d.before a0 Z = true) {kI : Nat} (wi : (Jvm.Cond.instantiable ST kI).before a0 Z = true)
    {x t : Addr} {kb : ClassId} {cs : List Int32} {cd N2 z : Int32} {vs : List Value} (E : RoadKit.Exa Z h x ST) (V : RoadKit.Fld Z h x ST "value" "[B" (.ref t)) (C : RoadKit.Fld Z h x ST "coder" "B" (.int cd)) (K : RoadKit.Arv Z h t kb .byte N2 vs (.int 0)) (hc : CodA cs cd N2 vs) (hb : ∀ c ∈ cs, ¬ c < 0 ∧ ¬ (65535 : Int32) < c)
    (S : RoadKit.Sta Z h ST "COMPACT_STRINGS" "Z" (.int z)) (hz : ¬ z = 0) (l2 : cs.length ≤ 4000) (hfr : 2 ≤ R.frames) (hlo : W + 25 ≤ R.locals) :
    Back l R p e below s args (⟨"java/lang/String", "length", "()I"⟩ : MethodName) len W (fun P a => a = #[.ref x] ∧ P.U.heap = h ∧ P.cells + 0 ≤ R.cells ∧ P.slots + 0 ≤ R.slots)
      (fun P _ v B => ∃ L, (v = some (.int (Int32.ofNat cs.length)) ∧ L = [] ∧ B.U.heap = h) ∧ B.locs = P.locs ++ L ∧ B.cells = P.cells + 0 ∧ B.slots = P.slots + 0) := by
  obtain ⟨A, K1, K2, K3, K4, K5, K6⟩ := K
  have hcod := hc.cod (by omega) K3 K5
  intro m meth c P g ig mk a X hg hsize hdg hW hn hp'
  obtain ⟨rfl, rfl, r1, r2⟩ := hp'
  have al : Z.vm.Alike P.U.vm := hZ.alike.trans X.warmed.alike
  obtain ⟨D, fV, fC, hB, F1, F2, g1, g2, -, -⟩ := strObj wi al E V C
  have hx : Txt x t A cd cs.length (fun j => cs.getD j 0) P.U := ⟨⟨_, hB.2.2.1, D, hB.1, rfl, by cases q : D.vm <;> first | rfl | exact absurd q (hB.2.1.2 _)⟩, Has.of hB F1 g1, Has.of hB F2 g2, ⟨K1.1, State.isArrayOf_alike al K1.2.1, K1.2.2, by rcases hcod with ⟨-, q, -⟩ | ⟨-, q, -⟩ <;> omega⟩, hcod, fun j hj => by
    have e : cs.getD j 0 = cs[j] := by simp [List.getD_eq_getElem?_getD, hj]
    show ¬ cs.getD j 0 < 0 ∧ ¬ 65535 < cs.getD j 0
    rw [e]; exact hb _ (List.getElem_mem _)⟩
  obtain ⟨v, B, X', ⟨⟨hv, hh⟩, hl, hk, hs⟩, st⟩ := Len.pays x t A cd cs.length (fun j => cs.getD j 0) z (tabLen_of (movedLen hZ hw)) hfr hlo m meth c P g ig mk _ X hg hsize hdg hW hn ⟨r1, r2, rfl, hx, sta_is al S, hz⟩
  exact ⟨v, B, X', ⟨[], ⟨hv, rfl, hh⟩, hl, hk, hs⟩, st⟩
end StrChars.Road
namespace StrChars.Road
open Jvm Sem ClassFile Op Lib Jvm.Stand Jvm.Free Jvm.Free.XT
open Jvm.Lib.Cold (StaticIs)
/-- the road's facts of a String, as the laws ask it -/
theorem txt_of {Z U : State} {a0 : Array Value} {kI : Nat} (wi : (Jvm.Cond.instantiable ST kI).before a0 Z = true) (al : Z.vm.Alike U.vm) {x t : Addr} {kb : ClassId} {cs : List Int32} {cd N2 : Int32} {vs : List Value} (E : RoadKit.Exa Z U.heap x ST) (V : RoadKit.Fld Z U.heap x ST "value" "[B" (.ref t)) (C : RoadKit.Fld Z U.heap x ST "coder" "B" (.int cd)) (K : RoadKit.Arv Z U.heap t kb .byte N2 vs (.int 0)) (hc : CodA cs cd N2 vs) (hb : ∀ c ∈ cs, ¬ c < 0 ∧ ¬ (65535 : Int32) < c) (l2 : cs.length ≤ 4000) :
    ∃ A, Txt x t A cd cs.length (fun j => cs.getD j 0) U := by
  obtain ⟨A, K1, K2, K3, K4, K5, K6⟩ := K
  have hcod := hc.cod (by omega) K3 K5
  obtain ⟨D, fV, fC, hB, F1, F2, g1, g2, -, -⟩ := strObj wi al E V C
  exact ⟨A, ⟨_, hB.2.2.1, D, hB.1, rfl, by cases q : D.vm <;> first | rfl | exact absurd q (hB.2.1.2 _)⟩, Has.of hB F1 g1, Has.of hB F2 g2, ⟨K1.1, State.isArrayOf_alike al K1.2.1, K1.2.2, by rcases hcod with ⟨-, q, -⟩ | ⟨-, q, -⟩ <;> omega⟩, hcod, fun j hj => by
    have e : cs.getD j 0 = cs[j] := by simp [List.getD_eq_getElem?_getD, hj]
    show ¬ cs.getD j 0 < 0 ∧ ¬ 65535 < cs.getD j 0
    rw [e]; exact hb _ (List.getElem_mem _)⟩
end StrChars.Road
namespace StrChars
open Jvm Sem ClassFile Op Lib Jvm.Stand Jvm.Free.XT Jvm.Free.ALB Jvm.Free.JM Jvm.Free
open Jvm.Lib.Cold (StaticIs)
namespace ChN
def yN : MethodName := ⟨"java/lang/String", "charAt", "(I)C"⟩
abbrev yB : ByteArray := jdk_42_method_56_code
theorem d0 : decode yB 0 = .ok (.aload_n 0, 1) := by decide +kernel
theorem d1 : decode yB 1 = .ok (.invokevirtual 492, 3) := by decide +kernel
theorem d4 : decode yB 4 = .ok (.ifCond (.eq) 12, 3) := by decide +kernel
theorem d7 : decode yB 7 = .ok (.aload_n 0, 1) := by decide +kernel
theorem d8 : decode yB 8 = .ok (.getfield 9, 3) := by decide +kernel
theorem d11 : decode yB 11 = .ok (.iload_n 1, 1) := by decide +kernel
theorem d12 : decode yB 12 = .ok (.invokestatic 495, 3) := by decide +kernel
theorem d15 : decode yB 15 = .ok (.ireturn, 1) := by decide +kernel
def site : List Cond := [.fieldLink "java/lang/String" 9 "java/lang/String" "value" "[B", IsL.tab, LChA.tab] ++ virtW "java/lang/String" 492 "java/lang/String" IsL.yN IsL.yN ++ staticW "java/lang/String" 495 LChA.yN
def tab : Cond := tabOf yN yB 2 (some .char) site
def P (x t : Addr) (V : Cell) (n : Nat) (f : Nat → Int32) (z : Int32) (fm : Value) (i : Nat) (args : Array Value) (s : State) : Prop := args = #[.ref x, .int (Int32.ofNat i)] ∧ Txt x t V 0 n f s ∧ i < n ∧ StaticIs s "java/lang/String" "COMPACT_STRINGS" "Z" (.int z) ∧ ¬ z = 0 ∧ StaticIs s "jdk/internal/util/Preconditions" "SIOOBE_FORMATTER" "Ljava/util/function/BiFunction;" fm ∧ fm.isRef = true
def E (f : Nat → Int32) (i : Nat) (r : Option Value) (s u : State) : Prop := XT.PureE (some (.int (f i))) r s u
/-- charAt(i) of a Latin-1 String of n chars, i < n: f i -/
theorem law (l : Launch) (x t : Addr) (V : Cell) (n : Nat) (f : Nat → Int32) (z : Int32) (fm : Value) (i : Nat) : Law l yN 2 1 3 40 yB 2 (some .char) site (P x t V n f z fm i) (E f i) [] 0 0 := by
  refine Law.of_walk (plainFor_of_name (by decide +kernel)) (by decide +kernel) (by decide +kernel) (by decide) (fun _ _ h => by rw [h.1]; rfl) (fun _ U U' hal hh h => ⟨h.1, h.2.1.mv hal hh, h.2.2.1, h.2.2.2.1.there hal hh, h.2.2.2.2.1, h.2.2.2.2.2.1.there hal hh, h.2.2.2.2.2.2⟩) (fun r U U' V V' h1 hal h2 h => XT.PureE.mv r U U' V V' h1 hal h2 h) ?_
  intro p e s m args below meth c s₁ X0 hexec hbytes hml hret hlk hnm hown hh0 W hP
  obtain ⟨rfl, hx, hi, s1, hz, s3, rf⟩ := hP
  have v31 := hx.2.2.2.1.2.2.2
  have hr := hx.2.2.2.2.2 i hi
  have hx0 := hx.mv X0.warmed.alike hh0
  have c1 : Steps p.tables e below (s₁.setTop (entryFrame m #[.ref x, .int (Int32.ofNat i)] 2)) (s₁.setTop (mkF m 1 #[.val (.ref x), .val (.int (Int32.ofNat i))] [.ref x])) := Steps.trans (entry rfl) (by
    show Steps p.tables e below (s₁.setTop (mkF m 0 #[.val (.ref x), .val (.int (Int32.ofNat i))] [])) _
    refine XS.aloadN X0.here hexec rfl (hb hbytes d0) rfl rfl ?_
    exact Steps.refl _)
  obtain ⟨v2, T2, X2, E2, g2⟩ := X0.callV hexec (IsL.law l x 0 z) hown (wks W (virtW "java/lang/String" 492 "java/lang/String" IsL.yN IsL.yN)) rfl (by decide) (wk W IsL.tab) (W := 0) (Nat.le_of_ble_eq_true rfl) (Nat.le_of_ble_eq_true rfl) (Nat.le_refl _) (Nat.le_refl _) (hx0.1.fc X0.warmed.alike) hx0.1.is (g := (mkF m 1 #[.val (.ref x), .val (.int (Int32.ofNat i))] [.ref x])) rfl (by rw [hml]; rfl) c1 (argsL := []) (rest := []) rfl rfl (by show 2 * 0 + 0 ≤ _; decide) (hb hbytes d1) (⟨rfl, hx0.2.2.1, hx.2.2.2.2.1.cd, s1.there X0.warmed.alike hh0, hz⟩)
  obtain ⟨rfl, q2⟩ := E2
  have hh2 := q2.trans hh0
  have hx2 := hx.mv X2.warmed.alike hh2
  obtain ⟨-, k1, k2⟩ | ⟨k0, -⟩ := hx.2.2.2.2.1
  · have c3 : Steps p.tables e below (s₁.setTop (entryFrame m #[.ref x, .int (Int32.ofNat i)] 2)) (T2.setTop (mkF m 8 #[.val (.ref x), .val (.int (Int32.ofNat i))] [.ref x])) := Steps.trans g2 (by
      refine XS.ifNo X2.here hexec rfl (hb hbytes d4) rfl (i0_eq_f (by decide)) ?_
      refine XS.aloadN X2.here hexec rfl (hb hbytes d7) rfl rfl ?_
      exact Steps.refl _)
    obtain ⟨T4, X4, q4, st4⟩ := X2.hget hexec hown (wk W (.fieldLink "java/lang/String" 9 "java/lang/String" "value" "[B")) hx2.2.1 (g := (mkF m 8 #[.val (.ref x), .val (.int (Int32.ofNat i))] [.ref x])) rfl (rest := []) rfl (hb hbytes d8)
    have hh4 := q4.trans hh2
    have c5 : Steps p.tables e below (s₁.setTop (entryFrame m #[.ref x, .int (Int32.ofNat i)] 2)) (T4.setTop (mkF m 12 #[.val (.ref x), .val (.int (Int32.ofNat i))] [.int (Int32.ofNat i), .ref t])) := (c3.trans (st4 _ (Steps.refl _))).trans (by
      refine XS.iloadN X4.here hexec rfl (hb hbytes d11) rfl ?_
      exact Steps.refl _)
    obtain ⟨v6, T6, X6, E6, g6⟩ := X4.callS hexec (LChA.law l t V i (lo8 (f i)) fm) hown (wks W (staticW "java/lang/String" 495 LChA.yN)) (wk W LChA.tab) (W := 0) (Nat.le_of_ble_eq_true rfl) (Nat.le_of_ble_eq_true rfl) (Nat.le_refl _) (Nat.le_refl _) (g := (mkF m 12 #[.val (.ref x), .val (.int (Int32.ofNat i))] [.int (Int32.ofNat i), .ref t])) rfl (by rw [hml]; rfl) c5 (argsL := [.ref t, .int (Int32.ofNat i)]) (rest := []) rfl rfl (by show 2 * 0 + 0 ≤ _; decide) (hb hbytes d12) (⟨rfl, hx.2.2.2.1.mv X4.warmed.alike hh4, (k2 i hi).1, s3.there X4.warmed.alike hh4, rf⟩)
    obtain ⟨rfl, q6⟩ := E6
    rw [chr8_lo8 hr.1 (k2 i hi).2] at g6
    exact ⟨T6, some (.int (f i)), _, _, _, X6, rfl, rfl, rfl, (fun h => by cases h), ⟨rfl, q6.trans hh4⟩, fun fs hl => Steps.trans g6 (X6.ireturnOut hexec hret (narrow_ch hr.1 hr.2) (Or.inr (Or.inr (Or.inr (Or.inl rfl)))) (hb hbytes d15) hl)⟩
  · exact absurd k0 (by decide)
theorem pays {l : Launch} {R : Room} {p : Program} {e : Env} {below : List Frame} {s : State} {sargs : Array Value} {len W : Nat} (x t : Addr) (V : Cell) (n : Nat) (f : Nat → Int32) (z : Int32) (fm : Value) (i : Nat) (htab : tab.before sargs s = true) (hfr : 4 ≤ R.frames) (hlo : W + 53 ≤ R.locals) :
    Back l R p e below s sargs yN len W (fun A₁ a₁ => A₁.cells + 0 ≤ R.cells ∧ A₁.slots + 0 ≤ R.slots ∧ P x t V n f z fm i a₁ A₁.U) (fun A₁ _ v₁ B₁ => E f i v₁ A₁.U B₁.U ∧ B₁.locs = A₁.locs ++ [] ∧ B₁.cells = A₁.cells + 0 ∧ B₁.slots = A₁.slots + 0) :=
  (law l x t V n f z fm i).pays htab hfr (by omega)
end ChN
end StrChars
namespace StrChars.Road
open Jvm Sem ClassFile Op Lib Jvm.Stand Jvm.Free Jvm.Free.XT
open Jvm.Lib.Cold (StaticIs)
/-- the words of String.charAt(int), the Latin-1 road alone -/
abbrev wordsChN : List Jvm.Cond := [.code ChN.yN ChN.yB 2 (some .char), .initialized ST, .fieldLink ST 9 ST "value" "[B", .fieldLink ST 38 ST "COMPACT_STRINGS" "Z", .fieldLink ST 15 ST "coder" "B", .code IsL.yN IsL.yB 1 (some .boolean), .methodLink ST 492 IsL.yN, .declares IsL.yN, .selects ST IsL.yN IsL.yN, .instanceMethod IsL.yN,
  .methodLink ST 495 LChA.yN, .static LChA.yN, .code LChA.yN LChA.yB 2 (some .char), .initialized "java/lang/StringLatin1", .methodLink "java/lang/StringLatin1" 9 JO.Str_checkIndex.yN, .static JO.Str_checkIndex.yN, .code JO.Str_checkIndex.yN JO.Str_checkIndex.yB 2 none,
  .fieldLink ST 1053 "jdk/internal/util/Preconditions" "SIOOBE_FORMATTER" "Ljava/util/function/BiFunction;", .methodLink ST 1059 JC.PreCheck.yN, .static JC.PreCheck.yN, .code JC.PreCheck.yN JC.PreCheck.yB 3 (some .int), .initialized "jdk/internal/util/Preconditions"]
theorem tabChN_of {a : Array Value} {s : State} (h : ∀ w ∈ wordsChN, w.before a s = true) : ChN.tab.before a s = true := by
  have hp : JC.PreCheck.tab.before a s = true := unparts (wk h (.code JC.PreCheck.yN JC.PreCheck.yB 3 (some .int))) (wks h (.initialized JC.PreCheck.yN.cls :: JC.PreCheck.site))
  have qk := consq hp h
  have hk : JO.Str_checkIndex.tab.before a s = true := unparts (wk qk (.code JO.Str_checkIndex.yN JO.Str_checkIndex.yB 2 none)) (wks qk (.initialized JO.Str_checkIndex.yN.cls :: JO.Str_checkIndex.site))
  have ql := consq hk h
  have hl : LChA.tab.before a s = true := unparts (wk ql (.code LChA.yN LChA.yB 2 (some .char))) (wks ql (.initialized LChA.yN.cls :: LChA.site))
  have hi : IsL.tab.before a s = true := unparts (wk h (.code IsL.yN IsL.yB 1 (some .boolean))) (wks h (.initialized IsL.yN.cls :: IsL.site))
  have q := consq hi (consq hl h)
  exact unparts (wk q (.code ChN.yN ChN.yB 2 (some .char))) (wks q (.initialized ChN.yN.cls :: ChN.site))
theorem movedChN {Z s : State} {a0 args : Array Value} (hZ : Z.Warmed39 s.vm) (hw : ∀ d ∈ wordsChN, d.before a0 Z = true) : ∀ d ∈ wordsChN, d.before args s = true := fun d hd => by
  have t : ∀ d ∈ wordsChN, (d.onTables && d.keepsFace) = true := by decide +kernel
  exact RoadKit.mv hZ (hw d hd) (t d hd)
/-- **charAt(i) OF A LATIN-1 STRING**, i < n: the char -/
theorem chN {p : Program} {l : Launch} {e : Env} {R : Room} {s : State} {args : Array Value} {below : List Frame} {len W : Nat} {Z : State} {a0 : Array Value} {h : Heap} (hZ : Z.Warmed39 s.vm) (hw : ∀ d ∈ wordsChN, d.before a0 Z = true) {kI : Nat} (wi : (Jvm.Cond.instantiable ST kI).before a0 Z = true)
    {x t : Addr} {kb : ClassId} {cs : List Int32} {N2 z : Int32} {vs : List Value} {fm : Value} {i : Nat} {j : Int32} (E : RoadKit.Exa Z h x ST) (V : RoadKit.Fld Z h x ST "value" "[B" (.ref t)) (C : RoadKit.Fld Z h x ST "coder" "B" (.int 0)) (K : RoadKit.Arv Z h t kb .byte N2 vs (.int 0)) (hc : CodA cs 0 N2 vs) (hb : ∀ c ∈ cs, ¬ c < 0 ∧ ¬ (65535 : Int32) < c)
    (S : RoadKit.Sta Z h ST "COMPACT_STRINGS" "Z" (.int z)) (hz : ¬ z = 0) (F : RoadKit.Sta Z h "jdk/internal/util/Preconditions" "SIOOBE_FORMATTER" "Ljava/util/function/BiFunction;" fm) (rf : fm.isRef = true) (l2 : cs.length ≤ 4000) (hi : i < cs.length) (hj : j = Int32.ofNat i) (hfr : 4 ≤ R.frames) (hlo : W + 53 ≤ R.locals) :
    Back l R p e below s args (⟨"java/lang/String", "charAt", "(I)C"⟩ : MethodName) len W (fun P a => a = #[.ref x, .int j] ∧ P.U.heap = h ∧ P.cells + 0 ≤ R.cells ∧ P.slots + 0 ≤ R.slots)
      (fun P _ v B => ∃ L, (v = some (.int (cs.getD i 0)) ∧ L = [] ∧ B.U.heap = h) ∧ B.locs = P.locs ++ L ∧ B.cells = P.cells + 0 ∧ B.slots = P.slots + 0) := by
  subst hj
  intro m meth c P g ig mk a X hg hsize hdg hW hn hp'
  obtain ⟨rfl, rfl, r1, r2⟩ := hp'
  have al : Z.vm.Alike P.U.vm := hZ.alike.trans X.warmed.alike
  obtain ⟨A, hx⟩ := txt_of wi al E V C K hc hb l2
  obtain ⟨v, B, X', ⟨⟨hv, hh⟩, hl, hk, hs⟩, st⟩ := ChN.pays x t A cs.length (fun j => cs.getD j 0) z fm i (tabChN_of (movedChN hZ hw)) hfr hlo m meth c P g ig mk _ X hg hsize hdg hW hn ⟨r1, r2, rfl, hx, hi, sta_is al S, hz, sta_is al F, rf⟩
  exact ⟨v, B, X', ⟨[], ⟨hv, rfl, hh⟩, hl, hk, hs⟩, st⟩
end StrChars.Road
end Jvm.Pilot.@@N@@

namespace Jvm.Pilot.@@N@@
namespace Own
open Jvm Jvm.ClassFile Sem Op Lib Jvm.Free Jvm.Stand Jvm.LawKit Jvm.RoadKit Bundle
section StrB
variable {p : Program} {l : Launch} {e : Env} {R : Room} {s : State} {args : Array Value} {below : List Frame} {W : Nat} {Z : State} {a0 : Array Value} {h : Heap} {z : Int32} {kI n0 : Nat}
def QPure (w : Value) (h : Heap) (n0 : Nat) (v : Option Value) (h' : Heap) (L : List Loc) : Prop := v = some w ∧ Fr n0 L ∧ h' = h
def QNew (Z : State) (x : Addr) (cs : List Int32) (h : Heap) (n0 : Nat) (v : Option Value) (h' : Heap) (L : List Loc) : Prop := v = none ∧ Fr n0 L ∧ Keep h h' [x] ∧ Str Z h' x cs
theorem newB (hZ : Z.Warmed39 s.vm) (hw : ∀ d ∈ StrChars.Road.words, d.before a0 Z = true) (wi : (Jvm.Cond.instantiable "java/lang/String" kI).before a0 Z = true) {x b : Addr} {kC : ClassId} {cs : List Int32} {d v0 c0 : Value} {N : Int32} {n : Nat} (hx0 : n0 ≤ x) (hh0 : n0 ≤ h.size) (E : Exa Z h x "java/lang/String") (V : Fld Z h x "java/lang/String" "value" "[B" v0) (C : Fld Z h x "java/lang/String" "coder" "B" c0) (K : Arv Z h b kC .char N (cs.map Value.int) d) (S : Sta Z h "java/lang/String" "COMPACT_STRINGS" "Z" (.int z)) (hz : ¬ z = 0)
    (hn : cs.length = n) (hN : N = Int32.ofNat n) (l0 : 0 < n) (l2 : n ≤ 4000) (hp : ∀ c ∈ cs, ¬ c < 0 ∧ ¬ (255 : Int32) < c) (hfr : 4 ≤ R.frames) (hlo : W + 65 ≤ R.locals) :
    Back l R p e below s args (⟨"java/lang/String", "<init>", "([C)V"⟩ : MethodName) 3 W (fun A a => a = #[.ref x, .ref b] ∧ A.U.heap = h ∧ A.cells + 1 ≤ R.cells ∧ A.slots + n ≤ R.slots)
      (fun A _ v B => ∃ L, QNew Z x cs h n0 v B.U.heap L ∧ B.locs = A.locs ++ L ∧ B.cells = A.cells + 1 ∧ B.slots = A.slots + n) := by
  subst hn hN
  refine Back.mono (StrChars.Road.backV hZ hw wi (cs := cs) (n0 := n0) hx0 hh0 E V C K S hz rfl rfl l0 l2 hp rfl hfr hlo) (fun _ _ q => q) (fun P a v B _ hq => ?_)
  obtain ⟨L, ⟨q1, q2, q3, q4, q5, t, kb, -, -, -, q6, q7⟩, r⟩ := hq
  exact ⟨L, ⟨q1, q2, q3, ⟨t, kb, q4, q6, q5, q7⟩, hp, l2⟩, r⟩
theorem Str.cod {cs : List Int32} (hb : ∀ c ∈ cs, ¬ c < 0 ∧ ¬ (255 : Int32) < c) : StrChars.Road.CodA cs 0 (Int32.ofNat cs.length) ((cs.map fun c => c.toInt8.toInt32).map Value.int) := Or.inl ⟨rfl, rfl, by rw [List.map_map]; rfl, fun c hc => (hb c hc).2⟩
theorem lenB (hZ : Z.Warmed39 s.vm) (hw : ∀ d ∈ StrChars.Road.wordsLen, d.before a0 Z = true) (wi : (Jvm.Cond.instantiable "java/lang/String" kI).before a0 Z = true) {x : Addr} {cs : List Int32} (X : Str Z h x cs) (S : Sta Z h "java/lang/String" "COMPACT_STRINGS" "Z" (.int z)) (hz : ¬ z = 0) (hfr : 2 ≤ R.frames) (hlo : W + 25 ≤ R.locals) :
    Back l R p e below s args (⟨"java/lang/String", "length", "()I"⟩ : MethodName) 3 W (fun A a => a = #[.ref x] ∧ A.U.heap = h ∧ A.cells + 0 ≤ R.cells ∧ A.slots + 0 ≤ R.slots)
      (fun A _ v B => ∃ L, QPure (.int (Int32.ofNat cs.length)) h n0 v B.U.heap L ∧ B.locs = A.locs ++ L ∧ B.cells = A.cells + 0 ∧ B.slots = A.slots + 0) := by
  have up := X.up
  obtain ⟨⟨t, kb, x1, x2, x3, x4⟩, hp, hl⟩ := X
  refine Back.mono (StrChars.Road.lenW hZ hw wi x1 x2 x3 x4 (Str.cod hp) up S hz hl hfr hlo) (fun _ _ q => q) (fun P a v B _ hq => ?_)
  obtain ⟨L, ⟨q1, q2, q3⟩, r⟩ := hq
  exact ⟨L, ⟨q1, by subst q2; exact Fr.nil _, q3⟩, r⟩
theorem chB (hZ : Z.Warmed39 s.vm) (hw : ∀ d ∈ StrChars.Road.wordsChN, d.before a0 Z = true) (wi : (Jvm.Cond.instantiable "java/lang/String" kI).before a0 Z = true) {x : Addr} {cs : List Int32} (X : Str Z h x cs) (S : Sta Z h "java/lang/String" "COMPACT_STRINGS" "Z" (.int z)) (hz : ¬ z = 0) {fm : Value} (F : Sta Z h "jdk/internal/util/Preconditions" "SIOOBE_FORMATTER" "Ljava/util/function/BiFunction;" fm) (rf : fm.isRef = true) {i : Nat} {j : Int32} (hi : i < cs.length) (hj : j = Int32.ofNat i) (hfr : 4 ≤ R.frames) (hlo : W + 53 ≤ R.locals) :
    Back l R p e below s args (⟨"java/lang/String", "charAt", "(I)C"⟩ : MethodName) 3 W (fun A a => a = #[.ref x, .int j] ∧ A.U.heap = h ∧ A.cells + 0 ≤ R.cells ∧ A.slots + 0 ≤ R.slots)
      (fun A _ v B => ∃ L, QPure (.int (cs.getD i 0)) h n0 v B.U.heap L ∧ B.locs = A.locs ++ L ∧ B.cells = A.cells + 0 ∧ B.slots = A.slots + 0) := by
  have up := X.up
  obtain ⟨⟨t, kb, x1, x2, x3, x4⟩, hp, hl⟩ := X
  refine Back.mono (StrChars.Road.chN hZ hw wi x1 x2 x3 x4 (Str.cod hp) up S hz F rf hl hi hj hfr hlo) (fun _ _ q => q) (fun P a v B _ hq => ?_)
  obtain ⟨L, ⟨q1, q2, q3⟩, r⟩ := hq
  exact ⟨L, ⟨q1, by subst q2; exact Fr.nil _, q3⟩, r⟩
end StrB
end Own
end Jvm.Pilot.@@N@@
namespace Jvm.Pilot.@@N@@
namespace Own
open Jvm Jvm.ClassFile Sem Op Lib Jvm.Free Jvm.Stand Jvm.LawKit Jvm.RoadKit Bundle
section Held
variable {Z : State} {own : String} {bytes : ByteArray} {h h' : Heap} {p : Program} {l : Launch} {e : Env} {R : Room} {s : State} {m : MethodId} {args : Array Value} {below : List Frame} {meth : Method} {c : Code} {T : State} {locs : List Loc} {cells slots : Nat}
  {K : State → Outcome → Prop} {a0 : Array Value} {pc q : Nat} {Ls : Array Slot} {st : List Value} {vm : Vm} {h0 : Heap} {EL : List (String × Nat)}
/-- where a walk that may intern stands: since its start s, with the tables vm -/
def Hd (Z : State) (EL : List (String × Nat)) (s : State) (vm : Vm) (h0 h : Heap) : Prop := (∃ k, s.Since vm k ∧ k ≤ h.size) ∧ CHr Z EL s.vm h0 vm h
theorem Hd.start (H : CHv Z EL s.vm h0) : Hd Z EL s s.vm h0 h0 := ⟨⟨0, (State.WarmedH.refl s).since 0, Nat.zero_le _⟩, CHr.refl H⟩
theorem Hd.ext (H : Hd Z EL s vm h0 h) (E : Ext h h') : Hd Z EL s vm h0 h' := by
  obtain ⟨⟨k, a, b⟩, r⟩ := H
  exact ⟨⟨k, a, Nat.le_trans b E.1⟩, r.trans (CHr.ext E r.1)⟩
theorem Hd.wr {a : Addr} {sl : Nat} {v : Value} (H : Hd Z EL s vm h0 h) (W : Wr h h' a sl v) (S : Safe Z EL vm h a) : Hd Z EL s vm h0 h' := by
  obtain ⟨⟨k, a, b⟩, r⟩ := H
  exact ⟨⟨k, a, by rw [W.size]; exact b⟩, r.trans (CHr.wr W S r.1)⟩
theorem Hd.kp {ws : List Addr} (H : Hd Z EL s vm h0 h) (Kp : Keep h h' ws) (S : ∀ x ∈ ws, Safe Z EL vm h x) : Hd Z EL s vm h0 h' := by
  obtain ⟨⟨k, a, b⟩, r⟩ := H
  exact ⟨⟨k, a, Nat.le_trans b Kp.1⟩, r.trans (CHr.keep Kp S r.1)⟩
theorem backH {y : MethodName} {cb : ByteArray} {maxL : Nat} {ret : Option FieldType} {rm : Room} {len W : Nat} {as' : Array Value} {Q : Option Value → Heap → List Loc → Prop} {sf : List Addr}
    (hM : MetFree l y (head1 [Cond.code y cb maxL ret] rm) (fun a U => a = as' ∧ Z.Warmed39 U.vm ∧ U.heap = h ∧ CHv Z EL U.vm h ∧ ∀ x ∈ sf, Safe Z EL U.vm h x) (fun _ _ _ _ _ => True) (fun _ U o U' => ∃ v L, o = .returned v ∧ Q v U'.heap L ∧ CHr Z EL U.vm U.heap U'.vm U'.heap ∧ ReturnedEndW U o U' L rm.cells rm.slots))
    (hZ : Z.Warmed39 vm) (wc : (Cond.code y cb maxL ret).before a0 Z = true) (wz : (Cond.initialized y.cls).before a0 Z = true) (hf : rm.frames + 1 ≤ R.frames) (hl : W + (maxL + 11) + rm.locals ≤ R.locals) (hEL : EW Z a0 EL) (H : CHv Z EL vm h) (hsf : ∀ x ∈ sf, x < h.size ∧ Safe Z EL vm h x) :
    BackS l R p e below (s.setVm vm) args y len W (fun A a => a = as' ∧ A.U.heap = h ∧ A.cells + rm.cells ≤ R.cells ∧ A.slots + rm.slots ≤ R.slots)
      (fun A _ v B => ∃ L, Q v B.U.heap L ∧ B.locs = A.locs ++ L ∧ B.cells = A.cells + rm.cells ∧ B.slots = A.slots + rm.slots ∧ CHr Z EL vm h B.U.vm B.U.heap) := by
  refine BackS.of_freeW (bytes := cb) (maxL := maxL) (ret := ret) (E := fun _ first o t L k n => k = rm.cells ∧ n = rm.slots ∧ (∃ v, o = .returned v ∧ Q v t.heap L) ∧ CHr Z EL first.vm first.heap t.vm t.heap) hM hf hl ?_ ?_ (fun _ _ _ _ _ _ _ _ _ => trivial) ?_ ?_
  · intro m meth c A a Y hp
    have hU : Z.Warmed39 A.U.vm := wtrans (s := s.setVm vm) hZ Y.warmed
    exact ⟨by show (Cond.and _ .tt).before a A.U = true; rw [Cond.before_and, mv hU wc]; rfl, mv hU wc, mv hU wz, hp.2.2.1, hp.2.2.2⟩
  · intro m meth c A a g mk Y hp
    have q := CHv.at Y hZ hEL H
    exact ⟨hp.1, wtrans (s := s.setVm vm) hZ Y.warmed, hp.2.1, q.1, fun x hx => q.safe (hsf x hx).1 (hsf x hx).2⟩
  · rintro _ _ _ _ ⟨v, L, h1, h2, h3, h4⟩
    exact ⟨L, _, _, h4, rfl, rfl, ⟨v, h1, h2⟩, h3⟩
  · rintro m meth c A a g mk v t L k n Y hp - - ⟨e1, e2, ⟨v', e3, e4⟩, e5⟩
    cases e3
    subst e1 e2
    refine ⟨L, e4, rfl, rfl, rfl, (CHv.at Y hZ hEL H).trans ?_⟩
    rw [← hp.2.1]
    exact e5
theorem ldcStr {i n : Nat} {text : String} {cs : List Int32} (P : Wk Z own bytes h p l e R (s.setVm vm) m args below meth c T locs cells slots) (H : Hd Z EL s vm h0 h) (hd : decode bytes pc = .ok (.ldc i, 2)) (w : (Cond.stringLink own i text).before a0 Z = true) (wS : ∀ a ∈ Bundle.stringAtoms, a.before a0 Z = true) (hEL : EW Z a0 EL) (hmem : (own, i) ∈ EL)
    (ht : (∀ c ∈ text.toList, c.toNat < 256) ∧ text.toList.map (fun c => Value.int (Jvm.Lit.byteI c.toNat.toUInt16)) = (cs.map fun c => c.toInt8.toInt32).map Value.int) (hp : ∀ c ∈ cs, ¬ c < 0 ∧ ¬ (255 : Int32) < c) (hl : cs.length ≤ 4000) (hz : ¬ (Int32.ofNat cs.length) < 0) (hz2 : (Int32.ofNat cs.length).toNatClampNeg = ((cs.map fun c => c.toInt8.toInt32).map Value.int).length)
    (hn : 4 * text.toList.length ≤ n) (hbig : n ≤ 536870912) (hc : cells + 2 ≤ R.cells) (hs : slots + (n + 4) ≤ R.slots) (hq : pc + 2 = q)
    (k : ∀ T₂ vm₂ h₂ a, Wk Z own bytes h₂ p l e R (s.setVm vm₂) m args below meth c T₂ locs (cells + 2) (slots + (n + 4)) → Hd Z EL s vm₂ h0 h₂ → CHr Z EL vm h vm₂ h₂ → Ext h h₂ → Str Z h₂ a cs → Goes p.tables e below K (T₂.setTop (mkF m (q) Ls (.ref a :: st)))) : Goes p.tables e below K (T.setTop (mkF m pc Ls (st))) := by
  subst hq
  obtain ⟨⟨k0, S0, b0⟩, r0⟩ := H
  obtain ⟨a, T₂, h₂, k1, b, kb, X2, e2, E2, S2, b2, hW, hf, g1, g2, g3, g4, -, -, r2, -, -, st2⟩ := ldcCH P.1 P.2.1 P.2.2.2.1 P.2.2.2.2.1 w wS P.2.2.2.2.2 S0 b0 hEL hmem r0.1 ht hz hz2 (g := mkF m pc Ls st) rfl (hb P.2.2.1 hd) hn hbig hc hs
  exact Goes.go st2 (k T₂ T₂.vm h₂ a ⟨X2, P.2.1, P.2.2.1, hW, hf, e2⟩ ⟨⟨k1, S2, b2⟩, r0.trans r2⟩ r2 E2 ⟨⟨b, kb, g1, g3, g2, g4⟩, hp, hl⟩)
theorem invStaticH {y : MethodName} {cb : ByteArray} {mL : Nat} {ret : Option FieldType} {i W kc ks : Nat} {as' : Array Value} {Q : Option Value → Heap → List Loc → Prop} {argsL rest : List Value} (P : Wk Z own bytes h p l e R (s.setVm vm) m args below meth c T locs cells slots) (H : Hd Z EL s vm h0 h) (hd : decode bytes pc = .ok (.invokestatic i, 3)) (w1 : (Cond.methodLink own i y).before a0 Z = true) (w2 : (Cond.static y).before a0 Z = true) (w3 : (Cond.initialized y.cls).before a0 Z = true) (w4 : (Cond.code y cb mL ret).before a0 Z = true) (hy : y.cls ≠ "java/lang/invoke/MethodHandle" ∧ y.cls ≠ "java/lang/invoke/VarHandle") (B : BackS l R p e below (s.setVm vm) args y 3 W (fun A a => a = as' ∧ A.U.heap = h ∧ A.cells + kc ≤ R.cells ∧ A.slots + ks ≤ R.slots) (fun A _ v B => ∃ L, Q v B.U.heap L ∧ B.locs = A.locs ++ L ∧ B.cells = A.cells + kc ∧ B.slots = A.slots + ks ∧ CHr Z EL vm h B.U.vm B.U.heap)) (ha : argsL.toArray = as') (hst : st = argsL.reverse ++ rest) (hz : Ls.size = c.maxLocals) (hlen : ∀ sig, parseMethodDescriptor y.desc = some sig → argsL.length = sig.parameters.length) (hW : 2 * (mkF m pc Ls st).monitorRoom + (rest.map fun v => v.category).sum ≤ W) (hcc : cells + kc ≤ R.cells) (hss : slots + ks ≤ R.slots) (hq : pc + 3 = q) (k : ∀ v T₂ vm₂ h₂ L, Q v h₂ L → Wk Z own bytes h₂ p l e R (s.setVm vm₂) m args below meth c T₂ (locs ++ L) (cells + kc) (slots + ks) → Hd Z EL s vm₂ h0 h₂ → CHr Z EL vm h vm₂ h₂ → Goes p.tables e below K (T₂.setTop (mkF m q Ls (v.toList ++ rest)))) : Goes p.tables e below K (T.setTop (mkF m pc Ls (st))) := by
  subst hq
  obtain ⟨v, _, ⟨T₂, L₂, c₂, n₂⟩, -, X2, S2, b2, ⟨L, hQ, hl, hc2, hs2, r2⟩, st2⟩ := callSS P.1 P.2.1 (y := y) P.2.2.2.2.1 (mvT P.2.2.2.1 w1) (mvT P.2.2.2.1 w2) (mvT P.2.2.2.1 w3) (mvT P.2.2.2.1 w4) hy B (g := mkF m pc Ls st) rfl hz (argsL := argsL) (rest := rest) hlen hst hW (hb P.2.2.1 hd) (fun _ _ => ⟨ha, P.2.2.2.2.2, hcc, hss⟩)
  dsimp only [Pt.U, Pt.locs, Pt.cells, Pt.slots] at X2 hl hc2 hs2 st2 hQ S2 b2 r2
  subst hl hc2 hs2
  obtain ⟨⟨k0, S0, b0⟩, r0⟩ := H
  have hW : Z.Warmed39 T₂.vm := State.Warmed39.trans (t := s.setVm vm) P.2.2.2.1 S2.1
  have hf : (s.setVm T₂.vm).vm.findClass own = some m.cls := by rw [show (s.setVm T₂.vm).vm = T₂.vm from rfl, S2.1.alike.findClass]; exact P.2.2.2.2.1
  have b1 : k0 ≤ T.heap.size := by rw [P.2.2.2.2.2]; exact b0
  exact Goes.tr st2 (k v T₂ T₂.vm _ L hQ ⟨X2, P.2.1, P.2.2.1, hW, hf, rfl⟩ ⟨⟨_, S0.trans S2 (Nat.le_trans b1 b2), Nat.le_refl _⟩, r0.trans r2⟩ r2)
theorem invSpecialH {y : MethodName} {cb : ByteArray} {mL : Nat} {i W kc ks : Nat} {as' : Array Value} {Q : Option Value → Heap → List Loc → Prop} {a : Addr} {argsL rest : List Value} (P : Wk Z own bytes h p l e R (s.setVm vm) m args below meth c T locs cells slots) (H : Hd Z EL s vm h0 h) (hd : decode bytes pc = .ok (.invokespecial i, 3)) (hin : y.name = "<init>") (w1 : (Cond.methodLink own i y).before a0 Z = true) (w2 : (Cond.instanceMethod y).before a0 Z = true) (w4 : (Cond.code y cb mL none).before a0 Z = true) (hy : y.cls ≠ "java/lang/invoke/MethodHandle" ∧ y.cls ≠ "java/lang/invoke/VarHandle") (B : BackS l R p e below (s.setVm vm) args y 3 W (fun A a => a = as' ∧ A.U.heap = h ∧ A.cells + kc ≤ R.cells ∧ A.slots + ks ≤ R.slots) (fun A _ v B => ∃ L, Q v B.U.heap L ∧ B.locs = A.locs ++ L ∧ B.cells = A.cells + kc ∧ B.slots = A.slots + ks ∧ CHr Z EL vm h B.U.vm B.U.heap)) (ha : (.ref a :: argsL).toArray = as') (hst : st = argsL.reverse ++ .ref a :: rest) (hz : Ls.size = c.maxLocals) (hlen : ∀ sig, parseMethodDescriptor y.desc = some sig → argsL.length = sig.parameters.length) (hW : 2 * (mkF m pc Ls st).monitorRoom + (rest.map fun v => v.category).sum ≤ W) (hcc : cells + kc ≤ R.cells) (hss : slots + ks ≤ R.slots) (hq : pc + 3 = q) (k : ∀ v T₂ vm₂ h₂ L, Q v h₂ L → Wk Z own bytes h₂ p l e R (s.setVm vm₂) m args below meth c T₂ (locs ++ L) (cells + kc) (slots + ks) → Hd Z EL s vm₂ h0 h₂ → CHr Z EL vm h vm₂ h₂ → Goes p.tables e below K (T₂.setTop (mkF m q Ls (v.toList ++ rest)))) : Goes p.tables e below K (T.setTop (mkF m pc Ls (st))) := by
  subst hq
  obtain ⟨v, _, ⟨T₂, L₂, c₂, n₂⟩, -, X2, S2, b2, ⟨L, hQ, hl, hc2, hs2, r2⟩, st2⟩ := P.1.specialBackS P.2.1 (y := y) hin P.2.2.2.2.1 (mvT P.2.2.2.1 w1) (mvT P.2.2.2.1 w2) (mvT P.2.2.2.1 w4) hy B (g := mkF m pc Ls st) rfl hz (Steps.refl _) (a := a) (argsL := argsL) (rest := rest) hlen hst hW (hb P.2.2.1 hd) (fun _ _ => ⟨ha, P.2.2.2.2.2, hcc, hss⟩)
  dsimp only [Pt.U, Pt.locs, Pt.cells, Pt.slots] at X2 hl hc2 hs2 st2 hQ S2 b2 r2
  subst hl hc2 hs2
  obtain ⟨⟨k0, S0, b0⟩, r0⟩ := H
  have hW : Z.Warmed39 T₂.vm := State.Warmed39.trans (t := s.setVm vm) P.2.2.2.1 S2.1
  have hf : (s.setVm T₂.vm).vm.findClass own = some m.cls := by rw [show (s.setVm T₂.vm).vm = T₂.vm from rfl, S2.1.alike.findClass]; exact P.2.2.2.2.1
  have b1 : k0 ≤ T.heap.size := by rw [P.2.2.2.2.2]; exact b0
  exact Goes.tr st2 (k v T₂ T₂.vm _ L hQ ⟨X2, P.2.1, P.2.2.1, hW, hf, rfl⟩ ⟨⟨_, S0.trans S2 (Nat.le_trans b1 b2), Nat.le_refl _⟩, r0.trans r2⟩ r2)
theorem invVirtualH {y z : MethodName} {C : String} {i W kc ks : Nat} {as' : Array Value} {Q : Option Value → Heap → List Loc → Prop} {a : Addr} {argsL rest : List Value} (P : Wk Z own bytes h p l e R (s.setVm vm) m args below meth c T locs cells slots) (H : Hd Z EL s vm h0 h) (hd : decode bytes pc = .ok (.invokevirtual i, 3)) (w1 : (Cond.methodLink own i y).before a0 Z = true) (w2 : (Cond.declares y).before a0 Z = true) (w3 : (Cond.selects C y z).before a0 Z = true) (w4 : (Cond.instanceMethod z).before a0 Z = true) (nf : NotFace (s.setVm vm) y) (hy : y.cls ≠ "java/lang/invoke/MethodHandle" ∧ y.cls ≠ "java/lang/invoke/VarHandle") (B : BackS l R p e below (s.setVm vm) args z 3 W (fun A a => a = as' ∧ A.U.heap = h ∧ A.cells + kc ≤ R.cells ∧ A.slots + ks ≤ R.slots) (fun A _ v B => ∃ L, Q v B.U.heap L ∧ B.locs = A.locs ++ L ∧ B.cells = A.cells + kc ∧ B.slots = A.slots + ks ∧ CHr Z EL vm h B.U.vm B.U.heap)) (E : Exa Z h a C) (ha : (.ref a :: argsL).toArray = as') (hst : st = argsL.reverse ++ .ref a :: rest) (hz : Ls.size = c.maxLocals) (hlen : ∀ sig, parseMethodDescriptor y.desc = some sig → argsL.length = sig.parameters.length) (hW : 2 * (mkF m pc Ls st).monitorRoom + (rest.map fun v => v.category).sum ≤ W) (hcc : cells + kc ≤ R.cells) (hss : slots + ks ≤ R.slots) (hq : pc + 3 = q) (k : ∀ v T₂ vm₂ h₂ L, Q v h₂ L → Wk Z own bytes h₂ p l e R (s.setVm vm₂) m args below meth c T₂ (locs ++ L) (cells + kc) (slots + ks) → Hd Z EL s vm₂ h0 h₂ → CHr Z EL vm h vm₂ h₂ → Goes p.tables e below K (T₂.setTop (mkF m q Ls (v.toList ++ rest)))) : Goes p.tables e below K (T.setTop (mkF m pc Ls (st))) := by
  subst hq
  obtain ⟨cB, kB, r1, -, r3⟩ := isOf P.2.2.2.1 P.2.2.2.2.2 E
  obtain ⟨v, _, ⟨T₂, L₂, c₂, n₂⟩, -, X2, S2, b2, ⟨L, hQ, hl, hc2, hs2, r2⟩, st2⟩ := P.1.virtualBackS P.2.1 (y := y) (z := z) P.2.2.2.2.1 (mvT P.2.2.2.1 w1) (mvT P.2.2.2.1 w2) nf (mvT P.2.2.2.1 w3) (mvT P.2.2.2.1 w4) hy B r1 r3 (g := mkF m pc Ls st) rfl hz (Steps.refl _) (argsL := argsL) (rest := rest) hlen hst hW (hb P.2.2.1 hd) (fun _ _ => ⟨ha, P.2.2.2.2.2, hcc, hss⟩)
  dsimp only [Pt.U, Pt.locs, Pt.cells, Pt.slots] at X2 hl hc2 hs2 st2 hQ S2 b2 r2
  subst hl hc2 hs2
  obtain ⟨⟨k0, S0, b0⟩, r0⟩ := H
  have hW : Z.Warmed39 T₂.vm := State.Warmed39.trans (t := s.setVm vm) P.2.2.2.1 S2.1
  have hf : (s.setVm T₂.vm).vm.findClass own = some m.cls := by rw [show (s.setVm T₂.vm).vm = T₂.vm from rfl, S2.1.alike.findClass]; exact P.2.2.2.2.1
  have b1 : k0 ≤ T.heap.size := by rw [P.2.2.2.2.2]; exact b0
  exact Goes.tr st2 (k v T₂ T₂.vm _ L hQ ⟨X2, P.2.1, P.2.2.1, hW, hf, rfl⟩ ⟨⟨_, S0.trans S2 (Nat.le_trans b1 b2), Nat.le_refl _⟩, r0.trans r2⟩ r2)
theorem retVH {kc ks : Nat} {Q : Option Value → Heap → List Loc → Prop}  (P : Wk Z own bytes h p l e R (s.setVm vm) m args below meth c T locs cells slots) (hh : s.heap = h0) (hEL : EW Z a0 EL) (H : Hd Z EL s vm h0 h) (hd : decode bytes pc = .ok (.return_, 1)) (hret : meth.sig.returnType = none) (hlk : meth.locks = false) (hc : cells ≤ kc) (hs : slots ≤ ks) (hQ : Q none h locs) : Goes p.tables e below (fun s₂ o => ∃ v L, o = .returned v ∧ Q v s₂.heap L ∧ CHr Z EL s.vm s.heap s₂.vm s₂.heap ∧ ReturnedEndW s o s₂ L kc ks) (T.setTop (mkF m pc Ls ([]))) := by
  obtain ⟨⟨k0, S0, b0⟩, r0⟩ := H
  obtain ⟨fs, hr, hrun, hended, q1, q2, q3, q4⟩ := P.1.leaveW S0 (by rw [P.2.2.2.2.2]; exact b0) (v := none) (fun h => by first | rfl | (rw [hret] at h; cases h)) hlk
  have r1 := CHv.at P.1 P.2.2.2.1 hEL r0.1
  refine ⟨_, _, P.1.returnOut P.2.1 hret (hb P.2.2.1 hd) hr, hrun, hended, _, _, rfl, by show Q _ T.heap _; rw [P.2.2.2.2.2]; exact hQ, ?_, q1, q2, q3, q4.mono hc hs⟩
  show CHr Z EL s.vm s.heap T.vm T.heap
  rw [P.2.2.2.2.2, hh]
  exact r0.trans r1
theorem retZH {kc ks : Nat} {Q : Option Value → Heap → List Loc → Prop} {t : FieldType} {z : Int32} (P : Wk Z own bytes h p l e R (s.setVm vm) m args below meth c T locs cells slots) (hh : s.heap = h0) (hEL : EW Z a0 EL) (H : Hd Z EL s vm h0 h) (hd : decode bytes pc = .ok (.ireturn, 1)) (hret : meth.sig.returnType = some t) (ht : t = .boolean ∨ t = .byte ∨ t = .char ∨ t = .short) (hlk : meth.locks = false) (hc : cells ≤ kc) (hs : slots ≤ ks) (hQ : Q (some (.int (nar t z))) h locs) : Goes p.tables e below (fun s₂ o => ∃ v L, o = .returned v ∧ Q v s₂.heap L ∧ CHr Z EL s.vm s.heap s₂.vm s₂.heap ∧ ReturnedEndW s o s₂ L kc ks) (T.setTop (mkF m pc Ls (.int z :: st))) := by
  obtain ⟨⟨k0, S0, b0⟩, r0⟩ := H
  obtain ⟨fs, hr, hrun, hended, q1, q2, q3, q4⟩ := P.1.leaveW S0 (by rw [P.2.2.2.2.2]; exact b0) (v := (some (.int (nar t z)))) (fun h => by first | rfl | (rw [hret] at h; cases h)) hlk
  have r1 := CHv.at P.1 P.2.2.2.1 hEL r0.1
  refine ⟨_, _, retN P.1 P.2.1 hret ht (hb P.2.2.1 hd) hr, hrun, hended, _, _, rfl, by show Q _ T.heap _; rw [P.2.2.2.2.2]; exact hQ, ?_, q1, q2, q3, q4.mono hc hs⟩
  show CHr Z EL s.vm s.heap T.vm T.heap
  rw [P.2.2.2.2.2, hh]
  exact r0.trans r1
theorem retIH {kc ks : Nat} {Q : Option Value → Heap → List Loc → Prop} {z : Int32} (P : Wk Z own bytes h p l e R (s.setVm vm) m args below meth c T locs cells slots) (hh : s.heap = h0) (hEL : EW Z a0 EL) (H : Hd Z EL s vm h0 h) (hd : decode bytes pc = .ok (.ireturn, 1)) (hret : meth.sig.returnType = some .int) (hlk : meth.locks = false) (hc : cells ≤ kc) (hs : slots ≤ ks) (hQ : Q (some (.int z)) h locs) : Goes p.tables e below (fun s₂ o => ∃ v L, o = .returned v ∧ Q v s₂.heap L ∧ CHr Z EL s.vm s.heap s₂.vm s₂.heap ∧ ReturnedEndW s o s₂ L kc ks) (T.setTop (mkF m pc Ls (.int z :: st))) := by
  obtain ⟨⟨k0, S0, b0⟩, r0⟩ := H
  obtain ⟨fs, hr, hrun, hended, q1, q2, q3, q4⟩ := P.1.leaveW S0 (by rw [P.2.2.2.2.2]; exact b0) (v := (some (.int z))) (fun h => by first | rfl | (rw [hret] at h; cases h)) hlk
  have r1 := CHv.at P.1 P.2.2.2.1 hEL r0.1
  refine ⟨_, _, retOut P.1 P.2.1 hret rfl (Or.inl ⟨rfl, Or.inl rfl, _, rfl⟩) (hb P.2.2.1 hd) hr, hrun, hended, _, _, rfl, by show Q _ T.heap _; rw [P.2.2.2.2.2]; exact hQ, ?_, q1, q2, q3, q4.mono hc hs⟩
  show CHr Z EL s.vm s.heap T.vm T.heap
  rw [P.2.2.2.2.2, hh]
  exact r0.trans r1
theorem retAH {kc ks : Nat} {Q : Option Value → Heap → List Loc → Prop} {t : FieldType} {v : Value} (P : Wk Z own bytes h p l e R (s.setVm vm) m args below meth c T locs cells slots) (hh : s.heap = h0) (hEL : EW Z a0 EL) (H : Hd Z EL s vm h0 h) (hd : decode bytes pc = .ok (.areturn, 1)) (hret : meth.sig.returnType = some t) (ht : t.isReference = true) (hv : v.isRef = true) (hn : narrow t v = v) (hlk : meth.locks = false) (hc : cells ≤ kc) (hs : slots ≤ ks) (hQ : Q (some v) h locs) : Goes p.tables e below (fun s₂ o => ∃ v L, o = .returned v ∧ Q v s₂.heap L ∧ CHr Z EL s.vm s.heap s₂.vm s₂.heap ∧ ReturnedEndW s o s₂ L kc ks) (T.setTop (mkF m pc Ls (v :: st))) := by
  obtain ⟨⟨k0, S0, b0⟩, r0⟩ := H
  obtain ⟨fs, hr, hrun, hended, q1, q2, q3, q4⟩ := P.1.leaveW S0 (by rw [P.2.2.2.2.2]; exact b0) (v := (some v)) (fun h => by first | rfl | (rw [hret] at h; cases h)) hlk
  have r1 := CHv.at P.1 P.2.2.2.1 hEL r0.1
  refine ⟨_, _, retOut P.1 P.2.1 hret hn (Or.inr (Or.inr (Or.inr (Or.inr ⟨rfl, ht, hv⟩)))) (hb P.2.2.1 hd) hr, hrun, hended, _, _, rfl, by show Q _ T.heap _; rw [P.2.2.2.2.2]; exact hQ, ?_, q1, q2, q3, q4.mono hc hs⟩
  show CHr Z EL s.vm s.heap T.vm T.heap
  rw [P.2.2.2.2.2, hh]
  exact r0.trans r1
end Held
end Own
end Jvm.Pilot.@@N@@
namespace Jvm.Pilot.@@N@@
open Jvm Jvm.ClassFile Sem Op Lib Jvm.Free Jvm.Stand Jvm.LawKit Jvm.RoadKit Bundle Jvm.Pilot.@@N@@.Jvm.D
set_option maxRecDepth 65536 in
theorem sub_backV : ∀ d ∈ StrChars.Road.words, d ∈ tables_1 := by
  intro d hd
  have h : StrChars.Road.words.all (fun d => tables_1.contains d) = true := by decide +kernel
  exact List.contains_iff_mem.mp (List.all_eq_true.mp h d hd)
set_option maxRecDepth 65536 in
theorem sub_lenW : ∀ d ∈ StrChars.Road.wordsLen, d ∈ tables_1 := by
  intro d hd
  have h : StrChars.Road.wordsLen.all (fun d => tables_1.contains d) = true := by decide +kernel
  exact List.contains_iff_mem.mp (List.all_eq_true.mp h d hd)
set_option maxRecDepth 65536 in
theorem sub_chN : ∀ d ∈ StrChars.Road.wordsChN, d ∈ tables_1 := by
  intro d hd
  have h : StrChars.Road.wordsChN.all (fun d => tables_1.contains d) = true := by decide +kernel
  exact List.contains_iff_mem.mp (List.all_eq_true.mp h d hd)

abbrev EL : List (String × Nat) := [("com/example/mokuroku/mokuroku/formats/JpcoarReader", 7), ("com/example/mokuroku/mokuroku/formats/JpcoarReader", 15), ("com/example/mokuroku/mokuroku/formats/JpcoarReaderIsReadingLanguagePinLaw", 28), ("com/example/mokuroku/mokuroku/formats/JpcoarReaderIsReadingLanguagePinLaw", 34), ("java/lang/String", 7)]
theorem ew {Z : State} {a0 : Array Value} (hw : ∀ d ∈ tables_1, d.before a0 Z = true) : EW Z a0 EL := (EW.cons (hw _ (List.mem_of_getElem? (i := 42) rfl)) (by decide) (EW.cons (hw _ (List.mem_of_getElem? (i := 48) rfl)) (by decide) (EW.cons (hw _ (List.mem_of_getElem? (i := 4) rfl)) (by decide) (EW.cons (hw _ (List.mem_of_getElem? (i := 49) rfl)) (by decide) (EW.cons (hw _ (List.mem_of_getElem? (i := 96) rfl)) (by decide) EW.nil)))))
set_option maxRecDepth 65536 in
theorem sub_str : ∀ d ∈ Bundle.stringAtoms, d ∈ tables_1 := by
  intro d hd
  have h : Bundle.stringAtoms.all (fun d => tables_1.contains d) = true := by decide +kernel
  exact List.contains_iff_mem.mp (List.all_eq_true.mp h d hd)

theorem Own.getD_rng {cs : List Int32} (hp : ∀ c ∈ cs, ¬ c < 0 ∧ ¬ (255 : Int32) < c) (n : Nat) : ¬ cs.getD n 0 < 0 ∧ ¬ (255 : Int32) < cs.getD n 0 := by
  rw [List.getD_eq_getElem?_getD]
  cases h : cs[n]? with
  | none => exact ⟨by decide, by decide⟩
  | some c => exact hp c (List.mem_of_getElem? h)
theorem Own.sub32_rng {t : Int32} (h1 : ¬ t < 97) (h2 : ¬ (122 : Int32) < t) : ¬ (t - 32) < 0 ∧ ¬ (255 : Int32) < (t - 32) := by
  have a := c_isub t 32
  have b := rng32 (t - 32)
  have k0 : (0 : Int32).toInt = 0 := rfl
  have k1 : (97 : Int32).toInt = 97 := rfl
  have k2 : (122 : Int32).toInt = 122 := rfl
  have k3 : (255 : Int32).toInt = 255 := rfl
  have k4 : (32 : Int32).toInt = 32 := rfl
  rw [Int32.lt_iff_toInt_lt] at h1 h2
  rw [Int32.lt_iff_toInt_lt, Int32.lt_iff_toInt_lt]
  omega
theorem Own.add32_rng {t : Int32} (h1 : ¬ t < 65) (h2 : ¬ (90 : Int32) < t) : ¬ (t + 32) < 0 ∧ ¬ (255 : Int32) < (t + 32) := by
  have a := c_iadd t 32
  have b := rng32 (t + 32)
  have k0 : (0 : Int32).toInt = 0 := rfl
  have k1 : (65 : Int32).toInt = 65 := rfl
  have k2 : (90 : Int32).toInt = 90 := rfl
  have k3 : (255 : Int32).toInt = 255 := rfl
  have k4 : (32 : Int32).toInt = 32 := rfl
  rw [Int32.lt_iff_toInt_lt] at h1 h2
  rw [Int32.lt_iff_toInt_lt, Int32.lt_iff_toInt_lt]
  omega
def lowf (c : Int32) : Int32 := if c < 65 then c else if 90 < c then c else c + 32
def icV (a b : Int32) : Int32 := if a = b then 1 else if (a &&& 223) < 65 then 0 else if ¬ 90 < (a &&& 223) then (if (a &&& 223) = (b &&& 223) then 1 else 0) else if (a &&& 223) < 192 then 0 else if 222 < (a &&& 223) then 0 else if (a &&& 223) = 215 then 0 else (if (a &&& 223) = (b &&& 223) then 1 else 0)
def rm7 : List Int32 → List Int32 → Int32
  | [], _ => 1
  | _ :: _, [] => 0
  | a :: l, b :: r => if icV a b = 0 then 0 else rm7 l r
abbrev by8 (c : Int32) : Int32 := c.toInt8.toInt32
theorem Own.all256 {p : Int32 → Bool} (h : ∀ n : Nat, n < 256 → p (Int32.ofNat n) = true) {c : Int32} (hc : ¬ c < 0 ∧ ¬ (255 : Int32) < c) : p c = true := by
  have k0 : (0 : Int32).toInt = 0 := rfl
  have k3 : (255 : Int32).toInt = 255 := rfl
  obtain ⟨a, b⟩ := hc
  rw [Int32.lt_iff_toInt_lt] at a b
  have e : Int32.ofNat c.toInt.toNat = c := Int32.toInt_inj.mp (by rw [Int32.toInt_ofNat_of_lt (by omega)]; omega)
  rw [← e]
  exact h _ (by omega)
theorem Own.tab256 (p : Int32 → Bool) (h : (List.range 256).all (fun n => p (Int32.ofNat n)) = true) : ∀ n : Nat, n < 256 → p (Int32.ofNat n) = true := fun n hn => List.all_eq_true.mp h n (List.mem_range.mpr hn)

set_option maxRecDepth 65536 in
theorem ic_j {c : Int32} (hc : ¬ c < 0 ∧ ¬ (255 : Int32) < c) : icV 106 (by8 c) = 0 ↔ ¬ lowf c = 106 := by
  have h := Own.all256 (p := fun c => decide (icV 106 (by8 c) = 0 ↔ ¬ lowf c = 106)) (Own.tab256 (fun c => decide (icV 106 (by8 c) = 0 ↔ ¬ lowf c = 106)) (by decide +kernel)) hc
  exact of_decide_eq_true h
set_option maxRecDepth 65536 in
theorem ic_a {c : Int32} (hc : ¬ c < 0 ∧ ¬ (255 : Int32) < c) : icV 97 (by8 c) = 0 ↔ ¬ lowf c = 97 := by
  have h := Own.all256 (p := fun c => decide (icV 97 (by8 c) = 0 ↔ ¬ lowf c = 97)) (Own.tab256 (fun c => decide (icV 97 (by8 c) = 0 ↔ ¬ lowf c = 97)) (by decide +kernel)) hc
  exact of_decide_eq_true h
set_option maxRecDepth 65536 in
theorem ic_K {c : Int32} (hc : ¬ c < 0 ∧ ¬ (255 : Int32) < c) : icV 75 (by8 c) = 0 ↔ ¬ lowf c = 107 := by
  have h := Own.all256 (p := fun c => decide (icV 75 (by8 c) = 0 ↔ ¬ lowf c = 107)) (Own.tab256 (fun c => decide (icV 75 (by8 c) = 0 ↔ ¬ lowf c = 107)) (by decide +kernel)) hc
  exact of_decide_eq_true h
set_option maxRecDepth 65536 in
theorem ic_n {c : Int32} (hc : ¬ c < 0 ∧ ¬ (255 : Int32) < c) : icV 110 (by8 c) = 0 ↔ ¬ lowf c = 110 := by
  have h := Own.all256 (p := fun c => decide (icV 110 (by8 c) = 0 ↔ ¬ lowf c = 110)) (Own.tab256 (fun c => decide (icV 110 (by8 c) = 0 ↔ ¬ lowf c = 110)) (by decide +kernel)) hc
  exact of_decide_eq_true h
set_option maxRecDepth 65536 in
theorem ic_L {c : Int32} (hc : ¬ c < 0 ∧ ¬ (255 : Int32) < c) : icV 76 (by8 c) = 0 ↔ ¬ lowf c = 108 := by
  have h := Own.all256 (p := fun c => decide (icV 76 (by8 c) = 0 ↔ ¬ lowf c = 108)) (Own.tab256 (fun c => decide (icV 76 (by8 c) = 0 ↔ ¬ lowf c = 108)) (by decide +kernel)) hc
  exact of_decide_eq_true h
set_option maxRecDepth 65536 in
theorem ic_t {c : Int32} (hc : ¬ c < 0 ∧ ¬ (255 : Int32) < c) : icV 116 (by8 c) = 0 ↔ ¬ lowf c = 116 := by
  have h := Own.all256 (p := fun c => decide (icV 116 (by8 c) = 0 ↔ ¬ lowf c = 116)) (Own.tab256 (fun c => decide (icV 116 (by8 c) = 0 ↔ ¬ lowf c = 116)) (by decide +kernel)) hc
  exact of_decide_eq_true h
set_option maxRecDepth 65536 in
theorem ic_dash {c : Int32} (hc : ¬ c < 0 ∧ ¬ (255 : Int32) < c) : icV 45 (by8 c) = 0 ↔ ¬ c = 45 := by
  have h := Own.all256 (p := fun c => decide (icV 45 (by8 c) = 0 ↔ ¬ c = 45)) (Own.tab256 (fun c => decide (icV 45 (by8 c) = 0 ↔ ¬ c = 45)) (by decide +kernel)) hc
  exact of_decide_eq_true h
theorem d10_0 : decode jdk_42_method_149_code 0 = .ok (.aload_n 0, 1) := by decide +kernel
theorem d10_1 : decode jdk_42_method_149_code 1 = .ok (.invokespecial 1, 3) := by decide +kernel
theorem d10_4 : decode jdk_42_method_149_code 4 = .ok (.iload_n 3, 1) := by decide +kernel
theorem d10_5 : decode jdk_42_method_149_code 5 = .ok (.ifCond .ne 22, 3) := by decide +kernel
theorem d10_8 : decode jdk_42_method_149_code 8 = .ok (.aload_n 0, 1) := by decide +kernel
theorem d10_9 : decode jdk_42_method_149_code 9 = .ok (.ldc 7, 2) := by decide +kernel
theorem d10_11 : decode jdk_42_method_149_code 11 = .ok (.getfield 9, 3) := by decide +kernel
theorem d10_14 : decode jdk_42_method_149_code 14 = .ok (.putfield 9, 3) := by decide +kernel
theorem d10_17 : decode jdk_42_method_149_code 17 = .ok (.aload_n 0, 1) := by decide +kernel
theorem d10_18 : decode jdk_42_method_149_code 18 = .ok (.ldc 7, 2) := by decide +kernel
theorem d10_20 : decode jdk_42_method_149_code 20 = .ok (.getfield 15, 3) := by decide +kernel
theorem d10_23 : decode jdk_42_method_149_code 23 = .ok (.putfield 15, 3) := by decide +kernel
theorem d10_26 : decode jdk_42_method_149_code 26 = .ok (.return_, 1) := by decide +kernel
theorem d10_27 : decode jdk_42_method_149_code 27 = .ok (.getstatic 38, 3) := by decide +kernel
theorem d10_30 : decode jdk_42_method_149_code 30 = .ok (.ifCond .eq 28, 3) := by decide +kernel
theorem d10_33 : decode jdk_42_method_149_code 33 = .ok (.aload_n 1, 1) := by decide +kernel
theorem d10_34 : decode jdk_42_method_149_code 34 = .ok (.iload_n 2, 1) := by decide +kernel
theorem d10_35 : decode jdk_42_method_149_code 35 = .ok (.iload_n 3, 1) := by decide +kernel
theorem d10_36 : decode jdk_42_method_149_code 36 = .ok (.invokestatic 177, 3) := by decide +kernel
theorem d10_39 : decode jdk_42_method_149_code 39 = .ok (.astore 5, 2) := by decide +kernel
theorem d10_41 : decode jdk_42_method_149_code 41 = .ok (.aload_n 0, 1) := by decide +kernel
theorem d10_42 : decode jdk_42_method_149_code 42 = .ok (.aload 5, 2) := by decide +kernel
theorem d10_44 : decode jdk_42_method_149_code 44 = .ok (.iload_n 3, 1) := by decide +kernel
theorem d10_45 : decode jdk_42_method_149_code 45 = .ok (.invokestatic 47, 3) := by decide +kernel
theorem d10_48 : decode jdk_42_method_149_code 48 = .ok (.putfield 15, 3) := by decide +kernel
theorem d10_51 : decode jdk_42_method_149_code 51 = .ok (.aload_n 0, 1) := by decide +kernel
theorem d10_52 : decode jdk_42_method_149_code 52 = .ok (.aload 5, 2) := by decide +kernel
theorem d10_54 : decode jdk_42_method_149_code 54 = .ok (.putfield 9, 3) := by decide +kernel
theorem d10_57 : decode jdk_42_method_149_code 57 = .ok (.return_, 1) := by decide +kernel
theorem d10_58 : decode jdk_42_method_149_code 58 = .ok (.aload_n 0, 1) := by decide +kernel
theorem d10_59 : decode jdk_42_method_149_code 59 = .ok (.iconst 1, 1) := by decide +kernel
theorem d10_60 : decode jdk_42_method_149_code 60 = .ok (.putfield 15, 3) := by decide +kernel
theorem d10_63 : decode jdk_42_method_149_code 63 = .ok (.aload_n 0, 1) := by decide +kernel
theorem d10_64 : decode jdk_42_method_149_code 64 = .ok (.aload_n 1, 1) := by decide +kernel
theorem d10_65 : decode jdk_42_method_149_code 65 = .ok (.iload_n 2, 1) := by decide +kernel
theorem d10_66 : decode jdk_42_method_149_code 66 = .ok (.iload_n 3, 1) := by decide +kernel
theorem d10_67 : decode jdk_42_method_149_code 67 = .ok (.invokestatic 180, 3) := by decide +kernel
theorem d10_70 : decode jdk_42_method_149_code 70 = .ok (.putfield 9, 3) := by decide +kernel
theorem d10_73 : decode jdk_42_method_149_code 73 = .ok (.return_, 1) := by decide +kernel
theorem pn_10 : plainFor (⟨"java/lang/String", "<init>", "([CIILjava/lang/Void;)V"⟩ : MethodName) = true := by first | exact plainFor_of_name (by first | (simp [plainName, overriddenIn]; done) | decide +kernel) | decide +kernel
def QrmE4 (Z : State) (a1 : Addr) (b1 : Addr) (u1 : Value) (u2 : Value) (h0 : Heap) (n0 : Nat) (v : Option Value) (h : Heap) (L : List Loc) : Prop := v = none ∧ Fr n0 L ∧ Keep h0 h [a1] ∧ Own.Str Z h a1 []
set_option maxRecDepth 65536 in
set_option maxHeartbeats 40000000 in
theorem rmE4 (l : Launch) (Z : State) (a0 : Array Value) (hw : ∀ d ∈ tables_1, d.before a0 Z = true) (ws : List Jvm.Cond) (a1 : Addr) (b1 : Addr) (u1 : Value) (u2 : Value) (h0 : Heap) (n0 : Nat) (Z0 : n0 ≤ h0.size) (E_a1 : Exa Z h0 a1 "java/lang/String") (f1 : Fld Z h0 a1 "java/lang/String" "value" "[B" u1) (f2 : Fld Z h0 a1 "java/lang/String" "coder" "B" u2) (g_a1 : n0 ≤ a1) :
    MetFree l (⟨"java/lang/String", "<init>", "([CIILjava/lang/Void;)V"⟩ : MethodName) (head1 (Jvm.Cond.code (⟨"java/lang/String", "<init>", "([CIILjava/lang/Void;)V"⟩ : MethodName) jdk_42_method_149_code 6 none :: ws) ({ frames := 1, cells := 4, slots := 8, locals := 12 } : Room)) (fun a U => a = #[(.ref a1), (.ref b1), (.int (0 : Int32)), (.int (0 : Int32)), .null] ∧ Z.Warmed39 U.vm ∧ U.heap = h0 ∧ CHv Z EL U.vm h0 ∧ ∀ x ∈ ([a1] : List Addr), Safe Z EL U.vm h0 x) (fun _ _ _ _ _ => True) (fun _ U o U' => ∃ v L, o = .returned v ∧ QrmE4 Z a1 b1 u1 u2 h0 n0 v U'.heap L ∧ CHr Z EL U.vm U.heap U'.vm U'.heap ∧ ReturnedEndW U o U' L ({ frames := 1, cells := 4, slots := 8, locals := 12 } : Room).cells ({ frames := 1, cells := 4, slots := 8, locals := 12 } : Room).slots) := by
  refine MetFree.of_bodySF pn_10 hisR ?_
  intro p e s m args below meth c s₁ Bd hml0 hP hK
  obtain ⟨rfl, hZ, hh, hCH, hSf⟩ := hP
  have hml : c.maxLocals = 6 := hml0
  have hlk : meth.locks = false := Bd.notSynchronized
  have hret := Bd.returns
  have hnm := (name_of_methodNamed Bd.named Bd.method).1
  have P0 : Own.Wk Z "java/lang/String" jdk_42_method_149_code h0 p l e ({ frames := 1, cells := 4, slots := 8, locals := 12 } : Room) (s.setVm s.vm) m #[(.ref a1), (.ref b1), (.int (0 : Int32)), (.int (0 : Int32)), .null] below meth c s₁ [] 0 0 := ⟨Stand.of_body Bd, Bd.exec, Bd.bytes, hZ, findClass_of_methodNamed Bd.named, by rw [← hh, Bd.state]; rfl⟩
  have H0 : Own.Hd Z EL s s.vm h0 h0 := Own.Hd.start hCH
  have N0 := Fr.nil n0
  show Own.Goes p.tables e below (fun s₂ o => ∃ v L, o = .returned v ∧ QrmE4 Z a1 b1 u1 u2 h0 n0 v s₂.heap L ∧ CHr Z EL s.vm s.heap s₂.vm s₂.heap ∧ ReturnedEndW s o s₂ L ({ frames := 1, cells := 4, slots := 8, locals := 12 } : Room).cells ({ frames := 1, cells := 4, slots := 8, locals := 12 } : Room).slots) (s₁.setTop (entryFrame m #[(.ref a1), (.ref b1), (.int (0 : Int32)), (.int (0 : Int32)), .null] 6))
  rw [show entryFrame m #[(.ref a1), (.ref b1), (.int (0 : Int32)), (.int (0 : Int32)), .null] 6 = mkF m 0 #[.val (.ref a1), .val (.ref b1), .val (.int (0 : Int32)), .val (.int (0 : Int32)), .val .null, .unset] [] from by first | (simp [entryFrame, mkF, argsToLocals, Value.category]; done) | rfl | (rcases Own.refc hfm with rfl | ⟨_, rfl⟩ <;> rfl)]
  refine Own.aloadN (q := 1) P0 d10_0 rfl rfl rfl ?_
  refine Own.objinit (q := 4) (W := 0) P0 d10_1 (hw _ (List.mem_of_getElem? (i := 58) rfl)) (hw _ (List.mem_of_getElem? (i := 59) rfl)) (hw _ (List.mem_of_getElem? (i := 60) rfl)) (by rw [hml]; rfl) (by decide) (by show 2 * 0 + _ ≤ _; exact Nat.le_of_eq rfl) (by decide) rfl ?_
  intro T21 P21
  refine Own.iloadN (q := 5) P21 d10_4 rfl rfl ?_
  refine Own.if_ne (q := 8) (qy := 27) P21 d10_5 (by decide) rfl (fun q => absurd rfl q) (fun _ => ?_)
  refine Own.aloadN (q := 9) P21 d10_8 rfl rfl rfl ?_
  refine Own.ldcStr (q := 11) (n := 0) (cs := []) P21 H0 d10_9 (hw _ (List.mem_of_getElem? (i := 96) rfl)) (fun a ha => hw a (sub_str a ha)) (ew hw) (by decide) (by decide) Own.ch0 (by decide) (by decide) (by decide) (by decide) (by decide) (by decide) (by decide) rfl ?_
  intro T22 vm22 h22 a22 P22 H22 hr22 E22 St22
  obtain ⟨⟨t23, kb23, y23a, y23v, y23c, y23b⟩, -, -⟩ := id St22
  refine Own.getfield (q := 14) P22 d10_11 (hw _ (List.mem_of_getElem? (i := 24) rfl)) y23v rfl ?_
  intro T24 P24
  have E0_1_25 : Ext h0 h22 := E22
  refine Own.putfield (q := 17) P24 d10_14 (hw _ (List.mem_of_getElem? (i := 24) rfl)) (f1.ext E0_1_25) (E_a1.ext E0_1_25) (Or.inr ⟨(hw _ (List.mem_of_getElem? (i := 8) rfl)), rfl, hnm⟩) (hw _ (List.mem_of_getElem? (i := 6) rfl)) (ty := (.array .byte)) (by decide) rfl rfl rfl ?_
  intro T26 h26 lc26 hl26 P26 W26
  have c26_t23 := y23b.other W26 (Ne.symm (Exa.neArv (E_a1.ext E0_1_25) y23b (hw _ (List.mem_of_getElem? (i := 6) rfl))))
  have F26_value := Fld.same W26 (f1.ext E0_1_25)
  have F26_coder := (f2.ext E0_1_25).other W26 (Or.inr (slot_ne (Or.inr (hw _ (List.mem_of_getElem? (i := 9) rfl))) (Or.inr (hw _ (List.mem_of_getElem? (i := 8) rfl))) (by decide) (t := .byte) (t' := (.array .byte)) (by decide) (by decide)))
  have A26 := (E_a1.ext E0_1_25).wr W26
  have N26 := Own.Fr.one N0 hl26 g_a1
  refine Own.aloadN (q := 18) P26 d10_17 rfl rfl rfl ?_
  have Hd27 := (Own.Hd.wr H22 W26 (CHr.safe H22.2 E_a1.lt (hSf _ (by simp))))
  refine Own.ldcStr (q := 20) (n := 0) (cs := []) P26 Hd27 d10_18 (hw _ (List.mem_of_getElem? (i := 96) rfl)) (fun a ha => hw a (sub_str a ha)) (ew hw) (by decide) (by decide) Own.ch0 (by decide) (by decide) (by decide) (by decide) (by decide) (by decide) (by decide) rfl ?_
  intro T28 vm28 h28 a28 P28 H28 hr28 E28 St28
  obtain ⟨⟨t29, kb29, y29a, y29v, y29c, y29b⟩, -, -⟩ := id St28
  refine Own.getfield (q := 23) P28 d10_20 (hw _ (List.mem_of_getElem? (i := 23) rfl)) y29c rfl ?_
  intro T30 P30
  have E2_3_31 : Ext h26 h28 := E28
  refine Own.putfield (q := 26) P30 d10_23 (hw _ (List.mem_of_getElem? (i := 23) rfl)) (F26_coder.ext E2_3_31) (A26.ext E2_3_31) (Or.inr ⟨(hw _ (List.mem_of_getElem? (i := 9) rfl)), rfl, hnm⟩) (hw _ (List.mem_of_getElem? (i := 6) rfl)) (ty := .byte) (by decide) rfl rfl rfl ?_
  intro T32 h32 lc32 hl32 P32 W32
  have c32_t23 := (c26_t23.ext E2_3_31).other W32 (Ne.symm (Exa.neArv (A26.ext E2_3_31) (c26_t23.ext E2_3_31) (hw _ (List.mem_of_getElem? (i := 6) rfl))))
  have F32_value := (F26_value.ext E2_3_31).other W32 (Or.inr (slot_ne (Or.inr (hw _ (List.mem_of_getElem? (i := 8) rfl))) (Or.inr (hw _ (List.mem_of_getElem? (i := 9) rfl))) (by decide) (t := (.array .byte)) (t' := .byte) (by decide) (by decide)))
  have F32_coder := Fld.same W32 (F26_coder.ext E2_3_31)
  have A32 := (A26.ext E2_3_31).wr W32
  have N32 := Own.Fr.one N26 hl32 g_a1
  have Hd33 := (Own.Hd.wr H28 W32 (CHr.safe H28.2 E_a1.lt (hSf _ (by simp))))
  refine Own.retVH (Q := QrmE4 Z a1 b1 u1 u2 h0 n0) P32 hh (ew hw) Hd33 d10_26 hret hlk (by decide) (by decide) ?_
  exact ⟨rfl, N32, (Keep.wr (Keep.ext (Keep.wr (Keep.ext (Keep.refl h0 _) E22) W26 (Or.inl (by simp))) E28) W32 (Or.inl (by simp))), ⟨t23, _, A32, F32_value, F32_coder, c32_t23⟩, Own.ch0, by decide⟩
theorem d9_0 : decode jdk_42_method_3_code 0 = .ok (.aload_n 0, 1) := by decide +kernel
theorem d9_1 : decode jdk_42_method_3_code 1 = .ok (.aload_n 1, 1) := by decide +kernel
theorem d9_2 : decode jdk_42_method_3_code 2 = .ok (.iconst 0, 1) := by decide +kernel
theorem d9_3 : decode jdk_42_method_3_code 3 = .ok (.aload_n 1, 1) := by decide +kernel
theorem d9_4 : decode jdk_42_method_3_code 4 = .ok (.arraylength, 1) := by decide +kernel
theorem d9_5 : decode jdk_42_method_3_code 5 = .ok (.aconst_null, 1) := by decide +kernel
theorem d9_6 : decode jdk_42_method_3_code 6 = .ok (.invokespecial 27, 3) := by decide +kernel
theorem d9_9 : decode jdk_42_method_3_code 9 = .ok (.return_, 1) := by decide +kernel
theorem pn_9 : plainFor (⟨"java/lang/String", "<init>", "([C)V"⟩ : MethodName) = true := by first | exact plainFor_of_name (by first | (simp [plainName, overriddenIn]; done) | decide +kernel) | decide +kernel
def QrmE1 (Z : State) (a1 : Addr) (b1 : Addr) (kc : ClassId) (u1 : Value) (u2 : Value) (d1 : Value) (h0 : Heap) (n0 : Nat) (v : Option Value) (h : Heap) (L : List Loc) : Prop := v = none ∧ Fr n0 L ∧ Keep h0 h [a1] ∧ Own.Str Z h a1 []
set_option maxRecDepth 65536 in
set_option maxHeartbeats 40000000 in
theorem rmE1 (l : Launch) (Z : State) (a0 : Array Value) (hw : ∀ d ∈ tables_1, d.before a0 Z = true) (ws : List Jvm.Cond) (a1 : Addr) (b1 : Addr) (kc : ClassId) (u1 : Value) (u2 : Value) (d1 : Value) (h0 : Heap) (n0 : Nat) (Z0 : n0 ≤ h0.size) (E_a1 : Exa Z h0 a1 "java/lang/String") (f1 : Fld Z h0 a1 "java/lang/String" "value" "[B" u1) (f2 : Fld Z h0 a1 "java/lang/String" "coder" "B" u2) (g_a1 : n0 ≤ a1) (A_b1 : Arv Z h0 b1 kc .char 0 [] d1) :
    MetFree l (⟨"java/lang/String", "<init>", "([C)V"⟩ : MethodName) (head1 (Jvm.Cond.code (⟨"java/lang/String", "<init>", "([C)V"⟩ : MethodName) jdk_42_method_3_code 2 none :: ws) ({ frames := 2, cells := 4, slots := 8, locals := 29 } : Room)) (fun a U => a = #[(.ref a1), (.ref b1)] ∧ Z.Warmed39 U.vm ∧ U.heap = h0 ∧ CHv Z EL U.vm h0 ∧ ∀ x ∈ ([a1] : List Addr), Safe Z EL U.vm h0 x) (fun _ _ _ _ _ => True) (fun _ U o U' => ∃ v L, o = .returned v ∧ QrmE1 Z a1 b1 kc u1 u2 d1 h0 n0 v U'.heap L ∧ CHr Z EL U.vm U.heap U'.vm U'.heap ∧ ReturnedEndW U o U' L ({ frames := 2, cells := 4, slots := 8, locals := 29 } : Room).cells ({ frames := 2, cells := 4, slots := 8, locals := 29 } : Room).slots) := by
  refine MetFree.of_bodySF pn_9 hisR ?_
  intro p e s m args below meth c s₁ Bd hml0 hP hK
  obtain ⟨rfl, hZ, hh, hCH, hSf⟩ := hP
  have hml : c.maxLocals = 2 := hml0
  have hlk : meth.locks = false := Bd.notSynchronized
  have hret := Bd.returns
  have hnm := (name_of_methodNamed Bd.named Bd.method).1
  have P0 : Own.Wk Z "java/lang/String" jdk_42_method_3_code h0 p l e ({ frames := 2, cells := 4, slots := 8, locals := 29 } : Room) (s.setVm s.vm) m #[(.ref a1), (.ref b1)] below meth c s₁ [] 0 0 := ⟨Stand.of_body Bd, Bd.exec, Bd.bytes, hZ, findClass_of_methodNamed Bd.named, by rw [← hh, Bd.state]; rfl⟩
  have H0 : Own.Hd Z EL s s.vm h0 h0 := Own.Hd.start hCH
  have N0 := Fr.nil n0
  show Own.Goes p.tables e below (fun s₂ o => ∃ v L, o = .returned v ∧ QrmE1 Z a1 b1 kc u1 u2 d1 h0 n0 v s₂.heap L ∧ CHr Z EL s.vm s.heap s₂.vm s₂.heap ∧ ReturnedEndW s o s₂ L ({ frames := 2, cells := 4, slots := 8, locals := 29 } : Room).cells ({ frames := 2, cells := 4, slots := 8, locals := 29 } : Room).slots) (s₁.setTop (entryFrame m #[(.ref a1), (.ref b1)] 2))
  rw [show entryFrame m #[(.ref a1), (.ref b1)] 2 = mkF m 0 #[.val (.ref a1), .val (.ref b1)] [] from by first | (simp [entryFrame, mkF, argsToLocals, Value.category]; done) | rfl | (rcases Own.refc hfm with rfl | ⟨_, rfl⟩ <;> rfl)]
  refine Own.aloadN (q := 1) P0 d9_0 rfl rfl rfl ?_
  refine Own.aloadN (q := 2) P0 d9_1 rfl rfl rfl ?_
  refine Own.iconst (q := 3) (v := (0 : Int32)) P0 d9_2 rfl rfl ?_
  refine Own.aloadN (q := 4) P0 d9_3 rfl rfl rfl ?_
  refine Own.arraylength (q := 5) P0 d9_4 A_b1 rfl ?_
  refine Own.aconst (q := 6) P0 d9_5  rfl ?_
  refine Own.invSpecialH (q := 9) (W := 0) (y := (⟨"java/lang/String", "<init>", "([CIILjava/lang/Void;)V"⟩ : MethodName)) (a := a1) (argsL := [(.ref b1), (.int (0 : Int32)), (.int (0 : Int32)), .null]) (rest := []) P0 H0 d9_6 rfl (hw _ (List.mem_of_getElem? (i := 54) rfl)) (hw _ (List.mem_of_getElem? (i := 55) rfl)) (hw _ (List.mem_of_getElem? (i := 57) rfl)) (by decide) (Own.backH (W := 0) (rmE4 l Z a0 hw [] a1 b1 u1 u2 h0 n0 Z0 E_a1 f1 f2 g_a1) P0.2.2.2.1 (hw _ (List.mem_of_getElem? (i := 57) rfl)) (hw _ (List.mem_of_getElem? (i := 5) rfl)) (by decide) (by decide) (ew hw) H0.2.1 (allS ⟨E_a1.lt, (CHr.safe H0.2 E_a1.lt (hSf _ (by simp)))⟩ all0)) rfl rfl (by rw [hml]; rfl) (lenOf (show parseMethodDescriptor "([CIILjava/lang/Void;)V" = some ⟨[(.array .char), .int, .int, (.object "java/lang/Void")], none⟩ from by decide +kernel) rfl) (by show 2 * 0 + _ ≤ _; exact Nat.le_of_eq rfl) (by decide) (by decide) rfl ?_
  rintro v21 T21 vm21 h21 L21 ⟨rfl, N21q, K21, St21⟩ P21 H21 hr21
  have N21 := Fr.app N0 N21q
  show Own.Goes _ _ _ _ (T21.setTop (mkF m 9 #[.val (.ref a1), .val (.ref b1)] []))
  refine Own.retVH (Q := QrmE1 Z a1 b1 kc u1 u2 d1 h0 n0) P21 hh (ew hw) H21 d9_9 hret hlk (by decide) (by decide) ?_
  exact ⟨rfl, N21, K21, St21⟩
theorem Own.Str.rng {Z : State} {h : Heap} {a : Addr} {cs : List Int32} (S : Own.Str Z h a cs) : ∀ c ∈ cs, ¬ c < 0 ∧ ¬ (255 : Int32) < c := S.2.1
theorem d1_0 : decode method_4_code 0 = .ok (.iload_n 2, 1) := by decide +kernel
theorem d1_1 : decode method_4_code 1 = .ok (.iload_n 3, 1) := by decide +kernel
theorem d1_2 : decode method_4_code 2 = .ok (.iushr, 1) := by decide +kernel
theorem d1_3 : decode method_4_code 3 = .ok (.sipush 255, 3) := by decide +kernel
theorem d1_6 : decode method_4_code 6 = .ok (.iand, 1) := by decide +kernel
theorem d1_7 : decode method_4_code 7 = .ok (.i2c, 1) := by decide +kernel
theorem d1_8 : decode method_4_code 8 = .ok (.istore 6, 2) := by decide +kernel
theorem d1_10 : decode method_4_code 10 = .ok (.iload_n 0, 1) := by decide +kernel
theorem d1_11 : decode method_4_code 11 = .ok (.bipush 7, 2) := by decide +kernel
theorem d1_13 : decode method_4_code 13 = .ok (.if_icmp .eq 14, 3) := by decide +kernel
theorem d1_16 : decode method_4_code 16 = .ok (.iload 4, 2) := by decide +kernel
theorem d1_18 : decode method_4_code 18 = .ok (.iconst 2, 1) := by decide +kernel
theorem d1_19 : decode method_4_code 19 = .ok (.iload_n 0, 1) := by decide +kernel
theorem d1_20 : decode method_4_code 20 = .ok (.imul, 1) := by decide +kernel
theorem d1_21 : decode method_4_code 21 = .ok (.iushr, 1) := by decide +kernel
theorem d1_22 : decode method_4_code 22 = .ok (.iconst 3, 1) := by decide +kernel
theorem d1_23 : decode method_4_code 23 = .ok (.iand, 1) := by decide +kernel
theorem d1_24 : decode method_4_code 24 = .ok (.ifCond .ne 6, 3) := by decide +kernel
theorem d1_27 : decode method_4_code 27 = .ok (.iload 6, 2) := by decide +kernel
theorem d1_29 : decode method_4_code 29 = .ok (.ireturn, 1) := by decide +kernel
theorem d1_30 : decode method_4_code 30 = .ok (.iload_n 1, 1) := by decide +kernel
theorem d1_31 : decode method_4_code 31 = .ok (.ifCond .ne 14, 3) := by decide +kernel
theorem d1_34 : decode method_4_code 34 = .ok (.ldc 28, 2) := by decide +kernel
theorem d1_36 : decode method_4_code 36 = .ok (.iload_n 0, 1) := by decide +kernel
theorem d1_37 : decode method_4_code 37 = .ok (.invokevirtual 30, 3) := by decide +kernel
theorem d1_40 : decode method_4_code 40 = .ok (.istore 7, 2) := by decide +kernel
theorem d1_42 : decode method_4_code 42 = .ok (.goto 11, 3) := by decide +kernel
theorem d1_45 : decode method_4_code 45 = .ok (.ldc 34, 2) := by decide +kernel
theorem d1_47 : decode method_4_code 47 = .ok (.iload_n 0, 1) := by decide +kernel
theorem d1_48 : decode method_4_code 48 = .ok (.invokevirtual 30, 3) := by decide +kernel
theorem d1_51 : decode method_4_code 51 = .ok (.istore 7, 2) := by decide +kernel
theorem d1_53 : decode method_4_code 53 = .ok (.iload 5, 2) := by decide +kernel
theorem d1_55 : decode method_4_code 55 = .ok (.iload_n 0, 1) := by decide +kernel
theorem d1_56 : decode method_4_code 56 = .ok (.iushr, 1) := by decide +kernel
theorem d1_57 : decode method_4_code 57 = .ok (.iconst 1, 1) := by decide +kernel
theorem d1_58 : decode method_4_code 58 = .ok (.iand, 1) := by decide +kernel
theorem d1_59 : decode method_4_code 59 = .ok (.ifCond .eq 24, 3) := by decide +kernel
theorem d1_62 : decode method_4_code 62 = .ok (.iload 7, 2) := by decide +kernel
theorem d1_64 : decode method_4_code 64 = .ok (.bipush 97, 2) := by decide +kernel
theorem d1_66 : decode method_4_code 66 = .ok (.if_icmp .lt 17, 3) := by decide +kernel
theorem d1_69 : decode method_4_code 69 = .ok (.iload 7, 2) := by decide +kernel
theorem d1_71 : decode method_4_code 71 = .ok (.bipush 122, 2) := by decide +kernel
theorem d1_73 : decode method_4_code 73 = .ok (.if_icmp .gt 10, 3) := by decide +kernel
theorem d1_76 : decode method_4_code 76 = .ok (.iload 7, 2) := by decide +kernel
theorem d1_78 : decode method_4_code 78 = .ok (.bipush 32, 2) := by decide +kernel
theorem d1_80 : decode method_4_code 80 = .ok (.isub, 1) := by decide +kernel
theorem d1_81 : decode method_4_code 81 = .ok (.i2c, 1) := by decide +kernel
theorem d1_82 : decode method_4_code 82 = .ok (.ireturn, 1) := by decide +kernel
theorem d1_83 : decode method_4_code 83 = .ok (.iload 7, 2) := by decide +kernel
theorem d1_85 : decode method_4_code 85 = .ok (.ireturn, 1) := by decide +kernel
theorem pn_1 : plainFor (⟨"com/example/mokuroku/mokuroku/formats/JpcoarReaderIsReadingLanguagePinLaw", "pick", "(IIIIII)C"⟩ : MethodName) = true := by first | exact plainFor_of_name (by first | (simp [plainName, overriddenIn]; done) | decide +kernel) | decide +kernel
def QrmPick (Z : State) (j0 : Int32) (k0 : Int32) (f0 : Int32) (s0 : Int32) (p0 : Int32) (u0 : Int32) (jn : Nat) (zc : Int32) (fm : Value) (h0 : Heap) (n0 : Nat) (v : Option Value) (h : Heap) (L : List Loc) : Prop := ∃ c, v = some (.int c) ∧ (¬ c < 0 ∧ ¬ (255 : Int32) < c) ∧ Fr n0 L ∧ Ext h0 h
set_option maxRecDepth 65536 in
set_option maxHeartbeats 40000000 in
theorem rmPick (l : Launch) (Z : State) (a0 : Array Value) (hw : ∀ d ∈ tables_1, d.before a0 Z = true) (ws : List Jvm.Cond) (j0 : Int32) (k0 : Int32) (f0 : Int32) (s0 : Int32) (p0 : Int32) (u0 : Int32) (jn : Nat) (zc : Int32) (fm : Value) (h0 : Heap) (n0 : Nat) (Z0 : n0 ≤ h0.size) (SC : Sta Z h0 "java/lang/String" "COMPACT_STRINGS" "Z" (.int zc)) (hzc : ¬ zc = 0) (SF : Sta Z h0 "jdk/internal/util/Preconditions" "SIOOBE_FORMATTER" "Ljava/util/function/BiFunction;" fm) (hfm : fm.isRef = true) (hj : j0 = Int32.ofNat jn) (hj8 : jn < 8) :
    MetFree l (⟨"com/example/mokuroku/mokuroku/formats/JpcoarReaderIsReadingLanguagePinLaw", "pick", "(IIIIII)C"⟩ : MethodName) (head1 (Jvm.Cond.code (⟨"com/example/mokuroku/mokuroku/formats/JpcoarReaderIsReadingLanguagePinLaw", "pick", "(IIIIII)C"⟩ : MethodName) method_4_code 8 (some .char) :: ws) ({ frames := 4, cells := 2, slots := 32, locals := 53 } : Room)) (fun a U => a = #[(.int j0), (.int k0), (.int f0), (.int s0), (.int p0), (.int u0)] ∧ Z.Warmed39 U.vm ∧ U.heap = h0 ∧ CHv Z EL U.vm h0 ∧ ∀ x ∈ ([] : List Addr), Safe Z EL U.vm h0 x) (fun _ _ _ _ _ => True) (fun _ U o U' => ∃ v L, o = .returned v ∧ QrmPick Z j0 k0 f0 s0 p0 u0 jn zc fm h0 n0 v U'.heap L ∧ CHr Z EL U.vm U.heap U'.vm U'.heap ∧ ReturnedEndW U o U' L ({ frames := 4, cells := 2, slots := 32, locals := 53 } : Room).cells ({ frames := 4, cells := 2, slots := 32, locals := 53 } : Room).slots) := by
  refine MetFree.of_bodySF pn_1 hisR ?_
  intro p e s m args below meth c s₁ Bd hml0 hP hK
  obtain ⟨rfl, hZ, hh, hCH, hSf⟩ := hP
  have hml : c.maxLocals = 8 := hml0
  have hlk : meth.locks = false := Bd.notSynchronized
  have hret := Bd.returns
  have hnm := (name_of_methodNamed Bd.named Bd.method).1
  have P0 : Own.Wk Z "com/example/mokuroku/mokuroku/formats/JpcoarReaderIsReadingLanguagePinLaw" method_4_code h0 p l e ({ frames := 4, cells := 2, slots := 32, locals := 53 } : Room) (s.setVm s.vm) m #[(.int j0), (.int k0), (.int f0), (.int s0), (.int p0), (.int u0)] below meth c s₁ [] 0 0 := ⟨Stand.of_body Bd, Bd.exec, Bd.bytes, hZ, findClass_of_methodNamed Bd.named, by rw [← hh, Bd.state]; rfl⟩
  have H0 : Own.Hd Z EL s s.vm h0 h0 := Own.Hd.start hCH
  have N0 := Fr.nil n0
  show Own.Goes p.tables e below (fun s₂ o => ∃ v L, o = .returned v ∧ QrmPick Z j0 k0 f0 s0 p0 u0 jn zc fm h0 n0 v s₂.heap L ∧ CHr Z EL s.vm s.heap s₂.vm s₂.heap ∧ ReturnedEndW s o s₂ L ({ frames := 4, cells := 2, slots := 32, locals := 53 } : Room).cells ({ frames := 4, cells := 2, slots := 32, locals := 53 } : Room).slots) (s₁.setTop (entryFrame m #[(.int j0), (.int k0), (.int f0), (.int s0), (.int p0), (.int u0)] 8))
  rw [show entryFrame m #[(.int j0), (.int k0), (.int f0), (.int s0), (.int p0), (.int u0)] 8 = mkF m 0 #[.val (.int j0), .val (.int k0), .val (.int f0), .val (.int s0), .val (.int p0), .val (.int u0), .unset, .unset] [] from by first | (simp [entryFrame, mkF, argsToLocals, Value.category]; done) | rfl | (rcases Own.refc hfm with rfl | ⟨_, rfl⟩ <;> rfl)]
  refine Own.iloadN (q := 1) P0 d1_0 rfl rfl ?_
  refine Own.iloadN (q := 2) P0 d1_1 rfl rfl ?_
  refine Own.iushr (q := 3) P0 d1_2  rfl ?_
  refine Own.sipush (q := 6) (v := (255 : Int32)) P0 d1_3 rfl rfl ?_
  refine Own.iand (q := 7) P0 d1_6  rfl ?_
  refine Own.i2cV (q := 8) (v := ((Jvm.Free.XT.ushr f0 s0) &&& (255 : Int32))) P0 d1_7 (Own.i2c_id (Own.lo_rng _)) rfl ?_
  refine Own.istore (q := 10) (L2 := #[.val (.int j0), .val (.int k0), .val (.int f0), .val (.int s0), .val (.int p0), .val (.int u0), .val (.int ((Jvm.Free.XT.ushr f0 s0) &&& (255 : Int32))), .unset]) P0 d1_8 rfl rfl ?_
  refine Own.iloadN (q := 11) P0 d1_10 rfl rfl ?_
  refine Own.bipush (q := 13) (v := (7 : Int32)) P0 d1_11 rfl rfl ?_
  refine Own.icmp_eq (q := 16) (qy := 27) P0 d1_13 (by decide) rfl (fun q13 => ?_) (fun q13 => ?_)
  · refine Own.iload (q := 29) P0 d1_27 rfl rfl ?_
    refine Own.retZH (Q := QrmPick Z j0 k0 f0 s0 p0 u0 jn zc fm h0 n0) P0 hh (ew hw) H0 d1_29 hret (by simp) hlk (by decide) (by decide) ?_
    exact ⟨_, rfl, by rw [show nar .char ((Jvm.Free.XT.ushr f0 s0) &&& (255 : Int32)) = ((Jvm.Free.XT.ushr f0 s0) &&& (255 : Int32)) from Own.nar_id (Own.lo_rng _)]; exact (Own.lo_rng _), N0, (Own.Ext.rf h0)⟩
  · refine Own.iload (q := 18) P0 d1_16 rfl rfl ?_
    refine Own.iconst (q := 19) (v := (2 : Int32)) P0 d1_18 rfl rfl ?_
    refine Own.iloadN (q := 20) P0 d1_19 rfl rfl ?_
    refine Own.imul (q := 21) P0 d1_20  rfl ?_
    refine Own.iushr (q := 22) P0 d1_21  rfl ?_
    refine Own.iconst (q := 23) (v := (3 : Int32)) P0 d1_22 rfl rfl ?_
    refine Own.iand (q := 24) P0 d1_23  rfl ?_
    refine Own.if_ne (q := 27) (qy := 30) P0 d1_24 (by decide) rfl (fun q24 => ?_) (fun q24 => ?_)
    · refine Own.iloadN (q := 31) P0 d1_30 rfl rfl ?_
      refine Own.if_ne (q := 34) (qy := 45) P0 d1_31 (by decide) rfl (fun q31 => ?_) (fun q31 => ?_)
      · refine Own.ldcStr (q := 47) (n := 28) (cs := [(106 : Int32), (97 : Int32), (45 : Int32), (108 : Int32), (97 : Int32), (116 : Int32), (110 : Int32)]) P0 H0 d1_45 (hw _ (List.mem_of_getElem? (i := 49) rfl)) (fun a ha => hw a (sub_str a ha)) (ew hw) (by decide) (by decide) (Own.chS (by decide) (Own.chS (by decide) (Own.chS (by decide) (Own.chS (by decide) (Own.chS (by decide) (Own.chS (by decide) (Own.chS (by decide) Own.ch0))))))) (by decide) (by decide) (by decide) (by decide) (by decide) (by decide) (by decide) rfl ?_
        intro T21 vm21 h21 a21 P21 H21 hr21 E21 St21
        refine Own.iloadN (q := 48) P21 d1_47 rfl rfl ?_
        have E0_1_22 : Ext h0 h21 := E21
        refine Own.invVirtual (q := 51) (W := 0) (y := (⟨"java/lang/String", "charAt", "(I)C"⟩ : MethodName)) (a := a21) (argsL := [(.int j0)]) (rest := []) P21 d1_48 (hw _ (List.mem_of_getElem? (i := 12) rfl)) (hw _ (List.mem_of_getElem? (i := 13) rfl)) (hw _ (List.mem_of_getElem? (i := 15) rfl)) (hw _ (List.mem_of_getElem? (i := 14) rfl)) (notFace_of_selects (args := #[]) (mvT P21.2.2.2.1 (hw _ (List.mem_of_getElem? (i := 15) rfl)))) (by decide) (Own.chB (W := 0) (n0 := n0) (i := jn) P21.2.2.2.1 (fun d hd => hw d (sub_chN d hd)) (hw _ (List.mem_of_getElem? (i := 6) rfl)) St21 (SC.ext E0_1_22) hzc (SF.ext E0_1_22) hfm (Nat.lt_of_le_of_ne (Nat.le_of_lt_succ hj8) (fun q => q13 (by rw [hj, q]; rfl))) hj (by decide) (by decide)) St21.exa rfl rfl (by rw [hml]; rfl) (lenOf (show parseMethodDescriptor "(I)C" = some ⟨[.int], some .char⟩ from by decide +kernel) rfl) (by show 2 * 0 + _ ≤ _; exact Nat.le_of_eq rfl) (by decide) (by decide) rfl ?_
        rintro v23 T23 h23 L23 ⟨rfl, N23q, e23⟩ P23
        rw [e23] at P23
        have N23 := Fr.app N0 N23q
        show Own.Goes _ _ _ _ (T23.setTop (mkF m 51 #[.val (.int j0), .val (.int k0), .val (.int f0), .val (.int s0), .val (.int p0), .val (.int u0), .val (.int ((Jvm.Free.XT.ushr f0 s0) &&& (255 : Int32))), .unset] [(.int (([(106 : Int32), (97 : Int32), (45 : Int32), (108 : Int32), (97 : Int32), (116 : Int32), (110 : Int32)] : List Int32).getD jn 0))]))
        have rt24 := Own.getD_rng (Own.Str.rng St21) jn
        generalize (([(106 : Int32), (97 : Int32), (45 : Int32), (108 : Int32), (97 : Int32), (116 : Int32), (110 : Int32)] : List Int32).getD jn 0) = t24 at rt24 ⊢
        refine Own.istore (q := 53) (L2 := #[.val (.int j0), .val (.int k0), .val (.int f0), .val (.int s0), .val (.int p0), .val (.int u0), .val (.int ((Jvm.Free.XT.ushr f0 s0) &&& (255 : Int32))), .val (.int t24)]) P23 d1_51 rfl rfl ?_
        refine Own.iload (q := 55) P23 d1_53 rfl rfl ?_
        refine Own.iloadN (q := 56) P23 d1_55 rfl rfl ?_
        refine Own.iushr (q := 57) P23 d1_56  rfl ?_
        refine Own.iconst (q := 58) (v := (1 : Int32)) P23 d1_57 rfl rfl ?_
        refine Own.iand (q := 59) P23 d1_58  rfl ?_
        refine Own.if_eq (q := 62) (qy := 83) P23 d1_59 (by decide) rfl (fun q59 => ?_) (fun q59 => ?_)
        · refine Own.iload (q := 85) P23 d1_83 rfl rfl ?_
          refine Own.retZH (Q := QrmPick Z j0 k0 f0 s0 p0 u0 jn zc fm h0 n0) P23 hh (ew hw) H21 d1_85 hret (by simp) hlk (by decide) (by decide) ?_
          exact ⟨_, rfl, by rw [show nar .char t24 = t24 from Own.nar_id rt24]; exact rt24, N23, E0_1_22⟩
        · refine Own.iload (q := 64) P23 d1_62 rfl rfl ?_
          refine Own.bipush (q := 66) (v := (97 : Int32)) P23 d1_64 rfl rfl ?_
          refine Own.icmp_lt (q := 69) (qy := 83) P23 d1_66 (by decide) rfl (fun q66 => ?_) (fun q66 => ?_)
          · refine Own.iload (q := 85) P23 d1_83 rfl rfl ?_
            refine Own.retZH (Q := QrmPick Z j0 k0 f0 s0 p0 u0 jn zc fm h0 n0) P23 hh (ew hw) H21 d1_85 hret (by simp) hlk (by decide) (by decide) ?_
            exact ⟨_, rfl, by rw [show nar .char t24 = t24 from Own.nar_id rt24]; exact rt24, N23, E0_1_22⟩
          · refine Own.iload (q := 71) P23 d1_69 rfl rfl ?_
            refine Own.bipush (q := 73) (v := (122 : Int32)) P23 d1_71 rfl rfl ?_
            refine Own.icmp_gt (q := 76) (qy := 83) P23 d1_73 (by decide) rfl (fun q73 => ?_) (fun q73 => ?_)
            · refine Own.iload (q := 85) P23 d1_83 rfl rfl ?_
              refine Own.retZH (Q := QrmPick Z j0 k0 f0 s0 p0 u0 jn zc fm h0 n0) P23 hh (ew hw) H21 d1_85 hret (by simp) hlk (by decide) (by decide) ?_
              exact ⟨_, rfl, by rw [show nar .char t24 = t24 from Own.nar_id rt24]; exact rt24, N23, E0_1_22⟩
            · refine Own.iload (q := 78) P23 d1_76 rfl rfl ?_
              refine Own.bipush (q := 80) (v := (32 : Int32)) P23 d1_78 rfl rfl ?_
              refine Own.isub (q := 81) P23 d1_80  rfl ?_
              refine Own.i2cV (q := 82) (v := (t24 - (32 : Int32))) P23 d1_81 (Own.i2c_id (Own.sub32_rng q66 q73)) rfl ?_
              refine Own.retZH (Q := QrmPick Z j0 k0 f0 s0 p0 u0 jn zc fm h0 n0) P23 hh (ew hw) H21 d1_82 hret (by simp) hlk (by decide) (by decide) ?_
              exact ⟨_, rfl, by rw [show nar .char (t24 - (32 : Int32)) = (t24 - (32 : Int32)) from Own.nar_id (Own.sub32_rng q66 q73)]; exact (Own.sub32_rng q66 q73), N23, E0_1_22⟩
      · refine Own.ldcStr (q := 36) (n := 28) (cs := [(106 : Int32), (97 : Int32), (45 : Int32), (107 : Int32), (97 : Int32), (110 : Int32), (97 : Int32)]) P0 H0 d1_34 (hw _ (List.mem_of_getElem? (i := 4) rfl)) (fun a ha => hw a (sub_str a ha)) (ew hw) (by decide) (by decide) (Own.chS (by decide) (Own.chS (by decide) (Own.chS (by decide) (Own.chS (by decide) (Own.chS (by decide) (Own.chS (by decide) (Own.chS (by decide) Own.ch0))))))) (by decide) (by decide) (by decide) (by decide) (by decide) (by decide) (by decide) rfl ?_
        intro T25 vm25 h25 a25 P25 H25 hr25 E25 St25
        refine Own.iloadN (q := 37) P25 d1_36 rfl rfl ?_
        have E0_1_26 : Ext h0 h25 := E25
        refine Own.invVirtual (q := 40) (W := 0) (y := (⟨"java/lang/String", "charAt", "(I)C"⟩ : MethodName)) (a := a25) (argsL := [(.int j0)]) (rest := []) P25 d1_37 (hw _ (List.mem_of_getElem? (i := 12) rfl)) (hw _ (List.mem_of_getElem? (i := 13) rfl)) (hw _ (List.mem_of_getElem? (i := 15) rfl)) (hw _ (List.mem_of_getElem? (i := 14) rfl)) (notFace_of_selects (args := #[]) (mvT P25.2.2.2.1 (hw _ (List.mem_of_getElem? (i := 15) rfl)))) (by decide) (Own.chB (W := 0) (n0 := n0) (i := jn) P25.2.2.2.1 (fun d hd => hw d (sub_chN d hd)) (hw _ (List.mem_of_getElem? (i := 6) rfl)) St25 (SC.ext E0_1_26) hzc (SF.ext E0_1_26) hfm (Nat.lt_of_le_of_ne (Nat.le_of_lt_succ hj8) (fun q => q13 (by rw [hj, q]; rfl))) hj (by decide) (by decide)) St25.exa rfl rfl (by rw [hml]; rfl) (lenOf (show parseMethodDescriptor "(I)C" = some ⟨[.int], some .char⟩ from by decide +kernel) rfl) (by show 2 * 0 + _ ≤ _; exact Nat.le_of_eq rfl) (by decide) (by decide) rfl ?_
        rintro v27 T27 h27 L27 ⟨rfl, N27q, e27⟩ P27
        rw [e27] at P27
        have N27 := Fr.app N0 N27q
        show Own.Goes _ _ _ _ (T27.setTop (mkF m 40 #[.val (.int j0), .val (.int k0), .val (.int f0), .val (.int s0), .val (.int p0), .val (.int u0), .val (.int ((Jvm.Free.XT.ushr f0 s0) &&& (255 : Int32))), .unset] [(.int (([(106 : Int32), (97 : Int32), (45 : Int32), (107 : Int32), (97 : Int32), (110 : Int32), (97 : Int32)] : List Int32).getD jn 0))]))
        have rt28 := Own.getD_rng (Own.Str.rng St25) jn
        generalize (([(106 : Int32), (97 : Int32), (45 : Int32), (107 : Int32), (97 : Int32), (110 : Int32), (97 : Int32)] : List Int32).getD jn 0) = t28 at rt28 ⊢
        refine Own.istore (q := 42) (L2 := #[.val (.int j0), .val (.int k0), .val (.int f0), .val (.int s0), .val (.int p0), .val (.int u0), .val (.int ((Jvm.Free.XT.ushr f0 s0) &&& (255 : Int32))), .val (.int t28)]) P27 d1_40 rfl rfl ?_
        refine Own.goto (q := 53) P27 d1_42 (by decide) ?_
        refine Own.iload (q := 55) P27 d1_53 rfl rfl ?_
        refine Own.iloadN (q := 56) P27 d1_55 rfl rfl ?_
        refine Own.iushr (q := 57) P27 d1_56  rfl ?_
        refine Own.iconst (q := 58) (v := (1 : Int32)) P27 d1_57 rfl rfl ?_
        refine Own.iand (q := 59) P27 d1_58  rfl ?_
        refine Own.if_eq (q := 62) (qy := 83) P27 d1_59 (by decide) rfl (fun q59 => ?_) (fun q59 => ?_)
        · refine Own.iload (q := 85) P27 d1_83 rfl rfl ?_
          refine Own.retZH (Q := QrmPick Z j0 k0 f0 s0 p0 u0 jn zc fm h0 n0) P27 hh (ew hw) H25 d1_85 hret (by simp) hlk (by decide) (by decide) ?_
          exact ⟨_, rfl, by rw [show nar .char t28 = t28 from Own.nar_id rt28]; exact rt28, N27, E0_1_26⟩
        · refine Own.iload (q := 64) P27 d1_62 rfl rfl ?_
          refine Own.bipush (q := 66) (v := (97 : Int32)) P27 d1_64 rfl rfl ?_
          refine Own.icmp_lt (q := 69) (qy := 83) P27 d1_66 (by decide) rfl (fun q66 => ?_) (fun q66 => ?_)
          · refine Own.iload (q := 85) P27 d1_83 rfl rfl ?_
            refine Own.retZH (Q := QrmPick Z j0 k0 f0 s0 p0 u0 jn zc fm h0 n0) P27 hh (ew hw) H25 d1_85 hret (by simp) hlk (by decide) (by decide) ?_
            exact ⟨_, rfl, by rw [show nar .char t28 = t28 from Own.nar_id rt28]; exact rt28, N27, E0_1_26⟩
          · refine Own.iload (q := 71) P27 d1_69 rfl rfl ?_
            refine Own.bipush (q := 73) (v := (122 : Int32)) P27 d1_71 rfl rfl ?_
            refine Own.icmp_gt (q := 76) (qy := 83) P27 d1_73 (by decide) rfl (fun q73 => ?_) (fun q73 => ?_)
            · refine Own.iload (q := 85) P27 d1_83 rfl rfl ?_
              refine Own.retZH (Q := QrmPick Z j0 k0 f0 s0 p0 u0 jn zc fm h0 n0) P27 hh (ew hw) H25 d1_85 hret (by simp) hlk (by decide) (by decide) ?_
              exact ⟨_, rfl, by rw [show nar .char t28 = t28 from Own.nar_id rt28]; exact rt28, N27, E0_1_26⟩
            · refine Own.iload (q := 78) P27 d1_76 rfl rfl ?_
              refine Own.bipush (q := 80) (v := (32 : Int32)) P27 d1_78 rfl rfl ?_
              refine Own.isub (q := 81) P27 d1_80  rfl ?_
              refine Own.i2cV (q := 82) (v := (t28 - (32 : Int32))) P27 d1_81 (Own.i2c_id (Own.sub32_rng q66 q73)) rfl ?_
              refine Own.retZH (Q := QrmPick Z j0 k0 f0 s0 p0 u0 jn zc fm h0 n0) P27 hh (ew hw) H25 d1_82 hret (by simp) hlk (by decide) (by decide) ?_
              exact ⟨_, rfl, by rw [show nar .char (t28 - (32 : Int32)) = (t28 - (32 : Int32)) from Own.nar_id (Own.sub32_rng q66 q73)]; exact (Own.sub32_rng q66 q73), N27, E0_1_26⟩
    · refine Own.iload (q := 29) P0 d1_27 rfl rfl ?_
      refine Own.retZH (Q := QrmPick Z j0 k0 f0 s0 p0 u0 jn zc fm h0 n0) P0 hh (ew hw) H0 d1_29 hret (by simp) hlk (by decide) (by decide) ?_
      exact ⟨_, rfl, by rw [show nar .char ((Jvm.Free.XT.ushr f0 s0) &&& (255 : Int32)) = ((Jvm.Free.XT.ushr f0 s0) &&& (255 : Int32)) from Own.nar_id (Own.lo_rng _)]; exact (Own.lo_rng _), N0, (Own.Ext.rf h0)⟩
theorem d17_0 : decode method_3_code 0 = .ok (.iload_n 0, 1) := by decide +kernel
theorem d17_1 : decode method_3_code 1 = .ok (.bipush 65, 2) := by decide +kernel
theorem d17_3 : decode method_3_code 3 = .ok (.if_icmp .lt 15, 3) := by decide +kernel
theorem d17_6 : decode method_3_code 6 = .ok (.iload_n 0, 1) := by decide +kernel
theorem d17_7 : decode method_3_code 7 = .ok (.bipush 90, 2) := by decide +kernel
theorem d17_9 : decode method_3_code 9 = .ok (.if_icmp .gt 9, 3) := by decide +kernel
theorem d17_12 : decode method_3_code 12 = .ok (.iload_n 0, 1) := by decide +kernel
theorem d17_13 : decode method_3_code 13 = .ok (.bipush 32, 2) := by decide +kernel
theorem d17_15 : decode method_3_code 15 = .ok (.iadd, 1) := by decide +kernel
theorem d17_16 : decode method_3_code 16 = .ok (.i2c, 1) := by decide +kernel
theorem d17_17 : decode method_3_code 17 = .ok (.ireturn, 1) := by decide +kernel
theorem d17_18 : decode method_3_code 18 = .ok (.iload_n 0, 1) := by decide +kernel
theorem d17_19 : decode method_3_code 19 = .ok (.ireturn, 1) := by decide +kernel
theorem pn_17 : plainFor (⟨"com/example/mokuroku/mokuroku/formats/JpcoarReaderIsReadingLanguagePinLaw", "low", "(C)C"⟩ : MethodName) = true := by first | exact plainFor_of_name (by first | (simp [plainName, overriddenIn]; done) | decide +kernel) | decide +kernel
def QrmLow (Z : State) (c0 : Int32) (h0 : Heap) (n0 : Nat) (v : Option Value) (h : Heap) (L : List Loc) : Prop := v = some (.int (lowf c0)) ∧ Fr n0 L ∧ h = h0
set_option maxRecDepth 65536 in
set_option maxHeartbeats 40000000 in
theorem rmLow (l : Launch) (Z : State) (a0 : Array Value) (hw : ∀ d ∈ tables_1, d.before a0 Z = true) (ws : List Jvm.Cond) (c0 : Int32) (h0 : Heap) (n0 : Nat) (Z0 : n0 ≤ h0.size) (hc : ¬ c0 < 0 ∧ ¬ (255 : Int32) < c0) :
    MetFree l (⟨"com/example/mokuroku/mokuroku/formats/JpcoarReaderIsReadingLanguagePinLaw", "low", "(C)C"⟩ : MethodName) (head1 (Jvm.Cond.code (⟨"com/example/mokuroku/mokuroku/formats/JpcoarReaderIsReadingLanguagePinLaw", "low", "(C)C"⟩ : MethodName) method_3_code 1 (some .char) :: ws) ({ frames := 0, cells := 0, slots := 0, locals := 0 } : Room)) (fun a U => a = #[(.int c0)] ∧ Z.Warmed39 U.vm ∧ U.heap = h0) (fun _ _ _ _ _ => True) (fun _ U o U' => ∃ v L, o = .returned v ∧ QrmLow Z c0 h0 n0 v U'.heap L ∧ FrameEnd U o U' L ({ frames := 0, cells := 0, slots := 0, locals := 0 } : Room).cells ({ frames := 0, cells := 0, slots := 0, locals := 0 } : Room).slots) := by
  refine MetFree.of_bodySF pn_17 hisR ?_
  intro p e s m args below meth c s₁ Bd hml0 hP hK
  obtain ⟨rfl, hZ, hh⟩ := hP
  have hml : c.maxLocals = 1 := hml0
  have hlk : meth.locks = false := Bd.notSynchronized
  have hret := Bd.returns
  have hnm := (name_of_methodNamed Bd.named Bd.method).1
  have P0 : Own.Wk Z "com/example/mokuroku/mokuroku/formats/JpcoarReaderIsReadingLanguagePinLaw" method_3_code h0 p l e ({ frames := 0, cells := 0, slots := 0, locals := 0 } : Room) s m #[(.int c0)] below meth c s₁ [] 0 0 := ⟨Stand.of_body Bd, Bd.exec, Bd.bytes, hZ, findClass_of_methodNamed Bd.named, by rw [← hh, Bd.state]; rfl⟩
  have N0 := Fr.nil n0
  show Own.Goes p.tables e below (fun s₂ o => ∃ v L, o = .returned v ∧ QrmLow Z c0 h0 n0 v s₂.heap L ∧ FrameEnd s o s₂ L ({ frames := 0, cells := 0, slots := 0, locals := 0 } : Room).cells ({ frames := 0, cells := 0, slots := 0, locals := 0 } : Room).slots) (s₁.setTop (entryFrame m #[(.int c0)] 1))
  rw [show entryFrame m #[(.int c0)] 1 = mkF m 0 #[.val (.int c0)] [] from by first | (simp [entryFrame, mkF, argsToLocals, Value.category]; done) | rfl | (rcases Own.refc hfm with rfl | ⟨_, rfl⟩ <;> rfl)]
  refine Own.iloadN (q := 1) P0 d17_0 rfl rfl ?_
  refine Own.bipush (q := 3) (v := (65 : Int32)) P0 d17_1 rfl rfl ?_
  refine Own.icmp_lt (q := 6) (qy := 18) P0 d17_3 (by decide) rfl (fun q3 => ?_) (fun q3 => ?_)
  · refine Own.iloadN (q := 19) P0 d17_18 rfl rfl ?_
    refine Own.retZ (Q := QrmLow Z c0 h0 n0) P0 d17_19 hret (by simp) hlk (by decide) (by decide) ?_
    exact ⟨by rw [show nar .char c0 = c0 from Own.nar_id hc]; unfold lowf; first | rw [if_pos q3] | rw [if_neg q3, if_pos q9] | rw [if_neg q3, if_neg q9], N0, rfl⟩
  · refine Own.iloadN (q := 7) P0 d17_6 rfl rfl ?_
    refine Own.bipush (q := 9) (v := (90 : Int32)) P0 d17_7 rfl rfl ?_
    refine Own.icmp_gt (q := 12) (qy := 18) P0 d17_9 (by decide) rfl (fun q9 => ?_) (fun q9 => ?_)
    · refine Own.iloadN (q := 19) P0 d17_18 rfl rfl ?_
      refine Own.retZ (Q := QrmLow Z c0 h0 n0) P0 d17_19 hret (by simp) hlk (by decide) (by decide) ?_
      exact ⟨by rw [show nar .char c0 = c0 from Own.nar_id hc]; unfold lowf; first | rw [if_pos q3] | rw [if_neg q3, if_pos q9] | rw [if_neg q3, if_neg q9], N0, rfl⟩
    · refine Own.iloadN (q := 13) P0 d17_12 rfl rfl ?_
      refine Own.bipush (q := 15) (v := (32 : Int32)) P0 d17_13 rfl rfl ?_
      refine Own.iadd (q := 16) P0 d17_15  rfl ?_
      refine Own.i2cV (q := 17) (v := (c0 + (32 : Int32))) P0 d17_16 (Own.i2c_id (Own.add32_rng q3 q9)) rfl ?_
      refine Own.retZ (Q := QrmLow Z c0 h0 n0) P0 d17_17 hret (by simp) hlk (by decide) (by decide) ?_
      exact ⟨by rw [show nar .char (c0 + (32 : Int32)) = (c0 + (32 : Int32)) from Own.nar_id (Own.add32_rng q3 q9)]; unfold lowf; first | rw [if_pos q3] | rw [if_neg q3, if_pos q9] | rw [if_neg q3, if_neg q9], N0, rfl⟩
theorem d20_0 : decode jdk_116_method_22_code 0 = .ok (.iload_n 0, 1) := by decide +kernel
theorem d20_1 : decode jdk_116_method_22_code 1 = .ok (.iload_n 1, 1) := by decide +kernel
theorem d20_2 : decode jdk_116_method_22_code 2 = .ok (.if_icmp .ne 5, 3) := by decide +kernel
theorem d20_5 : decode jdk_116_method_22_code 5 = .ok (.iconst 1, 1) := by decide +kernel
theorem d20_6 : decode jdk_116_method_22_code 6 = .ok (.ireturn, 1) := by decide +kernel
theorem d20_7 : decode jdk_116_method_22_code 7 = .ok (.iload_n 0, 1) := by decide +kernel
theorem d20_8 : decode jdk_116_method_22_code 8 = .ok (.sipush 223, 3) := by decide +kernel
theorem d20_11 : decode jdk_116_method_22_code 11 = .ok (.iand, 1) := by decide +kernel
theorem d20_12 : decode jdk_116_method_22_code 12 = .ok (.istore_n 2, 1) := by decide +kernel
theorem d20_13 : decode jdk_116_method_22_code 13 = .ok (.iload_n 2, 1) := by decide +kernel
theorem d20_14 : decode jdk_116_method_22_code 14 = .ok (.bipush 65, 2) := by decide +kernel
theorem d20_16 : decode jdk_116_method_22_code 16 = .ok (.if_icmp .ge 5, 3) := by decide +kernel
theorem d20_19 : decode jdk_116_method_22_code 19 = .ok (.iconst 0, 1) := by decide +kernel
theorem d20_20 : decode jdk_116_method_22_code 20 = .ok (.ireturn, 1) := by decide +kernel
theorem d20_21 : decode jdk_116_method_22_code 21 = .ok (.iload_n 2, 1) := by decide +kernel
theorem d20_22 : decode jdk_116_method_22_code 22 = .ok (.bipush 90, 2) := by decide +kernel
theorem d20_24 : decode jdk_116_method_22_code 24 = .ok (.if_icmp .le 24, 3) := by decide +kernel
theorem d20_27 : decode jdk_116_method_22_code 27 = .ok (.iload_n 2, 1) := by decide +kernel
theorem d20_28 : decode jdk_116_method_22_code 28 = .ok (.sipush 192, 3) := by decide +kernel
theorem d20_31 : decode jdk_116_method_22_code 31 = .ok (.if_icmp .lt 30, 3) := by decide +kernel
theorem d20_34 : decode jdk_116_method_22_code 34 = .ok (.iload_n 2, 1) := by decide +kernel
theorem d20_35 : decode jdk_116_method_22_code 35 = .ok (.sipush 222, 3) := by decide +kernel
theorem d20_38 : decode jdk_116_method_22_code 38 = .ok (.if_icmp .gt 23, 3) := by decide +kernel
theorem d20_41 : decode jdk_116_method_22_code 41 = .ok (.iload_n 2, 1) := by decide +kernel
theorem d20_42 : decode jdk_116_method_22_code 42 = .ok (.sipush 215, 3) := by decide +kernel
theorem d20_45 : decode jdk_116_method_22_code 45 = .ok (.if_icmp .eq 16, 3) := by decide +kernel
theorem d20_48 : decode jdk_116_method_22_code 48 = .ok (.iload_n 2, 1) := by decide +kernel
theorem d20_49 : decode jdk_116_method_22_code 49 = .ok (.iload_n 1, 1) := by decide +kernel
theorem d20_50 : decode jdk_116_method_22_code 50 = .ok (.sipush 223, 3) := by decide +kernel
theorem d20_53 : decode jdk_116_method_22_code 53 = .ok (.iand, 1) := by decide +kernel
theorem d20_54 : decode jdk_116_method_22_code 54 = .ok (.if_icmp .ne 7, 3) := by decide +kernel
theorem d20_57 : decode jdk_116_method_22_code 57 = .ok (.iconst 1, 1) := by decide +kernel
theorem d20_58 : decode jdk_116_method_22_code 58 = .ok (.goto 4, 3) := by decide +kernel
theorem d20_61 : decode jdk_116_method_22_code 61 = .ok (.iconst 0, 1) := by decide +kernel
theorem d20_62 : decode jdk_116_method_22_code 62 = .ok (.ireturn, 1) := by decide +kernel
theorem pn_20 : plainFor (⟨"java/lang/CharacterDataLatin1", "equalsIgnoreCase", "(BB)Z"⟩ : MethodName) = true := by first | exact plainFor_of_name (by first | (simp [plainName, overriddenIn]; done) | decide +kernel) | decide +kernel
def QrmIc (Z : State) (b1 : Int32) (b2 : Int32) (h0 : Heap) (n0 : Nat) (v : Option Value) (h : Heap) (L : List Loc) : Prop := v = some (.int (icV b1 b2)) ∧ Fr n0 L ∧ h = h0
set_option maxRecDepth 65536 in
set_option maxHeartbeats 40000000 in
theorem rmIc (l : Launch) (Z : State) (a0 : Array Value) (hw : ∀ d ∈ tables_1, d.before a0 Z = true) (ws : List Jvm.Cond) (b1 : Int32) (b2 : Int32) (h0 : Heap) (n0 : Nat) (Z0 : n0 ≤ h0.size)  :
    MetFree l (⟨"java/lang/CharacterDataLatin1", "equalsIgnoreCase", "(BB)Z"⟩ : MethodName) (head1 (Jvm.Cond.code (⟨"java/lang/CharacterDataLatin1", "equalsIgnoreCase", "(BB)Z"⟩ : MethodName) jdk_116_method_22_code 3 (some .boolean) :: ws) ({ frames := 0, cells := 0, slots := 0, locals := 0 } : Room)) (fun a U => a = #[(.int b1), (.int b2)] ∧ Z.Warmed39 U.vm ∧ U.heap = h0) (fun _ _ _ _ _ => True) (fun _ U o U' => ∃ v L, o = .returned v ∧ QrmIc Z b1 b2 h0 n0 v U'.heap L ∧ FrameEnd U o U' L ({ frames := 0, cells := 0, slots := 0, locals := 0 } : Room).cells ({ frames := 0, cells := 0, slots := 0, locals := 0 } : Room).slots) := by
  refine MetFree.of_bodySF pn_20 hisR ?_
  intro p e s m args below meth c s₁ Bd hml0 hP hK
  obtain ⟨rfl, hZ, hh⟩ := hP
  have hml : c.maxLocals = 3 := hml0
  have hlk : meth.locks = false := Bd.notSynchronized
  have hret := Bd.returns
  have hnm := (name_of_methodNamed Bd.named Bd.method).1
  have P0 : Own.Wk Z "java/lang/CharacterDataLatin1" jdk_116_method_22_code h0 p l e ({ frames := 0, cells := 0, slots := 0, locals := 0 } : Room) s m #[(.int b1), (.int b2)] below meth c s₁ [] 0 0 := ⟨Stand.of_body Bd, Bd.exec, Bd.bytes, hZ, findClass_of_methodNamed Bd.named, by rw [← hh, Bd.state]; rfl⟩
  have N0 := Fr.nil n0
  show Own.Goes p.tables e below (fun s₂ o => ∃ v L, o = .returned v ∧ QrmIc Z b1 b2 h0 n0 v s₂.heap L ∧ FrameEnd s o s₂ L ({ frames := 0, cells := 0, slots := 0, locals := 0 } : Room).cells ({ frames := 0, cells := 0, slots := 0, locals := 0 } : Room).slots) (s₁.setTop (entryFrame m #[(.int b1), (.int b2)] 3))
  rw [show entryFrame m #[(.int b1), (.int b2)] 3 = mkF m 0 #[.val (.int b1), .val (.int b2), .unset] [] from by first | (simp [entryFrame, mkF, argsToLocals, Value.category]; done) | rfl | (rcases Own.refc hfm with rfl | ⟨_, rfl⟩ <;> rfl)]
  refine Own.iloadN (q := 1) P0 d20_0 rfl rfl ?_
  refine Own.iloadN (q := 2) P0 d20_1 rfl rfl ?_
  refine Own.icmp_ne (q := 5) (qy := 7) P0 d20_2 (by decide) rfl (fun q2 => ?_) (fun q2 => ?_)
  · refine Own.iloadN (q := 8) P0 d20_7 rfl rfl ?_
    refine Own.sipush (q := 11) (v := (223 : Int32)) P0 d20_8 rfl rfl ?_
    refine Own.iand (q := 12) P0 d20_11  rfl ?_
    refine Own.istoreN (q := 13) (L2 := #[.val (.int b1), .val (.int b2), .val (.int (b1 &&& (223 : Int32)))]) P0 d20_12 rfl rfl ?_
    refine Own.iloadN (q := 14) P0 d20_13 rfl rfl ?_
    refine Own.bipush (q := 16) (v := (65 : Int32)) P0 d20_14 rfl rfl ?_
    refine Own.icmp_ge (q := 19) (qy := 21) P0 d20_16 (by decide) rfl (fun q16 => ?_) (fun q16 => ?_)
    · refine Own.iloadN (q := 22) P0 d20_21 rfl rfl ?_
      refine Own.bipush (q := 24) (v := (90 : Int32)) P0 d20_22 rfl rfl ?_
      refine Own.icmp_le (q := 27) (qy := 48) P0 d20_24 (by decide) rfl (fun q24 => ?_) (fun q24 => ?_)
      · refine Own.iloadN (q := 49) P0 d20_48 rfl rfl ?_
        refine Own.iloadN (q := 50) P0 d20_49 rfl rfl ?_
        refine Own.sipush (q := 53) (v := (223 : Int32)) P0 d20_50 rfl rfl ?_
        refine Own.iand (q := 54) P0 d20_53  rfl ?_
        refine Own.icmp_ne (q := 57) (qy := 61) P0 d20_54 (by decide) rfl (fun q54 => ?_) (fun q54 => ?_)
        · refine Own.iconst (q := 62) (v := (0 : Int32)) P0 d20_61 rfl rfl ?_
          refine Own.retZ (Q := QrmIc Z b1 b2 h0 n0) P0 d20_62 hret (by simp) hlk (by decide) (by decide) ?_
          exact ⟨by unfold icV; first | (rw [if_pos q2]; rfl) | (rw [if_neg q2, if_pos q16]; rfl) | (rw [if_neg q2, if_neg q16, if_pos q24, if_pos q54]; rfl) | (rw [if_neg q2, if_neg q16, if_pos q24, if_neg q54]; rfl) | (rw [if_neg q2, if_neg q16, if_neg (fun z => z q24), if_pos q31]; rfl) | (rw [if_neg q2, if_neg q16, if_neg (fun z => z q24), if_neg q31, if_pos q38]; rfl) | (rw [if_neg q2, if_neg q16, if_neg (fun z => z q24), if_neg q31, if_neg q38, if_pos q45]; rfl) | (rw [if_neg q2, if_neg q16, if_neg (fun z => z q24), if_neg q31, if_neg q38, if_neg q45, if_pos q54]; rfl) | (rw [if_neg q2, if_neg q16, if_neg (fun z => z q24), if_neg q31, if_neg q38, if_neg q45, if_neg q54]; rfl), N0, rfl⟩
        · refine Own.iconst (q := 58) (v := (1 : Int32)) P0 d20_57 rfl rfl ?_
          refine Own.goto (q := 62) P0 d20_58 (by decide) ?_
          refine Own.retZ (Q := QrmIc Z b1 b2 h0 n0) P0 d20_62 hret (by simp) hlk (by decide) (by decide) ?_
          exact ⟨by unfold icV; first | (rw [if_pos q2]; rfl) | (rw [if_neg q2, if_pos q16]; rfl) | (rw [if_neg q2, if_neg q16, if_pos q24, if_pos q54]; rfl) | (rw [if_neg q2, if_neg q16, if_pos q24, if_neg q54]; rfl) | (rw [if_neg q2, if_neg q16, if_neg (fun z => z q24), if_pos q31]; rfl) | (rw [if_neg q2, if_neg q16, if_neg (fun z => z q24), if_neg q31, if_pos q38]; rfl) | (rw [if_neg q2, if_neg q16, if_neg (fun z => z q24), if_neg q31, if_neg q38, if_pos q45]; rfl) | (rw [if_neg q2, if_neg q16, if_neg (fun z => z q24), if_neg q31, if_neg q38, if_neg q45, if_pos q54]; rfl) | (rw [if_neg q2, if_neg q16, if_neg (fun z => z q24), if_neg q31, if_neg q38, if_neg q45, if_neg q54]; rfl), N0, rfl⟩
      · refine Own.iloadN (q := 28) P0 d20_27 rfl rfl ?_
        refine Own.sipush (q := 31) (v := (192 : Int32)) P0 d20_28 rfl rfl ?_
        refine Own.icmp_lt (q := 34) (qy := 61) P0 d20_31 (by decide) rfl (fun q31 => ?_) (fun q31 => ?_)
        · refine Own.iconst (q := 62) (v := (0 : Int32)) P0 d20_61 rfl rfl ?_
          refine Own.retZ (Q := QrmIc Z b1 b2 h0 n0) P0 d20_62 hret (by simp) hlk (by decide) (by decide) ?_
          exact ⟨by unfold icV; first | (rw [if_pos q2]; rfl) | (rw [if_neg q2, if_pos q16]; rfl) | (rw [if_neg q2, if_neg q16, if_pos q24, if_pos q54]; rfl) | (rw [if_neg q2, if_neg q16, if_pos q24, if_neg q54]; rfl) | (rw [if_neg q2, if_neg q16, if_neg (fun z => z q24), if_pos q31]; rfl) | (rw [if_neg q2, if_neg q16, if_neg (fun z => z q24), if_neg q31, if_pos q38]; rfl) | (rw [if_neg q2, if_neg q16, if_neg (fun z => z q24), if_neg q31, if_neg q38, if_pos q45]; rfl) | (rw [if_neg q2, if_neg q16, if_neg (fun z => z q24), if_neg q31, if_neg q38, if_neg q45, if_pos q54]; rfl) | (rw [if_neg q2, if_neg q16, if_neg (fun z => z q24), if_neg q31, if_neg q38, if_neg q45, if_neg q54]; rfl), N0, rfl⟩
        · refine Own.iloadN (q := 35) P0 d20_34 rfl rfl ?_
          refine Own.sipush (q := 38) (v := (222 : Int32)) P0 d20_35 rfl rfl ?_
          refine Own.icmp_gt (q := 41) (qy := 61) P0 d20_38 (by decide) rfl (fun q38 => ?_) (fun q38 => ?_)
          · refine Own.iconst (q := 62) (v := (0 : Int32)) P0 d20_61 rfl rfl ?_
            refine Own.retZ (Q := QrmIc Z b1 b2 h0 n0) P0 d20_62 hret (by simp) hlk (by decide) (by decide) ?_
            exact ⟨by unfold icV; first | (rw [if_pos q2]; rfl) | (rw [if_neg q2, if_pos q16]; rfl) | (rw [if_neg q2, if_neg q16, if_pos q24, if_pos q54]; rfl) | (rw [if_neg q2, if_neg q16, if_pos q24, if_neg q54]; rfl) | (rw [if_neg q2, if_neg q16, if_neg (fun z => z q24), if_pos q31]; rfl) | (rw [if_neg q2, if_neg q16, if_neg (fun z => z q24), if_neg q31, if_pos q38]; rfl) | (rw [if_neg q2, if_neg q16, if_neg (fun z => z q24), if_neg q31, if_neg q38, if_pos q45]; rfl) | (rw [if_neg q2, if_neg q16, if_neg (fun z => z q24), if_neg q31, if_neg q38, if_neg q45, if_pos q54]; rfl) | (rw [if_neg q2, if_neg q16, if_neg (fun z => z q24), if_neg q31, if_neg q38, if_neg q45, if_neg q54]; rfl), N0, rfl⟩
          · refine Own.iloadN (q := 42) P0 d20_41 rfl rfl ?_
            refine Own.sipush (q := 45) (v := (215 : Int32)) P0 d20_42 rfl rfl ?_
            refine Own.icmp_eq (q := 48) (qy := 61) P0 d20_45 (by decide) rfl (fun q45 => ?_) (fun q45 => ?_)
            · refine Own.iconst (q := 62) (v := (0 : Int32)) P0 d20_61 rfl rfl ?_
              refine Own.retZ (Q := QrmIc Z b1 b2 h0 n0) P0 d20_62 hret (by simp) hlk (by decide) (by decide) ?_
              exact ⟨by unfold icV; first | (rw [if_pos q2]; rfl) | (rw [if_neg q2, if_pos q16]; rfl) | (rw [if_neg q2, if_neg q16, if_pos q24, if_pos q54]; rfl) | (rw [if_neg q2, if_neg q16, if_pos q24, if_neg q54]; rfl) | (rw [if_neg q2, if_neg q16, if_neg (fun z => z q24), if_pos q31]; rfl) | (rw [if_neg q2, if_neg q16, if_neg (fun z => z q24), if_neg q31, if_pos q38]; rfl) | (rw [if_neg q2, if_neg q16, if_neg (fun z => z q24), if_neg q31, if_neg q38, if_pos q45]; rfl) | (rw [if_neg q2, if_neg q16, if_neg (fun z => z q24), if_neg q31, if_neg q38, if_neg q45, if_pos q54]; rfl) | (rw [if_neg q2, if_neg q16, if_neg (fun z => z q24), if_neg q31, if_neg q38, if_neg q45, if_neg q54]; rfl), N0, rfl⟩
            · refine Own.iloadN (q := 49) P0 d20_48 rfl rfl ?_
              refine Own.iloadN (q := 50) P0 d20_49 rfl rfl ?_
              refine Own.sipush (q := 53) (v := (223 : Int32)) P0 d20_50 rfl rfl ?_
              refine Own.iand (q := 54) P0 d20_53  rfl ?_
              refine Own.icmp_ne (q := 57) (qy := 61) P0 d20_54 (by decide) rfl (fun q54 => ?_) (fun q54 => ?_)
              · refine Own.iconst (q := 62) (v := (0 : Int32)) P0 d20_61 rfl rfl ?_
                refine Own.retZ (Q := QrmIc Z b1 b2 h0 n0) P0 d20_62 hret (by simp) hlk (by decide) (by decide) ?_
                exact ⟨by unfold icV; first | (rw [if_pos q2]; rfl) | (rw [if_neg q2, if_pos q16]; rfl) | (rw [if_neg q2, if_neg q16, if_pos q24, if_pos q54]; rfl) | (rw [if_neg q2, if_neg q16, if_pos q24, if_neg q54]; rfl) | (rw [if_neg q2, if_neg q16, if_neg (fun z => z q24), if_pos q31]; rfl) | (rw [if_neg q2, if_neg q16, if_neg (fun z => z q24), if_neg q31, if_pos q38]; rfl) | (rw [if_neg q2, if_neg q16, if_neg (fun z => z q24), if_neg q31, if_neg q38, if_pos q45]; rfl) | (rw [if_neg q2, if_neg q16, if_neg (fun z => z q24), if_neg q31, if_neg q38, if_neg q45, if_pos q54]; rfl) | (rw [if_neg q2, if_neg q16, if_neg (fun z => z q24), if_neg q31, if_neg q38, if_neg q45, if_neg q54]; rfl), N0, rfl⟩
              · refine Own.iconst (q := 58) (v := (1 : Int32)) P0 d20_57 rfl rfl ?_
                refine Own.goto (q := 62) P0 d20_58 (by decide) ?_
                refine Own.retZ (Q := QrmIc Z b1 b2 h0 n0) P0 d20_62 hret (by simp) hlk (by decide) (by decide) ?_
                exact ⟨by unfold icV; first | (rw [if_pos q2]; rfl) | (rw [if_neg q2, if_pos q16]; rfl) | (rw [if_neg q2, if_neg q16, if_pos q24, if_pos q54]; rfl) | (rw [if_neg q2, if_neg q16, if_pos q24, if_neg q54]; rfl) | (rw [if_neg q2, if_neg q16, if_neg (fun z => z q24), if_pos q31]; rfl) | (rw [if_neg q2, if_neg q16, if_neg (fun z => z q24), if_neg q31, if_pos q38]; rfl) | (rw [if_neg q2, if_neg q16, if_neg (fun z => z q24), if_neg q31, if_neg q38, if_pos q45]; rfl) | (rw [if_neg q2, if_neg q16, if_neg (fun z => z q24), if_neg q31, if_neg q38, if_neg q45, if_pos q54]; rfl) | (rw [if_neg q2, if_neg q16, if_neg (fun z => z q24), if_neg q31, if_neg q38, if_neg q45, if_neg q54]; rfl), N0, rfl⟩
    · refine Own.iconst (q := 20) (v := (0 : Int32)) P0 d20_19 rfl rfl ?_
      refine Own.retZ (Q := QrmIc Z b1 b2 h0 n0) P0 d20_20 hret (by simp) hlk (by decide) (by decide) ?_
      exact ⟨by unfold icV; first | (rw [if_pos q2]; rfl) | (rw [if_neg q2, if_pos q16]; rfl) | (rw [if_neg q2, if_neg q16, if_pos q24, if_pos q54]; rfl) | (rw [if_neg q2, if_neg q16, if_pos q24, if_neg q54]; rfl) | (rw [if_neg q2, if_neg q16, if_neg (fun z => z q24), if_pos q31]; rfl) | (rw [if_neg q2, if_neg q16, if_neg (fun z => z q24), if_neg q31, if_pos q38]; rfl) | (rw [if_neg q2, if_neg q16, if_neg (fun z => z q24), if_neg q31, if_neg q38, if_pos q45]; rfl) | (rw [if_neg q2, if_neg q16, if_neg (fun z => z q24), if_neg q31, if_neg q38, if_neg q45, if_pos q54]; rfl) | (rw [if_neg q2, if_neg q16, if_neg (fun z => z q24), if_neg q31, if_neg q38, if_neg q45, if_neg q54]; rfl), N0, rfl⟩
  · refine Own.iconst (q := 6) (v := (1 : Int32)) P0 d20_5 rfl rfl ?_
    refine Own.retZ (Q := QrmIc Z b1 b2 h0 n0) P0 d20_6 hret (by simp) hlk (by decide) (by decide) ?_
    exact ⟨by unfold icV; first | (rw [if_pos q2]; rfl) | (rw [if_neg q2, if_pos q16]; rfl) | (rw [if_neg q2, if_neg q16, if_pos q24, if_pos q54]; rfl) | (rw [if_neg q2, if_neg q16, if_pos q24, if_neg q54]; rfl) | (rw [if_neg q2, if_neg q16, if_neg (fun z => z q24), if_pos q31]; rfl) | (rw [if_neg q2, if_neg q16, if_neg (fun z => z q24), if_neg q31, if_pos q38]; rfl) | (rw [if_neg q2, if_neg q16, if_neg (fun z => z q24), if_neg q31, if_neg q38, if_pos q45]; rfl) | (rw [if_neg q2, if_neg q16, if_neg (fun z => z q24), if_neg q31, if_neg q38, if_neg q45, if_pos q54]; rfl) | (rw [if_neg q2, if_neg q16, if_neg (fun z => z q24), if_neg q31, if_neg q38, if_neg q45, if_neg q54]; rfl), N0, rfl⟩
theorem d19_0 : decode jdk_43_method_30_code 0 = .ok (.iload_n 1, 1) := by decide +kernel
theorem d19_1 : decode jdk_43_method_30_code 1 = .ok (.iload 4, 2) := by decide +kernel
theorem d19_3 : decode jdk_43_method_30_code 3 = .ok (.iadd, 1) := by decide +kernel
theorem d19_4 : decode jdk_43_method_30_code 4 = .ok (.istore 5, 2) := by decide +kernel
theorem d19_6 : decode jdk_43_method_30_code 6 = .ok (.iload_n 1, 1) := by decide +kernel
theorem d19_7 : decode jdk_43_method_30_code 7 = .ok (.iload 5, 2) := by decide +kernel
theorem d19_9 : decode jdk_43_method_30_code 9 = .ok (.if_icmp .ge 34, 3) := by decide +kernel
theorem d19_12 : decode jdk_43_method_30_code 12 = .ok (.aload_n 0, 1) := by decide +kernel
theorem d19_13 : decode jdk_43_method_30_code 13 = .ok (.iload_n 1, 1) := by decide +kernel
theorem d19_14 : decode jdk_43_method_30_code 14 = .ok (.iinc 1 1, 3) := by decide +kernel
theorem d19_17 : decode jdk_43_method_30_code 17 = .ok (.baload, 1) := by decide +kernel
theorem d19_18 : decode jdk_43_method_30_code 18 = .ok (.istore 6, 2) := by decide +kernel
theorem d19_20 : decode jdk_43_method_30_code 20 = .ok (.aload_n 2, 1) := by decide +kernel
theorem d19_21 : decode jdk_43_method_30_code 21 = .ok (.iload_n 3, 1) := by decide +kernel
theorem d19_22 : decode jdk_43_method_30_code 22 = .ok (.iinc 3 1, 3) := by decide +kernel
theorem d19_25 : decode jdk_43_method_30_code 25 = .ok (.baload, 1) := by decide +kernel
theorem d19_26 : decode jdk_43_method_30_code 26 = .ok (.istore 7, 2) := by decide +kernel
theorem d19_28 : decode jdk_43_method_30_code 28 = .ok (.iload 6, 2) := by decide +kernel
theorem d19_30 : decode jdk_43_method_30_code 30 = .ok (.iload 7, 2) := by decide +kernel
theorem d19_32 : decode jdk_43_method_30_code 32 = .ok (.invokestatic 153, 3) := by decide +kernel
theorem d19_35 : decode jdk_43_method_30_code 35 = .ok (.ifCond .eq 6, 3) := by decide +kernel
theorem d19_38 : decode jdk_43_method_30_code 38 = .ok (.goto (-32), 3) := by decide +kernel
theorem d19_41 : decode jdk_43_method_30_code 41 = .ok (.iconst 0, 1) := by decide +kernel
theorem d19_42 : decode jdk_43_method_30_code 42 = .ok (.ireturn, 1) := by decide +kernel
theorem d19_43 : decode jdk_43_method_30_code 43 = .ok (.iconst 1, 1) := by decide +kernel
theorem d19_44 : decode jdk_43_method_30_code 44 = .ok (.ireturn, 1) := by decide +kernel
theorem pn_19 : plainFor (⟨"java/lang/StringLatin1", "regionMatchesCI", "([BI[BII)Z"⟩ : MethodName) = true := by first | exact plainFor_of_name (by first | (simp [plainName, overriddenIn]; done) | decide +kernel) | decide +kernel
def QrmRg (Z : State) (t1 : Addr) (k1 : ClassId) (t2 : Addr) (k2 : ClassId) (l0 : Int32) (l1 : Int32) (l2 : Int32) (l3 : Int32) (l4 : Int32) (l5 : Int32) (l6 : Int32) (b0 : Int32) (b1 : Int32) (b2 : Int32) (b3 : Int32) (b4 : Int32) (b5 : Int32) (b6 : Int32) (h0 : Heap) (n0 : Nat) (v : Option Value) (h : Heap) (L : List Loc) : Prop := v = some (.int (rm7 [l0, l1, l2, l3, l4, l5, l6] [b0, b1, b2, b3, b4, b5, b6])) ∧ Fr n0 L ∧ h = h0
set_option maxRecDepth 65536 in
set_option maxHeartbeats 40000000 in
theorem rmRg (l : Launch) (Z : State) (a0 : Array Value) (hw : ∀ d ∈ tables_1, d.before a0 Z = true) (ws : List Jvm.Cond) (t1 : Addr) (k1 : ClassId) (t2 : Addr) (k2 : ClassId) (l0 : Int32) (l1 : Int32) (l2 : Int32) (l3 : Int32) (l4 : Int32) (l5 : Int32) (l6 : Int32) (b0 : Int32) (b1 : Int32) (b2 : Int32) (b3 : Int32) (b4 : Int32) (b5 : Int32) (b6 : Int32) (h0 : Heap) (n0 : Nat) (Z0 : n0 ≤ h0.size) (A1 : Arv Z h0 t1 k1 .byte 7 [.int l0, .int l1, .int l2, .int l3, .int l4, .int l5, .int l6] (.int 0)) (A2 : Arv Z h0 t2 k2 .byte 7 [.int b0, .int b1, .int b2, .int b3, .int b4, .int b5, .int b6] (.int 0)) :
    MetFree l (⟨"java/lang/StringLatin1", "regionMatchesCI", "([BI[BII)Z"⟩ : MethodName) (head1 (Jvm.Cond.code (⟨"java/lang/StringLatin1", "regionMatchesCI", "([BI[BII)Z"⟩ : MethodName) jdk_43_method_30_code 8 (some .boolean) :: ws) ({ frames := 1, cells := 0, slots := 0, locals := 14 } : Room)) (fun a U => a = #[(.ref t1), (.int (0 : Int32)), (.ref t2), (.int (0 : Int32)), (.int (7 : Int32))] ∧ Z.Warmed39 U.vm ∧ U.heap = h0) (fun _ _ _ _ _ => True) (fun _ U o U' => ∃ v L, o = .returned v ∧ QrmRg Z t1 k1 t2 k2 l0 l1 l2 l3 l4 l5 l6 b0 b1 b2 b3 b4 b5 b6 h0 n0 v U'.heap L ∧ FrameEnd U o U' L ({ frames := 1, cells := 0, slots := 0, locals := 14 } : Room).cells ({ frames := 1, cells := 0, slots := 0, locals := 14 } : Room).slots) := by
  refine MetFree.of_bodySF pn_19 hisR ?_
  intro p e s m args below meth c s₁ Bd hml0 hP hK
  obtain ⟨rfl, hZ, hh⟩ := hP
  have hml : c.maxLocals = 8 := hml0
  have hlk : meth.locks = false := Bd.notSynchronized
  have hret := Bd.returns
  have hnm := (name_of_methodNamed Bd.named Bd.method).1
  have P0 : Own.Wk Z "java/lang/StringLatin1" jdk_43_method_30_code h0 p l e ({ frames := 1, cells := 0, slots := 0, locals := 14 } : Room) s m #[(.ref t1), (.int (0 : Int32)), (.ref t2), (.int (0 : Int32)), (.int (7 : Int32))] below meth c s₁ [] 0 0 := ⟨Stand.of_body Bd, Bd.exec, Bd.bytes, hZ, findClass_of_methodNamed Bd.named, by rw [← hh, Bd.state]; rfl⟩
  have N0 := Fr.nil n0
  show Own.Goes p.tables e below (fun s₂ o => ∃ v L, o = .returned v ∧ QrmRg Z t1 k1 t2 k2 l0 l1 l2 l3 l4 l5 l6 b0 b1 b2 b3 b4 b5 b6 h0 n0 v s₂.heap L ∧ FrameEnd s o s₂ L ({ frames := 1, cells := 0, slots := 0, locals := 14 } : Room).cells ({ frames := 1, cells := 0, slots := 0, locals := 14 } : Room).slots) (s₁.setTop (entryFrame m #[(.ref t1), (.int (0 : Int32)), (.ref t2), (.int (0 : Int32)), (.int (7 : Int32))] 8))
  rw [show entryFrame m #[(.ref t1), (.int (0 : Int32)), (.ref t2), (.int (0 : Int32)), (.int (7 : Int32))] 8 = mkF m 0 #[.val (.ref t1), .val (.int (0 : Int32)), .val (.ref t2), .val (.int (0 : Int32)), .val (.int (7 : Int32)), .unset, .unset, .unset] [] from by first | (simp [entryFrame, mkF, argsToLocals, Value.category]; done) | rfl | (rcases Own.refc hfm with rfl | ⟨_, rfl⟩ <;> rfl)]
  refine Own.iloadN (q := 1) P0 d19_0 rfl rfl ?_
  refine Own.iload (q := 3) P0 d19_1 rfl rfl ?_
  refine Own.iadd (q := 4) P0 d19_3  rfl ?_
  refine Own.istore (q := 6) (L2 := #[.val (.ref t1), .val (.int (0 : Int32)), .val (.ref t2), .val (.int (0 : Int32)), .val (.int (7 : Int32)), .val (.int ((0 : Int32) + (7 : Int32))), .unset, .unset]) P0 d19_4 rfl rfl ?_
  refine Own.iloadN (q := 7) P0 d19_6 rfl rfl ?_
  refine Own.iload (q := 9) P0 d19_7 rfl rfl ?_
  refine Own.icmp_ge (q := 12) (qy := 43) P0 d19_9 (by decide) rfl (fun q => absurd (show _ < _ by decide) q) (fun _ => ?_)
  refine Own.aloadN (q := 13) P0 d19_12 rfl rfl rfl ?_
  refine Own.iloadN (q := 14) P0 d19_13 rfl rfl ?_
  refine Own.iinc (q := 17) (v := (1 : Int32)) (L2 := #[.val (.ref t1), .val (.int ((0 : Int32) + (1 : Int32))), .val (.ref t2), .val (.int (0 : Int32)), .val (.int (7 : Int32)), .val (.int ((0 : Int32) + (7 : Int32))), .unset, .unset]) P0 d19_14 rfl rfl rfl rfl ?_
  refine Own.baload (q := 18) (v := (.int l0)) P0 d19_17 A1 (by decide) (by decide) rfl rfl ?_
  refine Own.istore (q := 20) (L2 := #[.val (.ref t1), .val (.int ((0 : Int32) + (1 : Int32))), .val (.ref t2), .val (.int (0 : Int32)), .val (.int (7 : Int32)), .val (.int ((0 : Int32) + (7 : Int32))), .val (.int l0), .unset]) P0 d19_18 rfl rfl ?_
  refine Own.aloadN (q := 21) P0 d19_20 rfl rfl rfl ?_
  refine Own.iloadN (q := 22) P0 d19_21 rfl rfl ?_
  refine Own.iinc (q := 25) (v := (1 : Int32)) (L2 := #[.val (.ref t1), .val (.int ((0 : Int32) + (1 : Int32))), .val (.ref t2), .val (.int ((0 : Int32) + (1 : Int32))), .val (.int (7 : Int32)), .val (.int ((0 : Int32) + (7 : Int32))), .val (.int l0), .unset]) P0 d19_22 rfl rfl rfl rfl ?_
  refine Own.baload (q := 26) (v := (.int b0)) P0 d19_25 A2 (by decide) (by decide) rfl rfl ?_
  refine Own.istore (q := 28) (L2 := #[.val (.ref t1), .val (.int ((0 : Int32) + (1 : Int32))), .val (.ref t2), .val (.int ((0 : Int32) + (1 : Int32))), .val (.int (7 : Int32)), .val (.int ((0 : Int32) + (7 : Int32))), .val (.int l0), .val (.int b0)]) P0 d19_26 rfl rfl ?_
  refine Own.iload (q := 30) P0 d19_28 rfl rfl ?_
  refine Own.iload (q := 32) P0 d19_30 rfl rfl ?_
  refine Own.invStatic (q := 35) (W := 0) (y := (⟨"java/lang/CharacterDataLatin1", "equalsIgnoreCase", "(BB)Z"⟩ : MethodName)) (argsL := [(.int l0), (.int b0)]) (rest := []) P0 d19_32 (hw _ (List.mem_of_getElem? (i := 92) rfl)) (hw _ (List.mem_of_getElem? (i := 93) rfl)) (hw _ (List.mem_of_getElem? (i := 94) rfl)) (hw _ (List.mem_of_getElem? (i := 95) rfl)) (by decide) (backOf (W := 0) (rmIc l Z a0 hw [] l0 b0 h0 n0 Z0 ) P0.2.2.2.1 (hw _ (List.mem_of_getElem? (i := 95) rfl)) (hw _ (List.mem_of_getElem? (i := 94) rfl)) (by decide) (by decide)) rfl rfl (by rw [hml]; rfl) (lenOf (show parseMethodDescriptor "(BB)Z" = some ⟨[.byte, .byte], some .boolean⟩ from by decide +kernel) rfl) (by show 2 * 0 + _ ≤ _; exact Nat.le_of_eq rfl) (by decide) (by decide) rfl ?_
  rintro v21 T21 h21 L21 ⟨rfl, N21q, e21⟩ P21
  rw [e21] at P21
  have N21 := Fr.app N0 N21q
  show Own.Goes _ _ _ _ (T21.setTop (mkF m 35 #[.val (.ref t1), .val (.int ((0 : Int32) + (1 : Int32))), .val (.ref t2), .val (.int ((0 : Int32) + (1 : Int32))), .val (.int (7 : Int32)), .val (.int ((0 : Int32) + (7 : Int32))), .val (.int l0), .val (.int b0)] [(.int (icV l0 b0))]))
  refine Own.if_eq (q := 38) (qy := 41) P21 d19_35 (by decide) rfl (fun g1 => ?_) (fun g1 => ?_)
  · refine Own.iconst (q := 42) (v := (0 : Int32)) P21 d19_41 rfl rfl ?_
    refine Own.retZ (Q := QrmRg Z t1 k1 t2 k2 l0 l1 l2 l3 l4 l5 l6 b0 b1 b2 b3 b4 b5 b6 h0 n0) P21 d19_42 hret (by simp) hlk (by decide) (by decide) ?_
    exact ⟨by simp [rm7, nar, *], N21, rfl⟩
  · refine Own.goto (q := 6) P21 d19_38 (by decide) ?_
    refine Own.iloadN (q := 7) P21 d19_6 rfl rfl ?_
    refine Own.iload (q := 9) P21 d19_7 rfl rfl ?_
    refine Own.icmp_ge (q := 12) (qy := 43) P21 d19_9 (by decide) rfl (fun q => absurd (show _ < _ by decide) q) (fun _ => ?_)
    refine Own.aloadN (q := 13) P21 d19_12 rfl rfl rfl ?_
    refine Own.iloadN (q := 14) P21 d19_13 rfl rfl ?_
    refine Own.iinc (q := 17) (v := (1 : Int32)) (L2 := #[.val (.ref t1), .val (.int (((0 : Int32) + (1 : Int32)) + (1 : Int32))), .val (.ref t2), .val (.int ((0 : Int32) + (1 : Int32))), .val (.int (7 : Int32)), .val (.int ((0 : Int32) + (7 : Int32))), .val (.int l0), .val (.int b0)]) P21 d19_14 rfl rfl rfl rfl ?_
    refine Own.baload (q := 18) (v := (.int l1)) P21 d19_17 A1 (by decide) (by decide) rfl rfl ?_
    refine Own.istore (q := 20) (L2 := #[.val (.ref t1), .val (.int (((0 : Int32) + (1 : Int32)) + (1 : Int32))), .val (.ref t2), .val (.int ((0 : Int32) + (1 : Int32))), .val (.int (7 : Int32)), .val (.int ((0 : Int32) + (7 : Int32))), .val (.int l1), .val (.int b0)]) P21 d19_18 rfl rfl ?_
    refine Own.aloadN (q := 21) P21 d19_20 rfl rfl rfl ?_
    refine Own.iloadN (q := 22) P21 d19_21 rfl rfl ?_
    refine Own.iinc (q := 25) (v := (1 : Int32)) (L2 := #[.val (.ref t1), .val (.int (((0 : Int32) + (1 : Int32)) + (1 : Int32))), .val (.ref t2), .val (.int (((0 : Int32) + (1 : Int32)) + (1 : Int32))), .val (.int (7 : Int32)), .val (.int ((0 : Int32) + (7 : Int32))), .val (.int l1), .val (.int b0)]) P21 d19_22 rfl rfl rfl rfl ?_
    refine Own.baload (q := 26) (v := (.int b1)) P21 d19_25 A2 (by decide) (by decide) rfl rfl ?_
    refine Own.istore (q := 28) (L2 := #[.val (.ref t1), .val (.int (((0 : Int32) + (1 : Int32)) + (1 : Int32))), .val (.ref t2), .val (.int (((0 : Int32) + (1 : Int32)) + (1 : Int32))), .val (.int (7 : Int32)), .val (.int ((0 : Int32) + (7 : Int32))), .val (.int l1), .val (.int b1)]) P21 d19_26 rfl rfl ?_
    refine Own.iload (q := 30) P21 d19_28 rfl rfl ?_
    refine Own.iload (q := 32) P21 d19_30 rfl rfl ?_
    refine Own.invStatic (q := 35) (W := 0) (y := (⟨"java/lang/CharacterDataLatin1", "equalsIgnoreCase", "(BB)Z"⟩ : MethodName)) (argsL := [(.int l1), (.int b1)]) (rest := []) P21 d19_32 (hw _ (List.mem_of_getElem? (i := 92) rfl)) (hw _ (List.mem_of_getElem? (i := 93) rfl)) (hw _ (List.mem_of_getElem? (i := 94) rfl)) (hw _ (List.mem_of_getElem? (i := 95) rfl)) (by decide) (backOf (W := 0) (rmIc l Z a0 hw [] l1 b1 h0 n0 Z0 ) P21.2.2.2.1 (hw _ (List.mem_of_getElem? (i := 95) rfl)) (hw _ (List.mem_of_getElem? (i := 94) rfl)) (by decide) (by decide)) rfl rfl (by rw [hml]; rfl) (lenOf (show parseMethodDescriptor "(BB)Z" = some ⟨[.byte, .byte], some .boolean⟩ from by decide +kernel) rfl) (by show 2 * 0 + _ ≤ _; exact Nat.le_of_eq rfl) (by decide) (by decide) rfl ?_
    rintro v22 T22 h22 L22 ⟨rfl, N22q, e22⟩ P22
    rw [e22] at P22
    have N22 := Fr.app N21 N22q
    show Own.Goes _ _ _ _ (T22.setTop (mkF m 35 #[.val (.ref t1), .val (.int (((0 : Int32) + (1 : Int32)) + (1 : Int32))), .val (.ref t2), .val (.int (((0 : Int32) + (1 : Int32)) + (1 : Int32))), .val (.int (7 : Int32)), .val (.int ((0 : Int32) + (7 : Int32))), .val (.int l1), .val (.int b1)] [(.int (icV l1 b1))]))
    refine Own.if_eq (q := 38) (qy := 41) P22 d19_35 (by decide) rfl (fun g2 => ?_) (fun g2 => ?_)
    · refine Own.iconst (q := 42) (v := (0 : Int32)) P22 d19_41 rfl rfl ?_
      refine Own.retZ (Q := QrmRg Z t1 k1 t2 k2 l0 l1 l2 l3 l4 l5 l6 b0 b1 b2 b3 b4 b5 b6 h0 n0) P22 d19_42 hret (by simp) hlk (by decide) (by decide) ?_
      exact ⟨by simp [rm7, nar, *], N22, rfl⟩
    · refine Own.goto (q := 6) P22 d19_38 (by decide) ?_
      refine Own.iloadN (q := 7) P22 d19_6 rfl rfl ?_
      refine Own.iload (q := 9) P22 d19_7 rfl rfl ?_
      refine Own.icmp_ge (q := 12) (qy := 43) P22 d19_9 (by decide) rfl (fun q => absurd (show _ < _ by decide) q) (fun _ => ?_)
      refine Own.aloadN (q := 13) P22 d19_12 rfl rfl rfl ?_
      refine Own.iloadN (q := 14) P22 d19_13 rfl rfl ?_
      refine Own.iinc (q := 17) (v := (1 : Int32)) (L2 := #[.val (.ref t1), .val (.int ((((0 : Int32) + (1 : Int32)) + (1 : Int32)) + (1 : Int32))), .val (.ref t2), .val (.int (((0 : Int32) + (1 : Int32)) + (1 : Int32))), .val (.int (7 : Int32)), .val (.int ((0 : Int32) + (7 : Int32))), .val (.int l1), .val (.int b1)]) P22 d19_14 rfl rfl rfl rfl ?_
      refine Own.baload (q := 18) (v := (.int l2)) P22 d19_17 A1 (by decide) (by decide) rfl rfl ?_
      refine Own.istore (q := 20) (L2 := #[.val (.ref t1), .val (.int ((((0 : Int32) + (1 : Int32)) + (1 : Int32)) + (1 : Int32))), .val (.ref t2), .val (.int (((0 : Int32) + (1 : Int32)) + (1 : Int32))), .val (.int (7 : Int32)), .val (.int ((0 : Int32) + (7 : Int32))), .val (.int l2), .val (.int b1)]) P22 d19_18 rfl rfl ?_
      refine Own.aloadN (q := 21) P22 d19_20 rfl rfl rfl ?_
      refine Own.iloadN (q := 22) P22 d19_21 rfl rfl ?_
      refine Own.iinc (q := 25) (v := (1 : Int32)) (L2 := #[.val (.ref t1), .val (.int ((((0 : Int32) + (1 : Int32)) + (1 : Int32)) + (1 : Int32))), .val (.ref t2), .val (.int ((((0 : Int32) + (1 : Int32)) + (1 : Int32)) + (1 : Int32))), .val (.int (7 : Int32)), .val (.int ((0 : Int32) + (7 : Int32))), .val (.int l2), .val (.int b1)]) P22 d19_22 rfl rfl rfl rfl ?_
      refine Own.baload (q := 26) (v := (.int b2)) P22 d19_25 A2 (by decide) (by decide) rfl rfl ?_
      refine Own.istore (q := 28) (L2 := #[.val (.ref t1), .val (.int ((((0 : Int32) + (1 : Int32)) + (1 : Int32)) + (1 : Int32))), .val (.ref t2), .val (.int ((((0 : Int32) + (1 : Int32)) + (1 : Int32)) + (1 : Int32))), .val (.int (7 : Int32)), .val (.int ((0 : Int32) + (7 : Int32))), .val (.int l2), .val (.int b2)]) P22 d19_26 rfl rfl ?_
      refine Own.iload (q := 30) P22 d19_28 rfl rfl ?_
      refine Own.iload (q := 32) P22 d19_30 rfl rfl ?_
      refine Own.invStatic (q := 35) (W := 0) (y := (⟨"java/lang/CharacterDataLatin1", "equalsIgnoreCase", "(BB)Z"⟩ : MethodName)) (argsL := [(.int l2), (.int b2)]) (rest := []) P22 d19_32 (hw _ (List.mem_of_getElem? (i := 92) rfl)) (hw _ (List.mem_of_getElem? (i := 93) rfl)) (hw _ (List.mem_of_getElem? (i := 94) rfl)) (hw _ (List.mem_of_getElem? (i := 95) rfl)) (by decide) (backOf (W := 0) (rmIc l Z a0 hw [] l2 b2 h0 n0 Z0 ) P22.2.2.2.1 (hw _ (List.mem_of_getElem? (i := 95) rfl)) (hw _ (List.mem_of_getElem? (i := 94) rfl)) (by decide) (by decide)) rfl rfl (by rw [hml]; rfl) (lenOf (show parseMethodDescriptor "(BB)Z" = some ⟨[.byte, .byte], some .boolean⟩ from by decide +kernel) rfl) (by show 2 * 0 + _ ≤ _; exact Nat.le_of_eq rfl) (by decide) (by decide) rfl ?_
      rintro v23 T23 h23 L23 ⟨rfl, N23q, e23⟩ P23
      rw [e23] at P23
      have N23 := Fr.app N22 N23q
      show Own.Goes _ _ _ _ (T23.setTop (mkF m 35 #[.val (.ref t1), .val (.int ((((0 : Int32) + (1 : Int32)) + (1 : Int32)) + (1 : Int32))), .val (.ref t2), .val (.int ((((0 : Int32) + (1 : Int32)) + (1 : Int32)) + (1 : Int32))), .val (.int (7 : Int32)), .val (.int ((0 : Int32) + (7 : Int32))), .val (.int l2), .val (.int b2)] [(.int (icV l2 b2))]))
      refine Own.if_eq (q := 38) (qy := 41) P23 d19_35 (by decide) rfl (fun g3 => ?_) (fun g3 => ?_)
      · refine Own.iconst (q := 42) (v := (0 : Int32)) P23 d19_41 rfl rfl ?_
        refine Own.retZ (Q := QrmRg Z t1 k1 t2 k2 l0 l1 l2 l3 l4 l5 l6 b0 b1 b2 b3 b4 b5 b6 h0 n0) P23 d19_42 hret (by simp) hlk (by decide) (by decide) ?_
        exact ⟨by simp [rm7, nar, *], N23, rfl⟩
      · refine Own.goto (q := 6) P23 d19_38 (by decide) ?_
        refine Own.iloadN (q := 7) P23 d19_6 rfl rfl ?_
        refine Own.iload (q := 9) P23 d19_7 rfl rfl ?_
        refine Own.icmp_ge (q := 12) (qy := 43) P23 d19_9 (by decide) rfl (fun q => absurd (show _ < _ by decide) q) (fun _ => ?_)
        refine Own.aloadN (q := 13) P23 d19_12 rfl rfl rfl ?_
        refine Own.iloadN (q := 14) P23 d19_13 rfl rfl ?_
        refine Own.iinc (q := 17) (v := (1 : Int32)) (L2 := #[.val (.ref t1), .val (.int (((((0 : Int32) + (1 : Int32)) + (1 : Int32)) + (1 : Int32)) + (1 : Int32))), .val (.ref t2), .val (.int ((((0 : Int32) + (1 : Int32)) + (1 : Int32)) + (1 : Int32))), .val (.int (7 : Int32)), .val (.int ((0 : Int32) + (7 : Int32))), .val (.int l2), .val (.int b2)]) P23 d19_14 rfl rfl rfl rfl ?_
        refine Own.baload (q := 18) (v := (.int l3)) P23 d19_17 A1 (by decide) (by decide) rfl rfl ?_
        refine Own.istore (q := 20) (L2 := #[.val (.ref t1), .val (.int (((((0 : Int32) + (1 : Int32)) + (1 : Int32)) + (1 : Int32)) + (1 : Int32))), .val (.ref t2), .val (.int ((((0 : Int32) + (1 : Int32)) + (1 : Int32)) + (1 : Int32))), .val (.int (7 : Int32)), .val (.int ((0 : Int32) + (7 : Int32))), .val (.int l3), .val (.int b2)]) P23 d19_18 rfl rfl ?_
        refine Own.aloadN (q := 21) P23 d19_20 rfl rfl rfl ?_
        refine Own.iloadN (q := 22) P23 d19_21 rfl rfl ?_
        refine Own.iinc (q := 25) (v := (1 : Int32)) (L2 := #[.val (.ref t1), .val (.int (((((0 : Int32) + (1 : Int32)) + (1 : Int32)) + (1 : Int32)) + (1 : Int32))), .val (.ref t2), .val (.int (((((0 : Int32) + (1 : Int32)) + (1 : Int32)) + (1 : Int32)) + (1 : Int32))), .val (.int (7 : Int32)), .val (.int ((0 : Int32) + (7 : Int32))), .val (.int l3), .val (.int b2)]) P23 d19_22 rfl rfl rfl rfl ?_
        refine Own.baload (q := 26) (v := (.int b3)) P23 d19_25 A2 (by decide) (by decide) rfl rfl ?_
        refine Own.istore (q := 28) (L2 := #[.val (.ref t1), .val (.int (((((0 : Int32) + (1 : Int32)) + (1 : Int32)) + (1 : Int32)) + (1 : Int32))), .val (.ref t2), .val (.int (((((0 : Int32) + (1 : Int32)) + (1 : Int32)) + (1 : Int32)) + (1 : Int32))), .val (.int (7 : Int32)), .val (.int ((0 : Int32) + (7 : Int32))), .val (.int l3), .val (.int b3)]) P23 d19_26 rfl rfl ?_
        refine Own.iload (q := 30) P23 d19_28 rfl rfl ?_
        refine Own.iload (q := 32) P23 d19_30 rfl rfl ?_
        refine Own.invStatic (q := 35) (W := 0) (y := (⟨"java/lang/CharacterDataLatin1", "equalsIgnoreCase", "(BB)Z"⟩ : MethodName)) (argsL := [(.int l3), (.int b3)]) (rest := []) P23 d19_32 (hw _ (List.mem_of_getElem? (i := 92) rfl)) (hw _ (List.mem_of_getElem? (i := 93) rfl)) (hw _ (List.mem_of_getElem? (i := 94) rfl)) (hw _ (List.mem_of_getElem? (i := 95) rfl)) (by decide) (backOf (W := 0) (rmIc l Z a0 hw [] l3 b3 h0 n0 Z0 ) P23.2.2.2.1 (hw _ (List.mem_of_getElem? (i := 95) rfl)) (hw _ (List.mem_of_getElem? (i := 94) rfl)) (by decide) (by decide)) rfl rfl (by rw [hml]; rfl) (lenOf (show parseMethodDescriptor "(BB)Z" = some ⟨[.byte, .byte], some .boolean⟩ from by decide +kernel) rfl) (by show 2 * 0 + _ ≤ _; exact Nat.le_of_eq rfl) (by decide) (by decide) rfl ?_
        rintro v24 T24 h24 L24 ⟨rfl, N24q, e24⟩ P24
        rw [e24] at P24
        have N24 := Fr.app N23 N24q
        show Own.Goes _ _ _ _ (T24.setTop (mkF m 35 #[.val (.ref t1), .val (.int (((((0 : Int32) + (1 : Int32)) + (1 : Int32)) + (1 : Int32)) + (1 : Int32))), .val (.ref t2), .val (.int (((((0 : Int32) + (1 : Int32)) + (1 : Int32)) + (1 : Int32)) + (1 : Int32))), .val (.int (7 : Int32)), .val (.int ((0 : Int32) + (7 : Int32))), .val (.int l3), .val (.int b3)] [(.int (icV l3 b3))]))
        refine Own.if_eq (q := 38) (qy := 41) P24 d19_35 (by decide) rfl (fun g4 => ?_) (fun g4 => ?_)
        · refine Own.iconst (q := 42) (v := (0 : Int32)) P24 d19_41 rfl rfl ?_
          refine Own.retZ (Q := QrmRg Z t1 k1 t2 k2 l0 l1 l2 l3 l4 l5 l6 b0 b1 b2 b3 b4 b5 b6 h0 n0) P24 d19_42 hret (by simp) hlk (by decide) (by decide) ?_
          exact ⟨by simp [rm7, nar, *], N24, rfl⟩
        · refine Own.goto (q := 6) P24 d19_38 (by decide) ?_
          refine Own.iloadN (q := 7) P24 d19_6 rfl rfl ?_
          refine Own.iload (q := 9) P24 d19_7 rfl rfl ?_
          refine Own.icmp_ge (q := 12) (qy := 43) P24 d19_9 (by decide) rfl (fun q => absurd (show _ < _ by decide) q) (fun _ => ?_)
          refine Own.aloadN (q := 13) P24 d19_12 rfl rfl rfl ?_
          refine Own.iloadN (q := 14) P24 d19_13 rfl rfl ?_
          refine Own.iinc (q := 17) (v := (1 : Int32)) (L2 := #[.val (.ref t1), .val (.int ((((((0 : Int32) + (1 : Int32)) + (1 : Int32)) + (1 : Int32)) + (1 : Int32)) + (1 : Int32))), .val (.ref t2), .val (.int (((((0 : Int32) + (1 : Int32)) + (1 : Int32)) + (1 : Int32)) + (1 : Int32))), .val (.int (7 : Int32)), .val (.int ((0 : Int32) + (7 : Int32))), .val (.int l3), .val (.int b3)]) P24 d19_14 rfl rfl rfl rfl ?_
          refine Own.baload (q := 18) (v := (.int l4)) P24 d19_17 A1 (by decide) (by decide) rfl rfl ?_
          refine Own.istore (q := 20) (L2 := #[.val (.ref t1), .val (.int ((((((0 : Int32) + (1 : Int32)) + (1 : Int32)) + (1 : Int32)) + (1 : Int32)) + (1 : Int32))), .val (.ref t2), .val (.int (((((0 : Int32) + (1 : Int32)) + (1 : Int32)) + (1 : Int32)) + (1 : Int32))), .val (.int (7 : Int32)), .val (.int ((0 : Int32) + (7 : Int32))), .val (.int l4), .val (.int b3)]) P24 d19_18 rfl rfl ?_
          refine Own.aloadN (q := 21) P24 d19_20 rfl rfl rfl ?_
          refine Own.iloadN (q := 22) P24 d19_21 rfl rfl ?_
          refine Own.iinc (q := 25) (v := (1 : Int32)) (L2 := #[.val (.ref t1), .val (.int ((((((0 : Int32) + (1 : Int32)) + (1 : Int32)) + (1 : Int32)) + (1 : Int32)) + (1 : Int32))), .val (.ref t2), .val (.int ((((((0 : Int32) + (1 : Int32)) + (1 : Int32)) + (1 : Int32)) + (1 : Int32)) + (1 : Int32))), .val (.int (7 : Int32)), .val (.int ((0 : Int32) + (7 : Int32))), .val (.int l4), .val (.int b3)]) P24 d19_22 rfl rfl rfl rfl ?_
          refine Own.baload (q := 26) (v := (.int b4)) P24 d19_25 A2 (by decide) (by decide) rfl rfl ?_
          refine Own.istore (q := 28) (L2 := #[.val (.ref t1), .val (.int ((((((0 : Int32) + (1 : Int32)) + (1 : Int32)) + (1 : Int32)) + (1 : Int32)) + (1 : Int32))), .val (.ref t2), .val (.int ((((((0 : Int32) + (1 : Int32)) + (1 : Int32)) + (1 : Int32)) + (1 : Int32)) + (1 : Int32))), .val (.int (7 : Int32)), .val (.int ((0 : Int32) + (7 : Int32))), .val (.int l4), .val (.int b4)]) P24 d19_26 rfl rfl ?_
          refine Own.iload (q := 30) P24 d19_28 rfl rfl ?_
          refine Own.iload (q := 32) P24 d19_30 rfl rfl ?_
          refine Own.invStatic (q := 35) (W := 0) (y := (⟨"java/lang/CharacterDataLatin1", "equalsIgnoreCase", "(BB)Z"⟩ : MethodName)) (argsL := [(.int l4), (.int b4)]) (rest := []) P24 d19_32 (hw _ (List.mem_of_getElem? (i := 92) rfl)) (hw _ (List.mem_of_getElem? (i := 93) rfl)) (hw _ (List.mem_of_getElem? (i := 94) rfl)) (hw _ (List.mem_of_getElem? (i := 95) rfl)) (by decide) (backOf (W := 0) (rmIc l Z a0 hw [] l4 b4 h0 n0 Z0 ) P24.2.2.2.1 (hw _ (List.mem_of_getElem? (i := 95) rfl)) (hw _ (List.mem_of_getElem? (i := 94) rfl)) (by decide) (by decide)) rfl rfl (by rw [hml]; rfl) (lenOf (show parseMethodDescriptor "(BB)Z" = some ⟨[.byte, .byte], some .boolean⟩ from by decide +kernel) rfl) (by show 2 * 0 + _ ≤ _; exact Nat.le_of_eq rfl) (by decide) (by decide) rfl ?_
          rintro v25 T25 h25 L25 ⟨rfl, N25q, e25⟩ P25
          rw [e25] at P25
          have N25 := Fr.app N24 N25q
          show Own.Goes _ _ _ _ (T25.setTop (mkF m 35 #[.val (.ref t1), .val (.int ((((((0 : Int32) + (1 : Int32)) + (1 : Int32)) + (1 : Int32)) + (1 : Int32)) + (1 : Int32))), .val (.ref t2), .val (.int ((((((0 : Int32) + (1 : Int32)) + (1 : Int32)) + (1 : Int32)) + (1 : Int32)) + (1 : Int32))), .val (.int (7 : Int32)), .val (.int ((0 : Int32) + (7 : Int32))), .val (.int l4), .val (.int b4)] [(.int (icV l4 b4))]))
          refine Own.if_eq (q := 38) (qy := 41) P25 d19_35 (by decide) rfl (fun g5 => ?_) (fun g5 => ?_)
          · refine Own.iconst (q := 42) (v := (0 : Int32)) P25 d19_41 rfl rfl ?_
            refine Own.retZ (Q := QrmRg Z t1 k1 t2 k2 l0 l1 l2 l3 l4 l5 l6 b0 b1 b2 b3 b4 b5 b6 h0 n0) P25 d19_42 hret (by simp) hlk (by decide) (by decide) ?_
            exact ⟨by simp [rm7, nar, *], N25, rfl⟩
          · refine Own.goto (q := 6) P25 d19_38 (by decide) ?_
            refine Own.iloadN (q := 7) P25 d19_6 rfl rfl ?_
            refine Own.iload (q := 9) P25 d19_7 rfl rfl ?_
            refine Own.icmp_ge (q := 12) (qy := 43) P25 d19_9 (by decide) rfl (fun q => absurd (show _ < _ by decide) q) (fun _ => ?_)
            refine Own.aloadN (q := 13) P25 d19_12 rfl rfl rfl ?_
            refine Own.iloadN (q := 14) P25 d19_13 rfl rfl ?_
            refine Own.iinc (q := 17) (v := (1 : Int32)) (L2 := #[.val (.ref t1), .val (.int (((((((0 : Int32) + (1 : Int32)) + (1 : Int32)) + (1 : Int32)) + (1 : Int32)) + (1 : Int32)) + (1 : Int32))), .val (.ref t2), .val (.int ((((((0 : Int32) + (1 : Int32)) + (1 : Int32)) + (1 : Int32)) + (1 : Int32)) + (1 : Int32))), .val (.int (7 : Int32)), .val (.int ((0 : Int32) + (7 : Int32))), .val (.int l4), .val (.int b4)]) P25 d19_14 rfl rfl rfl rfl ?_
            refine Own.baload (q := 18) (v := (.int l5)) P25 d19_17 A1 (by decide) (by decide) rfl rfl ?_
            refine Own.istore (q := 20) (L2 := #[.val (.ref t1), .val (.int (((((((0 : Int32) + (1 : Int32)) + (1 : Int32)) + (1 : Int32)) + (1 : Int32)) + (1 : Int32)) + (1 : Int32))), .val (.ref t2), .val (.int ((((((0 : Int32) + (1 : Int32)) + (1 : Int32)) + (1 : Int32)) + (1 : Int32)) + (1 : Int32))), .val (.int (7 : Int32)), .val (.int ((0 : Int32) + (7 : Int32))), .val (.int l5), .val (.int b4)]) P25 d19_18 rfl rfl ?_
            refine Own.aloadN (q := 21) P25 d19_20 rfl rfl rfl ?_
            refine Own.iloadN (q := 22) P25 d19_21 rfl rfl ?_
            refine Own.iinc (q := 25) (v := (1 : Int32)) (L2 := #[.val (.ref t1), .val (.int (((((((0 : Int32) + (1 : Int32)) + (1 : Int32)) + (1 : Int32)) + (1 : Int32)) + (1 : Int32)) + (1 : Int32))), .val (.ref t2), .val (.int (((((((0 : Int32) + (1 : Int32)) + (1 : Int32)) + (1 : Int32)) + (1 : Int32)) + (1 : Int32)) + (1 : Int32))), .val (.int (7 : Int32)), .val (.int ((0 : Int32) + (7 : Int32))), .val (.int l5), .val (.int b4)]) P25 d19_22 rfl rfl rfl rfl ?_
            refine Own.baload (q := 26) (v := (.int b5)) P25 d19_25 A2 (by decide) (by decide) rfl rfl ?_
            refine Own.istore (q := 28) (L2 := #[.val (.ref t1), .val (.int (((((((0 : Int32) + (1 : Int32)) + (1 : Int32)) + (1 : Int32)) + (1 : Int32)) + (1 : Int32)) + (1 : Int32))), .val (.ref t2), .val (.int (((((((0 : Int32) + (1 : Int32)) + (1 : Int32)) + (1 : Int32)) + (1 : Int32)) + (1 : Int32)) + (1 : Int32))), .val (.int (7 : Int32)), .val (.int ((0 : Int32) + (7 : Int32))), .val (.int l5), .val (.int b5)]) P25 d19_26 rfl rfl ?_
            refine Own.iload (q := 30) P25 d19_28 rfl rfl ?_
            refine Own.iload (q := 32) P25 d19_30 rfl rfl ?_
            refine Own.invStatic (q := 35) (W := 0) (y := (⟨"java/lang/CharacterDataLatin1", "equalsIgnoreCase", "(BB)Z"⟩ : MethodName)) (argsL := [(.int l5), (.int b5)]) (rest := []) P25 d19_32 (hw _ (List.mem_of_getElem? (i := 92) rfl)) (hw _ (List.mem_of_getElem? (i := 93) rfl)) (hw _ (List.mem_of_getElem? (i := 94) rfl)) (hw _ (List.mem_of_getElem? (i := 95) rfl)) (by decide) (backOf (W := 0) (rmIc l Z a0 hw [] l5 b5 h0 n0 Z0 ) P25.2.2.2.1 (hw _ (List.mem_of_getElem? (i := 95) rfl)) (hw _ (List.mem_of_getElem? (i := 94) rfl)) (by decide) (by decide)) rfl rfl (by rw [hml]; rfl) (lenOf (show parseMethodDescriptor "(BB)Z" = some ⟨[.byte, .byte], some .boolean⟩ from by decide +kernel) rfl) (by show 2 * 0 + _ ≤ _; exact Nat.le_of_eq rfl) (by decide) (by decide) rfl ?_
            rintro v26 T26 h26 L26 ⟨rfl, N26q, e26⟩ P26
            rw [e26] at P26
            have N26 := Fr.app N25 N26q
            show Own.Goes _ _ _ _ (T26.setTop (mkF m 35 #[.val (.ref t1), .val (.int (((((((0 : Int32) + (1 : Int32)) + (1 : Int32)) + (1 : Int32)) + (1 : Int32)) + (1 : Int32)) + (1 : Int32))), .val (.ref t2), .val (.int (((((((0 : Int32) + (1 : Int32)) + (1 : Int32)) + (1 : Int32)) + (1 : Int32)) + (1 : Int32)) + (1 : Int32))), .val (.int (7 : Int32)), .val (.int ((0 : Int32) + (7 : Int32))), .val (.int l5), .val (.int b5)] [(.int (icV l5 b5))]))
            refine Own.if_eq (q := 38) (qy := 41) P26 d19_35 (by decide) rfl (fun g6 => ?_) (fun g6 => ?_)
            · refine Own.iconst (q := 42) (v := (0 : Int32)) P26 d19_41 rfl rfl ?_
              refine Own.retZ (Q := QrmRg Z t1 k1 t2 k2 l0 l1 l2 l3 l4 l5 l6 b0 b1 b2 b3 b4 b5 b6 h0 n0) P26 d19_42 hret (by simp) hlk (by decide) (by decide) ?_
              exact ⟨by simp [rm7, nar, *], N26, rfl⟩
            · refine Own.goto (q := 6) P26 d19_38 (by decide) ?_
              refine Own.iloadN (q := 7) P26 d19_6 rfl rfl ?_
              refine Own.iload (q := 9) P26 d19_7 rfl rfl ?_
              refine Own.icmp_ge (q := 12) (qy := 43) P26 d19_9 (by decide) rfl (fun q => absurd (show _ < _ by decide) q) (fun _ => ?_)
              refine Own.aloadN (q := 13) P26 d19_12 rfl rfl rfl ?_
              refine Own.iloadN (q := 14) P26 d19_13 rfl rfl ?_
              refine Own.iinc (q := 17) (v := (1 : Int32)) (L2 := #[.val (.ref t1), .val (.int ((((((((0 : Int32) + (1 : Int32)) + (1 : Int32)) + (1 : Int32)) + (1 : Int32)) + (1 : Int32)) + (1 : Int32)) + (1 : Int32))), .val (.ref t2), .val (.int (((((((0 : Int32) + (1 : Int32)) + (1 : Int32)) + (1 : Int32)) + (1 : Int32)) + (1 : Int32)) + (1 : Int32))), .val (.int (7 : Int32)), .val (.int ((0 : Int32) + (7 : Int32))), .val (.int l5), .val (.int b5)]) P26 d19_14 rfl rfl rfl rfl ?_
              refine Own.baload (q := 18) (v := (.int l6)) P26 d19_17 A1 (by decide) (by decide) rfl rfl ?_
              refine Own.istore (q := 20) (L2 := #[.val (.ref t1), .val (.int ((((((((0 : Int32) + (1 : Int32)) + (1 : Int32)) + (1 : Int32)) + (1 : Int32)) + (1 : Int32)) + (1 : Int32)) + (1 : Int32))), .val (.ref t2), .val (.int (((((((0 : Int32) + (1 : Int32)) + (1 : Int32)) + (1 : Int32)) + (1 : Int32)) + (1 : Int32)) + (1 : Int32))), .val (.int (7 : Int32)), .val (.int ((0 : Int32) + (7 : Int32))), .val (.int l6), .val (.int b5)]) P26 d19_18 rfl rfl ?_
              refine Own.aloadN (q := 21) P26 d19_20 rfl rfl rfl ?_
              refine Own.iloadN (q := 22) P26 d19_21 rfl rfl ?_
              refine Own.iinc (q := 25) (v := (1 : Int32)) (L2 := #[.val (.ref t1), .val (.int ((((((((0 : Int32) + (1 : Int32)) + (1 : Int32)) + (1 : Int32)) + (1 : Int32)) + (1 : Int32)) + (1 : Int32)) + (1 : Int32))), .val (.ref t2), .val (.int ((((((((0 : Int32) + (1 : Int32)) + (1 : Int32)) + (1 : Int32)) + (1 : Int32)) + (1 : Int32)) + (1 : Int32)) + (1 : Int32))), .val (.int (7 : Int32)), .val (.int ((0 : Int32) + (7 : Int32))), .val (.int l6), .val (.int b5)]) P26 d19_22 rfl rfl rfl rfl ?_
              refine Own.baload (q := 26) (v := (.int b6)) P26 d19_25 A2 (by decide) (by decide) rfl rfl ?_
              refine Own.istore (q := 28) (L2 := #[.val (.ref t1), .val (.int ((((((((0 : Int32) + (1 : Int32)) + (1 : Int32)) + (1 : Int32)) + (1 : Int32)) + (1 : Int32)) + (1 : Int32)) + (1 : Int32))), .val (.ref t2), .val (.int ((((((((0 : Int32) + (1 : Int32)) + (1 : Int32)) + (1 : Int32)) + (1 : Int32)) + (1 : Int32)) + (1 : Int32)) + (1 : Int32))), .val (.int (7 : Int32)), .val (.int ((0 : Int32) + (7 : Int32))), .val (.int l6), .val (.int b6)]) P26 d19_26 rfl rfl ?_
              refine Own.iload (q := 30) P26 d19_28 rfl rfl ?_
              refine Own.iload (q := 32) P26 d19_30 rfl rfl ?_
              refine Own.invStatic (q := 35) (W := 0) (y := (⟨"java/lang/CharacterDataLatin1", "equalsIgnoreCase", "(BB)Z"⟩ : MethodName)) (argsL := [(.int l6), (.int b6)]) (rest := []) P26 d19_32 (hw _ (List.mem_of_getElem? (i := 92) rfl)) (hw _ (List.mem_of_getElem? (i := 93) rfl)) (hw _ (List.mem_of_getElem? (i := 94) rfl)) (hw _ (List.mem_of_getElem? (i := 95) rfl)) (by decide) (backOf (W := 0) (rmIc l Z a0 hw [] l6 b6 h0 n0 Z0 ) P26.2.2.2.1 (hw _ (List.mem_of_getElem? (i := 95) rfl)) (hw _ (List.mem_of_getElem? (i := 94) rfl)) (by decide) (by decide)) rfl rfl (by rw [hml]; rfl) (lenOf (show parseMethodDescriptor "(BB)Z" = some ⟨[.byte, .byte], some .boolean⟩ from by decide +kernel) rfl) (by show 2 * 0 + _ ≤ _; exact Nat.le_of_eq rfl) (by decide) (by decide) rfl ?_
              rintro v27 T27 h27 L27 ⟨rfl, N27q, e27⟩ P27
              rw [e27] at P27
              have N27 := Fr.app N26 N27q
              show Own.Goes _ _ _ _ (T27.setTop (mkF m 35 #[.val (.ref t1), .val (.int ((((((((0 : Int32) + (1 : Int32)) + (1 : Int32)) + (1 : Int32)) + (1 : Int32)) + (1 : Int32)) + (1 : Int32)) + (1 : Int32))), .val (.ref t2), .val (.int ((((((((0 : Int32) + (1 : Int32)) + (1 : Int32)) + (1 : Int32)) + (1 : Int32)) + (1 : Int32)) + (1 : Int32)) + (1 : Int32))), .val (.int (7 : Int32)), .val (.int ((0 : Int32) + (7 : Int32))), .val (.int l6), .val (.int b6)] [(.int (icV l6 b6))]))
              refine Own.if_eq (q := 38) (qy := 41) P27 d19_35 (by decide) rfl (fun g7 => ?_) (fun g7 => ?_)
              · refine Own.iconst (q := 42) (v := (0 : Int32)) P27 d19_41 rfl rfl ?_
                refine Own.retZ (Q := QrmRg Z t1 k1 t2 k2 l0 l1 l2 l3 l4 l5 l6 b0 b1 b2 b3 b4 b5 b6 h0 n0) P27 d19_42 hret (by simp) hlk (by decide) (by decide) ?_
                exact ⟨by simp [rm7, nar, *], N27, rfl⟩
              · refine Own.goto (q := 6) P27 d19_38 (by decide) ?_
                refine Own.iloadN (q := 7) P27 d19_6 rfl rfl ?_
                refine Own.iload (q := 9) P27 d19_7 rfl rfl ?_
                refine Own.icmp_ge (q := 12) (qy := 43) P27 d19_9 (by decide) rfl (fun _ => ?_) (fun q => absurd q (by decide))
                refine Own.iconst (q := 44) (v := (1 : Int32)) P27 d19_43 rfl rfl ?_
                refine Own.retZ (Q := QrmRg Z t1 k1 t2 k2 l0 l1 l2 l3 l4 l5 l6 b0 b1 b2 b3 b4 b5 b6 h0 n0) P27 d19_44 hret (by simp) hlk (by decide) (by decide) ?_
                exact ⟨by simp [rm7, nar, *], N27, rfl⟩
theorem d16_0 : decode jdk_42_method_152_code 0 = .ok (.getstatic 38, 3) := by decide +kernel
theorem d16_3 : decode jdk_42_method_152_code 3 = .ok (.ifCond .eq 10, 3) := by decide +kernel
theorem d16_6 : decode jdk_42_method_152_code 6 = .ok (.aload_n 0, 1) := by decide +kernel
theorem d16_7 : decode jdk_42_method_152_code 7 = .ok (.getfield 15, 3) := by decide +kernel
theorem d16_10 : decode jdk_42_method_152_code 10 = .ok (.goto 4, 3) := by decide +kernel
theorem d16_13 : decode jdk_42_method_152_code 13 = .ok (.iconst 1, 1) := by decide +kernel
theorem d16_14 : decode jdk_42_method_152_code 14 = .ok (.ireturn, 1) := by decide +kernel
theorem pn_16 : plainFor (⟨"java/lang/String", "coder", "()B"⟩ : MethodName) = true := by first | exact plainFor_of_name (by first | (simp [plainName, overriddenIn]; done) | decide +kernel) | decide +kernel
def QrmCod (Z : State) (a1 : Addr) (zc : Int32) (h0 : Heap) (n0 : Nat) (v : Option Value) (h : Heap) (L : List Loc) : Prop := v = some (.int 0) ∧ Fr n0 L ∧ h = h0
set_option maxRecDepth 65536 in
set_option maxHeartbeats 40000000 in
theorem rmCod (l : Launch) (Z : State) (a0 : Array Value) (hw : ∀ d ∈ tables_1, d.before a0 Z = true) (ws : List Jvm.Cond) (a1 : Addr) (zc : Int32) (h0 : Heap) (n0 : Nat) (Z0 : n0 ≤ h0.size) (SC : Sta Z h0 "java/lang/String" "COMPACT_STRINGS" "Z" (.int zc)) (hzc : ¬ zc = 0) (f1 : Fld Z h0 a1 "java/lang/String" "coder" "B" (.int 0)) :
    MetFree l (⟨"java/lang/String", "coder", "()B"⟩ : MethodName) (head1 (Jvm.Cond.code (⟨"java/lang/String", "coder", "()B"⟩ : MethodName) jdk_42_method_152_code 1 (some .byte) :: ws) ({ frames := 0, cells := 0, slots := 0, locals := 0 } : Room)) (fun a U => a = #[(.ref a1)] ∧ Z.Warmed39 U.vm ∧ U.heap = h0) (fun _ _ _ _ _ => True) (fun _ U o U' => ∃ v L, o = .returned v ∧ QrmCod Z a1 zc h0 n0 v U'.heap L ∧ FrameEnd U o U' L ({ frames := 0, cells := 0, slots := 0, locals := 0 } : Room).cells ({ frames := 0, cells := 0, slots := 0, locals := 0 } : Room).slots) := by
  refine MetFree.of_bodySF pn_16 hisR ?_
  intro p e s m args below meth c s₁ Bd hml0 hP hK
  obtain ⟨rfl, hZ, hh⟩ := hP
  have hml : c.maxLocals = 1 := hml0
  have hlk : meth.locks = false := Bd.notSynchronized
  have hret := Bd.returns
  have hnm := (name_of_methodNamed Bd.named Bd.method).1
  have P0 : Own.Wk Z "java/lang/String" jdk_42_method_152_code h0 p l e ({ frames := 0, cells := 0, slots := 0, locals := 0 } : Room) s m #[(.ref a1)] below meth c s₁ [] 0 0 := ⟨Stand.of_body Bd, Bd.exec, Bd.bytes, hZ, findClass_of_methodNamed Bd.named, by rw [← hh, Bd.state]; rfl⟩
  have N0 := Fr.nil n0
  show Own.Goes p.tables e below (fun s₂ o => ∃ v L, o = .returned v ∧ QrmCod Z a1 zc h0 n0 v s₂.heap L ∧ FrameEnd s o s₂ L ({ frames := 0, cells := 0, slots := 0, locals := 0 } : Room).cells ({ frames := 0, cells := 0, slots := 0, locals := 0 } : Room).slots) (s₁.setTop (entryFrame m #[(.ref a1)] 1))
  rw [show entryFrame m #[(.ref a1)] 1 = mkF m 0 #[.val (.ref a1)] [] from by first | (simp [entryFrame, mkF, argsToLocals, Value.category]; done) | rfl | (rcases Own.refc hfm with rfl | ⟨_, rfl⟩ <;> rfl)]
  refine Own.getstatic (q := 3) P0 d16_0 (hw _ (List.mem_of_getElem? (i := 22) rfl)) SC rfl ?_
  intro T21 P21
  refine Own.if_eq (q := 6) (qy := 13) P21 d16_3 (by decide) rfl (fun q => absurd q hzc) (fun _ => ?_)
  refine Own.aloadN (q := 7) P21 d16_6 rfl rfl rfl ?_
  refine Own.getfield (q := 10) P21 d16_7 (hw _ (List.mem_of_getElem? (i := 23) rfl)) f1 rfl ?_
  intro T22 P22
  refine Own.goto (q := 14) P22 d16_10 (by decide) ?_
  refine Own.retZ (Q := QrmCod Z a1 zc h0 n0) P22 d16_14 hret (by simp) hlk (by decide) (by decide) ?_
  exact ⟨rfl, N0, rfl⟩
theorem Own.rm01 : ∀ (l r : List Int32), rm7 l r = 0 ∨ rm7 l r = 1
  | [], _ => Or.inr rfl
  | _ :: _, [] => Or.inl rfl
  | a :: l, b :: r => by
    unfold rm7
    by_cases h : icV a b = 0
    · rw [if_pos h]; exact Or.inl rfl
    · rw [if_neg h]; exact Own.rm01 l r
theorem Own.nar01 {x : Int32} (h : x = 0 ∨ x = 1) : nar .boolean x = x := by rcases h with rfl | rfl <;> rfl
theorem Own.rm_refl : ∀ l : List Int32, rm7 l l = 1
  | [] => rfl
  | a :: l => by
    unfold rm7
    rw [if_neg (by unfold icV; rw [if_pos rfl]; decide)]
    exact Own.rm_refl l
theorem d18_0 : decode jdk_42_method_74_code 0 = .ok (.iload_n 1, 1) := by decide +kernel
theorem d18_1 : decode jdk_42_method_74_code 1 = .ok (.ifCond .ne 14, 3) := by decide +kernel
theorem d18_4 : decode jdk_42_method_74_code 4 = .ok (.aload_n 0, 1) := by decide +kernel
theorem d18_5 : decode jdk_42_method_74_code 5 = .ok (.iload_n 2, 1) := by decide +kernel
theorem d18_6 : decode jdk_42_method_74_code 6 = .ok (.aload_n 3, 1) := by decide +kernel
theorem d18_7 : decode jdk_42_method_74_code 7 = .ok (.iload 4, 2) := by decide +kernel
theorem d18_9 : decode jdk_42_method_74_code 9 = .ok (.iload 5, 2) := by decide +kernel
theorem d18_11 : decode jdk_42_method_74_code 11 = .ok (.invokevirtual 610, 3) := by decide +kernel
theorem d18_14 : decode jdk_42_method_74_code 14 = .ok (.ireturn, 1) := by decide +kernel
theorem d18_15 : decode jdk_42_method_74_code 15 = .ok (.iload 4, 2) := by decide +kernel
theorem d18_17 : decode jdk_42_method_74_code 17 = .ok (.ifCond .lt 38, 3) := by decide +kernel
theorem d18_20 : decode jdk_42_method_74_code 20 = .ok (.iload_n 2, 1) := by decide +kernel
theorem d18_21 : decode jdk_42_method_74_code 21 = .ok (.ifCond .lt 34, 3) := by decide +kernel
theorem d18_24 : decode jdk_42_method_74_code 24 = .ok (.iload_n 2, 1) := by decide +kernel
theorem d18_25 : decode jdk_42_method_74_code 25 = .ok (.i2l, 1) := by decide +kernel
theorem d18_26 : decode jdk_42_method_74_code 26 = .ok (.aload_n 0, 1) := by decide +kernel
theorem d18_27 : decode jdk_42_method_74_code 27 = .ok (.invokevirtual 505, 3) := by decide +kernel
theorem d18_30 : decode jdk_42_method_74_code 30 = .ok (.i2l, 1) := by decide +kernel
theorem d18_31 : decode jdk_42_method_74_code 31 = .ok (.iload 5, 2) := by decide +kernel
theorem d18_33 : decode jdk_42_method_74_code 33 = .ok (.i2l, 1) := by decide +kernel
theorem d18_34 : decode jdk_42_method_74_code 34 = .ok (.lsub, 1) := by decide +kernel
theorem d18_35 : decode jdk_42_method_74_code 35 = .ok (.lcmp, 1) := by decide +kernel
theorem d18_36 : decode jdk_42_method_74_code 36 = .ok (.ifCond .gt 19, 3) := by decide +kernel
theorem d18_39 : decode jdk_42_method_74_code 39 = .ok (.iload 4, 2) := by decide +kernel
theorem d18_41 : decode jdk_42_method_74_code 41 = .ok (.i2l, 1) := by decide +kernel
theorem d18_42 : decode jdk_42_method_74_code 42 = .ok (.aload_n 3, 1) := by decide +kernel
theorem d18_43 : decode jdk_42_method_74_code 43 = .ok (.invokevirtual 505, 3) := by decide +kernel
theorem d18_46 : decode jdk_42_method_74_code 46 = .ok (.i2l, 1) := by decide +kernel
theorem d18_47 : decode jdk_42_method_74_code 47 = .ok (.iload 5, 2) := by decide +kernel
theorem d18_49 : decode jdk_42_method_74_code 49 = .ok (.i2l, 1) := by decide +kernel
theorem d18_50 : decode jdk_42_method_74_code 50 = .ok (.lsub, 1) := by decide +kernel
theorem d18_51 : decode jdk_42_method_74_code 51 = .ok (.lcmp, 1) := by decide +kernel
theorem d18_52 : decode jdk_42_method_74_code 52 = .ok (.ifCond .le 5, 3) := by decide +kernel
theorem d18_55 : decode jdk_42_method_74_code 55 = .ok (.iconst 0, 1) := by decide +kernel
theorem d18_56 : decode jdk_42_method_74_code 56 = .ok (.ireturn, 1) := by decide +kernel
theorem d18_57 : decode jdk_42_method_74_code 57 = .ok (.aload_n 0, 1) := by decide +kernel
theorem d18_58 : decode jdk_42_method_74_code 58 = .ok (.getfield 9, 3) := by decide +kernel
theorem d18_61 : decode jdk_42_method_74_code 61 = .ok (.astore 6, 2) := by decide +kernel
theorem d18_63 : decode jdk_42_method_74_code 63 = .ok (.aload_n 3, 1) := by decide +kernel
theorem d18_64 : decode jdk_42_method_74_code 64 = .ok (.getfield 9, 3) := by decide +kernel
theorem d18_67 : decode jdk_42_method_74_code 67 = .ok (.astore 7, 2) := by decide +kernel
theorem d18_69 : decode jdk_42_method_74_code 69 = .ok (.aload_n 0, 1) := by decide +kernel
theorem d18_70 : decode jdk_42_method_74_code 70 = .ok (.invokevirtual 335, 3) := by decide +kernel
theorem d18_73 : decode jdk_42_method_74_code 73 = .ok (.istore 8, 2) := by decide +kernel
theorem d18_75 : decode jdk_42_method_74_code 75 = .ok (.iload 8, 2) := by decide +kernel
theorem d18_77 : decode jdk_42_method_74_code 77 = .ok (.aload_n 3, 1) := by decide +kernel
theorem d18_78 : decode jdk_42_method_74_code 78 = .ok (.invokevirtual 335, 3) := by decide +kernel
theorem d18_81 : decode jdk_42_method_74_code 81 = .ok (.if_icmp .ne 36, 3) := by decide +kernel
theorem d18_84 : decode jdk_42_method_74_code 84 = .ok (.iload 8, 2) := by decide +kernel
theorem d18_86 : decode jdk_42_method_74_code 86 = .ok (.ifCond .ne 18, 3) := by decide +kernel
theorem d18_89 : decode jdk_42_method_74_code 89 = .ok (.aload 6, 2) := by decide +kernel
theorem d18_91 : decode jdk_42_method_74_code 91 = .ok (.iload_n 2, 1) := by decide +kernel
theorem d18_92 : decode jdk_42_method_74_code 92 = .ok (.aload 7, 2) := by decide +kernel
theorem d18_94 : decode jdk_42_method_74_code 94 = .ok (.iload 4, 2) := by decide +kernel
theorem d18_96 : decode jdk_42_method_74_code 96 = .ok (.iload 5, 2) := by decide +kernel
theorem d18_98 : decode jdk_42_method_74_code 98 = .ok (.invokestatic 613, 3) := by decide +kernel
theorem d18_101 : decode jdk_42_method_74_code 101 = .ok (.goto 15, 3) := by decide +kernel
theorem d18_104 : decode jdk_42_method_74_code 104 = .ok (.aload 6, 2) := by decide +kernel
theorem d18_106 : decode jdk_42_method_74_code 106 = .ok (.iload_n 2, 1) := by decide +kernel
theorem d18_107 : decode jdk_42_method_74_code 107 = .ok (.aload 7, 2) := by decide +kernel
theorem d18_109 : decode jdk_42_method_74_code 109 = .ok (.iload 4, 2) := by decide +kernel
theorem d18_111 : decode jdk_42_method_74_code 111 = .ok (.iload 5, 2) := by decide +kernel
theorem d18_113 : decode jdk_42_method_74_code 113 = .ok (.invokestatic 617, 3) := by decide +kernel
theorem d18_116 : decode jdk_42_method_74_code 116 = .ok (.ireturn, 1) := by decide +kernel
theorem d18_117 : decode jdk_42_method_74_code 117 = .ok (.iload 8, 2) := by decide +kernel
theorem d18_119 : decode jdk_42_method_74_code 119 = .ok (.ifCond .ne 18, 3) := by decide +kernel
theorem d18_122 : decode jdk_42_method_74_code 122 = .ok (.aload 6, 2) := by decide +kernel
theorem d18_124 : decode jdk_42_method_74_code 124 = .ok (.iload_n 2, 1) := by decide +kernel
theorem d18_125 : decode jdk_42_method_74_code 125 = .ok (.aload 7, 2) := by decide +kernel
theorem d18_127 : decode jdk_42_method_74_code 127 = .ok (.iload 4, 2) := by decide +kernel
theorem d18_129 : decode jdk_42_method_74_code 129 = .ok (.iload 5, 2) := by decide +kernel
theorem d18_131 : decode jdk_42_method_74_code 131 = .ok (.invokestatic 618, 3) := by decide +kernel
theorem d18_134 : decode jdk_42_method_74_code 134 = .ok (.goto 15, 3) := by decide +kernel
theorem d18_137 : decode jdk_42_method_74_code 137 = .ok (.aload 6, 2) := by decide +kernel
theorem d18_139 : decode jdk_42_method_74_code 139 = .ok (.iload_n 2, 1) := by decide +kernel
theorem d18_140 : decode jdk_42_method_74_code 140 = .ok (.aload 7, 2) := by decide +kernel
theorem d18_142 : decode jdk_42_method_74_code 142 = .ok (.iload 4, 2) := by decide +kernel
theorem d18_144 : decode jdk_42_method_74_code 144 = .ok (.iload 5, 2) := by decide +kernel
theorem d18_146 : decode jdk_42_method_74_code 146 = .ok (.invokestatic 621, 3) := by decide +kernel
theorem d18_149 : decode jdk_42_method_74_code 149 = .ok (.ireturn, 1) := by decide +kernel
theorem pn_18 : plainFor (⟨"java/lang/String", "regionMatches", "(ZILjava/lang/String;II)Z"⟩ : MethodName) = true := by first | exact plainFor_of_name (by first | (simp [plainName, overriddenIn]; done) | decide +kernel) | decide +kernel
def QrmRm (Z : State) (a1 : Addr) (a2 : Addr) (l0 : Int32) (l1 : Int32) (l2 : Int32) (l3 : Int32) (l4 : Int32) (l5 : Int32) (l6 : Int32) (c0 : Int32) (c1 : Int32) (c2 : Int32) (c3 : Int32) (c4 : Int32) (c5 : Int32) (c6 : Int32) (zc : Int32) (h0 : Heap) (n0 : Nat) (v : Option Value) (h : Heap) (L : List Loc) : Prop := v = some (.int (rm7 [by8 l0, by8 l1, by8 l2, by8 l3, by8 l4, by8 l5, by8 l6] [by8 c0, by8 c1, by8 c2, by8 c3, by8 c4, by8 c5, by8 c6])) ∧ Fr n0 L ∧ h = h0
set_option maxRecDepth 65536 in
set_option maxHeartbeats 40000000 in
theorem rmRm (l : Launch) (Z : State) (a0 : Array Value) (hw : ∀ d ∈ tables_1, d.before a0 Z = true) (ws : List Jvm.Cond) (a1 : Addr) (a2 : Addr) (l0 : Int32) (l1 : Int32) (l2 : Int32) (l3 : Int32) (l4 : Int32) (l5 : Int32) (l6 : Int32) (c0 : Int32) (c1 : Int32) (c2 : Int32) (c3 : Int32) (c4 : Int32) (c5 : Int32) (c6 : Int32) (zc : Int32) (h0 : Heap) (n0 : Nat) (Z0 : n0 ≤ h0.size) (SC : Sta Z h0 "java/lang/String" "COMPACT_STRINGS" "Z" (.int zc)) (hzc : ¬ zc = 0) (S1 : Own.Str Z h0 a1 [l0, l1, l2, l3, l4, l5, l6]) (S2 : Own.Str Z h0 a2 [c0, c1, c2, c3, c4, c5, c6]) :
    MetFree l (⟨"java/lang/String", "regionMatches", "(ZILjava/lang/String;II)Z"⟩ : MethodName) (head1 (Jvm.Cond.code (⟨"java/lang/String", "regionMatches", "(ZILjava/lang/String;II)Z"⟩ : MethodName) jdk_42_method_74_code 9 (some .boolean) :: ws) ({ frames := 3, cells := 0, slots := 0, locals := 40 } : Room)) (fun a U => a = #[(.ref a1), (.int (1 : Int32)), (.int (0 : Int32)), (.ref a2), (.int (0 : Int32)), (.int (7 : Int32))] ∧ Z.Warmed39 U.vm ∧ U.heap = h0) (fun _ _ _ _ _ => True) (fun _ U o U' => ∃ v L, o = .returned v ∧ QrmRm Z a1 a2 l0 l1 l2 l3 l4 l5 l6 c0 c1 c2 c3 c4 c5 c6 zc h0 n0 v U'.heap L ∧ FrameEnd U o U' L ({ frames := 3, cells := 0, slots := 0, locals := 40 } : Room).cells ({ frames := 3, cells := 0, slots := 0, locals := 40 } : Room).slots) := by
  refine MetFree.of_bodySF pn_18 hisR ?_
  intro p e s m args below meth c s₁ Bd hml0 hP hK
  obtain ⟨rfl, hZ, hh⟩ := hP
  have hml : c.maxLocals = 9 := hml0
  have hlk : meth.locks = false := Bd.notSynchronized
  have hret := Bd.returns
  have hnm := (name_of_methodNamed Bd.named Bd.method).1
  have P0 : Own.Wk Z "java/lang/String" jdk_42_method_74_code h0 p l e ({ frames := 3, cells := 0, slots := 0, locals := 40 } : Room) s m #[(.ref a1), (.int (1 : Int32)), (.int (0 : Int32)), (.ref a2), (.int (0 : Int32)), (.int (7 : Int32))] below meth c s₁ [] 0 0 := ⟨Stand.of_body Bd, Bd.exec, Bd.bytes, hZ, findClass_of_methodNamed Bd.named, by rw [← hh, Bd.state]; rfl⟩
  have N0 := Fr.nil n0
  show Own.Goes p.tables e below (fun s₂ o => ∃ v L, o = .returned v ∧ QrmRm Z a1 a2 l0 l1 l2 l3 l4 l5 l6 c0 c1 c2 c3 c4 c5 c6 zc h0 n0 v s₂.heap L ∧ FrameEnd s o s₂ L ({ frames := 3, cells := 0, slots := 0, locals := 40 } : Room).cells ({ frames := 3, cells := 0, slots := 0, locals := 40 } : Room).slots) (s₁.setTop (entryFrame m #[(.ref a1), (.int (1 : Int32)), (.int (0 : Int32)), (.ref a2), (.int (0 : Int32)), (.int (7 : Int32))] 9))
  rw [show entryFrame m #[(.ref a1), (.int (1 : Int32)), (.int (0 : Int32)), (.ref a2), (.int (0 : Int32)), (.int (7 : Int32))] 9 = mkF m 0 #[.val (.ref a1), .val (.int (1 : Int32)), .val (.int (0 : Int32)), .val (.ref a2), .val (.int (0 : Int32)), .val (.int (7 : Int32)), .unset, .unset, .unset] [] from by first | (simp [entryFrame, mkF, argsToLocals, Value.category]; done) | rfl | (rcases Own.refc hfm with rfl | ⟨_, rfl⟩ <;> rfl)]
  refine Own.iloadN (q := 1) P0 d18_0 rfl rfl ?_
  refine Own.if_ne (q := 4) (qy := 15) P0 d18_1 (by decide) rfl (fun _ => ?_) (fun q => absurd q (by decide))
  refine Own.iload (q := 17) P0 d18_15 rfl rfl ?_
  refine Own.if_lt (q := 20) (qy := 55) P0 d18_17 (by decide) rfl (fun q => absurd q (by decide)) (fun _ => ?_)
  refine Own.iloadN (q := 21) P0 d18_20 rfl rfl ?_
  refine Own.if_lt (q := 24) (qy := 55) P0 d18_21 (by decide) rfl (fun q => absurd q (by decide)) (fun _ => ?_)
  refine Own.iloadN (q := 25) P0 d18_24 rfl rfl ?_
  refine Own.i2l (q := 26) P0 d18_25  rfl ?_
  refine Own.aloadN (q := 27) P0 d18_26 rfl rfl rfl ?_
  refine Own.invVirtual (q := 30) (W := 2) (y := (⟨"java/lang/String", "length", "()I"⟩ : MethodName)) (a := a1) (argsL := []) (rest := [(.long ((0 : Int32)).toInt64)]) P0 d18_27 (hw _ (List.mem_of_getElem? (i := 71) rfl)) (hw _ (List.mem_of_getElem? (i := 72) rfl)) (hw _ (List.mem_of_getElem? (i := 74) rfl)) (hw _ (List.mem_of_getElem? (i := 73) rfl)) (notFace_of_selects (args := #[]) (mvT P0.2.2.2.1 (hw _ (List.mem_of_getElem? (i := 74) rfl)))) (by decide) (Own.lenB (W := 2) (n0 := n0) P0.2.2.2.1 (fun d hd => hw d (sub_lenW d hd)) (hw _ (List.mem_of_getElem? (i := 6) rfl)) S1 SC hzc (by decide) (by decide)) S1.exa rfl rfl (by rw [hml]; rfl) (lenOf (show parseMethodDescriptor "()I" = some ⟨[], some .int⟩ from by decide +kernel) rfl) (by show 2 * 0 + _ ≤ _; exact Nat.le_of_eq rfl) (by decide) (by decide) rfl ?_
  rintro v21 T21 h21 L21 ⟨rfl, N21q, e21⟩ P21
  rw [e21] at P21
  have N21 := Fr.app N0 N21q
  show Own.Goes _ _ _ _ (T21.setTop (mkF m 30 #[.val (.ref a1), .val (.int (1 : Int32)), .val (.int (0 : Int32)), .val (.ref a2), .val (.int (0 : Int32)), .val (.int (7 : Int32)), .unset, .unset, .unset] [(.int (7 : Int32)), (.long ((0 : Int32)).toInt64)]))
  refine Own.i2l (q := 31) P21 d18_30  rfl ?_
  refine Own.iload (q := 33) P21 d18_31 rfl rfl ?_
  refine Own.i2l (q := 34) P21 d18_33  rfl ?_
  refine Own.lsub (q := 35) P21 d18_34  rfl ?_
  refine Own.lcmp (q := 36) P21 d18_35  rfl ?_
  refine Own.if_gt (q := 39) (qy := 55) P21 d18_36 (by decide) rfl (fun q => absurd q (by decide)) (fun _ => ?_)
  refine Own.iload (q := 41) P21 d18_39 rfl rfl ?_
  refine Own.i2l (q := 42) P21 d18_41  rfl ?_
  refine Own.aloadN (q := 43) P21 d18_42 rfl rfl rfl ?_
  refine Own.invVirtual (q := 46) (W := 2) (y := (⟨"java/lang/String", "length", "()I"⟩ : MethodName)) (a := a2) (argsL := []) (rest := [(.long ((0 : Int32)).toInt64)]) P21 d18_43 (hw _ (List.mem_of_getElem? (i := 71) rfl)) (hw _ (List.mem_of_getElem? (i := 72) rfl)) (hw _ (List.mem_of_getElem? (i := 74) rfl)) (hw _ (List.mem_of_getElem? (i := 73) rfl)) (notFace_of_selects (args := #[]) (mvT P21.2.2.2.1 (hw _ (List.mem_of_getElem? (i := 74) rfl)))) (by decide) (Own.lenB (W := 2) (n0 := n0) P21.2.2.2.1 (fun d hd => hw d (sub_lenW d hd)) (hw _ (List.mem_of_getElem? (i := 6) rfl)) S2 SC hzc (by decide) (by decide)) S2.exa rfl rfl (by rw [hml]; rfl) (lenOf (show parseMethodDescriptor "()I" = some ⟨[], some .int⟩ from by decide +kernel) rfl) (by show 2 * 0 + _ ≤ _; exact Nat.le_of_eq rfl) (by decide) (by decide) rfl ?_
  rintro v22 T22 h22 L22 ⟨rfl, N22q, e22⟩ P22
  rw [e22] at P22
  have N22 := Fr.app N21 N22q
  show Own.Goes _ _ _ _ (T22.setTop (mkF m 46 #[.val (.ref a1), .val (.int (1 : Int32)), .val (.int (0 : Int32)), .val (.ref a2), .val (.int (0 : Int32)), .val (.int (7 : Int32)), .unset, .unset, .unset] [(.int (7 : Int32)), (.long ((0 : Int32)).toInt64)]))
  refine Own.i2l (q := 47) P22 d18_46  rfl ?_
  refine Own.iload (q := 49) P22 d18_47 rfl rfl ?_
  refine Own.i2l (q := 50) P22 d18_49  rfl ?_
  refine Own.lsub (q := 51) P22 d18_50  rfl ?_
  refine Own.lcmp (q := 52) P22 d18_51  rfl ?_
  refine Own.if_le (q := 55) (qy := 57) P22 d18_52 (by decide) rfl (fun _ => ?_) (fun q => absurd q (by decide))
  refine Own.aloadN (q := 58) P22 d18_57 rfl rfl rfl ?_
  obtain ⟨⟨t23, kb23, y23a, y23v, y23c, y23b⟩, -, -⟩ := id S1
  refine Own.getfield (q := 61) P22 d18_58 (hw _ (List.mem_of_getElem? (i := 24) rfl)) y23v rfl ?_
  intro T24 P24
  refine Own.astore (q := 63) (L2 := #[.val (.ref a1), .val (.int (1 : Int32)), .val (.int (0 : Int32)), .val (.ref a2), .val (.int (0 : Int32)), .val (.int (7 : Int32)), .val (.ref t23), .unset, .unset]) P24 d18_61 rfl rfl rfl ?_
  refine Own.aloadN (q := 64) P24 d18_63 rfl rfl rfl ?_
  obtain ⟨⟨t25, kb25, y25a, y25v, y25c, y25b⟩, -, -⟩ := id S2
  refine Own.getfield (q := 67) P24 d18_64 (hw _ (List.mem_of_getElem? (i := 24) rfl)) y25v rfl ?_
  intro T26 P26
  refine Own.astore (q := 69) (L2 := #[.val (.ref a1), .val (.int (1 : Int32)), .val (.int (0 : Int32)), .val (.ref a2), .val (.int (0 : Int32)), .val (.int (7 : Int32)), .val (.ref t23), .val (.ref t25), .unset]) P26 d18_67 rfl rfl rfl ?_
  refine Own.aloadN (q := 70) P26 d18_69 rfl rfl rfl ?_
  refine Own.invVirtual (q := 73) (W := 0) (y := (⟨"java/lang/String", "coder", "()B"⟩ : MethodName)) (a := a1) (argsL := []) (rest := []) P26 d18_70 (hw _ (List.mem_of_getElem? (i := 76) rfl)) (hw _ (List.mem_of_getElem? (i := 77) rfl)) (hw _ (List.mem_of_getElem? (i := 79) rfl)) (hw _ (List.mem_of_getElem? (i := 78) rfl)) (notFace_of_selects (args := #[]) (mvT P26.2.2.2.1 (hw _ (List.mem_of_getElem? (i := 79) rfl)))) (by decide) (backOf (W := 0) (rmCod l Z a0 hw [] a1 zc h0 n0 Z0 SC hzc y23c) P26.2.2.2.1 (hw _ (List.mem_of_getElem? (i := 80) rfl)) (hw _ (List.mem_of_getElem? (i := 5) rfl)) (by decide) (by decide)) S1.exa rfl rfl (by rw [hml]; rfl) (lenOf (show parseMethodDescriptor "()B" = some ⟨[], some .byte⟩ from by decide +kernel) rfl) (by show 2 * 0 + _ ≤ _; exact Nat.le_of_eq rfl) (by decide) (by decide) rfl ?_
  rintro v27 T27 h27 L27 ⟨rfl, N27q, e27⟩ P27
  rw [e27] at P27
  have N27 := Fr.app N22 N27q
  show Own.Goes _ _ _ _ (T27.setTop (mkF m 73 #[.val (.ref a1), .val (.int (1 : Int32)), .val (.int (0 : Int32)), .val (.ref a2), .val (.int (0 : Int32)), .val (.int (7 : Int32)), .val (.ref t23), .val (.ref t25), .unset] [(.int (0 : Int32))]))
  refine Own.istore (q := 75) (L2 := #[.val (.ref a1), .val (.int (1 : Int32)), .val (.int (0 : Int32)), .val (.ref a2), .val (.int (0 : Int32)), .val (.int (7 : Int32)), .val (.ref t23), .val (.ref t25), .val (.int (0 : Int32))]) P27 d18_73 rfl rfl ?_
  refine Own.iload (q := 77) P27 d18_75 rfl rfl ?_
  refine Own.aloadN (q := 78) P27 d18_77 rfl rfl rfl ?_
  refine Own.invVirtual (q := 81) (W := 1) (y := (⟨"java/lang/String", "coder", "()B"⟩ : MethodName)) (a := a2) (argsL := []) (rest := [(.int (0 : Int32))]) P27 d18_78 (hw _ (List.mem_of_getElem? (i := 76) rfl)) (hw _ (List.mem_of_getElem? (i := 77) rfl)) (hw _ (List.mem_of_getElem? (i := 79) rfl)) (hw _ (List.mem_of_getElem? (i := 78) rfl)) (notFace_of_selects (args := #[]) (mvT P27.2.2.2.1 (hw _ (List.mem_of_getElem? (i := 79) rfl)))) (by decide) (backOf (W := 1) (rmCod l Z a0 hw [] a2 zc h0 n0 Z0 SC hzc y25c) P27.2.2.2.1 (hw _ (List.mem_of_getElem? (i := 80) rfl)) (hw _ (List.mem_of_getElem? (i := 5) rfl)) (by decide) (by decide)) S2.exa rfl rfl (by rw [hml]; rfl) (lenOf (show parseMethodDescriptor "()B" = some ⟨[], some .byte⟩ from by decide +kernel) rfl) (by show 2 * 0 + _ ≤ _; exact Nat.le_of_eq rfl) (by decide) (by decide) rfl ?_
  rintro v28 T28 h28 L28 ⟨rfl, N28q, e28⟩ P28
  rw [e28] at P28
  have N28 := Fr.app N27 N28q
  show Own.Goes _ _ _ _ (T28.setTop (mkF m 81 #[.val (.ref a1), .val (.int (1 : Int32)), .val (.int (0 : Int32)), .val (.ref a2), .val (.int (0 : Int32)), .val (.int (7 : Int32)), .val (.ref t23), .val (.ref t25), .val (.int (0 : Int32))] [(.int (0 : Int32)), (.int (0 : Int32))]))
  refine Own.icmp_ne (q := 84) (qy := 117) P28 d18_81 (by decide) rfl (fun q => absurd rfl q) (fun _ => ?_)
  refine Own.iload (q := 86) P28 d18_84 rfl rfl ?_
  refine Own.if_ne (q := 89) (qy := 104) P28 d18_86 (by decide) rfl (fun q => absurd rfl q) (fun _ => ?_)
  refine Own.aload (q := 91) P28 d18_89 rfl rfl rfl ?_
  refine Own.iloadN (q := 92) P28 d18_91 rfl rfl ?_
  refine Own.aload (q := 94) P28 d18_92 rfl rfl rfl ?_
  refine Own.iload (q := 96) P28 d18_94 rfl rfl ?_
  refine Own.iload (q := 98) P28 d18_96 rfl rfl ?_
  refine Own.invStatic (q := 101) (W := 0) (y := (⟨"java/lang/StringLatin1", "regionMatchesCI", "([BI[BII)Z"⟩ : MethodName)) (argsL := [(.ref t23), (.int (0 : Int32)), (.ref t25), (.int (0 : Int32)), (.int (7 : Int32))]) (rest := []) P28 d18_98 (hw _ (List.mem_of_getElem? (i := 89) rfl)) (hw _ (List.mem_of_getElem? (i := 90) rfl)) (hw _ (List.mem_of_getElem? (i := 27) rfl)) (hw _ (List.mem_of_getElem? (i := 91) rfl)) (by decide) (backOf (W := 0) (rmRg l Z a0 hw [] t23 kb23 t25 kb25 (by8 l0) (by8 l1) (by8 l2) (by8 l3) (by8 l4) (by8 l5) (by8 l6) (by8 c0) (by8 c1) (by8 c2) (by8 c3) (by8 c4) (by8 c5) (by8 c6) h0 n0 Z0 y23b y25b) P28.2.2.2.1 (hw _ (List.mem_of_getElem? (i := 91) rfl)) (hw _ (List.mem_of_getElem? (i := 27) rfl)) (by decide) (by decide)) rfl rfl (by rw [hml]; rfl) (lenOf (show parseMethodDescriptor "([BI[BII)Z" = some ⟨[(.array .byte), .int, (.array .byte), .int, .int], some .boolean⟩ from by decide +kernel) rfl) (by show 2 * 0 + _ ≤ _; exact Nat.le_of_eq rfl) (by decide) (by decide) rfl ?_
  rintro v29 T29 h29 L29 ⟨rfl, N29q, e29⟩ P29
  rw [e29] at P29
  have N29 := Fr.app N28 N29q
  show Own.Goes _ _ _ _ (T29.setTop (mkF m 101 #[.val (.ref a1), .val (.int (1 : Int32)), .val (.int (0 : Int32)), .val (.ref a2), .val (.int (0 : Int32)), .val (.int (7 : Int32)), .val (.ref t23), .val (.ref t25), .val (.int (0 : Int32))] [(.int (rm7 [by8 l0, by8 l1, by8 l2, by8 l3, by8 l4, by8 l5, by8 l6] [by8 c0, by8 c1, by8 c2, by8 c3, by8 c4, by8 c5, by8 c6]))]))
  refine Own.goto (q := 116) P29 d18_101 (by decide) ?_
  refine Own.retZ (Q := QrmRm Z a1 a2 l0 l1 l2 l3 l4 l5 l6 c0 c1 c2 c3 c4 c5 c6 zc h0 n0) P29 d18_116 hret (by simp) hlk (by decide) (by decide) ?_
  exact ⟨by rw [Own.nar01 (Own.rm01 _ _)], N29, rfl⟩
theorem d8_0 : decode jdk_42_method_70_code 0 = .ok (.aload_n 0, 1) := by decide +kernel
theorem d8_1 : decode jdk_42_method_70_code 1 = .ok (.aload_n 1, 1) := by decide +kernel
theorem d8_2 : decode jdk_42_method_70_code 2 = .ok (.if_acmp .ne 7, 3) := by decide +kernel
theorem d8_5 : decode jdk_42_method_70_code 5 = .ok (.iconst 1, 1) := by decide +kernel
theorem d8_6 : decode jdk_42_method_70_code 6 = .ok (.goto 38, 3) := by decide +kernel
theorem d8_9 : decode jdk_42_method_70_code 9 = .ok (.aload_n 1, 1) := by decide +kernel
theorem d8_10 : decode jdk_42_method_70_code 10 = .ok (.ifnull 33, 3) := by decide +kernel
theorem d8_13 : decode jdk_42_method_70_code 13 = .ok (.aload_n 1, 1) := by decide +kernel
theorem d8_14 : decode jdk_42_method_70_code 14 = .ok (.invokevirtual 505, 3) := by decide +kernel
theorem d8_17 : decode jdk_42_method_70_code 17 = .ok (.aload_n 0, 1) := by decide +kernel
theorem d8_18 : decode jdk_42_method_70_code 18 = .ok (.invokevirtual 505, 3) := by decide +kernel
theorem d8_21 : decode jdk_42_method_70_code 21 = .ok (.if_icmp .ne 22, 3) := by decide +kernel
theorem d8_24 : decode jdk_42_method_70_code 24 = .ok (.aload_n 0, 1) := by decide +kernel
theorem d8_25 : decode jdk_42_method_70_code 25 = .ok (.iconst 1, 1) := by decide +kernel
theorem d8_26 : decode jdk_42_method_70_code 26 = .ok (.iconst 0, 1) := by decide +kernel
theorem d8_27 : decode jdk_42_method_70_code 27 = .ok (.aload_n 1, 1) := by decide +kernel
theorem d8_28 : decode jdk_42_method_70_code 28 = .ok (.iconst 0, 1) := by decide +kernel
theorem d8_29 : decode jdk_42_method_70_code 29 = .ok (.aload_n 0, 1) := by decide +kernel
theorem d8_30 : decode jdk_42_method_70_code 30 = .ok (.invokevirtual 505, 3) := by decide +kernel
theorem d8_33 : decode jdk_42_method_70_code 33 = .ok (.invokevirtual 582, 3) := by decide +kernel
theorem d8_36 : decode jdk_42_method_70_code 36 = .ok (.ifCond .eq 7, 3) := by decide +kernel
theorem d8_39 : decode jdk_42_method_70_code 39 = .ok (.iconst 1, 1) := by decide +kernel
theorem d8_40 : decode jdk_42_method_70_code 40 = .ok (.goto 4, 3) := by decide +kernel
theorem d8_43 : decode jdk_42_method_70_code 43 = .ok (.iconst 0, 1) := by decide +kernel
theorem d8_44 : decode jdk_42_method_70_code 44 = .ok (.ireturn, 1) := by decide +kernel
theorem pn_8 : plainFor (⟨"java/lang/String", "equalsIgnoreCase", "(Ljava/lang/String;)Z"⟩ : MethodName) = true := by first | exact plainFor_of_name (by first | (simp [plainName, overriddenIn]; done) | decide +kernel) | decide +kernel
def QrmEi0 (Z : State) (a1 : Addr) (h0 : Heap) (n0 : Nat) (v : Option Value) (h : Heap) (L : List Loc) : Prop := v = some (.int 0) ∧ Fr n0 L ∧ h = h0
set_option maxRecDepth 65536 in
set_option maxHeartbeats 40000000 in
theorem rmEi0 (l : Launch) (Z : State) (a0 : Array Value) (hw : ∀ d ∈ tables_1, d.before a0 Z = true) (ws : List Jvm.Cond) (a1 : Addr) (h0 : Heap) (n0 : Nat) (Z0 : n0 ≤ h0.size)  :
    MetFree l (⟨"java/lang/String", "equalsIgnoreCase", "(Ljava/lang/String;)Z"⟩ : MethodName) (head1 (Jvm.Cond.code (⟨"java/lang/String", "equalsIgnoreCase", "(Ljava/lang/String;)Z"⟩ : MethodName) jdk_42_method_70_code 2 (some .boolean) :: ws) ({ frames := 0, cells := 0, slots := 0, locals := 0 } : Room)) (fun a U => a = #[(.ref a1), .null] ∧ Z.Warmed39 U.vm ∧ U.heap = h0) (fun _ _ _ _ _ => True) (fun _ U o U' => ∃ v L, o = .returned v ∧ QrmEi0 Z a1 h0 n0 v U'.heap L ∧ FrameEnd U o U' L ({ frames := 0, cells := 0, slots := 0, locals := 0 } : Room).cells ({ frames := 0, cells := 0, slots := 0, locals := 0 } : Room).slots) := by
  refine MetFree.of_bodySF pn_8 hisR ?_
  intro p e s m args below meth c s₁ Bd hml0 hP hK
  obtain ⟨rfl, hZ, hh⟩ := hP
  have hml : c.maxLocals = 2 := hml0
  have hlk : meth.locks = false := Bd.notSynchronized
  have hret := Bd.returns
  have hnm := (name_of_methodNamed Bd.named Bd.method).1
  have P0 : Own.Wk Z "java/lang/String" jdk_42_method_70_code h0 p l e ({ frames := 0, cells := 0, slots := 0, locals := 0 } : Room) s m #[(.ref a1), .null] below meth c s₁ [] 0 0 := ⟨Stand.of_body Bd, Bd.exec, Bd.bytes, hZ, findClass_of_methodNamed Bd.named, by rw [← hh, Bd.state]; rfl⟩
  have N0 := Fr.nil n0
  show Own.Goes p.tables e below (fun s₂ o => ∃ v L, o = .returned v ∧ QrmEi0 Z a1 h0 n0 v s₂.heap L ∧ FrameEnd s o s₂ L ({ frames := 0, cells := 0, slots := 0, locals := 0 } : Room).cells ({ frames := 0, cells := 0, slots := 0, locals := 0 } : Room).slots) (s₁.setTop (entryFrame m #[(.ref a1), .null] 2))
  rw [show entryFrame m #[(.ref a1), .null] 2 = mkF m 0 #[.val (.ref a1), .val .null] [] from by first | (simp [entryFrame, mkF, argsToLocals, Value.category]; done) | rfl | (rcases Own.refc hfm with rfl | ⟨_, rfl⟩ <;> rfl)]
  refine Own.aloadN (q := 1) P0 d8_0 rfl rfl rfl ?_
  refine Own.aloadN (q := 2) P0 d8_1 rfl rfl rfl ?_
  refine Own.acmp_ne (q := 5) (qy := 9) P0 d8_2 rfl rfl (by decide) rfl (fun _ => ?_) (fun q => nomatch q)
  refine Own.aloadN (q := 10) P0 d8_9 rfl rfl rfl ?_
  refine Own.nullY (q := 43) P0 d8_10 (by decide) ?_
  refine Own.iconst (q := 44) (v := (0 : Int32)) P0 d8_43 rfl rfl ?_
  refine Own.retZ (Q := QrmEi0 Z a1 h0 n0) P0 d8_44 hret (by simp) hlk (by decide) (by decide) ?_
  exact ⟨rfl, N0, rfl⟩

def QrmEi1 (Z : State) (a1 : Addr) (a2 : Addr) (ks : List Int32) (ds : List Int32) (zc : Int32) (h0 : Heap) (n0 : Nat) (v : Option Value) (h : Heap) (L : List Loc) : Prop := v = some (.int 0) ∧ Fr n0 L ∧ h = h0
set_option maxRecDepth 65536 in
set_option maxHeartbeats 40000000 in
theorem rmEi1 (l : Launch) (Z : State) (a0 : Array Value) (hw : ∀ d ∈ tables_1, d.before a0 Z = true) (ws : List Jvm.Cond) (a1 : Addr) (a2 : Addr) (ks : List Int32) (ds : List Int32) (zc : Int32) (h0 : Heap) (n0 : Nat) (Z0 : n0 ≤ h0.size) (SC : Sta Z h0 "java/lang/String" "COMPACT_STRINGS" "Z" (.int zc)) (hzc : ¬ zc = 0) (S1 : Own.Str Z h0 a1 ks) (S2 : Own.Str Z h0 a2 ds) (hne : ¬ ds.length = ks.length) :
    MetFree l (⟨"java/lang/String", "equalsIgnoreCase", "(Ljava/lang/String;)Z"⟩ : MethodName) (head1 (Jvm.Cond.code (⟨"java/lang/String", "equalsIgnoreCase", "(Ljava/lang/String;)Z"⟩ : MethodName) jdk_42_method_70_code 2 (some .boolean) :: ws) ({ frames := 2, cells := 0, slots := 0, locals := 27 } : Room)) (fun a U => a = #[(.ref a1), (.ref a2)] ∧ Z.Warmed39 U.vm ∧ U.heap = h0) (fun _ _ _ _ _ => True) (fun _ U o U' => ∃ v L, o = .returned v ∧ QrmEi1 Z a1 a2 ks ds zc h0 n0 v U'.heap L ∧ FrameEnd U o U' L ({ frames := 2, cells := 0, slots := 0, locals := 27 } : Room).cells ({ frames := 2, cells := 0, slots := 0, locals := 27 } : Room).slots) := by
  refine MetFree.of_bodySF pn_8 hisR ?_
  intro p e s m args below meth c s₁ Bd hml0 hP hK
  obtain ⟨rfl, hZ, hh⟩ := hP
  have hml : c.maxLocals = 2 := hml0
  have hlk : meth.locks = false := Bd.notSynchronized
  have hret := Bd.returns
  have hnm := (name_of_methodNamed Bd.named Bd.method).1
  have P0 : Own.Wk Z "java/lang/String" jdk_42_method_70_code h0 p l e ({ frames := 2, cells := 0, slots := 0, locals := 27 } : Room) s m #[(.ref a1), (.ref a2)] below meth c s₁ [] 0 0 := ⟨Stand.of_body Bd, Bd.exec, Bd.bytes, hZ, findClass_of_methodNamed Bd.named, by rw [← hh, Bd.state]; rfl⟩
  have N0 := Fr.nil n0
  show Own.Goes p.tables e below (fun s₂ o => ∃ v L, o = .returned v ∧ QrmEi1 Z a1 a2 ks ds zc h0 n0 v s₂.heap L ∧ FrameEnd s o s₂ L ({ frames := 2, cells := 0, slots := 0, locals := 27 } : Room).cells ({ frames := 2, cells := 0, slots := 0, locals := 27 } : Room).slots) (s₁.setTop (entryFrame m #[(.ref a1), (.ref a2)] 2))
  rw [show entryFrame m #[(.ref a1), (.ref a2)] 2 = mkF m 0 #[.val (.ref a1), .val (.ref a2)] [] from by first | (simp [entryFrame, mkF, argsToLocals, Value.category]; done) | rfl | (rcases Own.refc hfm with rfl | ⟨_, rfl⟩ <;> rfl)]
  refine Own.aloadN (q := 1) P0 d8_0 rfl rfl rfl ?_
  refine Own.aloadN (q := 2) P0 d8_1 rfl rfl rfl ?_
  refine Own.acmp_ne (q := 5) (qy := 9) P0 d8_2 rfl rfl (by decide) rfl (fun _ => ?_) (fun q => absurd (by cases q; rw [Own.Str.inj S1 S2]) hne)
  refine Own.aloadN (q := 10) P0 d8_9 rfl rfl rfl ?_
  refine Own.nullN (q := 13) P0 d8_10  rfl ?_
  refine Own.aloadN (q := 14) P0 d8_13 rfl rfl rfl ?_
  refine Own.invVirtual (q := 17) (W := 0) (y := (⟨"java/lang/String", "length", "()I"⟩ : MethodName)) (a := a2) (argsL := []) (rest := []) P0 d8_14 (hw _ (List.mem_of_getElem? (i := 71) rfl)) (hw _ (List.mem_of_getElem? (i := 72) rfl)) (hw _ (List.mem_of_getElem? (i := 74) rfl)) (hw _ (List.mem_of_getElem? (i := 73) rfl)) (notFace_of_selects (args := #[]) (mvT P0.2.2.2.1 (hw _ (List.mem_of_getElem? (i := 74) rfl)))) (by decide) (Own.lenB (W := 0) (n0 := n0) P0.2.2.2.1 (fun d hd => hw d (sub_lenW d hd)) (hw _ (List.mem_of_getElem? (i := 6) rfl)) S2 SC hzc (by decide) (by decide)) S2.exa rfl rfl (by rw [hml]; rfl) (lenOf (show parseMethodDescriptor "()I" = some ⟨[], some .int⟩ from by decide +kernel) rfl) (by show 2 * 0 + _ ≤ _; exact Nat.le_of_eq rfl) (by decide) (by decide) rfl ?_
  rintro v21 T21 h21 L21 ⟨rfl, N21q, e21⟩ P21
  rw [e21] at P21
  have N21 := Fr.app N0 N21q
  show Own.Goes _ _ _ _ (T21.setTop (mkF m 17 #[.val (.ref a1), .val (.ref a2)] [(.int (Int32.ofNat (ds : List Int32).length))]))
  refine Own.aloadN (q := 18) P21 d8_17 rfl rfl rfl ?_
  refine Own.invVirtual (q := 21) (W := 1) (y := (⟨"java/lang/String", "length", "()I"⟩ : MethodName)) (a := a1) (argsL := []) (rest := [(.int (Int32.ofNat (ds : List Int32).length))]) P21 d8_18 (hw _ (List.mem_of_getElem? (i := 71) rfl)) (hw _ (List.mem_of_getElem? (i := 72) rfl)) (hw _ (List.mem_of_getElem? (i := 74) rfl)) (hw _ (List.mem_of_getElem? (i := 73) rfl)) (notFace_of_selects (args := #[]) (mvT P21.2.2.2.1 (hw _ (List.mem_of_getElem? (i := 74) rfl)))) (by decide) (Own.lenB (W := 1) (n0 := n0) P21.2.2.2.1 (fun d hd => hw d (sub_lenW d hd)) (hw _ (List.mem_of_getElem? (i := 6) rfl)) S1 SC hzc (by decide) (by decide)) S1.exa rfl rfl (by rw [hml]; rfl) (lenOf (show parseMethodDescriptor "()I" = some ⟨[], some .int⟩ from by decide +kernel) rfl) (by show 2 * 0 + _ ≤ _; exact Nat.le_of_eq rfl) (by decide) (by decide) rfl ?_
  rintro v22 T22 h22 L22 ⟨rfl, N22q, e22⟩ P22
  rw [e22] at P22
  have N22 := Fr.app N21 N22q
  show Own.Goes _ _ _ _ (T22.setTop (mkF m 21 #[.val (.ref a1), .val (.ref a2)] [(.int (Int32.ofNat (ks : List Int32).length)), (.int (Int32.ofNat (ds : List Int32).length))]))
  refine Own.icmp_ne (q := 24) (qy := 43) P22 d8_21 (by decide) rfl (fun _ => ?_) (fun q => absurd (Own.ofNat_inj S2.2.2 S1.2.2 q) hne)
  refine Own.iconst (q := 44) (v := (0 : Int32)) P22 d8_43 rfl rfl ?_
  refine Own.retZ (Q := QrmEi1 Z a1 a2 ks ds zc h0 n0) P22 d8_44 hret (by simp) hlk (by decide) (by decide) ?_
  exact ⟨rfl, N22, rfl⟩

def QrmEi2 (Z : State) (a1 : Addr) (a2 : Addr) (l0 : Int32) (l1 : Int32) (l2 : Int32) (l3 : Int32) (l4 : Int32) (l5 : Int32) (l6 : Int32) (c0 : Int32) (c1 : Int32) (c2 : Int32) (c3 : Int32) (c4 : Int32) (c5 : Int32) (c6 : Int32) (zc : Int32) (h0 : Heap) (n0 : Nat) (v : Option Value) (h : Heap) (L : List Loc) : Prop := v = some (.int (rm7 [by8 l0, by8 l1, by8 l2, by8 l3, by8 l4, by8 l5, by8 l6] [by8 c0, by8 c1, by8 c2, by8 c3, by8 c4, by8 c5, by8 c6])) ∧ Fr n0 L ∧ h = h0
set_option maxRecDepth 65536 in
set_option maxHeartbeats 40000000 in
theorem rmEi2 (l : Launch) (Z : State) (a0 : Array Value) (hw : ∀ d ∈ tables_1, d.before a0 Z = true) (ws : List Jvm.Cond) (a1 : Addr) (a2 : Addr) (l0 : Int32) (l1 : Int32) (l2 : Int32) (l3 : Int32) (l4 : Int32) (l5 : Int32) (l6 : Int32) (c0 : Int32) (c1 : Int32) (c2 : Int32) (c3 : Int32) (c4 : Int32) (c5 : Int32) (c6 : Int32) (zc : Int32) (h0 : Heap) (n0 : Nat) (Z0 : n0 ≤ h0.size) (SC : Sta Z h0 "java/lang/String" "COMPACT_STRINGS" "Z" (.int zc)) (hzc : ¬ zc = 0) (S1 : Own.Str Z h0 a1 [l0, l1, l2, l3, l4, l5, l6]) (S2 : Own.Str Z h0 a2 [c0, c1, c2, c3, c4, c5, c6]) :
    MetFree l (⟨"java/lang/String", "equalsIgnoreCase", "(Ljava/lang/String;)Z"⟩ : MethodName) (head1 (Jvm.Cond.code (⟨"java/lang/String", "equalsIgnoreCase", "(Ljava/lang/String;)Z"⟩ : MethodName) jdk_42_method_70_code 2 (some .boolean) :: ws) ({ frames := 4, cells := 0, slots := 0, locals := 64 } : Room)) (fun a U => a = #[(.ref a1), (.ref a2)] ∧ Z.Warmed39 U.vm ∧ U.heap = h0) (fun _ _ _ _ _ => True) (fun _ U o U' => ∃ v L, o = .returned v ∧ QrmEi2 Z a1 a2 l0 l1 l2 l3 l4 l5 l6 c0 c1 c2 c3 c4 c5 c6 zc h0 n0 v U'.heap L ∧ FrameEnd U o U' L ({ frames := 4, cells := 0, slots := 0, locals := 64 } : Room).cells ({ frames := 4, cells := 0, slots := 0, locals := 64 } : Room).slots) := by
  refine MetFree.of_bodySF pn_8 hisR ?_
  intro p e s m args below meth c s₁ Bd hml0 hP hK
  obtain ⟨rfl, hZ, hh⟩ := hP
  have hml : c.maxLocals = 2 := hml0
  have hlk : meth.locks = false := Bd.notSynchronized
  have hret := Bd.returns
  have hnm := (name_of_methodNamed Bd.named Bd.method).1
  have P0 : Own.Wk Z "java/lang/String" jdk_42_method_70_code h0 p l e ({ frames := 4, cells := 0, slots := 0, locals := 64 } : Room) s m #[(.ref a1), (.ref a2)] below meth c s₁ [] 0 0 := ⟨Stand.of_body Bd, Bd.exec, Bd.bytes, hZ, findClass_of_methodNamed Bd.named, by rw [← hh, Bd.state]; rfl⟩
  have N0 := Fr.nil n0
  show Own.Goes p.tables e below (fun s₂ o => ∃ v L, o = .returned v ∧ QrmEi2 Z a1 a2 l0 l1 l2 l3 l4 l5 l6 c0 c1 c2 c3 c4 c5 c6 zc h0 n0 v s₂.heap L ∧ FrameEnd s o s₂ L ({ frames := 4, cells := 0, slots := 0, locals := 64 } : Room).cells ({ frames := 4, cells := 0, slots := 0, locals := 64 } : Room).slots) (s₁.setTop (entryFrame m #[(.ref a1), (.ref a2)] 2))
  rw [show entryFrame m #[(.ref a1), (.ref a2)] 2 = mkF m 0 #[.val (.ref a1), .val (.ref a2)] [] from by first | (simp [entryFrame, mkF, argsToLocals, Value.category]; done) | rfl | (rcases Own.refc hfm with rfl | ⟨_, rfl⟩ <;> rfl)]
  refine Own.aloadN (q := 1) P0 d8_0 rfl rfl rfl ?_
  refine Own.aloadN (q := 2) P0 d8_1 rfl rfl rfl ?_
  refine Own.acmp_ne (q := 5) (qy := 9) P0 d8_2 rfl rfl (by decide) rfl (fun q2 => ?_) (fun q2 => ?_)
  · refine Own.aloadN (q := 10) P0 d8_9 rfl rfl rfl ?_
    refine Own.nullN (q := 13) P0 d8_10  rfl ?_
    refine Own.aloadN (q := 14) P0 d8_13 rfl rfl rfl ?_
    refine Own.invVirtual (q := 17) (W := 0) (y := (⟨"java/lang/String", "length", "()I"⟩ : MethodName)) (a := a2) (argsL := []) (rest := []) P0 d8_14 (hw _ (List.mem_of_getElem? (i := 71) rfl)) (hw _ (List.mem_of_getElem? (i := 72) rfl)) (hw _ (List.mem_of_getElem? (i := 74) rfl)) (hw _ (List.mem_of_getElem? (i := 73) rfl)) (notFace_of_selects (args := #[]) (mvT P0.2.2.2.1 (hw _ (List.mem_of_getElem? (i := 74) rfl)))) (by decide) (Own.lenB (W := 0) (n0 := n0) P0.2.2.2.1 (fun d hd => hw d (sub_lenW d hd)) (hw _ (List.mem_of_getElem? (i := 6) rfl)) S2 SC hzc (by decide) (by decide)) S2.exa rfl rfl (by rw [hml]; rfl) (lenOf (show parseMethodDescriptor "()I" = some ⟨[], some .int⟩ from by decide +kernel) rfl) (by show 2 * 0 + _ ≤ _; exact Nat.le_of_eq rfl) (by decide) (by decide) rfl ?_
    rintro v21 T21 h21 L21 ⟨rfl, N21q, e21⟩ P21
    rw [e21] at P21
    have N21 := Fr.app N0 N21q
    show Own.Goes _ _ _ _ (T21.setTop (mkF m 17 #[.val (.ref a1), .val (.ref a2)] [(.int (7 : Int32))]))
    refine Own.aloadN (q := 18) P21 d8_17 rfl rfl rfl ?_
    refine Own.invVirtual (q := 21) (W := 1) (y := (⟨"java/lang/String", "length", "()I"⟩ : MethodName)) (a := a1) (argsL := []) (rest := [(.int (7 : Int32))]) P21 d8_18 (hw _ (List.mem_of_getElem? (i := 71) rfl)) (hw _ (List.mem_of_getElem? (i := 72) rfl)) (hw _ (List.mem_of_getElem? (i := 74) rfl)) (hw _ (List.mem_of_getElem? (i := 73) rfl)) (notFace_of_selects (args := #[]) (mvT P21.2.2.2.1 (hw _ (List.mem_of_getElem? (i := 74) rfl)))) (by decide) (Own.lenB (W := 1) (n0 := n0) P21.2.2.2.1 (fun d hd => hw d (sub_lenW d hd)) (hw _ (List.mem_of_getElem? (i := 6) rfl)) S1 SC hzc (by decide) (by decide)) S1.exa rfl rfl (by rw [hml]; rfl) (lenOf (show parseMethodDescriptor "()I" = some ⟨[], some .int⟩ from by decide +kernel) rfl) (by show 2 * 0 + _ ≤ _; exact Nat.le_of_eq rfl) (by decide) (by decide) rfl ?_
    rintro v22 T22 h22 L22 ⟨rfl, N22q, e22⟩ P22
    rw [e22] at P22
    have N22 := Fr.app N21 N22q
    show Own.Goes _ _ _ _ (T22.setTop (mkF m 21 #[.val (.ref a1), .val (.ref a2)] [(.int (7 : Int32)), (.int (7 : Int32))]))
    refine Own.icmp_ne (q := 24) (qy := 43) P22 d8_21 (by decide) rfl (fun q => absurd rfl q) (fun _ => ?_)
    refine Own.aloadN (q := 25) P22 d8_24 rfl rfl rfl ?_
    refine Own.iconst (q := 26) (v := (1 : Int32)) P22 d8_25 rfl rfl ?_
    refine Own.iconst (q := 27) (v := (0 : Int32)) P22 d8_26 rfl rfl ?_
    refine Own.aloadN (q := 28) P22 d8_27 rfl rfl rfl ?_
    refine Own.iconst (q := 29) (v := (0 : Int32)) P22 d8_28 rfl rfl ?_
    refine Own.aloadN (q := 30) P22 d8_29 rfl rfl rfl ?_
    refine Own.invVirtual (q := 33) (W := 5) (y := (⟨"java/lang/String", "length", "()I"⟩ : MethodName)) (a := a1) (argsL := []) (rest := [(.int (0 : Int32)), (.ref a2), (.int (0 : Int32)), (.int (1 : Int32)), (.ref a1)]) P22 d8_30 (hw _ (List.mem_of_getElem? (i := 71) rfl)) (hw _ (List.mem_of_getElem? (i := 72) rfl)) (hw _ (List.mem_of_getElem? (i := 74) rfl)) (hw _ (List.mem_of_getElem? (i := 73) rfl)) (notFace_of_selects (args := #[]) (mvT P22.2.2.2.1 (hw _ (List.mem_of_getElem? (i := 74) rfl)))) (by decide) (Own.lenB (W := 5) (n0 := n0) P22.2.2.2.1 (fun d hd => hw d (sub_lenW d hd)) (hw _ (List.mem_of_getElem? (i := 6) rfl)) S1 SC hzc (by decide) (by decide)) S1.exa rfl rfl (by rw [hml]; rfl) (lenOf (show parseMethodDescriptor "()I" = some ⟨[], some .int⟩ from by decide +kernel) rfl) (by show 2 * 0 + _ ≤ _; exact Nat.le_of_eq rfl) (by decide) (by decide) rfl ?_
    rintro v23 T23 h23 L23 ⟨rfl, N23q, e23⟩ P23
    rw [e23] at P23
    have N23 := Fr.app N22 N23q
    show Own.Goes _ _ _ _ (T23.setTop (mkF m 33 #[.val (.ref a1), .val (.ref a2)] [(.int (7 : Int32)), (.int (0 : Int32)), (.ref a2), (.int (0 : Int32)), (.int (1 : Int32)), (.ref a1)]))
    refine Own.invVirtual (q := 36) (W := 0) (y := (⟨"java/lang/String", "regionMatches", "(ZILjava/lang/String;II)Z"⟩ : MethodName)) (a := a1) (argsL := [(.int (1 : Int32)), (.int (0 : Int32)), (.ref a2), (.int (0 : Int32)), (.int (7 : Int32))]) (rest := []) P23 d8_33 (hw _ (List.mem_of_getElem? (i := 84) rfl)) (hw _ (List.mem_of_getElem? (i := 85) rfl)) (hw _ (List.mem_of_getElem? (i := 87) rfl)) (hw _ (List.mem_of_getElem? (i := 86) rfl)) (notFace_of_selects (args := #[]) (mvT P23.2.2.2.1 (hw _ (List.mem_of_getElem? (i := 87) rfl)))) (by decide) (backOf (W := 0) (rmRm l Z a0 hw [] a1 a2 l0 l1 l2 l3 l4 l5 l6 c0 c1 c2 c3 c4 c5 c6 zc h0 n0 Z0 SC hzc S1 S2) P23.2.2.2.1 (hw _ (List.mem_of_getElem? (i := 88) rfl)) (hw _ (List.mem_of_getElem? (i := 5) rfl)) (by decide) (by decide)) S1.exa rfl rfl (by rw [hml]; rfl) (lenOf (show parseMethodDescriptor "(ZILjava/lang/String;II)Z" = some ⟨[.boolean, .int, (.object "java/lang/String"), .int, .int], some .boolean⟩ from by decide +kernel) rfl) (by show 2 * 0 + _ ≤ _; exact Nat.le_of_eq rfl) (by decide) (by decide) rfl ?_
    rintro v24 T24 h24 L24 ⟨rfl, N24q, e24⟩ P24
    rw [e24] at P24
    have N24 := Fr.app N23 N24q
    show Own.Goes _ _ _ _ (T24.setTop (mkF m 36 #[.val (.ref a1), .val (.ref a2)] [(.int (rm7 [by8 l0, by8 l1, by8 l2, by8 l3, by8 l4, by8 l5, by8 l6] [by8 c0, by8 c1, by8 c2, by8 c3, by8 c4, by8 c5, by8 c6]))]))
    refine Own.if_eq (q := 39) (qy := 43) P24 d8_36 (by decide) rfl (fun q36 => ?_) (fun q36 => ?_)
    · refine Own.iconst (q := 44) (v := (0 : Int32)) P24 d8_43 rfl rfl ?_
      refine Own.retZ (Q := QrmEi2 Z a1 a2 l0 l1 l2 l3 l4 l5 l6 c0 c1 c2 c3 c4 c5 c6 zc h0 n0) P24 d8_44 hret (by simp) hlk (by decide) (by decide) ?_
      exact ⟨by rw [q36]; rfl, N24, rfl⟩
    · refine Own.iconst (q := 40) (v := (1 : Int32)) P24 d8_39 rfl rfl ?_
      refine Own.goto (q := 44) P24 d8_40 (by decide) ?_
      refine Own.retZ (Q := QrmEi2 Z a1 a2 l0 l1 l2 l3 l4 l5 l6 c0 c1 c2 c3 c4 c5 c6 zc h0 n0) P24 d8_44 hret (by simp) hlk (by decide) (by decide) ?_
      exact ⟨by rw [(Own.rm01 _ _).resolve_left q36]; rfl, N24, rfl⟩
  · refine Own.iconst (q := 6) (v := (1 : Int32)) P0 d8_5 rfl rfl ?_
    refine Own.goto (q := 44) P0 d8_6 (by decide) ?_
    refine Own.retZ (Q := QrmEi2 Z a1 a2 l0 l1 l2 l3 l4 l5 l6 c0 c1 c2 c3 c4 c5 c6 zc h0 n0) P0 d8_44 hret (by simp) hlk (by decide) (by decide) ?_
    exact ⟨by cases q2; have z := Own.Str.inj S1 S2; injection z with z0 z; injection z with z1 z; injection z with z2 z; injection z with z3 z; injection z with z4 z; injection z with z5 z; injection z with z6 z; subst z0 z1 z2 z3 z4 z5 z6; rw [Own.rm_refl]; rfl, N0, rfl⟩
theorem d7_0 : decode prog_30_method_2_code 0 = .ok (.ldc 7, 2) := by decide +kernel
theorem d7_2 : decode prog_30_method_2_code 2 = .ok (.aload_n 0, 1) := by decide +kernel
theorem d7_3 : decode prog_30_method_2_code 3 = .ok (.invokevirtual 9, 3) := by decide +kernel
theorem d7_6 : decode prog_30_method_2_code 6 = .ok (.ifCond .ne 12, 3) := by decide +kernel
theorem d7_9 : decode prog_30_method_2_code 9 = .ok (.ldc 15, 2) := by decide +kernel
theorem d7_11 : decode prog_30_method_2_code 11 = .ok (.aload_n 0, 1) := by decide +kernel
theorem d7_12 : decode prog_30_method_2_code 12 = .ok (.invokevirtual 9, 3) := by decide +kernel
theorem d7_15 : decode prog_30_method_2_code 15 = .ok (.ifCond .eq 7, 3) := by decide +kernel
theorem d7_18 : decode prog_30_method_2_code 18 = .ok (.iconst 1, 1) := by decide +kernel
theorem d7_19 : decode prog_30_method_2_code 19 = .ok (.goto 4, 3) := by decide +kernel
theorem d7_22 : decode prog_30_method_2_code 22 = .ok (.iconst 0, 1) := by decide +kernel
theorem d7_23 : decode prog_30_method_2_code 23 = .ok (.ireturn, 1) := by decide +kernel
theorem pn_7 : plainFor (⟨"com/example/mokuroku/mokuroku/formats/JpcoarReader", "isReadingLanguage", "(Ljava/lang/String;)Z"⟩ : MethodName) = true := by first | exact plainFor_of_name (by first | (simp [plainName, overriddenIn]; done) | decide +kernel) | decide +kernel
def QrmRl0 (Z : State) (zc : Int32) (h0 : Heap) (n0 : Nat) (v : Option Value) (h : Heap) (L : List Loc) : Prop := v = some (.int 0) ∧ Fr n0 L ∧ Ext h0 h
set_option maxRecDepth 65536 in
set_option maxHeartbeats 40000000 in
theorem rmRl0 (l : Launch) (Z : State) (a0 : Array Value) (hw : ∀ d ∈ tables_1, d.before a0 Z = true) (ws : List Jvm.Cond) (zc : Int32) (h0 : Heap) (n0 : Nat) (Z0 : n0 ≤ h0.size) (SC : Sta Z h0 "java/lang/String" "COMPACT_STRINGS" "Z" (.int zc)) (hzc : ¬ zc = 0) :
    MetFree l (⟨"com/example/mokuroku/mokuroku/formats/JpcoarReader", "isReadingLanguage", "(Ljava/lang/String;)Z"⟩ : MethodName) (head1 (Jvm.Cond.code (⟨"com/example/mokuroku/mokuroku/formats/JpcoarReader", "isReadingLanguage", "(Ljava/lang/String;)Z"⟩ : MethodName) prog_30_method_2_code 1 (some .boolean) :: ws) ({ frames := 5, cells := 4, slots := 64, locals := 77 } : Room)) (fun a U => a = #[.null] ∧ Z.Warmed39 U.vm ∧ U.heap = h0 ∧ CHv Z EL U.vm h0 ∧ ∀ x ∈ ([] : List Addr), Safe Z EL U.vm h0 x) (fun _ _ _ _ _ => True) (fun _ U o U' => ∃ v L, o = .returned v ∧ QrmRl0 Z zc h0 n0 v U'.heap L ∧ CHr Z EL U.vm U.heap U'.vm U'.heap ∧ ReturnedEndW U o U' L ({ frames := 5, cells := 4, slots := 64, locals := 77 } : Room).cells ({ frames := 5, cells := 4, slots := 64, locals := 77 } : Room).slots) := by
  refine MetFree.of_bodySF pn_7 hisR ?_
  intro p e s m args below meth c s₁ Bd hml0 hP hK
  obtain ⟨rfl, hZ, hh, hCH, hSf⟩ := hP
  have hml : c.maxLocals = 1 := hml0
  have hlk : meth.locks = false := Bd.notSynchronized
  have hret := Bd.returns
  have hnm := (name_of_methodNamed Bd.named Bd.method).1
  have P0 : Own.Wk Z "com/example/mokuroku/mokuroku/formats/JpcoarReader" prog_30_method_2_code h0 p l e ({ frames := 5, cells := 4, slots := 64, locals := 77 } : Room) (s.setVm s.vm) m #[.null] below meth c s₁ [] 0 0 := ⟨Stand.of_body Bd, Bd.exec, Bd.bytes, hZ, findClass_of_methodNamed Bd.named, by rw [← hh, Bd.state]; rfl⟩
  have H0 : Own.Hd Z EL s s.vm h0 h0 := Own.Hd.start hCH
  have N0 := Fr.nil n0
  show Own.Goes p.tables e below (fun s₂ o => ∃ v L, o = .returned v ∧ QrmRl0 Z zc h0 n0 v s₂.heap L ∧ CHr Z EL s.vm s.heap s₂.vm s₂.heap ∧ ReturnedEndW s o s₂ L ({ frames := 5, cells := 4, slots := 64, locals := 77 } : Room).cells ({ frames := 5, cells := 4, slots := 64, locals := 77 } : Room).slots) (s₁.setTop (entryFrame m #[.null] 1))
  rw [show entryFrame m #[.null] 1 = mkF m 0 #[.val .null] [] from by first | (simp [entryFrame, mkF, argsToLocals, Value.category]; done) | rfl | (rcases Own.refc hfm with rfl | ⟨_, rfl⟩ <;> rfl)]
  refine Own.ldcStr (q := 2) (n := 28) (cs := [(106 : Int32), (97 : Int32), (45 : Int32), (75 : Int32), (97 : Int32), (110 : Int32), (97 : Int32)]) P0 H0 d7_0 (hw _ (List.mem_of_getElem? (i := 42) rfl)) (fun a ha => hw a (sub_str a ha)) (ew hw) (by decide) (by decide) (Own.chS (by decide) (Own.chS (by decide) (Own.chS (by decide) (Own.chS (by decide) (Own.chS (by decide) (Own.chS (by decide) (Own.chS (by decide) Own.ch0))))))) (by decide) (by decide) (by decide) (by decide) (by decide) (by decide) (by decide) rfl ?_
  intro T21 vm21 h21 a21 P21 H21 hr21 E21 St21
  refine Own.aloadN (q := 3) P21 d7_2 rfl rfl rfl ?_
  have E0_1_22 : Ext h0 h21 := E21
  refine Own.invVirtual (q := 6) (W := 0) (y := (⟨"java/lang/String", "equalsIgnoreCase", "(Ljava/lang/String;)Z"⟩ : MethodName)) (a := a21) (argsL := [.null]) (rest := []) P21 d7_3 (hw _ (List.mem_of_getElem? (i := 43) rfl)) (hw _ (List.mem_of_getElem? (i := 44) rfl)) (hw _ (List.mem_of_getElem? (i := 46) rfl)) (hw _ (List.mem_of_getElem? (i := 45) rfl)) (notFace_of_selects (args := #[]) (mvT P21.2.2.2.1 (hw _ (List.mem_of_getElem? (i := 46) rfl)))) (by decide) (backOf (W := 0) (rmEi0 l Z a0 hw [] a21 h21 n0 (Nat.le_trans Z0 E0_1_22.1) ) P21.2.2.2.1 (hw _ (List.mem_of_getElem? (i := 47) rfl)) (hw _ (List.mem_of_getElem? (i := 5) rfl)) (by decide) (by decide)) St21.exa rfl rfl (by rw [hml]; rfl) (lenOf (show parseMethodDescriptor "(Ljava/lang/String;)Z" = some ⟨[(.object "java/lang/String")], some .boolean⟩ from by decide +kernel) rfl) (by show 2 * 0 + _ ≤ _; exact Nat.le_of_eq rfl) (by decide) (by decide) rfl ?_
  rintro v23 T23 h23 L23 ⟨rfl, N23q, e23⟩ P23
  rw [e23] at P23
  have N23 := Fr.app N0 N23q
  show Own.Goes _ _ _ _ (T23.setTop (mkF m 6 #[.val .null] [(.int (0 : Int32))]))
  refine Own.if_ne (q := 9) (qy := 18) P23 d7_6 (by decide) rfl (fun q => absurd rfl q) (fun _ => ?_)
  refine Own.ldcStr (q := 11) (n := 28) (cs := [(106 : Int32), (97 : Int32), (45 : Int32), (76 : Int32), (97 : Int32), (116 : Int32), (110 : Int32)]) P23 H21 d7_9 (hw _ (List.mem_of_getElem? (i := 48) rfl)) (fun a ha => hw a (sub_str a ha)) (ew hw) (by decide) (by decide) (Own.chS (by decide) (Own.chS (by decide) (Own.chS (by decide) (Own.chS (by decide) (Own.chS (by decide) (Own.chS (by decide) (Own.chS (by decide) Own.ch0))))))) (by decide) (by decide) (by decide) (by decide) (by decide) (by decide) (by decide) rfl ?_
  intro T24 vm24 h24 a24 P24 H24 hr24 E24 St24
  refine Own.aloadN (q := 12) P24 d7_11 rfl rfl rfl ?_
  have E0_2_25 : Ext h0 h24 := (Own.Ext.tr E0_1_22 E24)
  refine Own.invVirtual (q := 15) (W := 0) (y := (⟨"java/lang/String", "equalsIgnoreCase", "(Ljava/lang/String;)Z"⟩ : MethodName)) (a := a24) (argsL := [.null]) (rest := []) P24 d7_12 (hw _ (List.mem_of_getElem? (i := 43) rfl)) (hw _ (List.mem_of_getElem? (i := 44) rfl)) (hw _ (List.mem_of_getElem? (i := 46) rfl)) (hw _ (List.mem_of_getElem? (i := 45) rfl)) (notFace_of_selects (args := #[]) (mvT P24.2.2.2.1 (hw _ (List.mem_of_getElem? (i := 46) rfl)))) (by decide) (backOf (W := 0) (rmEi0 l Z a0 hw [] a24 h24 n0 (Nat.le_trans Z0 E0_2_25.1) ) P24.2.2.2.1 (hw _ (List.mem_of_getElem? (i := 47) rfl)) (hw _ (List.mem_of_getElem? (i := 5) rfl)) (by decide) (by decide)) St24.exa rfl rfl (by rw [hml]; rfl) (lenOf (show parseMethodDescriptor "(Ljava/lang/String;)Z" = some ⟨[(.object "java/lang/String")], some .boolean⟩ from by decide +kernel) rfl) (by show 2 * 0 + _ ≤ _; exact Nat.le_of_eq rfl) (by decide) (by decide) rfl ?_
  rintro v26 T26 h26 L26 ⟨rfl, N26q, e26⟩ P26
  rw [e26] at P26
  have N26 := Fr.app N23 N26q
  show Own.Goes _ _ _ _ (T26.setTop (mkF m 15 #[.val .null] [(.int (0 : Int32))]))
  refine Own.if_eq (q := 18) (qy := 22) P26 d7_15 (by decide) rfl (fun _ => ?_) (fun q => absurd rfl q)
  refine Own.iconst (q := 23) (v := (0 : Int32)) P26 d7_22 rfl rfl ?_
  refine Own.retZH (Q := QrmRl0 Z zc h0 n0) P26 hh (ew hw) H24 d7_23 hret (by simp) hlk (by decide) (by decide) ?_
  exact ⟨rfl, N26, E0_2_25⟩

def QrmRl1 (Z : State) (a2 : Addr) (ds : List Int32) (zc : Int32) (h0 : Heap) (n0 : Nat) (v : Option Value) (h : Heap) (L : List Loc) : Prop := v = some (.int 0) ∧ Fr n0 L ∧ Ext h0 h
set_option maxRecDepth 65536 in
set_option maxHeartbeats 40000000 in
theorem rmRl1 (l : Launch) (Z : State) (a0 : Array Value) (hw : ∀ d ∈ tables_1, d.before a0 Z = true) (ws : List Jvm.Cond) (a2 : Addr) (ds : List Int32) (zc : Int32) (h0 : Heap) (n0 : Nat) (Z0 : n0 ≤ h0.size) (SC : Sta Z h0 "java/lang/String" "COMPACT_STRINGS" "Z" (.int zc)) (hzc : ¬ zc = 0) (S2 : Own.Str Z h0 a2 ds) (hne : ¬ ds.length = 7) :
    MetFree l (⟨"com/example/mokuroku/mokuroku/formats/JpcoarReader", "isReadingLanguage", "(Ljava/lang/String;)Z"⟩ : MethodName) (head1 (Jvm.Cond.code (⟨"com/example/mokuroku/mokuroku/formats/JpcoarReader", "isReadingLanguage", "(Ljava/lang/String;)Z"⟩ : MethodName) prog_30_method_2_code 1 (some .boolean) :: ws) ({ frames := 5, cells := 4, slots := 64, locals := 77 } : Room)) (fun a U => a = #[(.ref a2)] ∧ Z.Warmed39 U.vm ∧ U.heap = h0 ∧ CHv Z EL U.vm h0 ∧ ∀ x ∈ ([] : List Addr), Safe Z EL U.vm h0 x) (fun _ _ _ _ _ => True) (fun _ U o U' => ∃ v L, o = .returned v ∧ QrmRl1 Z a2 ds zc h0 n0 v U'.heap L ∧ CHr Z EL U.vm U.heap U'.vm U'.heap ∧ ReturnedEndW U o U' L ({ frames := 5, cells := 4, slots := 64, locals := 77 } : Room).cells ({ frames := 5, cells := 4, slots := 64, locals := 77 } : Room).slots) := by
  refine MetFree.of_bodySF pn_7 hisR ?_
  intro p e s m args below meth c s₁ Bd hml0 hP hK
  obtain ⟨rfl, hZ, hh, hCH, hSf⟩ := hP
  have hml : c.maxLocals = 1 := hml0
  have hlk : meth.locks = false := Bd.notSynchronized
  have hret := Bd.returns
  have hnm := (name_of_methodNamed Bd.named Bd.method).1
  have P0 : Own.Wk Z "com/example/mokuroku/mokuroku/formats/JpcoarReader" prog_30_method_2_code h0 p l e ({ frames := 5, cells := 4, slots := 64, locals := 77 } : Room) (s.setVm s.vm) m #[(.ref a2)] below meth c s₁ [] 0 0 := ⟨Stand.of_body Bd, Bd.exec, Bd.bytes, hZ, findClass_of_methodNamed Bd.named, by rw [← hh, Bd.state]; rfl⟩
  have H0 : Own.Hd Z EL s s.vm h0 h0 := Own.Hd.start hCH
  have N0 := Fr.nil n0
  show Own.Goes p.tables e below (fun s₂ o => ∃ v L, o = .returned v ∧ QrmRl1 Z a2 ds zc h0 n0 v s₂.heap L ∧ CHr Z EL s.vm s.heap s₂.vm s₂.heap ∧ ReturnedEndW s o s₂ L ({ frames := 5, cells := 4, slots := 64, locals := 77 } : Room).cells ({ frames := 5, cells := 4, slots := 64, locals := 77 } : Room).slots) (s₁.setTop (entryFrame m #[(.ref a2)] 1))
  rw [show entryFrame m #[(.ref a2)] 1 = mkF m 0 #[.val (.ref a2)] [] from by first | (simp [entryFrame, mkF, argsToLocals, Value.category]; done) | rfl | (rcases Own.refc hfm with rfl | ⟨_, rfl⟩ <;> rfl)]
  refine Own.ldcStr (q := 2) (n := 28) (cs := [(106 : Int32), (97 : Int32), (45 : Int32), (75 : Int32), (97 : Int32), (110 : Int32), (97 : Int32)]) P0 H0 d7_0 (hw _ (List.mem_of_getElem? (i := 42) rfl)) (fun a ha => hw a (sub_str a ha)) (ew hw) (by decide) (by decide) (Own.chS (by decide) (Own.chS (by decide) (Own.chS (by decide) (Own.chS (by decide) (Own.chS (by decide) (Own.chS (by decide) (Own.chS (by decide) Own.ch0))))))) (by decide) (by decide) (by decide) (by decide) (by decide) (by decide) (by decide) rfl ?_
  intro T21 vm21 h21 a21 P21 H21 hr21 E21 St21
  refine Own.aloadN (q := 3) P21 d7_2 rfl rfl rfl ?_
  have E0_1_22 : Ext h0 h21 := E21
  refine Own.invVirtual (q := 6) (W := 0) (y := (⟨"java/lang/String", "equalsIgnoreCase", "(Ljava/lang/String;)Z"⟩ : MethodName)) (a := a21) (argsL := [(.ref a2)]) (rest := []) P21 d7_3 (hw _ (List.mem_of_getElem? (i := 43) rfl)) (hw _ (List.mem_of_getElem? (i := 44) rfl)) (hw _ (List.mem_of_getElem? (i := 46) rfl)) (hw _ (List.mem_of_getElem? (i := 45) rfl)) (notFace_of_selects (args := #[]) (mvT P21.2.2.2.1 (hw _ (List.mem_of_getElem? (i := 46) rfl)))) (by decide) (backOf (W := 0) (rmEi1 l Z a0 hw [] a21 a2 [(106 : Int32), (97 : Int32), (45 : Int32), (75 : Int32), (97 : Int32), (110 : Int32), (97 : Int32)] ds zc h21 n0 (Nat.le_trans Z0 E0_1_22.1) (SC.ext E0_1_22) hzc St21 (S2.ext E0_1_22) hne) P21.2.2.2.1 (hw _ (List.mem_of_getElem? (i := 47) rfl)) (hw _ (List.mem_of_getElem? (i := 5) rfl)) (by decide) (by decide)) St21.exa rfl rfl (by rw [hml]; rfl) (lenOf (show parseMethodDescriptor "(Ljava/lang/String;)Z" = some ⟨[(.object "java/lang/String")], some .boolean⟩ from by decide +kernel) rfl) (by show 2 * 0 + _ ≤ _; exact Nat.le_of_eq rfl) (by decide) (by decide) rfl ?_
  rintro v23 T23 h23 L23 ⟨rfl, N23q, e23⟩ P23
  rw [e23] at P23
  have N23 := Fr.app N0 N23q
  show Own.Goes _ _ _ _ (T23.setTop (mkF m 6 #[.val (.ref a2)] [(.int (0 : Int32))]))
  refine Own.if_ne (q := 9) (qy := 18) P23 d7_6 (by decide) rfl (fun q => absurd rfl q) (fun _ => ?_)
  refine Own.ldcStr (q := 11) (n := 28) (cs := [(106 : Int32), (97 : Int32), (45 : Int32), (76 : Int32), (97 : Int32), (116 : Int32), (110 : Int32)]) P23 H21 d7_9 (hw _ (List.mem_of_getElem? (i := 48) rfl)) (fun a ha => hw a (sub_str a ha)) (ew hw) (by decide) (by decide) (Own.chS (by decide) (Own.chS (by decide) (Own.chS (by decide) (Own.chS (by decide) (Own.chS (by decide) (Own.chS (by decide) (Own.chS (by decide) Own.ch0))))))) (by decide) (by decide) (by decide) (by decide) (by decide) (by decide) (by decide) rfl ?_
  intro T24 vm24 h24 a24 P24 H24 hr24 E24 St24
  refine Own.aloadN (q := 12) P24 d7_11 rfl rfl rfl ?_
  have E0_2_25 : Ext h0 h24 := (Own.Ext.tr E0_1_22 E24)
  refine Own.invVirtual (q := 15) (W := 0) (y := (⟨"java/lang/String", "equalsIgnoreCase", "(Ljava/lang/String;)Z"⟩ : MethodName)) (a := a24) (argsL := [(.ref a2)]) (rest := []) P24 d7_12 (hw _ (List.mem_of_getElem? (i := 43) rfl)) (hw _ (List.mem_of_getElem? (i := 44) rfl)) (hw _ (List.mem_of_getElem? (i := 46) rfl)) (hw _ (List.mem_of_getElem? (i := 45) rfl)) (notFace_of_selects (args := #[]) (mvT P24.2.2.2.1 (hw _ (List.mem_of_getElem? (i := 46) rfl)))) (by decide) (backOf (W := 0) (rmEi1 l Z a0 hw [] a24 a2 [(106 : Int32), (97 : Int32), (45 : Int32), (76 : Int32), (97 : Int32), (116 : Int32), (110 : Int32)] ds zc h24 n0 (Nat.le_trans Z0 E0_2_25.1) (SC.ext E0_2_25) hzc St24 (S2.ext E0_2_25) hne) P24.2.2.2.1 (hw _ (List.mem_of_getElem? (i := 47) rfl)) (hw _ (List.mem_of_getElem? (i := 5) rfl)) (by decide) (by decide)) St24.exa rfl rfl (by rw [hml]; rfl) (lenOf (show parseMethodDescriptor "(Ljava/lang/String;)Z" = some ⟨[(.object "java/lang/String")], some .boolean⟩ from by decide +kernel) rfl) (by show 2 * 0 + _ ≤ _; exact Nat.le_of_eq rfl) (by decide) (by decide) rfl ?_
  rintro v26 T26 h26 L26 ⟨rfl, N26q, e26⟩ P26
  rw [e26] at P26
  have N26 := Fr.app N23 N26q
  show Own.Goes _ _ _ _ (T26.setTop (mkF m 15 #[.val (.ref a2)] [(.int (0 : Int32))]))
  refine Own.if_eq (q := 18) (qy := 22) P26 d7_15 (by decide) rfl (fun _ => ?_) (fun q => absurd rfl q)
  refine Own.iconst (q := 23) (v := (0 : Int32)) P26 d7_22 rfl rfl ?_
  refine Own.retZH (Q := QrmRl1 Z a2 ds zc h0 n0) P26 hh (ew hw) H24 d7_23 hret (by simp) hlk (by decide) (by decide) ?_
  exact ⟨rfl, N26, E0_2_25⟩

def QrmRl2 (Z : State) (a2 : Addr) (c0 : Int32) (c1 : Int32) (c2 : Int32) (c3 : Int32) (c4 : Int32) (c5 : Int32) (c6 : Int32) (zc : Int32) (h0 : Heap) (n0 : Nat) (v : Option Value) (h : Heap) (L : List Loc) : Prop := v = some (.int (if ¬ rm7 [by8 (106 : Int32), by8 (97 : Int32), by8 (45 : Int32), by8 (75 : Int32), by8 (97 : Int32), by8 (110 : Int32), by8 (97 : Int32)] [by8 c0, by8 c1, by8 c2, by8 c3, by8 c4, by8 c5, by8 c6] = 0 then 1 else if rm7 [by8 (106 : Int32), by8 (97 : Int32), by8 (45 : Int32), by8 (76 : Int32), by8 (97 : Int32), by8 (116 : Int32), by8 (110 : Int32)] [by8 c0, by8 c1, by8 c2, by8 c3, by8 c4, by8 c5, by8 c6] = 0 then 0 else 1)) ∧ Fr n0 L ∧ Ext h0 h
set_option maxRecDepth 65536 in
set_option maxHeartbeats 40000000 in
theorem rmRl2 (l : Launch) (Z : State) (a0 : Array Value) (hw : ∀ d ∈ tables_1, d.before a0 Z = true) (ws : List Jvm.Cond) (a2 : Addr) (c0 : Int32) (c1 : Int32) (c2 : Int32) (c3 : Int32) (c4 : Int32) (c5 : Int32) (c6 : Int32) (zc : Int32) (h0 : Heap) (n0 : Nat) (Z0 : n0 ≤ h0.size) (SC : Sta Z h0 "java/lang/String" "COMPACT_STRINGS" "Z" (.int zc)) (hzc : ¬ zc = 0) (S2 : Own.Str Z h0 a2 [c0, c1, c2, c3, c4, c5, c6]) :
    MetFree l (⟨"com/example/mokuroku/mokuroku/formats/JpcoarReader", "isReadingLanguage", "(Ljava/lang/String;)Z"⟩ : MethodName) (head1 (Jvm.Cond.code (⟨"com/example/mokuroku/mokuroku/formats/JpcoarReader", "isReadingLanguage", "(Ljava/lang/String;)Z"⟩ : MethodName) prog_30_method_2_code 1 (some .boolean) :: ws) ({ frames := 5, cells := 4, slots := 64, locals := 77 } : Room)) (fun a U => a = #[(.ref a2)] ∧ Z.Warmed39 U.vm ∧ U.heap = h0 ∧ CHv Z EL U.vm h0 ∧ ∀ x ∈ ([] : List Addr), Safe Z EL U.vm h0 x) (fun _ _ _ _ _ => True) (fun _ U o U' => ∃ v L, o = .returned v ∧ QrmRl2 Z a2 c0 c1 c2 c3 c4 c5 c6 zc h0 n0 v U'.heap L ∧ CHr Z EL U.vm U.heap U'.vm U'.heap ∧ ReturnedEndW U o U' L ({ frames := 5, cells := 4, slots := 64, locals := 77 } : Room).cells ({ frames := 5, cells := 4, slots := 64, locals := 77 } : Room).slots) := by
  refine MetFree.of_bodySF pn_7 hisR ?_
  intro p e s m args below meth c s₁ Bd hml0 hP hK
  obtain ⟨rfl, hZ, hh, hCH, hSf⟩ := hP
  have hml : c.maxLocals = 1 := hml0
  have hlk : meth.locks = false := Bd.notSynchronized
  have hret := Bd.returns
  have hnm := (name_of_methodNamed Bd.named Bd.method).1
  have P0 : Own.Wk Z "com/example/mokuroku/mokuroku/formats/JpcoarReader" prog_30_method_2_code h0 p l e ({ frames := 5, cells := 4, slots := 64, locals := 77 } : Room) (s.setVm s.vm) m #[(.ref a2)] below meth c s₁ [] 0 0 := ⟨Stand.of_body Bd, Bd.exec, Bd.bytes, hZ, findClass_of_methodNamed Bd.named, by rw [← hh, Bd.state]; rfl⟩
  have H0 : Own.Hd Z EL s s.vm h0 h0 := Own.Hd.start hCH
  have N0 := Fr.nil n0
  show Own.Goes p.tables e below (fun s₂ o => ∃ v L, o = .returned v ∧ QrmRl2 Z a2 c0 c1 c2 c3 c4 c5 c6 zc h0 n0 v s₂.heap L ∧ CHr Z EL s.vm s.heap s₂.vm s₂.heap ∧ ReturnedEndW s o s₂ L ({ frames := 5, cells := 4, slots := 64, locals := 77 } : Room).cells ({ frames := 5, cells := 4, slots := 64, locals := 77 } : Room).slots) (s₁.setTop (entryFrame m #[(.ref a2)] 1))
  rw [show entryFrame m #[(.ref a2)] 1 = mkF m 0 #[.val (.ref a2)] [] from by first | (simp [entryFrame, mkF, argsToLocals, Value.category]; done) | rfl | (rcases Own.refc hfm with rfl | ⟨_, rfl⟩ <;> rfl)]
  refine Own.ldcStr (q := 2) (n := 28) (cs := [(106 : Int32), (97 : Int32), (45 : Int32), (75 : Int32), (97 : Int32), (110 : Int32), (97 : Int32)]) P0 H0 d7_0 (hw _ (List.mem_of_getElem? (i := 42) rfl)) (fun a ha => hw a (sub_str a ha)) (ew hw) (by decide) (by decide) (Own.chS (by decide) (Own.chS (by decide) (Own.chS (by decide) (Own.chS (by decide) (Own.chS (by decide) (Own.chS (by decide) (Own.chS (by decide) Own.ch0))))))) (by decide) (by decide) (by decide) (by decide) (by decide) (by decide) (by decide) rfl ?_
  intro T21 vm21 h21 a21 P21 H21 hr21 E21 St21
  refine Own.aloadN (q := 3) P21 d7_2 rfl rfl rfl ?_
  have E0_1_22 : Ext h0 h21 := E21
  refine Own.invVirtual (q := 6) (W := 0) (y := (⟨"java/lang/String", "equalsIgnoreCase", "(Ljava/lang/String;)Z"⟩ : MethodName)) (a := a21) (argsL := [(.ref a2)]) (rest := []) P21 d7_3 (hw _ (List.mem_of_getElem? (i := 43) rfl)) (hw _ (List.mem_of_getElem? (i := 44) rfl)) (hw _ (List.mem_of_getElem? (i := 46) rfl)) (hw _ (List.mem_of_getElem? (i := 45) rfl)) (notFace_of_selects (args := #[]) (mvT P21.2.2.2.1 (hw _ (List.mem_of_getElem? (i := 46) rfl)))) (by decide) (backOf (W := 0) (rmEi2 l Z a0 hw [] a21 a2 (106 : Int32) (97 : Int32) (45 : Int32) (75 : Int32) (97 : Int32) (110 : Int32) (97 : Int32) c0 c1 c2 c3 c4 c5 c6 zc h21 n0 (Nat.le_trans Z0 E0_1_22.1) (SC.ext E0_1_22) hzc St21 (S2.ext E0_1_22)) P21.2.2.2.1 (hw _ (List.mem_of_getElem? (i := 47) rfl)) (hw _ (List.mem_of_getElem? (i := 5) rfl)) (by decide) (by decide)) St21.exa rfl rfl (by rw [hml]; rfl) (lenOf (show parseMethodDescriptor "(Ljava/lang/String;)Z" = some ⟨[(.object "java/lang/String")], some .boolean⟩ from by decide +kernel) rfl) (by show 2 * 0 + _ ≤ _; exact Nat.le_of_eq rfl) (by decide) (by decide) rfl ?_
  rintro v23 T23 h23 L23 ⟨rfl, N23q, e23⟩ P23
  rw [e23] at P23
  have N23 := Fr.app N0 N23q
  show Own.Goes _ _ _ _ (T23.setTop (mkF m 6 #[.val (.ref a2)] [(.int (rm7 [by8 (106 : Int32), by8 (97 : Int32), by8 (45 : Int32), by8 (75 : Int32), by8 (97 : Int32), by8 (110 : Int32), by8 (97 : Int32)] [by8 c0, by8 c1, by8 c2, by8 c3, by8 c4, by8 c5, by8 c6]))]))
  refine Own.if_ne (q := 9) (qy := 18) P23 d7_6 (by decide) rfl (fun q6 => ?_) (fun q6 => ?_)
  · refine Own.iconst (q := 19) (v := (1 : Int32)) P23 d7_18 rfl rfl ?_
    refine Own.goto (q := 23) P23 d7_19 (by decide) ?_
    refine Own.retZH (Q := QrmRl2 Z a2 c0 c1 c2 c3 c4 c5 c6 zc h0 n0) P23 hh (ew hw) H21 d7_23 hret (by simp) hlk (by decide) (by decide) ?_
    exact ⟨by first | (rw [if_pos q6]; rfl) | (rw [if_neg (fun z => z q6), if_pos q15]; rfl) | (rw [if_neg (fun z => z q6), if_neg q15]; rfl), N23, E0_1_22⟩
  · refine Own.ldcStr (q := 11) (n := 28) (cs := [(106 : Int32), (97 : Int32), (45 : Int32), (76 : Int32), (97 : Int32), (116 : Int32), (110 : Int32)]) P23 H21 d7_9 (hw _ (List.mem_of_getElem? (i := 48) rfl)) (fun a ha => hw a (sub_str a ha)) (ew hw) (by decide) (by decide) (Own.chS (by decide) (Own.chS (by decide) (Own.chS (by decide) (Own.chS (by decide) (Own.chS (by decide) (Own.chS (by decide) (Own.chS (by decide) Own.ch0))))))) (by decide) (by decide) (by decide) (by decide) (by decide) (by decide) (by decide) rfl ?_
    intro T24 vm24 h24 a24 P24 H24 hr24 E24 St24
    refine Own.aloadN (q := 12) P24 d7_11 rfl rfl rfl ?_
    have E0_2_25 : Ext h0 h24 := (Own.Ext.tr E0_1_22 E24)
    refine Own.invVirtual (q := 15) (W := 0) (y := (⟨"java/lang/String", "equalsIgnoreCase", "(Ljava/lang/String;)Z"⟩ : MethodName)) (a := a24) (argsL := [(.ref a2)]) (rest := []) P24 d7_12 (hw _ (List.mem_of_getElem? (i := 43) rfl)) (hw _ (List.mem_of_getElem? (i := 44) rfl)) (hw _ (List.mem_of_getElem? (i := 46) rfl)) (hw _ (List.mem_of_getElem? (i := 45) rfl)) (notFace_of_selects (args := #[]) (mvT P24.2.2.2.1 (hw _ (List.mem_of_getElem? (i := 46) rfl)))) (by decide) (backOf (W := 0) (rmEi2 l Z a0 hw [] a24 a2 (106 : Int32) (97 : Int32) (45 : Int32) (76 : Int32) (97 : Int32) (116 : Int32) (110 : Int32) c0 c1 c2 c3 c4 c5 c6 zc h24 n0 (Nat.le_trans Z0 E0_2_25.1) (SC.ext E0_2_25) hzc St24 (S2.ext E0_2_25)) P24.2.2.2.1 (hw _ (List.mem_of_getElem? (i := 47) rfl)) (hw _ (List.mem_of_getElem? (i := 5) rfl)) (by decide) (by decide)) St24.exa rfl rfl (by rw [hml]; rfl) (lenOf (show parseMethodDescriptor "(Ljava/lang/String;)Z" = some ⟨[(.object "java/lang/String")], some .boolean⟩ from by decide +kernel) rfl) (by show 2 * 0 + _ ≤ _; exact Nat.le_of_eq rfl) (by decide) (by decide) rfl ?_
    rintro v26 T26 h26 L26 ⟨rfl, N26q, e26⟩ P26
    rw [e26] at P26
    have N26 := Fr.app N23 N26q
    show Own.Goes _ _ _ _ (T26.setTop (mkF m 15 #[.val (.ref a2)] [(.int (rm7 [by8 (106 : Int32), by8 (97 : Int32), by8 (45 : Int32), by8 (76 : Int32), by8 (97 : Int32), by8 (116 : Int32), by8 (110 : Int32)] [by8 c0, by8 c1, by8 c2, by8 c3, by8 c4, by8 c5, by8 c6]))]))
    refine Own.if_eq (q := 18) (qy := 22) P26 d7_15 (by decide) rfl (fun q15 => ?_) (fun q15 => ?_)
    · refine Own.iconst (q := 23) (v := (0 : Int32)) P26 d7_22 rfl rfl ?_
      refine Own.retZH (Q := QrmRl2 Z a2 c0 c1 c2 c3 c4 c5 c6 zc h0 n0) P26 hh (ew hw) H24 d7_23 hret (by simp) hlk (by decide) (by decide) ?_
      exact ⟨by first | (rw [if_pos q6]; rfl) | (rw [if_neg (fun z => z q6), if_pos q15]; rfl) | (rw [if_neg (fun z => z q6), if_neg q15]; rfl), N26, E0_2_25⟩
    · refine Own.iconst (q := 19) (v := (1 : Int32)) P26 d7_18 rfl rfl ?_
      refine Own.goto (q := 23) P26 d7_19 (by decide) ?_
      refine Own.retZH (Q := QrmRl2 Z a2 c0 c1 c2 c3 c4 c5 c6 zc h0 n0) P26 hh (ew hw) H24 d7_23 hret (by simp) hlk (by decide) (by decide) ?_
      exact ⟨by first | (rw [if_pos q6]; rfl) | (rw [if_neg (fun z => z q6), if_pos q15]; rfl) | (rw [if_neg (fun z => z q6), if_neg q15]; rfl), N26, E0_2_25⟩
def expV (c0 c1 c2 c3 c4 c5 c6 : Int32) : Int32 := if lowf c0 = 106 ∧ lowf c1 = 97 ∧ c2 = 45 ∧ ((lowf c3 = 107 ∧ lowf c4 = 97 ∧ lowf c5 = 110 ∧ lowf c6 = 97) ∨ (lowf c3 = 108 ∧ lowf c4 = 97 ∧ lowf c5 = 116 ∧ lowf c6 = 110)) then 1 else 0
theorem exp_is {c0 c1 c2 c3 c4 c5 c6 : Int32} (r0 : ¬ c0 < 0 ∧ ¬ (255 : Int32) < c0) (r1 : ¬ c1 < 0 ∧ ¬ (255 : Int32) < c1) (r2 : ¬ c2 < 0 ∧ ¬ (255 : Int32) < c2) (r3 : ¬ c3 < 0 ∧ ¬ (255 : Int32) < c3) (r4 : ¬ c4 < 0 ∧ ¬ (255 : Int32) < c4) (r5 : ¬ c5 < 0 ∧ ¬ (255 : Int32) < c5) (r6 : ¬ c6 < 0 ∧ ¬ (255 : Int32) < c6) :
    (if ¬ rm7 [by8 (106 : Int32), by8 (97 : Int32), by8 (45 : Int32), by8 (75 : Int32), by8 (97 : Int32), by8 (110 : Int32), by8 (97 : Int32)] [by8 c0, by8 c1, by8 c2, by8 c3, by8 c4, by8 c5, by8 c6] = 0 then (1 : Int32) else if rm7 [by8 (106 : Int32), by8 (97 : Int32), by8 (45 : Int32), by8 (76 : Int32), by8 (97 : Int32), by8 (116 : Int32), by8 (110 : Int32)] [by8 c0, by8 c1, by8 c2, by8 c3, by8 c4, by8 c5, by8 c6] = 0 then 0 else 1) = expV c0 c1 c2 c3 c4 c5 c6 := by
  have e1 : by8 (106 : Int32) = 106 := rfl
  have e2 : by8 (97 : Int32) = 97 := rfl
  have e3 : by8 (45 : Int32) = 45 := rfl
  have e4 : by8 (75 : Int32) = 75 := rfl
  have e5 : by8 (110 : Int32) = 110 := rfl
  have e6 : by8 (76 : Int32) = 76 := rfl
  have e7 : by8 (116 : Int32) = 116 := rfl
  simp only [rm7, e1, e2, e3, e4, e5, e6, e7, ic_j r0, ic_a r1, ic_dash r2, ic_K r3, ic_L r3, ic_a r4, ic_n r5, ic_t r5, ic_a r6, ic_n r6, expV]
  by_cases a0 : lowf c0 = 106 <;> by_cases a1 : lowf c1 = 97 <;> by_cases a2 : c2 = 45 <;> simp [a0, a1, a2]
  by_cases a4 : lowf c4 = 97 <;> simp [a4]
  by_cases k3 : lowf c3 = 107 <;> by_cases k5 : lowf c5 = 110 <;> by_cases k6 : lowf c6 = 97 <;> by_cases m3 : lowf c3 = 108 <;> by_cases m5 : lowf c5 = 116 <;> by_cases m6 : lowf c6 = 110 <;> simp_all
theorem lt1 {c0 c1 c2 c3 c4 c5 c6 f : Int32} (h : lowf c0 = 106 ∧ lowf c1 = 97 ∧ c2 = 45) (hk : f = (if lowf c3 = 107 ∧ lowf c4 = 97 ∧ lowf c5 = 110 ∧ lowf c6 = 97 then (1 : Int32) else 0)) (q : ¬ f = 0) : (1 : Int32) = expV c0 c1 c2 c3 c4 c5 c6 := by
  unfold expV
  exact (if_pos ⟨h.1, h.2.1, h.2.2, Or.inl (Decidable.of_not_not fun z => q (hk.trans (if_neg z)))⟩).symm
theorem lt2 {c0 c1 c2 c3 c4 c5 c6 f : Int32} (h : lowf c0 = 106 ∧ lowf c1 = 97 ∧ c2 = 45) (hl : f = (if lowf c3 = 108 ∧ lowf c4 = 97 ∧ lowf c5 = 116 ∧ lowf c6 = 110 then (1 : Int32) else 0)) (q : ¬ f = 0) : (1 : Int32) = expV c0 c1 c2 c3 c4 c5 c6 := by
  unfold expV
  exact (if_pos ⟨h.1, h.2.1, h.2.2, Or.inr (Decidable.of_not_not fun z => q (hl.trans (if_neg z)))⟩).symm
theorem lt3 {c0 c1 c2 c3 c4 c5 c6 f g : Int32} (hk : f = (if lowf c3 = 107 ∧ lowf c4 = 97 ∧ lowf c5 = 110 ∧ lowf c6 = 97 then (1 : Int32) else 0)) (hl : g = (if lowf c3 = 108 ∧ lowf c4 = 97 ∧ lowf c5 = 116 ∧ lowf c6 = 110 then (1 : Int32) else 0)) (q : f = 0) (r : g = 0) : (0 : Int32) = expV c0 c1 c2 c3 c4 c5 c6 := by
  unfold expV
  refine (if_neg fun z => z.2.2.2.elim (fun y => ?_) (fun y => ?_)).symm
  · rw [q, if_pos y] at hk; exact absurd hk (by decide)
  · rw [r, if_pos y] at hl; exact absurd hl (by decide)
theorem lt0 {c0 c1 c2 c3 c4 c5 c6 : Int32} (h : ¬ (lowf c0 = 106 ∧ lowf c1 = 97 ∧ c2 = 45)) : (0 : Int32) = expV c0 c1 c2 c3 c4 c5 c6 := by
  unfold expV
  exact (if_neg fun z => h ⟨z.1, z.2.1, z.2.2.1⟩).symm
theorem pn_0 : plainFor x = true := by first | exact plainFor_of_name (by first | (simp [plainName, overriddenIn]; done) | decide +kernel) | decide +kernel
def QrmLaw (Z : State) (x0 : Int32) (x1 : Int32) (x2 : Int32) (x3 : Int32) (x4 : Int32) (zc : Int32) (fm : Value) (h0 : Heap) (n0 : Nat) (v : Option Value) (h : Heap) (L : List Loc) : Prop := v = some (.int 1) ∧ Fr n0 L
set_option maxRecDepth 65536 in
set_option maxHeartbeats 40000000 in
theorem rmLaw (l : Launch) (Z : State) (a0 : Array Value) (hw : ∀ d ∈ tables_1, d.before a0 Z = true) (ws : List Jvm.Cond) (x0 : Int32) (x1 : Int32) (x2 : Int32) (x3 : Int32) (x4 : Int32) (zc : Int32) (fm : Value) (h0 : Heap) (n0 : Nat) (Z0 : n0 ≤ h0.size) (SC : Sta Z h0 "java/lang/String" "COMPACT_STRINGS" "Z" (.int zc)) (hzc : ¬ zc = 0) (SF : Sta Z h0 "jdk/internal/util/Preconditions" "SIOOBE_FORMATTER" "Ljava/util/function/BiFunction;" fm) (hfm : fm.isRef = true) :
    MetFree l x (head1 (Jvm.Cond.code x code maxLocals ret :: ws) room_1) (fun a U => a = #[(.int x0), (.int x1), (.int x2), (.int x3), (.int x4)] ∧ Z.Warmed39 U.vm ∧ U.heap = h0 ∧ CHv Z EL U.vm h0 ∧ ∀ x ∈ ([] : List Addr), Safe Z EL U.vm h0 x) (fun _ _ _ _ _ => True) (fun _ U o U' => ∃ v L, o = .returned v ∧ QrmLaw Z x0 x1 x2 x3 x4 zc fm h0 n0 v U'.heap L ∧ CHr Z EL U.vm U.heap U'.vm U'.heap ∧ ReturnedEndW U o U' L room_1.cells room_1.slots) := by
  refine MetFree.of_bodySF pn_0 hisR ?_
  intro p e s m args below meth c s₁ Bd hml0 hP hK
  obtain ⟨rfl, hZ, hh, hCH, hSf⟩ := hP
  have hml : c.maxLocals = 24 := hml0
  have hlk : meth.locks = false := Bd.notSynchronized
  have hret := Bd.returns
  have hnm := (name_of_methodNamed Bd.named Bd.method).1
  have P0 : Own.Wk Z "com/example/mokuroku/mokuroku/formats/JpcoarReaderIsReadingLanguagePinLaw" code h0 p l e room_1 (s.setVm s.vm) m #[(.int x0), (.int x1), (.int x2), (.int x3), (.int x4)] below meth c s₁ [] 0 0 := ⟨Stand.of_body Bd, Bd.exec, Bd.bytes, hZ, findClass_of_methodNamed Bd.named, by rw [← hh, Bd.state]; rfl⟩
  have H0 : Own.Hd Z EL s s.vm h0 h0 := Own.Hd.start hCH
  have N0 := Fr.nil n0
  show Own.Goes p.tables e below (fun s₂ o => ∃ v L, o = .returned v ∧ QrmLaw Z x0 x1 x2 x3 x4 zc fm h0 n0 v s₂.heap L ∧ CHr Z EL s.vm s.heap s₂.vm s₂.heap ∧ ReturnedEndW s o s₂ L room_1.cells room_1.slots) (s₁.setTop (entryFrame m #[(.int x0), (.int x1), (.int x2), (.int x3), (.int x4)] maxLocals))
  rw [show entryFrame m #[(.int x0), (.int x1), (.int x2), (.int x3), (.int x4)] maxLocals = mkF m 0 #[.val (.int x0), .val (.int x1), .val (.int x2), .val (.int x3), .val (.int x4), .unset, .unset, .unset, .unset, .unset, .unset, .unset, .unset, .unset, .unset, .unset, .unset, .unset, .unset, .unset, .unset, .unset, .unset, .unset] [] from by first | (simp [entryFrame, mkF, argsToLocals, Value.category, maxLocals]; done) | rfl | (rcases Own.refc hfm with rfl | ⟨_, rfl⟩ <;> rfl)]
  refine Own.iloadN (q := 1) P0 at_0 rfl rfl ?_
  refine Own.iconst (q := 2) (v := (1 : Int32)) P0 at_1 rfl rfl ?_
  refine Own.iand (q := 3) P0 at_2  rfl ?_
  refine Own.istore (q := 5) (L2 := #[.val (.int x0), .val (.int x1), .val (.int x2), .val (.int x3), .val (.int x4), .val (.int (x0 &&& (1 : Int32))), .unset, .unset, .unset, .unset, .unset, .unset, .unset, .unset, .unset, .unset, .unset, .unset, .unset, .unset, .unset, .unset, .unset, .unset]) P0 at_3 rfl rfl ?_
  refine Own.iloadN (q := 6) P0 at_5 rfl rfl ?_
  refine Own.iconst (q := 7) (v := (1 : Int32)) P0 at_6 rfl rfl ?_
  refine Own.iushr (q := 8) P0 at_7  rfl ?_
  refine Own.bipush (q := 10) (v := (7 : Int32)) P0 at_8 rfl rfl ?_
  refine Own.iand (q := 11) P0 at_10  rfl ?_
  refine Own.istore (q := 13) (L2 := #[.val (.int x0), .val (.int x1), .val (.int x2), .val (.int x3), .val (.int x4), .val (.int (x0 &&& (1 : Int32))), .val (.int ((Jvm.Free.XT.ushr x0 (1 : Int32)) &&& (7 : Int32))), .unset, .unset, .unset, .unset, .unset, .unset, .unset, .unset, .unset, .unset, .unset, .unset, .unset, .unset, .unset, .unset, .unset]) P0 at_11 rfl rfl ?_
  refine Own.iconst (q := 14) (v := (0 : Int32)) P0 at_13 rfl rfl ?_
  refine Own.iload (q := 16) P0 at_14 rfl rfl ?_
  refine Own.iloadN (q := 17) P0 at_16 rfl rfl ?_
  refine Own.iconst (q := 18) (v := (0 : Int32)) P0 at_17 rfl rfl ?_
  refine Own.iloadN (q := 19) P0 at_18 rfl rfl ?_
  refine Own.iload (q := 21) P0 at_19 rfl rfl ?_
  refine Own.invStaticH (q := 24) (W := 0) (y := (⟨"com/example/mokuroku/mokuroku/formats/JpcoarReaderIsReadingLanguagePinLaw", "pick", "(IIIIII)C"⟩ : MethodName)) (argsL := [(.int (0 : Int32)), (.int (x0 &&& (1 : Int32))), (.int x1), (.int (0 : Int32)), (.int x3), (.int x4)]) (rest := []) P0 H0 at_21 (hw _ (List.mem_of_getElem? (i := 0) rfl)) (hw _ (List.mem_of_getElem? (i := 1) rfl)) (hw _ (List.mem_of_getElem? (i := 2) rfl)) (hw _ (List.mem_of_getElem? (i := 3) rfl)) (by decide) (Own.backH (W := 0) (rmPick l Z a0 hw [] (0 : Int32) (x0 &&& (1 : Int32)) x1 (0 : Int32) x3 x4 0 zc fm h0 n0 Z0 SC hzc SF hfm rfl (by decide)) P0.2.2.2.1 (hw _ (List.mem_of_getElem? (i := 3) rfl)) (hw _ (List.mem_of_getElem? (i := 2) rfl)) (by decide) (by decide) (ew hw) H0.2.1 all0) rfl rfl (by rw [hml]; rfl) (lenOf (show parseMethodDescriptor "(IIIIII)C" = some ⟨[.int, .int, .int, .int, .int, .int], some .char⟩ from by decide +kernel) rfl) (by show 2 * 0 + _ ≤ _; exact Nat.le_of_eq rfl) (by decide) (by decide) rfl ?_
  rintro v21 T21 vm21 h21 L21 ⟨c0, rfl, rc0, N21q, E21⟩ P21 H21 hr21
  have N21 := Fr.app N0 N21q
  show Own.Goes _ _ _ _ (T21.setTop (mkF m 24 #[.val (.int x0), .val (.int x1), .val (.int x2), .val (.int x3), .val (.int x4), .val (.int (x0 &&& (1 : Int32))), .val (.int ((Jvm.Free.XT.ushr x0 (1 : Int32)) &&& (7 : Int32))), .unset, .unset, .unset, .unset, .unset, .unset, .unset, .unset, .unset, .unset, .unset, .unset, .unset, .unset, .unset, .unset, .unset] [(.int c0)]))
  refine Own.istore (q := 26) (L2 := #[.val (.int x0), .val (.int x1), .val (.int x2), .val (.int x3), .val (.int x4), .val (.int (x0 &&& (1 : Int32))), .val (.int ((Jvm.Free.XT.ushr x0 (1 : Int32)) &&& (7 : Int32))), .val (.int c0), .unset, .unset, .unset, .unset, .unset, .unset, .unset, .unset, .unset, .unset, .unset, .unset, .unset, .unset, .unset, .unset]) P21 at_24 rfl rfl ?_
  refine Own.iconst (q := 27) (v := (1 : Int32)) P21 at_26 rfl rfl ?_
  refine Own.iload (q := 29) P21 at_27 rfl rfl ?_
  refine Own.iloadN (q := 30) P21 at_29 rfl rfl ?_
  refine Own.bipush (q := 32) (v := (8 : Int32)) P21 at_30 rfl rfl ?_
  refine Own.iloadN (q := 33) P21 at_32 rfl rfl ?_
  refine Own.iload (q := 35) P21 at_33 rfl rfl ?_
  have E0_1_22 : Ext h0 h21 := E21
  refine Own.invStaticH (q := 38) (W := 0) (y := (⟨"com/example/mokuroku/mokuroku/formats/JpcoarReaderIsReadingLanguagePinLaw", "pick", "(IIIIII)C"⟩ : MethodName)) (argsL := [(.int (1 : Int32)), (.int (x0 &&& (1 : Int32))), (.int x1), (.int (8 : Int32)), (.int x3), (.int x4)]) (rest := []) P21 H21 at_35 (hw _ (List.mem_of_getElem? (i := 0) rfl)) (hw _ (List.mem_of_getElem? (i := 1) rfl)) (hw _ (List.mem_of_getElem? (i := 2) rfl)) (hw _ (List.mem_of_getElem? (i := 3) rfl)) (by decide) (Own.backH (W := 0) (rmPick l Z a0 hw [] (1 : Int32) (x0 &&& (1 : Int32)) x1 (8 : Int32) x3 x4 1 zc fm h21 n0 (Nat.le_trans Z0 E0_1_22.1) (SC.ext E0_1_22) hzc (SF.ext E0_1_22) hfm rfl (by decide)) P21.2.2.2.1 (hw _ (List.mem_of_getElem? (i := 3) rfl)) (hw _ (List.mem_of_getElem? (i := 2) rfl)) (by decide) (by decide) (ew hw) H21.2.1 all0) rfl rfl (by rw [hml]; rfl) (lenOf (show parseMethodDescriptor "(IIIIII)C" = some ⟨[.int, .int, .int, .int, .int, .int], some .char⟩ from by decide +kernel) rfl) (by show 2 * 0 + _ ≤ _; exact Nat.le_of_eq rfl) (by decide) (by decide) rfl ?_
  rintro v23 T23 vm23 h23 L23 ⟨c1, rfl, rc1, N23q, E23⟩ P23 H23 hr23
  have N23 := Fr.app N21 N23q
  show Own.Goes _ _ _ _ (T23.setTop (mkF m 38 #[.val (.int x0), .val (.int x1), .val (.int x2), .val (.int x3), .val (.int x4), .val (.int (x0 &&& (1 : Int32))), .val (.int ((Jvm.Free.XT.ushr x0 (1 : Int32)) &&& (7 : Int32))), .val (.int c0), .unset, .unset, .unset, .unset, .unset, .unset, .unset, .unset, .unset, .unset, .unset, .unset, .unset, .unset, .unset, .unset] [(.int c1)]))
  refine Own.istore (q := 40) (L2 := #[.val (.int x0), .val (.int x1), .val (.int x2), .val (.int x3), .val (.int x4), .val (.int (x0 &&& (1 : Int32))), .val (.int ((Jvm.Free.XT.ushr x0 (1 : Int32)) &&& (7 : Int32))), .val (.int c0), .val (.int c1), .unset, .unset, .unset, .unset, .unset, .unset, .unset, .unset, .unset, .unset, .unset, .unset, .unset, .unset, .unset]) P23 at_38 rfl rfl ?_
  refine Own.iconst (q := 41) (v := (2 : Int32)) P23 at_40 rfl rfl ?_
  refine Own.iload (q := 43) P23 at_41 rfl rfl ?_
  refine Own.iloadN (q := 44) P23 at_43 rfl rfl ?_
  refine Own.bipush (q := 46) (v := (16 : Int32)) P23 at_44 rfl rfl ?_
  refine Own.iloadN (q := 47) P23 at_46 rfl rfl ?_
  refine Own.iload (q := 49) P23 at_47 rfl rfl ?_
  have E0_2_24 : Ext h0 h23 := (Own.Ext.tr E0_1_22 E23)
  refine Own.invStaticH (q := 52) (W := 0) (y := (⟨"com/example/mokuroku/mokuroku/formats/JpcoarReaderIsReadingLanguagePinLaw", "pick", "(IIIIII)C"⟩ : MethodName)) (argsL := [(.int (2 : Int32)), (.int (x0 &&& (1 : Int32))), (.int x1), (.int (16 : Int32)), (.int x3), (.int x4)]) (rest := []) P23 H23 at_49 (hw _ (List.mem_of_getElem? (i := 0) rfl)) (hw _ (List.mem_of_getElem? (i := 1) rfl)) (hw _ (List.mem_of_getElem? (i := 2) rfl)) (hw _ (List.mem_of_getElem? (i := 3) rfl)) (by decide) (Own.backH (W := 0) (rmPick l Z a0 hw [] (2 : Int32) (x0 &&& (1 : Int32)) x1 (16 : Int32) x3 x4 2 zc fm h23 n0 (Nat.le_trans Z0 E0_2_24.1) (SC.ext E0_2_24) hzc (SF.ext E0_2_24) hfm rfl (by decide)) P23.2.2.2.1 (hw _ (List.mem_of_getElem? (i := 3) rfl)) (hw _ (List.mem_of_getElem? (i := 2) rfl)) (by decide) (by decide) (ew hw) H23.2.1 all0) rfl rfl (by rw [hml]; rfl) (lenOf (show parseMethodDescriptor "(IIIIII)C" = some ⟨[.int, .int, .int, .int, .int, .int], some .char⟩ from by decide +kernel) rfl) (by show 2 * 0 + _ ≤ _; exact Nat.le_of_eq rfl) (by decide) (by decide) rfl ?_
  rintro v25 T25 vm25 h25 L25 ⟨c2, rfl, rc2, N25q, E25⟩ P25 H25 hr25
  have N25 := Fr.app N23 N25q
  show Own.Goes _ _ _ _ (T25.setTop (mkF m 52 #[.val (.int x0), .val (.int x1), .val (.int x2), .val (.int x3), .val (.int x4), .val (.int (x0 &&& (1 : Int32))), .val (.int ((Jvm.Free.XT.ushr x0 (1 : Int32)) &&& (7 : Int32))), .val (.int c0), .val (.int c1), .unset, .unset, .unset, .unset, .unset, .unset, .unset, .unset, .unset, .unset, .unset, .unset, .unset, .unset, .unset] [(.int c2)]))
  refine Own.istore (q := 54) (L2 := #[.val (.int x0), .val (.int x1), .val (.int x2), .val (.int x3), .val (.int x4), .val (.int (x0 &&& (1 : Int32))), .val (.int ((Jvm.Free.XT.ushr x0 (1 : Int32)) &&& (7 : Int32))), .val (.int c0), .val (.int c1), .val (.int c2), .unset, .unset, .unset, .unset, .unset, .unset, .unset, .unset, .unset, .unset, .unset, .unset, .unset, .unset]) P25 at_52 rfl rfl ?_
  refine Own.iconst (q := 55) (v := (3 : Int32)) P25 at_54 rfl rfl ?_
  refine Own.iload (q := 57) P25 at_55 rfl rfl ?_
  refine Own.iloadN (q := 58) P25 at_57 rfl rfl ?_
  refine Own.bipush (q := 60) (v := (24 : Int32)) P25 at_58 rfl rfl ?_
  refine Own.iloadN (q := 61) P25 at_60 rfl rfl ?_
  refine Own.iload (q := 63) P25 at_61 rfl rfl ?_
  have E0_3_26 : Ext h0 h25 := (Own.Ext.tr E0_2_24 E25)
  refine Own.invStaticH (q := 66) (W := 0) (y := (⟨"com/example/mokuroku/mokuroku/formats/JpcoarReaderIsReadingLanguagePinLaw", "pick", "(IIIIII)C"⟩ : MethodName)) (argsL := [(.int (3 : Int32)), (.int (x0 &&& (1 : Int32))), (.int x1), (.int (24 : Int32)), (.int x3), (.int x4)]) (rest := []) P25 H25 at_63 (hw _ (List.mem_of_getElem? (i := 0) rfl)) (hw _ (List.mem_of_getElem? (i := 1) rfl)) (hw _ (List.mem_of_getElem? (i := 2) rfl)) (hw _ (List.mem_of_getElem? (i := 3) rfl)) (by decide) (Own.backH (W := 0) (rmPick l Z a0 hw [] (3 : Int32) (x0 &&& (1 : Int32)) x1 (24 : Int32) x3 x4 3 zc fm h25 n0 (Nat.le_trans Z0 E0_3_26.1) (SC.ext E0_3_26) hzc (SF.ext E0_3_26) hfm rfl (by decide)) P25.2.2.2.1 (hw _ (List.mem_of_getElem? (i := 3) rfl)) (hw _ (List.mem_of_getElem? (i := 2) rfl)) (by decide) (by decide) (ew hw) H25.2.1 all0) rfl rfl (by rw [hml]; rfl) (lenOf (show parseMethodDescriptor "(IIIIII)C" = some ⟨[.int, .int, .int, .int, .int, .int], some .char⟩ from by decide +kernel) rfl) (by show 2 * 0 + _ ≤ _; exact Nat.le_of_eq rfl) (by decide) (by decide) rfl ?_
  rintro v27 T27 vm27 h27 L27 ⟨c3, rfl, rc3, N27q, E27⟩ P27 H27 hr27
  have N27 := Fr.app N25 N27q
  show Own.Goes _ _ _ _ (T27.setTop (mkF m 66 #[.val (.int x0), .val (.int x1), .val (.int x2), .val (.int x3), .val (.int x4), .val (.int (x0 &&& (1 : Int32))), .val (.int ((Jvm.Free.XT.ushr x0 (1 : Int32)) &&& (7 : Int32))), .val (.int c0), .val (.int c1), .val (.int c2), .unset, .unset, .unset, .unset, .unset, .unset, .unset, .unset, .unset, .unset, .unset, .unset, .unset, .unset] [(.int c3)]))
  refine Own.istore (q := 68) (L2 := #[.val (.int x0), .val (.int x1), .val (.int x2), .val (.int x3), .val (.int x4), .val (.int (x0 &&& (1 : Int32))), .val (.int ((Jvm.Free.XT.ushr x0 (1 : Int32)) &&& (7 : Int32))), .val (.int c0), .val (.int c1), .val (.int c2), .val (.int c3), .unset, .unset, .unset, .unset, .unset, .unset, .unset, .unset, .unset, .unset, .unset, .unset, .unset]) P27 at_66 rfl rfl ?_
  refine Own.iconst (q := 69) (v := (4 : Int32)) P27 at_68 rfl rfl ?_
  refine Own.iload (q := 71) P27 at_69 rfl rfl ?_
  refine Own.iloadN (q := 72) P27 at_71 rfl rfl ?_
  refine Own.iconst (q := 73) (v := (0 : Int32)) P27 at_72 rfl rfl ?_
  refine Own.iloadN (q := 74) P27 at_73 rfl rfl ?_
  refine Own.iload (q := 76) P27 at_74 rfl rfl ?_
  have E0_4_28 : Ext h0 h27 := (Own.Ext.tr E0_3_26 E27)
  refine Own.invStaticH (q := 79) (W := 0) (y := (⟨"com/example/mokuroku/mokuroku/formats/JpcoarReaderIsReadingLanguagePinLaw", "pick", "(IIIIII)C"⟩ : MethodName)) (argsL := [(.int (4 : Int32)), (.int (x0 &&& (1 : Int32))), (.int x2), (.int (0 : Int32)), (.int x3), (.int x4)]) (rest := []) P27 H27 at_76 (hw _ (List.mem_of_getElem? (i := 0) rfl)) (hw _ (List.mem_of_getElem? (i := 1) rfl)) (hw _ (List.mem_of_getElem? (i := 2) rfl)) (hw _ (List.mem_of_getElem? (i := 3) rfl)) (by decide) (Own.backH (W := 0) (rmPick l Z a0 hw [] (4 : Int32) (x0 &&& (1 : Int32)) x2 (0 : Int32) x3 x4 4 zc fm h27 n0 (Nat.le_trans Z0 E0_4_28.1) (SC.ext E0_4_28) hzc (SF.ext E0_4_28) hfm rfl (by decide)) P27.2.2.2.1 (hw _ (List.mem_of_getElem? (i := 3) rfl)) (hw _ (List.mem_of_getElem? (i := 2) rfl)) (by decide) (by decide) (ew hw) H27.2.1 all0) rfl rfl (by rw [hml]; rfl) (lenOf (show parseMethodDescriptor "(IIIIII)C" = some ⟨[.int, .int, .int, .int, .int, .int], some .char⟩ from by decide +kernel) rfl) (by show 2 * 0 + _ ≤ _; exact Nat.le_of_eq rfl) (by decide) (by decide) rfl ?_
  rintro v29 T29 vm29 h29 L29 ⟨c4, rfl, rc4, N29q, E29⟩ P29 H29 hr29
  have N29 := Fr.app N27 N29q
  show Own.Goes _ _ _ _ (T29.setTop (mkF m 79 #[.val (.int x0), .val (.int x1), .val (.int x2), .val (.int x3), .val (.int x4), .val (.int (x0 &&& (1 : Int32))), .val (.int ((Jvm.Free.XT.ushr x0 (1 : Int32)) &&& (7 : Int32))), .val (.int c0), .val (.int c1), .val (.int c2), .val (.int c3), .unset, .unset, .unset, .unset, .unset, .unset, .unset, .unset, .unset, .unset, .unset, .unset, .unset] [(.int c4)]))
  refine Own.istore (q := 81) (L2 := #[.val (.int x0), .val (.int x1), .val (.int x2), .val (.int x3), .val (.int x4), .val (.int (x0 &&& (1 : Int32))), .val (.int ((Jvm.Free.XT.ushr x0 (1 : Int32)) &&& (7 : Int32))), .val (.int c0), .val (.int c1), .val (.int c2), .val (.int c3), .val (.int c4), .unset, .unset, .unset, .unset, .unset, .unset, .unset, .unset, .unset, .unset, .unset, .unset]) P29 at_79 rfl rfl ?_
  refine Own.iconst (q := 82) (v := (5 : Int32)) P29 at_81 rfl rfl ?_
  refine Own.iload (q := 84) P29 at_82 rfl rfl ?_
  refine Own.iloadN (q := 85) P29 at_84 rfl rfl ?_
  refine Own.bipush (q := 87) (v := (8 : Int32)) P29 at_85 rfl rfl ?_
  refine Own.iloadN (q := 88) P29 at_87 rfl rfl ?_
  refine Own.iload (q := 90) P29 at_88 rfl rfl ?_
  have E0_5_30 : Ext h0 h29 := (Own.Ext.tr E0_4_28 E29)
  refine Own.invStaticH (q := 93) (W := 0) (y := (⟨"com/example/mokuroku/mokuroku/formats/JpcoarReaderIsReadingLanguagePinLaw", "pick", "(IIIIII)C"⟩ : MethodName)) (argsL := [(.int (5 : Int32)), (.int (x0 &&& (1 : Int32))), (.int x2), (.int (8 : Int32)), (.int x3), (.int x4)]) (rest := []) P29 H29 at_90 (hw _ (List.mem_of_getElem? (i := 0) rfl)) (hw _ (List.mem_of_getElem? (i := 1) rfl)) (hw _ (List.mem_of_getElem? (i := 2) rfl)) (hw _ (List.mem_of_getElem? (i := 3) rfl)) (by decide) (Own.backH (W := 0) (rmPick l Z a0 hw [] (5 : Int32) (x0 &&& (1 : Int32)) x2 (8 : Int32) x3 x4 5 zc fm h29 n0 (Nat.le_trans Z0 E0_5_30.1) (SC.ext E0_5_30) hzc (SF.ext E0_5_30) hfm rfl (by decide)) P29.2.2.2.1 (hw _ (List.mem_of_getElem? (i := 3) rfl)) (hw _ (List.mem_of_getElem? (i := 2) rfl)) (by decide) (by decide) (ew hw) H29.2.1 all0) rfl rfl (by rw [hml]; rfl) (lenOf (show parseMethodDescriptor "(IIIIII)C" = some ⟨[.int, .int, .int, .int, .int, .int], some .char⟩ from by decide +kernel) rfl) (by show 2 * 0 + _ ≤ _; exact Nat.le_of_eq rfl) (by decide) (by decide) rfl ?_
  rintro v31 T31 vm31 h31 L31 ⟨c5, rfl, rc5, N31q, E31⟩ P31 H31 hr31
  have N31 := Fr.app N29 N31q
  show Own.Goes _ _ _ _ (T31.setTop (mkF m 93 #[.val (.int x0), .val (.int x1), .val (.int x2), .val (.int x3), .val (.int x4), .val (.int (x0 &&& (1 : Int32))), .val (.int ((Jvm.Free.XT.ushr x0 (1 : Int32)) &&& (7 : Int32))), .val (.int c0), .val (.int c1), .val (.int c2), .val (.int c3), .val (.int c4), .unset, .unset, .unset, .unset, .unset, .unset, .unset, .unset, .unset, .unset, .unset, .unset] [(.int c5)]))
  refine Own.istore (q := 95) (L2 := #[.val (.int x0), .val (.int x1), .val (.int x2), .val (.int x3), .val (.int x4), .val (.int (x0 &&& (1 : Int32))), .val (.int ((Jvm.Free.XT.ushr x0 (1 : Int32)) &&& (7 : Int32))), .val (.int c0), .val (.int c1), .val (.int c2), .val (.int c3), .val (.int c4), .val (.int c5), .unset, .unset, .unset, .unset, .unset, .unset, .unset, .unset, .unset, .unset, .unset]) P31 at_93 rfl rfl ?_
  refine Own.bipush (q := 97) (v := (6 : Int32)) P31 at_95 rfl rfl ?_
  refine Own.iload (q := 99) P31 at_97 rfl rfl ?_
  refine Own.iloadN (q := 100) P31 at_99 rfl rfl ?_
  refine Own.bipush (q := 102) (v := (16 : Int32)) P31 at_100 rfl rfl ?_
  refine Own.iloadN (q := 103) P31 at_102 rfl rfl ?_
  refine Own.iload (q := 105) P31 at_103 rfl rfl ?_
  have E0_6_32 : Ext h0 h31 := (Own.Ext.tr E0_5_30 E31)
  refine Own.invStaticH (q := 108) (W := 0) (y := (⟨"com/example/mokuroku/mokuroku/formats/JpcoarReaderIsReadingLanguagePinLaw", "pick", "(IIIIII)C"⟩ : MethodName)) (argsL := [(.int (6 : Int32)), (.int (x0 &&& (1 : Int32))), (.int x2), (.int (16 : Int32)), (.int x3), (.int x4)]) (rest := []) P31 H31 at_105 (hw _ (List.mem_of_getElem? (i := 0) rfl)) (hw _ (List.mem_of_getElem? (i := 1) rfl)) (hw _ (List.mem_of_getElem? (i := 2) rfl)) (hw _ (List.mem_of_getElem? (i := 3) rfl)) (by decide) (Own.backH (W := 0) (rmPick l Z a0 hw [] (6 : Int32) (x0 &&& (1 : Int32)) x2 (16 : Int32) x3 x4 6 zc fm h31 n0 (Nat.le_trans Z0 E0_6_32.1) (SC.ext E0_6_32) hzc (SF.ext E0_6_32) hfm rfl (by decide)) P31.2.2.2.1 (hw _ (List.mem_of_getElem? (i := 3) rfl)) (hw _ (List.mem_of_getElem? (i := 2) rfl)) (by decide) (by decide) (ew hw) H31.2.1 all0) rfl rfl (by rw [hml]; rfl) (lenOf (show parseMethodDescriptor "(IIIIII)C" = some ⟨[.int, .int, .int, .int, .int, .int], some .char⟩ from by decide +kernel) rfl) (by show 2 * 0 + _ ≤ _; exact Nat.le_of_eq rfl) (by decide) (by decide) rfl ?_
  rintro v33 T33 vm33 h33 L33 ⟨c6, rfl, rc6, N33q, E33⟩ P33 H33 hr33
  have N33 := Fr.app N31 N33q
  show Own.Goes _ _ _ _ (T33.setTop (mkF m 108 #[.val (.int x0), .val (.int x1), .val (.int x2), .val (.int x3), .val (.int x4), .val (.int (x0 &&& (1 : Int32))), .val (.int ((Jvm.Free.XT.ushr x0 (1 : Int32)) &&& (7 : Int32))), .val (.int c0), .val (.int c1), .val (.int c2), .val (.int c3), .val (.int c4), .val (.int c5), .unset, .unset, .unset, .unset, .unset, .unset, .unset, .unset, .unset, .unset, .unset] [(.int c6)]))
  refine Own.istore (q := 110) (L2 := #[.val (.int x0), .val (.int x1), .val (.int x2), .val (.int x3), .val (.int x4), .val (.int (x0 &&& (1 : Int32))), .val (.int ((Jvm.Free.XT.ushr x0 (1 : Int32)) &&& (7 : Int32))), .val (.int c0), .val (.int c1), .val (.int c2), .val (.int c3), .val (.int c4), .val (.int c5), .val (.int c6), .unset, .unset, .unset, .unset, .unset, .unset, .unset, .unset, .unset, .unset]) P33 at_108 rfl rfl ?_
  refine Own.bipush (q := 112) (v := (7 : Int32)) P33 at_110 rfl rfl ?_
  refine Own.iload (q := 114) P33 at_112 rfl rfl ?_
  refine Own.iloadN (q := 115) P33 at_114 rfl rfl ?_
  refine Own.bipush (q := 117) (v := (24 : Int32)) P33 at_115 rfl rfl ?_
  refine Own.iloadN (q := 118) P33 at_117 rfl rfl ?_
  refine Own.iload (q := 120) P33 at_118 rfl rfl ?_
  have E0_7_34 : Ext h0 h33 := (Own.Ext.tr E0_6_32 E33)
  refine Own.invStaticH (q := 123) (W := 0) (y := (⟨"com/example/mokuroku/mokuroku/formats/JpcoarReaderIsReadingLanguagePinLaw", "pick", "(IIIIII)C"⟩ : MethodName)) (argsL := [(.int (7 : Int32)), (.int (x0 &&& (1 : Int32))), (.int x2), (.int (24 : Int32)), (.int x3), (.int x4)]) (rest := []) P33 H33 at_120 (hw _ (List.mem_of_getElem? (i := 0) rfl)) (hw _ (List.mem_of_getElem? (i := 1) rfl)) (hw _ (List.mem_of_getElem? (i := 2) rfl)) (hw _ (List.mem_of_getElem? (i := 3) rfl)) (by decide) (Own.backH (W := 0) (rmPick l Z a0 hw [] (7 : Int32) (x0 &&& (1 : Int32)) x2 (24 : Int32) x3 x4 7 zc fm h33 n0 (Nat.le_trans Z0 E0_7_34.1) (SC.ext E0_7_34) hzc (SF.ext E0_7_34) hfm rfl (by decide)) P33.2.2.2.1 (hw _ (List.mem_of_getElem? (i := 3) rfl)) (hw _ (List.mem_of_getElem? (i := 2) rfl)) (by decide) (by decide) (ew hw) H33.2.1 all0) rfl rfl (by rw [hml]; rfl) (lenOf (show parseMethodDescriptor "(IIIIII)C" = some ⟨[.int, .int, .int, .int, .int, .int], some .char⟩ from by decide +kernel) rfl) (by show 2 * 0 + _ ≤ _; exact Nat.le_of_eq rfl) (by decide) (by decide) rfl ?_
  rintro v35 T35 vm35 h35 L35 ⟨c7, rfl, rc7, N35q, E35⟩ P35 H35 hr35
  have N35 := Fr.app N33 N35q
  show Own.Goes _ _ _ _ (T35.setTop (mkF m 123 #[.val (.int x0), .val (.int x1), .val (.int x2), .val (.int x3), .val (.int x4), .val (.int (x0 &&& (1 : Int32))), .val (.int ((Jvm.Free.XT.ushr x0 (1 : Int32)) &&& (7 : Int32))), .val (.int c0), .val (.int c1), .val (.int c2), .val (.int c3), .val (.int c4), .val (.int c5), .val (.int c6), .unset, .unset, .unset, .unset, .unset, .unset, .unset, .unset, .unset, .unset] [(.int c7)]))
  refine Own.istore (q := 125) (L2 := #[.val (.int x0), .val (.int x1), .val (.int x2), .val (.int x3), .val (.int x4), .val (.int (x0 &&& (1 : Int32))), .val (.int ((Jvm.Free.XT.ushr x0 (1 : Int32)) &&& (7 : Int32))), .val (.int c0), .val (.int c1), .val (.int c2), .val (.int c3), .val (.int c4), .val (.int c5), .val (.int c6), .val (.int c7), .unset, .unset, .unset, .unset, .unset, .unset, .unset, .unset, .unset]) P35 at_123 rfl rfl ?_
  refine Own.bipush (q := 127) (v := (6 : Int32)) P35 at_125 rfl rfl ?_
  refine Own.newarr (q := 129) (cap := 6) P35 at_127 (hw _ (List.mem_of_getElem? (i := 37) rfl)) (by decide) (by decide) (by decide) (by decide) (by decide) rfl ?_
  intro T36 h36 a36 k36 ha36 P36 E36 A36
  have V36 : Arv Z h36 a36 k36 .char (6 : Int32) [(.int 0), (.int 0), (.int 0), (.int 0), (.int 0), (.int 0)] (.int 0) := Arv.pad A36 (pad_rep [] _ 6)
  refine Own.astore (q := 131) (L2 := #[.val (.int x0), .val (.int x1), .val (.int x2), .val (.int x3), .val (.int x4), .val (.int (x0 &&& (1 : Int32))), .val (.int ((Jvm.Free.XT.ushr x0 (1 : Int32)) &&& (7 : Int32))), .val (.int c0), .val (.int c1), .val (.int c2), .val (.int c3), .val (.int c4), .val (.int c5), .val (.int c6), .val (.int c7), .val (.ref a36), .unset, .unset, .unset, .unset, .unset, .unset, .unset, .unset]) P36 at_129 rfl rfl rfl ?_
  refine Own.bipush (q := 133) (v := (7 : Int32)) P36 at_131 rfl rfl ?_
  refine Own.newarr (q := 135) (cap := 7) P36 at_133 (hw _ (List.mem_of_getElem? (i := 37) rfl)) (by decide) (by decide) (by decide) (by decide) (by decide) rfl ?_
  intro T37 h37 a37 k37 ha37 P37 E37 A37
  have V37 : Arv Z h37 a37 k37 .char (7 : Int32) [(.int 0), (.int 0), (.int 0), (.int 0), (.int 0), (.int 0), (.int 0)] (.int 0) := Arv.pad A37 (pad_rep [] _ 7)
  refine Own.astore (q := 137) (L2 := #[.val (.int x0), .val (.int x1), .val (.int x2), .val (.int x3), .val (.int x4), .val (.int (x0 &&& (1 : Int32))), .val (.int ((Jvm.Free.XT.ushr x0 (1 : Int32)) &&& (7 : Int32))), .val (.int c0), .val (.int c1), .val (.int c2), .val (.int c3), .val (.int c4), .val (.int c5), .val (.int c6), .val (.int c7), .val (.ref a36), .val (.ref a37), .unset, .unset, .unset, .unset, .unset, .unset, .unset]) P37 at_135 rfl rfl rfl ?_
  refine Own.bipush (q := 139) (v := (8 : Int32)) P37 at_137 rfl rfl ?_
  refine Own.newarr (q := 141) (cap := 8) P37 at_139 (hw _ (List.mem_of_getElem? (i := 37) rfl)) (by decide) (by decide) (by decide) (by decide) (by decide) rfl ?_
  intro T38 h38 a38 k38 ha38 P38 E38 A38
  have V38 : Arv Z h38 a38 k38 .char (8 : Int32) [(.int 0), (.int 0), (.int 0), (.int 0), (.int 0), (.int 0), (.int 0), (.int 0)] (.int 0) := Arv.pad A38 (pad_rep [] _ 8)
  refine Own.astore (q := 143) (L2 := #[.val (.int x0), .val (.int x1), .val (.int x2), .val (.int x3), .val (.int x4), .val (.int (x0 &&& (1 : Int32))), .val (.int ((Jvm.Free.XT.ushr x0 (1 : Int32)) &&& (7 : Int32))), .val (.int c0), .val (.int c1), .val (.int c2), .val (.int c3), .val (.int c4), .val (.int c5), .val (.int c6), .val (.int c7), .val (.ref a36), .val (.ref a37), .val (.ref a38), .unset, .unset, .unset, .unset, .unset, .unset]) P38 at_141 rfl rfl rfl ?_
  refine Own.iconst (q := 144) (v := (0 : Int32)) P38 at_143 rfl rfl ?_
  refine Own.newarr (q := 146) (cap := 0) P38 at_144 (hw _ (List.mem_of_getElem? (i := 37) rfl)) (by decide) (by decide) (by decide) (by decide) (by decide) rfl ?_
  intro T39 h39 a39 k39 ha39 P39 E39 A39
  have V39 : Arv Z h39 a39 k39 .char (0 : Int32) [] (.int 0) := Arv.pad A39 (pad_rep [] _ 0)
  refine Own.astore (q := 148) (L2 := #[.val (.int x0), .val (.int x1), .val (.int x2), .val (.int x3), .val (.int x4), .val (.int (x0 &&& (1 : Int32))), .val (.int ((Jvm.Free.XT.ushr x0 (1 : Int32)) &&& (7 : Int32))), .val (.int c0), .val (.int c1), .val (.int c2), .val (.int c3), .val (.int c4), .val (.int c5), .val (.int c6), .val (.int c7), .val (.ref a36), .val (.ref a37), .val (.ref a38), .val (.ref a39), .unset, .unset, .unset, .unset, .unset]) P39 at_146 rfl rfl rfl ?_
  refine Own.aload (q := 150) P39 at_148 rfl rfl rfl ?_
  refine Own.iconst (q := 151) (v := (0 : Int32)) P39 at_150 rfl rfl ?_
  refine Own.iload (q := 153) P39 at_151 rfl rfl ?_
  have E9_10_40 : Ext h36 h37 := E37
  have E9_11_41 : Ext h36 h38 := (Own.Ext.tr E9_10_40 E38)
  have E9_12_42 : Ext h36 h39 := (Own.Ext.tr E9_11_41 E39)
  refine Own.castore (q := 154) (i := 0) (x2 := c0) P39 at_153 (V36.ext E9_12_42) (by decide) (by decide) (Own.nar_id rc0) (Own.fits_ch rc0) (by decide) (Own.ltb rfl) rfl ?_
  intro T43 h43 lc43 hl43 P43 W43 A43
  have V43 : Arv Z h43 a36 k36 .char (6 : Int32) [(.int c0), (.int 0), (.int 0), (.int 0), (.int 0), (.int 0)] (.int 0) := A43
  have E0_8_44 : Ext h0 h35 := (Own.Ext.tr E0_7_34 E35)
  have N43 := Own.Fr.one N35 hl43 (Nat.le_trans Z0 (Nat.le_trans E0_8_44.1 (Nat.le_of_eq ha36.symm)))
  refine Own.aload (q := 156) P43 at_154 rfl rfl rfl ?_
  refine Own.iconst (q := 157) (v := (1 : Int32)) P43 at_156 rfl rfl ?_
  refine Own.iload (q := 159) P43 at_157 rfl rfl ?_
  refine Own.castore (q := 160) (i := 1) (x2 := c1) P43 at_159 V43 (by decide) (by decide) (Own.nar_id rc1) (Own.fits_ch rc1) (by decide) (Own.ltb rfl) rfl ?_
  intro T45 h45 lc45 hl45 P45 W45 A45
  have V45 : Arv Z h45 a36 k36 .char (6 : Int32) [(.int c0), (.int c1), (.int 0), (.int 0), (.int 0), (.int 0)] (.int 0) := A45
  have N45 := Own.Fr.one N43 hl45 (Nat.le_trans Z0 (Nat.le_trans E0_8_44.1 (Nat.le_of_eq ha36.symm)))
  refine Own.aload (q := 162) P45 at_160 rfl rfl rfl ?_
  refine Own.iconst (q := 163) (v := (2 : Int32)) P45 at_162 rfl rfl ?_
  refine Own.iload (q := 165) P45 at_163 rfl rfl ?_
  refine Own.castore (q := 166) (i := 2) (x2 := c2) P45 at_165 V45 (by decide) (by decide) (Own.nar_id rc2) (Own.fits_ch rc2) (by decide) (Own.ltb rfl) rfl ?_
  intro T46 h46 lc46 hl46 P46 W46 A46
  have V46 : Arv Z h46 a36 k36 .char (6 : Int32) [(.int c0), (.int c1), (.int c2), (.int 0), (.int 0), (.int 0)] (.int 0) := A46
  have N46 := Own.Fr.one N45 hl46 (Nat.le_trans Z0 (Nat.le_trans E0_8_44.1 (Nat.le_of_eq ha36.symm)))
  refine Own.aload (q := 168) P46 at_166 rfl rfl rfl ?_
  refine Own.iconst (q := 169) (v := (3 : Int32)) P46 at_168 rfl rfl ?_
  refine Own.iload (q := 171) P46 at_169 rfl rfl ?_
  refine Own.castore (q := 172) (i := 3) (x2 := c3) P46 at_171 V46 (by decide) (by decide) (Own.nar_id rc3) (Own.fits_ch rc3) (by decide) (Own.ltb rfl) rfl ?_
  intro T47 h47 lc47 hl47 P47 W47 A47
  have V47 : Arv Z h47 a36 k36 .char (6 : Int32) [(.int c0), (.int c1), (.int c2), (.int c3), (.int 0), (.int 0)] (.int 0) := A47
  have N47 := Own.Fr.one N46 hl47 (Nat.le_trans Z0 (Nat.le_trans E0_8_44.1 (Nat.le_of_eq ha36.symm)))
  refine Own.aload (q := 174) P47 at_172 rfl rfl rfl ?_
  refine Own.iconst (q := 175) (v := (4 : Int32)) P47 at_174 rfl rfl ?_
  refine Own.iload (q := 177) P47 at_175 rfl rfl ?_
  refine Own.castore (q := 178) (i := 4) (x2 := c4) P47 at_177 V47 (by decide) (by decide) (Own.nar_id rc4) (Own.fits_ch rc4) (by decide) (Own.ltb rfl) rfl ?_
  intro T48 h48 lc48 hl48 P48 W48 A48
  have V48 : Arv Z h48 a36 k36 .char (6 : Int32) [(.int c0), (.int c1), (.int c2), (.int c3), (.int c4), (.int 0)] (.int 0) := A48
  have N48 := Own.Fr.one N47 hl48 (Nat.le_trans Z0 (Nat.le_trans E0_8_44.1 (Nat.le_of_eq ha36.symm)))
  refine Own.aload (q := 180) P48 at_178 rfl rfl rfl ?_
  refine Own.iconst (q := 181) (v := (5 : Int32)) P48 at_180 rfl rfl ?_
  refine Own.iload (q := 183) P48 at_181 rfl rfl ?_
  refine Own.castore (q := 184) (i := 5) (x2 := c5) P48 at_183 V48 (by decide) (by decide) (Own.nar_id rc5) (Own.fits_ch rc5) (by decide) (Own.ltb rfl) rfl ?_
  intro T49 h49 lc49 hl49 P49 W49 A49
  have V49 : Arv Z h49 a36 k36 .char (6 : Int32) [(.int c0), (.int c1), (.int c2), (.int c3), (.int c4), (.int c5)] (.int 0) := A49
  have N49 := Own.Fr.one N48 hl49 (Nat.le_trans Z0 (Nat.le_trans E0_8_44.1 (Nat.le_of_eq ha36.symm)))
  refine Own.aload (q := 186) P49 at_184 rfl rfl rfl ?_
  refine Own.iconst (q := 187) (v := (0 : Int32)) P49 at_186 rfl rfl ?_
  refine Own.iload (q := 189) P49 at_187 rfl rfl ?_
  have qf50 := (V37.ext E38)
  have qf51 := (qf50.ext E39)
  have qf52 := (Arv.keep qf51 (Keep.of_wr W43) (ninS (Nat.ne_of_gt (Nat.lt_of_lt_of_le V36.lt (Nat.le_of_eq ha37.symm))) nin0))
  have qf53 := (Arv.keep qf52 (Keep.of_wr W45) (ninS (Nat.ne_of_gt (Nat.lt_of_lt_of_le V36.lt (Nat.le_of_eq ha37.symm))) nin0))
  have qf54 := (Arv.keep qf53 (Keep.of_wr W46) (ninS (Nat.ne_of_gt (Nat.lt_of_lt_of_le V36.lt (Nat.le_of_eq ha37.symm))) nin0))
  have qf55 := (Arv.keep qf54 (Keep.of_wr W47) (ninS (Nat.ne_of_gt (Nat.lt_of_lt_of_le V36.lt (Nat.le_of_eq ha37.symm))) nin0))
  have qf56 := (Arv.keep qf55 (Keep.of_wr W48) (ninS (Nat.ne_of_gt (Nat.lt_of_lt_of_le V36.lt (Nat.le_of_eq ha37.symm))) nin0))
  have qf57 := (Arv.keep qf56 (Keep.of_wr W49) (ninS (Nat.ne_of_gt (Nat.lt_of_lt_of_le V36.lt (Nat.le_of_eq ha37.symm))) nin0))
  refine Own.castore (q := 190) (i := 0) (x2 := c0) P49 at_189 qf57 (by decide) (by decide) (Own.nar_id rc0) (Own.fits_ch rc0) (by decide) (Own.ltb rfl) rfl ?_
  intro T58 h58 lc58 hl58 P58 W58 A58
  have V58 : Arv Z h58 a37 k37 .char (7 : Int32) [(.int c0), (.int 0), (.int 0), (.int 0), (.int 0), (.int 0), (.int 0)] (.int 0) := A58
  have E0_9_59 : Ext h0 h36 := (Own.Ext.tr E0_8_44 E36)
  have N58 := Own.Fr.one N49 hl58 (Nat.le_trans Z0 (Nat.le_trans E0_9_59.1 (Nat.le_of_eq ha37.symm)))
  refine Own.aload (q := 192) P58 at_190 rfl rfl rfl ?_
  refine Own.iconst (q := 193) (v := (1 : Int32)) P58 at_192 rfl rfl ?_
  refine Own.iload (q := 195) P58 at_193 rfl rfl ?_
  refine Own.castore (q := 196) (i := 1) (x2 := c1) P58 at_195 V58 (by decide) (by decide) (Own.nar_id rc1) (Own.fits_ch rc1) (by decide) (Own.ltb rfl) rfl ?_
  intro T60 h60 lc60 hl60 P60 W60 A60
  have V60 : Arv Z h60 a37 k37 .char (7 : Int32) [(.int c0), (.int c1), (.int 0), (.int 0), (.int 0), (.int 0), (.int 0)] (.int 0) := A60
  have N60 := Own.Fr.one N58 hl60 (Nat.le_trans Z0 (Nat.le_trans E0_9_59.1 (Nat.le_of_eq ha37.symm)))
  refine Own.aload (q := 198) P60 at_196 rfl rfl rfl ?_
  refine Own.iconst (q := 199) (v := (2 : Int32)) P60 at_198 rfl rfl ?_
  refine Own.iload (q := 201) P60 at_199 rfl rfl ?_
  refine Own.castore (q := 202) (i := 2) (x2 := c2) P60 at_201 V60 (by decide) (by decide) (Own.nar_id rc2) (Own.fits_ch rc2) (by decide) (Own.ltb rfl) rfl ?_
  intro T61 h61 lc61 hl61 P61 W61 A61
  have V61 : Arv Z h61 a37 k37 .char (7 : Int32) [(.int c0), (.int c1), (.int c2), (.int 0), (.int 0), (.int 0), (.int 0)] (.int 0) := A61
  have N61 := Own.Fr.one N60 hl61 (Nat.le_trans Z0 (Nat.le_trans E0_9_59.1 (Nat.le_of_eq ha37.symm)))
  refine Own.aload (q := 204) P61 at_202 rfl rfl rfl ?_
  refine Own.iconst (q := 205) (v := (3 : Int32)) P61 at_204 rfl rfl ?_
  refine Own.iload (q := 207) P61 at_205 rfl rfl ?_
  refine Own.castore (q := 208) (i := 3) (x2 := c3) P61 at_207 V61 (by decide) (by decide) (Own.nar_id rc3) (Own.fits_ch rc3) (by decide) (Own.ltb rfl) rfl ?_
  intro T62 h62 lc62 hl62 P62 W62 A62
  have V62 : Arv Z h62 a37 k37 .char (7 : Int32) [(.int c0), (.int c1), (.int c2), (.int c3), (.int 0), (.int 0), (.int 0)] (.int 0) := A62
  have N62 := Own.Fr.one N61 hl62 (Nat.le_trans Z0 (Nat.le_trans E0_9_59.1 (Nat.le_of_eq ha37.symm)))
  refine Own.aload (q := 210) P62 at_208 rfl rfl rfl ?_
  refine Own.iconst (q := 211) (v := (4 : Int32)) P62 at_210 rfl rfl ?_
  refine Own.iload (q := 213) P62 at_211 rfl rfl ?_
  refine Own.castore (q := 214) (i := 4) (x2 := c4) P62 at_213 V62 (by decide) (by decide) (Own.nar_id rc4) (Own.fits_ch rc4) (by decide) (Own.ltb rfl) rfl ?_
  intro T63 h63 lc63 hl63 P63 W63 A63
  have V63 : Arv Z h63 a37 k37 .char (7 : Int32) [(.int c0), (.int c1), (.int c2), (.int c3), (.int c4), (.int 0), (.int 0)] (.int 0) := A63
  have N63 := Own.Fr.one N62 hl63 (Nat.le_trans Z0 (Nat.le_trans E0_9_59.1 (Nat.le_of_eq ha37.symm)))
  refine Own.aload (q := 216) P63 at_214 rfl rfl rfl ?_
  refine Own.iconst (q := 217) (v := (5 : Int32)) P63 at_216 rfl rfl ?_
  refine Own.iload (q := 219) P63 at_217 rfl rfl ?_
  refine Own.castore (q := 220) (i := 5) (x2 := c5) P63 at_219 V63 (by decide) (by decide) (Own.nar_id rc5) (Own.fits_ch rc5) (by decide) (Own.ltb rfl) rfl ?_
  intro T64 h64 lc64 hl64 P64 W64 A64
  have V64 : Arv Z h64 a37 k37 .char (7 : Int32) [(.int c0), (.int c1), (.int c2), (.int c3), (.int c4), (.int c5), (.int 0)] (.int 0) := A64
  have N64 := Own.Fr.one N63 hl64 (Nat.le_trans Z0 (Nat.le_trans E0_9_59.1 (Nat.le_of_eq ha37.symm)))
  refine Own.aload (q := 222) P64 at_220 rfl rfl rfl ?_
  refine Own.bipush (q := 224) (v := (6 : Int32)) P64 at_222 rfl rfl ?_
  refine Own.iload (q := 226) P64 at_224 rfl rfl ?_
  refine Own.castore (q := 227) (i := 6) (x2 := c6) P64 at_226 V64 (by decide) (by decide) (Own.nar_id rc6) (Own.fits_ch rc6) (by decide) (Own.ltb rfl) rfl ?_
  intro T65 h65 lc65 hl65 P65 W65 A65
  have V65 : Arv Z h65 a37 k37 .char (7 : Int32) [(.int c0), (.int c1), (.int c2), (.int c3), (.int c4), (.int c5), (.int c6)] (.int 0) := A65
  have N65 := Own.Fr.one N64 hl65 (Nat.le_trans Z0 (Nat.le_trans E0_9_59.1 (Nat.le_of_eq ha37.symm)))
  refine Own.aload (q := 229) P65 at_227 rfl rfl rfl ?_
  refine Own.iconst (q := 230) (v := (0 : Int32)) P65 at_229 rfl rfl ?_
  refine Own.iload (q := 232) P65 at_230 rfl rfl ?_
  have qf66 := (V38.ext E39)
  have qf67 := (Arv.keep qf66 (Keep.of_wr W43) (ninS (Nat.ne_of_gt (Nat.lt_of_lt_of_le V36.lt (Nat.le_trans E9_10_40.1 (Nat.le_of_eq ha38.symm)))) nin0))
  have qf68 := (Arv.keep qf67 (Keep.of_wr W45) (ninS (Nat.ne_of_gt (Nat.lt_of_lt_of_le V36.lt (Nat.le_trans E9_10_40.1 (Nat.le_of_eq ha38.symm)))) nin0))
  have qf69 := (Arv.keep qf68 (Keep.of_wr W46) (ninS (Nat.ne_of_gt (Nat.lt_of_lt_of_le V36.lt (Nat.le_trans E9_10_40.1 (Nat.le_of_eq ha38.symm)))) nin0))
  have qf70 := (Arv.keep qf69 (Keep.of_wr W47) (ninS (Nat.ne_of_gt (Nat.lt_of_lt_of_le V36.lt (Nat.le_trans E9_10_40.1 (Nat.le_of_eq ha38.symm)))) nin0))
  have qf71 := (Arv.keep qf70 (Keep.of_wr W48) (ninS (Nat.ne_of_gt (Nat.lt_of_lt_of_le V36.lt (Nat.le_trans E9_10_40.1 (Nat.le_of_eq ha38.symm)))) nin0))
  have qf72 := (Arv.keep qf71 (Keep.of_wr W49) (ninS (Nat.ne_of_gt (Nat.lt_of_lt_of_le V36.lt (Nat.le_trans E9_10_40.1 (Nat.le_of_eq ha38.symm)))) nin0))
  have qf73 := (Arv.keep qf72 (Keep.of_wr W58) (ninS (Nat.ne_of_gt (Nat.lt_of_lt_of_le V37.lt (Nat.le_of_eq ha38.symm))) nin0))
  have qf74 := (Arv.keep qf73 (Keep.of_wr W60) (ninS (Nat.ne_of_gt (Nat.lt_of_lt_of_le V37.lt (Nat.le_of_eq ha38.symm))) nin0))
  have qf75 := (Arv.keep qf74 (Keep.of_wr W61) (ninS (Nat.ne_of_gt (Nat.lt_of_lt_of_le V37.lt (Nat.le_of_eq ha38.symm))) nin0))
  have qf76 := (Arv.keep qf75 (Keep.of_wr W62) (ninS (Nat.ne_of_gt (Nat.lt_of_lt_of_le V37.lt (Nat.le_of_eq ha38.symm))) nin0))
  have qf77 := (Arv.keep qf76 (Keep.of_wr W63) (ninS (Nat.ne_of_gt (Nat.lt_of_lt_of_le V37.lt (Nat.le_of_eq ha38.symm))) nin0))
  have qf78 := (Arv.keep qf77 (Keep.of_wr W64) (ninS (Nat.ne_of_gt (Nat.lt_of_lt_of_le V37.lt (Nat.le_of_eq ha38.symm))) nin0))
  have qf79 := (Arv.keep qf78 (Keep.of_wr W65) (ninS (Nat.ne_of_gt (Nat.lt_of_lt_of_le V37.lt (Nat.le_of_eq ha38.symm))) nin0))
  refine Own.castore (q := 233) (i := 0) (x2 := c0) P65 at_232 qf79 (by decide) (by decide) (Own.nar_id rc0) (Own.fits_ch rc0) (by decide) (Own.ltb rfl) rfl ?_
  intro T80 h80 lc80 hl80 P80 W80 A80
  have V80 : Arv Z h80 a38 k38 .char (8 : Int32) [(.int c0), (.int 0), (.int 0), (.int 0), (.int 0), (.int 0), (.int 0), (.int 0)] (.int 0) := A80
  have E0_10_81 : Ext h0 h37 := (Own.Ext.tr E0_9_59 E37)
  have N80 := Own.Fr.one N65 hl80 (Nat.le_trans Z0 (Nat.le_trans E0_10_81.1 (Nat.le_of_eq ha38.symm)))
  refine Own.aload (q := 235) P80 at_233 rfl rfl rfl ?_
  refine Own.iconst (q := 236) (v := (1 : Int32)) P80 at_235 rfl rfl ?_
  refine Own.iload (q := 238) P80 at_236 rfl rfl ?_
  refine Own.castore (q := 239) (i := 1) (x2 := c1) P80 at_238 V80 (by decide) (by decide) (Own.nar_id rc1) (Own.fits_ch rc1) (by decide) (Own.ltb rfl) rfl ?_
  intro T82 h82 lc82 hl82 P82 W82 A82
  have V82 : Arv Z h82 a38 k38 .char (8 : Int32) [(.int c0), (.int c1), (.int 0), (.int 0), (.int 0), (.int 0), (.int 0), (.int 0)] (.int 0) := A82
  have N82 := Own.Fr.one N80 hl82 (Nat.le_trans Z0 (Nat.le_trans E0_10_81.1 (Nat.le_of_eq ha38.symm)))
  refine Own.aload (q := 241) P82 at_239 rfl rfl rfl ?_
  refine Own.iconst (q := 242) (v := (2 : Int32)) P82 at_241 rfl rfl ?_
  refine Own.iload (q := 244) P82 at_242 rfl rfl ?_
  refine Own.castore (q := 245) (i := 2) (x2 := c2) P82 at_244 V82 (by decide) (by decide) (Own.nar_id rc2) (Own.fits_ch rc2) (by decide) (Own.ltb rfl) rfl ?_
  intro T83 h83 lc83 hl83 P83 W83 A83
  have V83 : Arv Z h83 a38 k38 .char (8 : Int32) [(.int c0), (.int c1), (.int c2), (.int 0), (.int 0), (.int 0), (.int 0), (.int 0)] (.int 0) := A83
  have N83 := Own.Fr.one N82 hl83 (Nat.le_trans Z0 (Nat.le_trans E0_10_81.1 (Nat.le_of_eq ha38.symm)))
  refine Own.aload (q := 247) P83 at_245 rfl rfl rfl ?_
  refine Own.iconst (q := 248) (v := (3 : Int32)) P83 at_247 rfl rfl ?_
  refine Own.iload (q := 250) P83 at_248 rfl rfl ?_
  refine Own.castore (q := 251) (i := 3) (x2 := c3) P83 at_250 V83 (by decide) (by decide) (Own.nar_id rc3) (Own.fits_ch rc3) (by decide) (Own.ltb rfl) rfl ?_
  intro T84 h84 lc84 hl84 P84 W84 A84
  have V84 : Arv Z h84 a38 k38 .char (8 : Int32) [(.int c0), (.int c1), (.int c2), (.int c3), (.int 0), (.int 0), (.int 0), (.int 0)] (.int 0) := A84
  have N84 := Own.Fr.one N83 hl84 (Nat.le_trans Z0 (Nat.le_trans E0_10_81.1 (Nat.le_of_eq ha38.symm)))
  refine Own.aload (q := 253) P84 at_251 rfl rfl rfl ?_
  refine Own.iconst (q := 254) (v := (4 : Int32)) P84 at_253 rfl rfl ?_
  refine Own.iload (q := 256) P84 at_254 rfl rfl ?_
  refine Own.castore (q := 257) (i := 4) (x2 := c4) P84 at_256 V84 (by decide) (by decide) (Own.nar_id rc4) (Own.fits_ch rc4) (by decide) (Own.ltb rfl) rfl ?_
  intro T85 h85 lc85 hl85 P85 W85 A85
  have V85 : Arv Z h85 a38 k38 .char (8 : Int32) [(.int c0), (.int c1), (.int c2), (.int c3), (.int c4), (.int 0), (.int 0), (.int 0)] (.int 0) := A85
  have N85 := Own.Fr.one N84 hl85 (Nat.le_trans Z0 (Nat.le_trans E0_10_81.1 (Nat.le_of_eq ha38.symm)))
  refine Own.aload (q := 259) P85 at_257 rfl rfl rfl ?_
  refine Own.iconst (q := 260) (v := (5 : Int32)) P85 at_259 rfl rfl ?_
  refine Own.iload (q := 262) P85 at_260 rfl rfl ?_
  refine Own.castore (q := 263) (i := 5) (x2 := c5) P85 at_262 V85 (by decide) (by decide) (Own.nar_id rc5) (Own.fits_ch rc5) (by decide) (Own.ltb rfl) rfl ?_
  intro T86 h86 lc86 hl86 P86 W86 A86
  have V86 : Arv Z h86 a38 k38 .char (8 : Int32) [(.int c0), (.int c1), (.int c2), (.int c3), (.int c4), (.int c5), (.int 0), (.int 0)] (.int 0) := A86
  have N86 := Own.Fr.one N85 hl86 (Nat.le_trans Z0 (Nat.le_trans E0_10_81.1 (Nat.le_of_eq ha38.symm)))
  refine Own.aload (q := 265) P86 at_263 rfl rfl rfl ?_
  refine Own.bipush (q := 267) (v := (6 : Int32)) P86 at_265 rfl rfl ?_
  refine Own.iload (q := 269) P86 at_267 rfl rfl ?_
  refine Own.castore (q := 270) (i := 6) (x2 := c6) P86 at_269 V86 (by decide) (by decide) (Own.nar_id rc6) (Own.fits_ch rc6) (by decide) (Own.ltb rfl) rfl ?_
  intro T87 h87 lc87 hl87 P87 W87 A87
  have V87 : Arv Z h87 a38 k38 .char (8 : Int32) [(.int c0), (.int c1), (.int c2), (.int c3), (.int c4), (.int c5), (.int c6), (.int 0)] (.int 0) := A87
  have N87 := Own.Fr.one N86 hl87 (Nat.le_trans Z0 (Nat.le_trans E0_10_81.1 (Nat.le_of_eq ha38.symm)))
  refine Own.aload (q := 272) P87 at_270 rfl rfl rfl ?_
  refine Own.bipush (q := 274) (v := (7 : Int32)) P87 at_272 rfl rfl ?_
  refine Own.iload (q := 276) P87 at_274 rfl rfl ?_
  refine Own.castore (q := 277) (i := 7) (x2 := c7) P87 at_276 V87 (by decide) (by decide) (Own.nar_id rc7) (Own.fits_ch rc7) (by decide) (Own.ltb rfl) rfl ?_
  intro T88 h88 lc88 hl88 P88 W88 A88
  have V88 : Arv Z h88 a38 k38 .char (8 : Int32) [(.int c0), (.int c1), (.int c2), (.int c3), (.int c4), (.int c5), (.int c6), (.int c7)] (.int 0) := A88
  have N88 := Own.Fr.one N87 hl88 (Nat.le_trans Z0 (Nat.le_trans E0_10_81.1 (Nat.le_of_eq ha38.symm)))
  refine Own.iconst (q := 278) (v := (0 : Int32)) P88 at_277 rfl rfl ?_
  refine Own.istore (q := 280) (L2 := #[.val (.int x0), .val (.int x1), .val (.int x2), .val (.int x3), .val (.int x4), .val (.int (x0 &&& (1 : Int32))), .val (.int ((Jvm.Free.XT.ushr x0 (1 : Int32)) &&& (7 : Int32))), .val (.int c0), .val (.int c1), .val (.int c2), .val (.int c3), .val (.int c4), .val (.int c5), .val (.int c6), .val (.int c7), .val (.ref a36), .val (.ref a37), .val (.ref a38), .val (.ref a39), .unset, .val (.int (0 : Int32)), .unset, .unset, .unset]) P88 at_278 rfl rfl ?_
  refine Own.iload (q := 282) P88 at_280 rfl rfl ?_
  refine Own.if_ne (q := 285) (qy := 291) P88 at_282 (by decide) rfl (fun q282 => ?_) (fun q282 => ?_)
  · refine Own.iload (q := 293) P88 at_291 rfl rfl ?_
    refine Own.iconst (q := 294) (v := (1 : Int32)) P88 at_293 rfl rfl ?_
    refine Own.icmp_ne (q := 297) (qy := 311) P88 at_294 (by decide) rfl (fun q294 => ?_) (fun q294 => ?_)
    · refine Own.iload (q := 313) P88 at_311 rfl rfl ?_
      refine Own.iconst (q := 314) (v := (2 : Int32)) P88 at_313 rfl rfl ?_
      refine Own.icmp_ne (q := 317) (qy := 331) P88 at_314 (by decide) rfl (fun q314 => ?_) (fun q314 => ?_)
      · refine Own.iload (q := 333) P88 at_331 rfl rfl ?_
        refine Own.iconst (q := 334) (v := (3 : Int32)) P88 at_333 rfl rfl ?_
        refine Own.icmp_ne (q := 337) (qy := 351) P88 at_334 (by decide) rfl (fun q334 => ?_) (fun q334 => ?_)
        · refine Own.newobj (q := 354) P88 at_351 (hw _ (List.mem_of_getElem? (i := 50) rfl)) (hw _ (List.mem_of_getElem? (i := 6) rfl)) (hw _ (List.mem_of_getElem? (i := 5) rfl)) (by decide) (by decide) rfl ?_
          intro T89 h89 a89 ha89 P89 E89 A89 D89
          have F89_value : Fld Z h89 a89 "java/lang/String" "value" "[B" .null := D89 (Or.inr (hw _ (List.mem_of_getElem? (i := 8) rfl))) (ty := (.array .byte)) (by decide)
          have F89_coder : Fld Z h89 a89 "java/lang/String" "coder" "B" (.int (0 : Int32)) := D89 (Or.inr (hw _ (List.mem_of_getElem? (i := 9) rfl))) (ty := .byte) (by decide)
          refine Own.dup (q := 355) P89 at_354 rfl rfl ?_
          refine Own.aload (q := 357) P89 at_355 rfl rfl rfl ?_
          have E0_11_90 : Ext h0 h38 := (Own.Ext.tr E0_10_81 E38)
          have E0_12_91 : Ext h0 h39 := (Own.Ext.tr E0_11_90 E39)
          have E0_13_92 : Ext h0 h43 := (Own.Ext.wr E0_12_91 W43 (Nat.le_trans E0_8_44.1 (Nat.le_of_eq ha36.symm)))
          have E0_14_93 : Ext h0 h45 := (Own.Ext.wr E0_13_92 W45 (Nat.le_trans E0_8_44.1 (Nat.le_of_eq ha36.symm)))
          have E0_15_94 : Ext h0 h46 := (Own.Ext.wr E0_14_93 W46 (Nat.le_trans E0_8_44.1 (Nat.le_of_eq ha36.symm)))
          have E0_16_95 : Ext h0 h47 := (Own.Ext.wr E0_15_94 W47 (Nat.le_trans E0_8_44.1 (Nat.le_of_eq ha36.symm)))
          have E0_17_96 : Ext h0 h48 := (Own.Ext.wr E0_16_95 W48 (Nat.le_trans E0_8_44.1 (Nat.le_of_eq ha36.symm)))
          have E0_18_97 : Ext h0 h49 := (Own.Ext.wr E0_17_96 W49 (Nat.le_trans E0_8_44.1 (Nat.le_of_eq ha36.symm)))
          have E0_19_98 : Ext h0 h58 := (Own.Ext.wr E0_18_97 W58 (Nat.le_trans E0_9_59.1 (Nat.le_of_eq ha37.symm)))
          have E0_20_99 : Ext h0 h60 := (Own.Ext.wr E0_19_98 W60 (Nat.le_trans E0_9_59.1 (Nat.le_of_eq ha37.symm)))
          have E0_21_100 : Ext h0 h61 := (Own.Ext.wr E0_20_99 W61 (Nat.le_trans E0_9_59.1 (Nat.le_of_eq ha37.symm)))
          have E0_22_101 : Ext h0 h62 := (Own.Ext.wr E0_21_100 W62 (Nat.le_trans E0_9_59.1 (Nat.le_of_eq ha37.symm)))
          have E0_23_102 : Ext h0 h63 := (Own.Ext.wr E0_22_101 W63 (Nat.le_trans E0_9_59.1 (Nat.le_of_eq ha37.symm)))
          have E0_24_103 : Ext h0 h64 := (Own.Ext.wr E0_23_102 W64 (Nat.le_trans E0_9_59.1 (Nat.le_of_eq ha37.symm)))
          have E0_25_104 : Ext h0 h65 := (Own.Ext.wr E0_24_103 W65 (Nat.le_trans E0_9_59.1 (Nat.le_of_eq ha37.symm)))
          have E0_26_105 : Ext h0 h80 := (Own.Ext.wr E0_25_104 W80 (Nat.le_trans E0_10_81.1 (Nat.le_of_eq ha38.symm)))
          have E0_27_106 : Ext h0 h82 := (Own.Ext.wr E0_26_105 W82 (Nat.le_trans E0_10_81.1 (Nat.le_of_eq ha38.symm)))
          have E0_28_107 : Ext h0 h83 := (Own.Ext.wr E0_27_106 W83 (Nat.le_trans E0_10_81.1 (Nat.le_of_eq ha38.symm)))
          have E0_29_108 : Ext h0 h84 := (Own.Ext.wr E0_28_107 W84 (Nat.le_trans E0_10_81.1 (Nat.le_of_eq ha38.symm)))
          have E0_30_109 : Ext h0 h85 := (Own.Ext.wr E0_29_108 W85 (Nat.le_trans E0_10_81.1 (Nat.le_of_eq ha38.symm)))
          have E0_31_110 : Ext h0 h86 := (Own.Ext.wr E0_30_109 W86 (Nat.le_trans E0_10_81.1 (Nat.le_of_eq ha38.symm)))
          have E0_32_111 : Ext h0 h87 := (Own.Ext.wr E0_31_110 W87 (Nat.le_trans E0_10_81.1 (Nat.le_of_eq ha38.symm)))
          have E0_33_112 : Ext h0 h88 := (Own.Ext.wr E0_32_111 W88 (Nat.le_trans E0_10_81.1 (Nat.le_of_eq ha38.symm)))
          have E0_34_113 : Ext h0 h89 := (Own.Ext.tr E0_33_112 E89)
          have qf114 := (Arv.keep V65 (Keep.of_wr W80) (ninS (Nat.ne_of_lt (Nat.lt_of_lt_of_le V37.lt (Nat.le_of_eq ha38.symm))) nin0))
          have qf115 := (Arv.keep qf114 (Keep.of_wr W82) (ninS (Nat.ne_of_lt (Nat.lt_of_lt_of_le V37.lt (Nat.le_of_eq ha38.symm))) nin0))
          have qf116 := (Arv.keep qf115 (Keep.of_wr W83) (ninS (Nat.ne_of_lt (Nat.lt_of_lt_of_le V37.lt (Nat.le_of_eq ha38.symm))) nin0))
          have qf117 := (Arv.keep qf116 (Keep.of_wr W84) (ninS (Nat.ne_of_lt (Nat.lt_of_lt_of_le V37.lt (Nat.le_of_eq ha38.symm))) nin0))
          have qf118 := (Arv.keep qf117 (Keep.of_wr W85) (ninS (Nat.ne_of_lt (Nat.lt_of_lt_of_le V37.lt (Nat.le_of_eq ha38.symm))) nin0))
          have qf119 := (Arv.keep qf118 (Keep.of_wr W86) (ninS (Nat.ne_of_lt (Nat.lt_of_lt_of_le V37.lt (Nat.le_of_eq ha38.symm))) nin0))
          have qf120 := (Arv.keep qf119 (Keep.of_wr W87) (ninS (Nat.ne_of_lt (Nat.lt_of_lt_of_le V37.lt (Nat.le_of_eq ha38.symm))) nin0))
          have qf121 := (Arv.keep qf120 (Keep.of_wr W88) (ninS (Nat.ne_of_lt (Nat.lt_of_lt_of_le V37.lt (Nat.le_of_eq ha38.symm))) nin0))
          have E33_34_122 : Ext h88 h89 := E89
          have qf123 := (qf121.ext E33_34_122)
          refine Own.invSpecial (q := 360) (W := 1) (y := (⟨"java/lang/String", "<init>", "([C)V"⟩ : MethodName)) (a := a89) (argsL := [(.ref a37)]) (rest := [(.ref a89)]) P89 at_357 rfl (hw _ (List.mem_of_getElem? (i := 51) rfl)) (hw _ (List.mem_of_getElem? (i := 52) rfl)) (hw _ (List.mem_of_getElem? (i := 53) rfl)) (by decide) (Own.newB (W := 1) (n0 := n0) (cs := [c0, c1, c2, c3, c4, c5, c6]) (n := 7) P89.2.2.2.1 (fun d hd => hw d (sub_backV d hd)) (hw _ (List.mem_of_getElem? (i := 6) rfl)) (Nat.le_trans Z0 (Nat.le_trans E0_33_112.1 (Nat.le_of_eq ha89.symm))) (Nat.le_trans Z0 E0_34_113.1) A89 F89_value F89_coder qf123 (SC.ext E0_34_113) hzc rfl rfl (by decide) (by decide) (Own.chS rc0 (Own.chS rc1 (Own.chS rc2 (Own.chS rc3 (Own.chS rc4 (Own.chS rc5 (Own.chS rc6 Own.ch0))))))) (by decide) (by decide)) rfl rfl (by rw [hml]; rfl) (lenOf (show parseMethodDescriptor "([C)V" = some ⟨[(.array .char)], none⟩ from by decide +kernel) rfl) (by show 2 * 0 + _ ≤ _; exact Nat.le_of_eq rfl) (by decide) (by decide) rfl ?_
          rintro v124 T124 h124 L124 ⟨rfl, N124q, K124, St124⟩ P124
          have N124 := Fr.app N88 N124q
          show Own.Goes _ _ _ _ (T124.setTop (mkF m 360 #[.val (.int x0), .val (.int x1), .val (.int x2), .val (.int x3), .val (.int x4), .val (.int (x0 &&& (1 : Int32))), .val (.int ((Jvm.Free.XT.ushr x0 (1 : Int32)) &&& (7 : Int32))), .val (.int c0), .val (.int c1), .val (.int c2), .val (.int c3), .val (.int c4), .val (.int c5), .val (.int c6), .val (.int c7), .val (.ref a36), .val (.ref a37), .val (.ref a38), .val (.ref a39), .unset, .val (.int (0 : Int32)), .unset, .unset, .unset] [(.ref a89)]))
          refine Own.astore (q := 362) (L2 := #[.val (.int x0), .val (.int x1), .val (.int x2), .val (.int x3), .val (.int x4), .val (.int (x0 &&& (1 : Int32))), .val (.int ((Jvm.Free.XT.ushr x0 (1 : Int32)) &&& (7 : Int32))), .val (.int c0), .val (.int c1), .val (.int c2), .val (.int c3), .val (.int c4), .val (.int c5), .val (.int c6), .val (.int c7), .val (.ref a36), .val (.ref a37), .val (.ref a38), .val (.ref a39), .val (.ref a89), .val (.int (0 : Int32)), .unset, .unset, .unset]) P124 at_360 rfl rfl rfl ?_
          refine Own.iconst (q := 363) (v := (1 : Int32)) P124 at_362 rfl rfl ?_
          refine Own.istore (q := 365) (L2 := #[.val (.int x0), .val (.int x1), .val (.int x2), .val (.int x3), .val (.int x4), .val (.int (x0 &&& (1 : Int32))), .val (.int ((Jvm.Free.XT.ushr x0 (1 : Int32)) &&& (7 : Int32))), .val (.int c0), .val (.int c1), .val (.int c2), .val (.int c3), .val (.int c4), .val (.int c5), .val (.int c6), .val (.int c7), .val (.ref a36), .val (.ref a37), .val (.ref a38), .val (.ref a39), .val (.ref a89), .val (.int (1 : Int32)), .unset, .unset, .unset]) P124 at_363 rfl rfl ?_
          refine Own.iconst (q := 366) (v := (0 : Int32)) P124 at_365 rfl rfl ?_
          refine Own.istore (q := 368) (L2 := #[.val (.int x0), .val (.int x1), .val (.int x2), .val (.int x3), .val (.int x4), .val (.int (x0 &&& (1 : Int32))), .val (.int ((Jvm.Free.XT.ushr x0 (1 : Int32)) &&& (7 : Int32))), .val (.int c0), .val (.int c1), .val (.int c2), .val (.int c3), .val (.int c4), .val (.int c5), .val (.int c6), .val (.int c7), .val (.ref a36), .val (.ref a37), .val (.ref a38), .val (.ref a39), .val (.ref a89), .val (.int (1 : Int32)), .val (.int (0 : Int32)), .unset, .unset]) P124 at_366 rfl rfl ?_
          refine Own.iload (q := 370) P124 at_368 rfl rfl ?_
          refine Own.if_eq (q := 373) (qy := 511) P124 at_370 (by decide) rfl (fun q => absurd q (by decide)) (fun _ => ?_)
          have J511 : ∀ (T125 : State) (lc125 : List Loc) (f21 : Int32) (sl22 : Slot) (sl23 : Slot), Own.Wk Z "com/example/mokuroku/mokuroku/formats/JpcoarReaderIsReadingLanguagePinLaw" code h124 p l e room_1 (s.setVm vm35) m #[(.int x0), (.int x1), (.int x2), (.int x3), (.int x4)] below meth c T125 lc125 22 288 → Fr n0 lc125 → f21 = expV c0 c1 c2 c3 c4 c5 c6 → Own.Goes p.tables e below (fun s₂ o => ∃ v L, o = .returned v ∧ QrmLaw Z x0 x1 x2 x3 x4 zc fm h0 n0 v s₂.heap L ∧ CHr Z EL s.vm s.heap s₂.vm s₂.heap ∧ ReturnedEndW s o s₂ L room_1.cells room_1.slots) (T125.setTop (mkF m 511 #[.val (.int x0), .val (.int x1), .val (.int x2), .val (.int x3), .val (.int x4), .val (.int (x0 &&& (1 : Int32))), .val (.int ((Jvm.Free.XT.ushr x0 (1 : Int32)) &&& (7 : Int32))), .val (.int c0), .val (.int c1), .val (.int c2), .val (.int c3), .val (.int c4), .val (.int c5), .val (.int c6), .val (.int c7), .val (.ref a36), .val (.ref a37), .val (.ref a38), .val (.ref a39), .val (.ref a89), .val (.int (1 : Int32)), .val (.int f21), sl22, sl23] [])) := by
            intro T125 lc125 f21 sl22 sl23 P125 N125 hf
            refine Own.aload (q := 513) P125 at_511 rfl rfl rfl ?_
            have E0_35_126 : Ext h0 h124 := (Own.Ext.kp E0_34_113 K124 (allS (Nat.le_trans E0_33_112.1 (Nat.le_of_eq ha89.symm)) all0))
            have E8_9_127 : Ext h35 h36 := E36
            have E8_10_128 : Ext h35 h37 := (Own.Ext.tr E8_9_127 E37)
            have E8_11_129 : Ext h35 h38 := (Own.Ext.tr E8_10_128 E38)
            have E8_12_130 : Ext h35 h39 := (Own.Ext.tr E8_11_129 E39)
            have E8_13_131 : Ext h35 h43 := (Own.Ext.wr E8_12_130 W43 (Nat.le_of_eq ha36.symm))
            have E8_14_132 : Ext h35 h45 := (Own.Ext.wr E8_13_131 W45 (Nat.le_of_eq ha36.symm))
            have E8_15_133 : Ext h35 h46 := (Own.Ext.wr E8_14_132 W46 (Nat.le_of_eq ha36.symm))
            have E8_16_134 : Ext h35 h47 := (Own.Ext.wr E8_15_133 W47 (Nat.le_of_eq ha36.symm))
            have E8_17_135 : Ext h35 h48 := (Own.Ext.wr E8_16_134 W48 (Nat.le_of_eq ha36.symm))
            have E8_18_136 : Ext h35 h49 := (Own.Ext.wr E8_17_135 W49 (Nat.le_of_eq ha36.symm))
            have E8_19_137 : Ext h35 h58 := (Own.Ext.wr E8_18_136 W58 (Nat.le_trans E8_9_127.1 (Nat.le_of_eq ha37.symm)))
            have E8_20_138 : Ext h35 h60 := (Own.Ext.wr E8_19_137 W60 (Nat.le_trans E8_9_127.1 (Nat.le_of_eq ha37.symm)))
            have E8_21_139 : Ext h35 h61 := (Own.Ext.wr E8_20_138 W61 (Nat.le_trans E8_9_127.1 (Nat.le_of_eq ha37.symm)))
            have E8_22_140 : Ext h35 h62 := (Own.Ext.wr E8_21_139 W62 (Nat.le_trans E8_9_127.1 (Nat.le_of_eq ha37.symm)))
            have E8_23_141 : Ext h35 h63 := (Own.Ext.wr E8_22_140 W63 (Nat.le_trans E8_9_127.1 (Nat.le_of_eq ha37.symm)))
            have E8_24_142 : Ext h35 h64 := (Own.Ext.wr E8_23_141 W64 (Nat.le_trans E8_9_127.1 (Nat.le_of_eq ha37.symm)))
            have E8_25_143 : Ext h35 h65 := (Own.Ext.wr E8_24_142 W65 (Nat.le_trans E8_9_127.1 (Nat.le_of_eq ha37.symm)))
            have E8_26_144 : Ext h35 h80 := (Own.Ext.wr E8_25_143 W80 (Nat.le_trans E8_10_128.1 (Nat.le_of_eq ha38.symm)))
            have E8_27_145 : Ext h35 h82 := (Own.Ext.wr E8_26_144 W82 (Nat.le_trans E8_10_128.1 (Nat.le_of_eq ha38.symm)))
            have E8_28_146 : Ext h35 h83 := (Own.Ext.wr E8_27_145 W83 (Nat.le_trans E8_10_128.1 (Nat.le_of_eq ha38.symm)))
            have E8_29_147 : Ext h35 h84 := (Own.Ext.wr E8_28_146 W84 (Nat.le_trans E8_10_128.1 (Nat.le_of_eq ha38.symm)))
            have E8_30_148 : Ext h35 h85 := (Own.Ext.wr E8_29_147 W85 (Nat.le_trans E8_10_128.1 (Nat.le_of_eq ha38.symm)))
            have E8_31_149 : Ext h35 h86 := (Own.Ext.wr E8_30_148 W86 (Nat.le_trans E8_10_128.1 (Nat.le_of_eq ha38.symm)))
            have E8_32_150 : Ext h35 h87 := (Own.Ext.wr E8_31_149 W87 (Nat.le_trans E8_10_128.1 (Nat.le_of_eq ha38.symm)))
            have E8_33_151 : Ext h35 h88 := (Own.Ext.wr E8_32_150 W88 (Nat.le_trans E8_10_128.1 (Nat.le_of_eq ha38.symm)))
            have E8_34_152 : Ext h35 h89 := (Own.Ext.tr E8_33_151 E89)
            have E8_35_153 : Ext h35 h124 := (Own.Ext.kp E8_34_152 K124 (allS (Nat.le_trans E8_33_151.1 (Nat.le_of_eq ha89.symm)) all0))
            have Hd154 := (H35.ext E8_35_153)
            refine Own.invStaticH (q := 516) (W := 0) (y := (⟨"com/example/mokuroku/mokuroku/formats/JpcoarReader", "isReadingLanguage", "(Ljava/lang/String;)Z"⟩ : MethodName)) (argsL := [(.ref a89)]) (rest := []) P125 Hd154 at_513 (hw _ (List.mem_of_getElem? (i := 38) rfl)) (hw _ (List.mem_of_getElem? (i := 39) rfl)) (hw _ (List.mem_of_getElem? (i := 40) rfl)) (hw _ (List.mem_of_getElem? (i := 41) rfl)) (by decide) (Own.backH (W := 0) (rmRl2 l Z a0 hw [] a89 c0 c1 c2 c3 c4 c5 c6 zc h124 n0 (Nat.le_trans Z0 E0_35_126.1) (SC.ext E0_35_126) hzc St124) P125.2.2.2.1 (hw _ (List.mem_of_getElem? (i := 41) rfl)) (hw _ (List.mem_of_getElem? (i := 40) rfl)) (by decide) (by decide) (ew hw) Hd154.2.1 all0) rfl rfl (by rw [hml]; rfl) (lenOf (show parseMethodDescriptor "(Ljava/lang/String;)Z" = some ⟨[(.object "java/lang/String")], some .boolean⟩ from by decide +kernel) rfl) (by show 2 * 0 + _ ≤ _; exact Nat.le_of_eq rfl) (by decide) (by decide) rfl ?_
            rintro v155 T155 vm155 h155 L155 ⟨rfl, N155q, E155⟩ P155 H155 hr155
            have N155 := Fr.app N125 N155q
            show Own.Goes _ _ _ _ (T155.setTop (mkF m 516 #[.val (.int x0), .val (.int x1), .val (.int x2), .val (.int x3), .val (.int x4), .val (.int (x0 &&& (1 : Int32))), .val (.int ((Jvm.Free.XT.ushr x0 (1 : Int32)) &&& (7 : Int32))), .val (.int c0), .val (.int c1), .val (.int c2), .val (.int c3), .val (.int c4), .val (.int c5), .val (.int c6), .val (.int c7), .val (.ref a36), .val (.ref a37), .val (.ref a38), .val (.ref a39), .val (.ref a89), .val (.int (1 : Int32)), .val (.int f21), sl22, sl23] [(.int (if ¬ rm7 [by8 (106 : Int32), by8 (97 : Int32), by8 (45 : Int32), by8 (75 : Int32), by8 (97 : Int32), by8 (110 : Int32), by8 (97 : Int32)] [by8 c0, by8 c1, by8 c2, by8 c3, by8 c4, by8 c5, by8 c6] = 0 then (1 : Int32) else if rm7 [by8 (106 : Int32), by8 (97 : Int32), by8 (45 : Int32), by8 (76 : Int32), by8 (97 : Int32), by8 (116 : Int32), by8 (110 : Int32)] [by8 c0, by8 c1, by8 c2, by8 c3, by8 c4, by8 c5, by8 c6] = 0 then 0 else 1))]))
            refine Own.iload (q := 518) P155 at_516 rfl rfl ?_
            refine Own.icmp_ne (q := 521) (qy := 525) P155 at_518 (by decide) rfl (fun q => absurd ((exp_is rc0 rc1 rc2 rc3 rc4 rc5 rc6).trans hf.symm) q) (fun _ => ?_)
            refine Own.iconst (q := 522) (v := (1 : Int32)) P155 at_521 rfl rfl ?_
            refine Own.goto (q := 526) P155 at_522 (by decide) ?_
            refine Own.retZH (Q := QrmLaw Z x0 x1 x2 x3 x4 zc fm h0 n0) P155 hh (ew hw) H155 at_526 hret (by simp) hlk (by decide) (by decide) ?_
            exact ⟨rfl, N155⟩
          refine Own.iload (q := 375) P124 at_373 rfl rfl ?_
          have E0_35_156 : Ext h0 h124 := (Own.Ext.kp E0_34_113 K124 (allS (Nat.le_trans E0_33_112.1 (Nat.le_of_eq ha89.symm)) all0))
          refine Own.invStatic (q := 378) (W := 0) (y := (⟨"com/example/mokuroku/mokuroku/formats/JpcoarReaderIsReadingLanguagePinLaw", "low", "(C)C"⟩ : MethodName)) (argsL := [(.int c0)]) (rest := []) P124 at_375 (hw _ (List.mem_of_getElem? (i := 81) rfl)) (hw _ (List.mem_of_getElem? (i := 82) rfl)) (hw _ (List.mem_of_getElem? (i := 2) rfl)) (hw _ (List.mem_of_getElem? (i := 83) rfl)) (by decide) (backOf (W := 0) (rmLow l Z a0 hw [] c0 h124 n0 (Nat.le_trans Z0 E0_35_156.1) rc0) P124.2.2.2.1 (hw _ (List.mem_of_getElem? (i := 83) rfl)) (hw _ (List.mem_of_getElem? (i := 2) rfl)) (by decide) (by decide)) rfl rfl (by rw [hml]; rfl) (lenOf (show parseMethodDescriptor "(C)C" = some ⟨[.char], some .char⟩ from by decide +kernel) rfl) (by show 2 * 0 + _ ≤ _; exact Nat.le_of_eq rfl) (by decide) (by decide) rfl ?_
          rintro v157 T157 h157 L157 ⟨rfl, N157q, e157⟩ P157
          rw [e157] at P157
          have N157 := Fr.app N124 N157q
          show Own.Goes _ _ _ _ (T157.setTop (mkF m 378 #[.val (.int x0), .val (.int x1), .val (.int x2), .val (.int x3), .val (.int x4), .val (.int (x0 &&& (1 : Int32))), .val (.int ((Jvm.Free.XT.ushr x0 (1 : Int32)) &&& (7 : Int32))), .val (.int c0), .val (.int c1), .val (.int c2), .val (.int c3), .val (.int c4), .val (.int c5), .val (.int c6), .val (.int c7), .val (.ref a36), .val (.ref a37), .val (.ref a38), .val (.ref a39), .val (.ref a89), .val (.int (1 : Int32)), .val (.int (0 : Int32)), .unset, .unset] [(.int (lowf c0))]))
          refine Own.bipush (q := 380) (v := (106 : Int32)) P157 at_378 rfl rfl ?_
          refine Own.icmp_ne (q := 383) (qy := 511) P157 at_380 (by decide) rfl (fun q380 => ?_) (fun q380 => ?_)
          · exact J511 _ _ (0 : Int32) (.unset) (.unset) P157 N157 (lt0 (fun z => q380 z.1))
          · refine Own.iload (q := 385) P157 at_383 rfl rfl ?_
            refine Own.invStatic (q := 388) (W := 0) (y := (⟨"com/example/mokuroku/mokuroku/formats/JpcoarReaderIsReadingLanguagePinLaw", "low", "(C)C"⟩ : MethodName)) (argsL := [(.int c1)]) (rest := []) P157 at_385 (hw _ (List.mem_of_getElem? (i := 81) rfl)) (hw _ (List.mem_of_getElem? (i := 82) rfl)) (hw _ (List.mem_of_getElem? (i := 2) rfl)) (hw _ (List.mem_of_getElem? (i := 83) rfl)) (by decide) (backOf (W := 0) (rmLow l Z a0 hw [] c1 h124 n0 (Nat.le_trans Z0 E0_35_156.1) rc1) P157.2.2.2.1 (hw _ (List.mem_of_getElem? (i := 83) rfl)) (hw _ (List.mem_of_getElem? (i := 2) rfl)) (by decide) (by decide)) rfl rfl (by rw [hml]; rfl) (lenOf (show parseMethodDescriptor "(C)C" = some ⟨[.char], some .char⟩ from by decide +kernel) rfl) (by show 2 * 0 + _ ≤ _; exact Nat.le_of_eq rfl) (by decide) (by decide) rfl ?_
            rintro v158 T158 h158 L158 ⟨rfl, N158q, e158⟩ P158
            rw [e158] at P158
            have N158 := Fr.app N157 N158q
            show Own.Goes _ _ _ _ (T158.setTop (mkF m 388 #[.val (.int x0), .val (.int x1), .val (.int x2), .val (.int x3), .val (.int x4), .val (.int (x0 &&& (1 : Int32))), .val (.int ((Jvm.Free.XT.ushr x0 (1 : Int32)) &&& (7 : Int32))), .val (.int c0), .val (.int c1), .val (.int c2), .val (.int c3), .val (.int c4), .val (.int c5), .val (.int c6), .val (.int c7), .val (.ref a36), .val (.ref a37), .val (.ref a38), .val (.ref a39), .val (.ref a89), .val (.int (1 : Int32)), .val (.int (0 : Int32)), .unset, .unset] [(.int (lowf c1))]))
            refine Own.bipush (q := 390) (v := (97 : Int32)) P158 at_388 rfl rfl ?_
            refine Own.icmp_ne (q := 393) (qy := 511) P158 at_390 (by decide) rfl (fun q390 => ?_) (fun q390 => ?_)
            · exact J511 _ _ (0 : Int32) (.unset) (.unset) P158 N158 (lt0 (fun z => q390 z.2.1))
            · refine Own.iload (q := 395) P158 at_393 rfl rfl ?_
              refine Own.bipush (q := 397) (v := (45 : Int32)) P158 at_395 rfl rfl ?_
              refine Own.icmp_ne (q := 400) (qy := 511) P158 at_397 (by decide) rfl (fun q397 => ?_) (fun q397 => ?_)
              · exact J511 _ _ (0 : Int32) (.unset) (.unset) P158 N158 (lt0 (fun z => q397 z.2.2))
              · have hh3 : lowf c0 = 106 ∧ lowf c1 = 97 ∧ c2 = 45 := ⟨q380, q390, q397⟩
                have J494 : ∀ (T159 : State) (lc159 : List Loc) (z21 f22 f23 : Int32), Own.Wk Z "com/example/mokuroku/mokuroku/formats/JpcoarReaderIsReadingLanguagePinLaw" code h124 p l e room_1 (s.setVm vm35) m #[(.int x0), (.int x1), (.int x2), (.int x3), (.int x4)] below meth c T159 lc159 22 288 → Fr n0 lc159 → f22 = (if lowf c3 = 107 ∧ lowf c4 = 97 ∧ lowf c5 = 110 ∧ lowf c6 = 97 then (1 : Int32) else 0) → f23 = (if lowf c3 = 108 ∧ lowf c4 = 97 ∧ lowf c5 = 116 ∧ lowf c6 = 110 then (1 : Int32) else 0) → Own.Goes p.tables e below (fun s₂ o => ∃ v L, o = .returned v ∧ QrmLaw Z x0 x1 x2 x3 x4 zc fm h0 n0 v s₂.heap L ∧ CHr Z EL s.vm s.heap s₂.vm s₂.heap ∧ ReturnedEndW s o s₂ L room_1.cells room_1.slots) (T159.setTop (mkF m 494 #[.val (.int x0), .val (.int x1), .val (.int x2), .val (.int x3), .val (.int x4), .val (.int (x0 &&& (1 : Int32))), .val (.int ((Jvm.Free.XT.ushr x0 (1 : Int32)) &&& (7 : Int32))), .val (.int c0), .val (.int c1), .val (.int c2), .val (.int c3), .val (.int c4), .val (.int c5), .val (.int c6), .val (.int c7), .val (.ref a36), .val (.ref a37), .val (.ref a38), .val (.ref a39), .val (.ref a89), .val (.int (1 : Int32)), .val (.int z21), .val (.int f22), .val (.int f23)] [])) := by
                  intro T159 lc159 z21 f22 f23  P159 N159 hk hl
                  refine Own.iload (q := 496) P159 at_494 rfl rfl ?_
                  refine Own.if_ne (q := 499) (qy := 504) P159 at_496 (by decide) rfl (fun q496 => ?_) (fun q496 => ?_)
                  · refine Own.iconst (q := 505) (v := (1 : Int32)) P159 at_504 rfl rfl ?_
                    refine Own.goto (q := 509) P159 at_505 (by decide) ?_
                    refine Own.istore (q := 511) (L2 := #[.val (.int x0), .val (.int x1), .val (.int x2), .val (.int x3), .val (.int x4), .val (.int (x0 &&& (1 : Int32))), .val (.int ((Jvm.Free.XT.ushr x0 (1 : Int32)) &&& (7 : Int32))), .val (.int c0), .val (.int c1), .val (.int c2), .val (.int c3), .val (.int c4), .val (.int c5), .val (.int c6), .val (.int c7), .val (.ref a36), .val (.ref a37), .val (.ref a38), .val (.ref a39), .val (.ref a89), .val (.int (1 : Int32)), .val (.int (1 : Int32)), .val (.int f22), .val (.int f23)]) P159 at_509 rfl rfl ?_
                    exact J511 _ _ (1 : Int32) (.val (.int f22)) (.val (.int f23)) P159 N159 (lt1 hh3 hk q496)
                  · refine Own.iload (q := 501) P159 at_499 rfl rfl ?_
                    refine Own.if_eq (q := 504) (qy := 508) P159 at_501 (by decide) rfl (fun q501 => ?_) (fun q501 => ?_)
                    · refine Own.iconst (q := 509) (v := (0 : Int32)) P159 at_508 rfl rfl ?_
                      refine Own.istore (q := 511) (L2 := #[.val (.int x0), .val (.int x1), .val (.int x2), .val (.int x3), .val (.int x4), .val (.int (x0 &&& (1 : Int32))), .val (.int ((Jvm.Free.XT.ushr x0 (1 : Int32)) &&& (7 : Int32))), .val (.int c0), .val (.int c1), .val (.int c2), .val (.int c3), .val (.int c4), .val (.int c5), .val (.int c6), .val (.int c7), .val (.ref a36), .val (.ref a37), .val (.ref a38), .val (.ref a39), .val (.ref a89), .val (.int (1 : Int32)), .val (.int (0 : Int32)), .val (.int f22), .val (.int f23)]) P159 at_509 rfl rfl ?_
                      exact J511 _ _ (0 : Int32) (.val (.int f22)) (.val (.int f23)) P159 N159 (lt3 hk hl q496 q501)
                    · refine Own.iconst (q := 505) (v := (1 : Int32)) P159 at_504 rfl rfl ?_
                      refine Own.goto (q := 509) P159 at_505 (by decide) ?_
                      refine Own.istore (q := 511) (L2 := #[.val (.int x0), .val (.int x1), .val (.int x2), .val (.int x3), .val (.int x4), .val (.int (x0 &&& (1 : Int32))), .val (.int ((Jvm.Free.XT.ushr x0 (1 : Int32)) &&& (7 : Int32))), .val (.int c0), .val (.int c1), .val (.int c2), .val (.int c3), .val (.int c4), .val (.int c5), .val (.int c6), .val (.int c7), .val (.ref a36), .val (.ref a37), .val (.ref a38), .val (.ref a39), .val (.ref a89), .val (.int (1 : Int32)), .val (.int (1 : Int32)), .val (.int f22), .val (.int f23)]) P159 at_509 rfl rfl ?_
                      exact J511 _ _ (1 : Int32) (.val (.int f22)) (.val (.int f23)) P159 N159 (lt2 hh3 hl q501)
                have J447 : ∀ (T160 : State) (lc160 : List Loc) (f22 : Int32), Own.Wk Z "com/example/mokuroku/mokuroku/formats/JpcoarReaderIsReadingLanguagePinLaw" code h124 p l e room_1 (s.setVm vm35) m #[(.int x0), (.int x1), (.int x2), (.int x3), (.int x4)] below meth c T160 lc160 22 288 → Fr n0 lc160 → f22 = (if lowf c3 = 107 ∧ lowf c4 = 97 ∧ lowf c5 = 110 ∧ lowf c6 = 97 then (1 : Int32) else 0) → Own.Goes p.tables e below (fun s₂ o => ∃ v L, o = .returned v ∧ QrmLaw Z x0 x1 x2 x3 x4 zc fm h0 n0 v s₂.heap L ∧ CHr Z EL s.vm s.heap s₂.vm s₂.heap ∧ ReturnedEndW s o s₂ L room_1.cells room_1.slots) (T160.setTop (mkF m 447 #[.val (.int x0), .val (.int x1), .val (.int x2), .val (.int x3), .val (.int x4), .val (.int (x0 &&& (1 : Int32))), .val (.int ((Jvm.Free.XT.ushr x0 (1 : Int32)) &&& (7 : Int32))), .val (.int c0), .val (.int c1), .val (.int c2), .val (.int c3), .val (.int c4), .val (.int c5), .val (.int c6), .val (.int c7), .val (.ref a36), .val (.ref a37), .val (.ref a38), .val (.ref a39), .val (.ref a89), .val (.int (1 : Int32)), .val (.int (0 : Int32)), .val (.int f22), .unset] [])) := by
                  intro T160 lc160 f22  P160 N160 hk
                  refine Own.iload (q := 449) P160 at_447 rfl rfl ?_
                  refine Own.invStatic (q := 452) (W := 0) (y := (⟨"com/example/mokuroku/mokuroku/formats/JpcoarReaderIsReadingLanguagePinLaw", "low", "(C)C"⟩ : MethodName)) (argsL := [(.int c3)]) (rest := []) P160 at_449 (hw _ (List.mem_of_getElem? (i := 81) rfl)) (hw _ (List.mem_of_getElem? (i := 82) rfl)) (hw _ (List.mem_of_getElem? (i := 2) rfl)) (hw _ (List.mem_of_getElem? (i := 83) rfl)) (by decide) (backOf (W := 0) (rmLow l Z a0 hw [] c3 h124 n0 (Nat.le_trans Z0 E0_35_156.1) rc3) P160.2.2.2.1 (hw _ (List.mem_of_getElem? (i := 83) rfl)) (hw _ (List.mem_of_getElem? (i := 2) rfl)) (by decide) (by decide)) rfl rfl (by rw [hml]; rfl) (lenOf (show parseMethodDescriptor "(C)C" = some ⟨[.char], some .char⟩ from by decide +kernel) rfl) (by show 2 * 0 + _ ≤ _; exact Nat.le_of_eq rfl) (by decide) (by decide) rfl ?_
                  rintro v161 T161 h161 L161 ⟨rfl, N161q, e161⟩ P161
                  rw [e161] at P161
                  have N161 := Fr.app N160 N161q
                  show Own.Goes _ _ _ _ (T161.setTop (mkF m 452 #[.val (.int x0), .val (.int x1), .val (.int x2), .val (.int x3), .val (.int x4), .val (.int (x0 &&& (1 : Int32))), .val (.int ((Jvm.Free.XT.ushr x0 (1 : Int32)) &&& (7 : Int32))), .val (.int c0), .val (.int c1), .val (.int c2), .val (.int c3), .val (.int c4), .val (.int c5), .val (.int c6), .val (.int c7), .val (.ref a36), .val (.ref a37), .val (.ref a38), .val (.ref a39), .val (.ref a89), .val (.int (1 : Int32)), .val (.int (0 : Int32)), .val (.int f22), .unset] [(.int (lowf c3))]))
                  refine Own.bipush (q := 454) (v := (108 : Int32)) P161 at_452 rfl rfl ?_
                  refine Own.icmp_ne (q := 457) (qy := 491) P161 at_454 (by decide) rfl (fun q454 => ?_) (fun q454 => ?_)
                  · refine Own.iconst (q := 492) (v := (0 : Int32)) P161 at_491 rfl rfl ?_
                    refine Own.istore (q := 494) (L2 := #[.val (.int x0), .val (.int x1), .val (.int x2), .val (.int x3), .val (.int x4), .val (.int (x0 &&& (1 : Int32))), .val (.int ((Jvm.Free.XT.ushr x0 (1 : Int32)) &&& (7 : Int32))), .val (.int c0), .val (.int c1), .val (.int c2), .val (.int c3), .val (.int c4), .val (.int c5), .val (.int c6), .val (.int c7), .val (.ref a36), .val (.ref a37), .val (.ref a38), .val (.ref a39), .val (.ref a89), .val (.int (1 : Int32)), .val (.int (0 : Int32)), .val (.int f22), .val (.int (0 : Int32))]) P161 at_492 rfl rfl ?_
                    exact J494 _ _ (0 : Int32) f22 (0 : Int32)  P161 N161 hk (if_neg (fun z => q454 z.1)).symm
                  · refine Own.iload (q := 459) P161 at_457 rfl rfl ?_
                    refine Own.invStatic (q := 462) (W := 0) (y := (⟨"com/example/mokuroku/mokuroku/formats/JpcoarReaderIsReadingLanguagePinLaw", "low", "(C)C"⟩ : MethodName)) (argsL := [(.int c4)]) (rest := []) P161 at_459 (hw _ (List.mem_of_getElem? (i := 81) rfl)) (hw _ (List.mem_of_getElem? (i := 82) rfl)) (hw _ (List.mem_of_getElem? (i := 2) rfl)) (hw _ (List.mem_of_getElem? (i := 83) rfl)) (by decide) (backOf (W := 0) (rmLow l Z a0 hw [] c4 h124 n0 (Nat.le_trans Z0 E0_35_156.1) rc4) P161.2.2.2.1 (hw _ (List.mem_of_getElem? (i := 83) rfl)) (hw _ (List.mem_of_getElem? (i := 2) rfl)) (by decide) (by decide)) rfl rfl (by rw [hml]; rfl) (lenOf (show parseMethodDescriptor "(C)C" = some ⟨[.char], some .char⟩ from by decide +kernel) rfl) (by show 2 * 0 + _ ≤ _; exact Nat.le_of_eq rfl) (by decide) (by decide) rfl ?_
                    rintro v162 T162 h162 L162 ⟨rfl, N162q, e162⟩ P162
                    rw [e162] at P162
                    have N162 := Fr.app N161 N162q
                    show Own.Goes _ _ _ _ (T162.setTop (mkF m 462 #[.val (.int x0), .val (.int x1), .val (.int x2), .val (.int x3), .val (.int x4), .val (.int (x0 &&& (1 : Int32))), .val (.int ((Jvm.Free.XT.ushr x0 (1 : Int32)) &&& (7 : Int32))), .val (.int c0), .val (.int c1), .val (.int c2), .val (.int c3), .val (.int c4), .val (.int c5), .val (.int c6), .val (.int c7), .val (.ref a36), .val (.ref a37), .val (.ref a38), .val (.ref a39), .val (.ref a89), .val (.int (1 : Int32)), .val (.int (0 : Int32)), .val (.int f22), .unset] [(.int (lowf c4))]))
                    refine Own.bipush (q := 464) (v := (97 : Int32)) P162 at_462 rfl rfl ?_
                    refine Own.icmp_ne (q := 467) (qy := 491) P162 at_464 (by decide) rfl (fun q464 => ?_) (fun q464 => ?_)
                    · refine Own.iconst (q := 492) (v := (0 : Int32)) P162 at_491 rfl rfl ?_
                      refine Own.istore (q := 494) (L2 := #[.val (.int x0), .val (.int x1), .val (.int x2), .val (.int x3), .val (.int x4), .val (.int (x0 &&& (1 : Int32))), .val (.int ((Jvm.Free.XT.ushr x0 (1 : Int32)) &&& (7 : Int32))), .val (.int c0), .val (.int c1), .val (.int c2), .val (.int c3), .val (.int c4), .val (.int c5), .val (.int c6), .val (.int c7), .val (.ref a36), .val (.ref a37), .val (.ref a38), .val (.ref a39), .val (.ref a89), .val (.int (1 : Int32)), .val (.int (0 : Int32)), .val (.int f22), .val (.int (0 : Int32))]) P162 at_492 rfl rfl ?_
                      exact J494 _ _ (0 : Int32) f22 (0 : Int32)  P162 N162 hk (if_neg (fun z => q464 z.2.1)).symm
                    · refine Own.iload (q := 469) P162 at_467 rfl rfl ?_
                      refine Own.invStatic (q := 472) (W := 0) (y := (⟨"com/example/mokuroku/mokuroku/formats/JpcoarReaderIsReadingLanguagePinLaw", "low", "(C)C"⟩ : MethodName)) (argsL := [(.int c5)]) (rest := []) P162 at_469 (hw _ (List.mem_of_getElem? (i := 81) rfl)) (hw _ (List.mem_of_getElem? (i := 82) rfl)) (hw _ (List.mem_of_getElem? (i := 2) rfl)) (hw _ (List.mem_of_getElem? (i := 83) rfl)) (by decide) (backOf (W := 0) (rmLow l Z a0 hw [] c5 h124 n0 (Nat.le_trans Z0 E0_35_156.1) rc5) P162.2.2.2.1 (hw _ (List.mem_of_getElem? (i := 83) rfl)) (hw _ (List.mem_of_getElem? (i := 2) rfl)) (by decide) (by decide)) rfl rfl (by rw [hml]; rfl) (lenOf (show parseMethodDescriptor "(C)C" = some ⟨[.char], some .char⟩ from by decide +kernel) rfl) (by show 2 * 0 + _ ≤ _; exact Nat.le_of_eq rfl) (by decide) (by decide) rfl ?_
                      rintro v163 T163 h163 L163 ⟨rfl, N163q, e163⟩ P163
                      rw [e163] at P163
                      have N163 := Fr.app N162 N163q
                      show Own.Goes _ _ _ _ (T163.setTop (mkF m 472 #[.val (.int x0), .val (.int x1), .val (.int x2), .val (.int x3), .val (.int x4), .val (.int (x0 &&& (1 : Int32))), .val (.int ((Jvm.Free.XT.ushr x0 (1 : Int32)) &&& (7 : Int32))), .val (.int c0), .val (.int c1), .val (.int c2), .val (.int c3), .val (.int c4), .val (.int c5), .val (.int c6), .val (.int c7), .val (.ref a36), .val (.ref a37), .val (.ref a38), .val (.ref a39), .val (.ref a89), .val (.int (1 : Int32)), .val (.int (0 : Int32)), .val (.int f22), .unset] [(.int (lowf c5))]))
                      refine Own.bipush (q := 474) (v := (116 : Int32)) P163 at_472 rfl rfl ?_
                      refine Own.icmp_ne (q := 477) (qy := 491) P163 at_474 (by decide) rfl (fun q474 => ?_) (fun q474 => ?_)
                      · refine Own.iconst (q := 492) (v := (0 : Int32)) P163 at_491 rfl rfl ?_
                        refine Own.istore (q := 494) (L2 := #[.val (.int x0), .val (.int x1), .val (.int x2), .val (.int x3), .val (.int x4), .val (.int (x0 &&& (1 : Int32))), .val (.int ((Jvm.Free.XT.ushr x0 (1 : Int32)) &&& (7 : Int32))), .val (.int c0), .val (.int c1), .val (.int c2), .val (.int c3), .val (.int c4), .val (.int c5), .val (.int c6), .val (.int c7), .val (.ref a36), .val (.ref a37), .val (.ref a38), .val (.ref a39), .val (.ref a89), .val (.int (1 : Int32)), .val (.int (0 : Int32)), .val (.int f22), .val (.int (0 : Int32))]) P163 at_492 rfl rfl ?_
                        exact J494 _ _ (0 : Int32) f22 (0 : Int32)  P163 N163 hk (if_neg (fun z => q474 z.2.2.1)).symm
                      · refine Own.iload (q := 479) P163 at_477 rfl rfl ?_
                        refine Own.invStatic (q := 482) (W := 0) (y := (⟨"com/example/mokuroku/mokuroku/formats/JpcoarReaderIsReadingLanguagePinLaw", "low", "(C)C"⟩ : MethodName)) (argsL := [(.int c6)]) (rest := []) P163 at_479 (hw _ (List.mem_of_getElem? (i := 81) rfl)) (hw _ (List.mem_of_getElem? (i := 82) rfl)) (hw _ (List.mem_of_getElem? (i := 2) rfl)) (hw _ (List.mem_of_getElem? (i := 83) rfl)) (by decide) (backOf (W := 0) (rmLow l Z a0 hw [] c6 h124 n0 (Nat.le_trans Z0 E0_35_156.1) rc6) P163.2.2.2.1 (hw _ (List.mem_of_getElem? (i := 83) rfl)) (hw _ (List.mem_of_getElem? (i := 2) rfl)) (by decide) (by decide)) rfl rfl (by rw [hml]; rfl) (lenOf (show parseMethodDescriptor "(C)C" = some ⟨[.char], some .char⟩ from by decide +kernel) rfl) (by show 2 * 0 + _ ≤ _; exact Nat.le_of_eq rfl) (by decide) (by decide) rfl ?_
                        rintro v164 T164 h164 L164 ⟨rfl, N164q, e164⟩ P164
                        rw [e164] at P164
                        have N164 := Fr.app N163 N164q
                        show Own.Goes _ _ _ _ (T164.setTop (mkF m 482 #[.val (.int x0), .val (.int x1), .val (.int x2), .val (.int x3), .val (.int x4), .val (.int (x0 &&& (1 : Int32))), .val (.int ((Jvm.Free.XT.ushr x0 (1 : Int32)) &&& (7 : Int32))), .val (.int c0), .val (.int c1), .val (.int c2), .val (.int c3), .val (.int c4), .val (.int c5), .val (.int c6), .val (.int c7), .val (.ref a36), .val (.ref a37), .val (.ref a38), .val (.ref a39), .val (.ref a89), .val (.int (1 : Int32)), .val (.int (0 : Int32)), .val (.int f22), .unset] [(.int (lowf c6))]))
                        refine Own.bipush (q := 484) (v := (110 : Int32)) P164 at_482 rfl rfl ?_
                        refine Own.icmp_ne (q := 487) (qy := 491) P164 at_484 (by decide) rfl (fun q484 => ?_) (fun q484 => ?_)
                        · refine Own.iconst (q := 492) (v := (0 : Int32)) P164 at_491 rfl rfl ?_
                          refine Own.istore (q := 494) (L2 := #[.val (.int x0), .val (.int x1), .val (.int x2), .val (.int x3), .val (.int x4), .val (.int (x0 &&& (1 : Int32))), .val (.int ((Jvm.Free.XT.ushr x0 (1 : Int32)) &&& (7 : Int32))), .val (.int c0), .val (.int c1), .val (.int c2), .val (.int c3), .val (.int c4), .val (.int c5), .val (.int c6), .val (.int c7), .val (.ref a36), .val (.ref a37), .val (.ref a38), .val (.ref a39), .val (.ref a89), .val (.int (1 : Int32)), .val (.int (0 : Int32)), .val (.int f22), .val (.int (0 : Int32))]) P164 at_492 rfl rfl ?_
                          exact J494 _ _ (0 : Int32) f22 (0 : Int32)  P164 N164 hk (if_neg (fun z => q484 z.2.2.2)).symm
                        · refine Own.iconst (q := 488) (v := (1 : Int32)) P164 at_487 rfl rfl ?_
                          refine Own.goto (q := 492) P164 at_488 (by decide) ?_
                          refine Own.istore (q := 494) (L2 := #[.val (.int x0), .val (.int x1), .val (.int x2), .val (.int x3), .val (.int x4), .val (.int (x0 &&& (1 : Int32))), .val (.int ((Jvm.Free.XT.ushr x0 (1 : Int32)) &&& (7 : Int32))), .val (.int c0), .val (.int c1), .val (.int c2), .val (.int c3), .val (.int c4), .val (.int c5), .val (.int c6), .val (.int c7), .val (.ref a36), .val (.ref a37), .val (.ref a38), .val (.ref a39), .val (.ref a89), .val (.int (1 : Int32)), .val (.int (0 : Int32)), .val (.int f22), .val (.int (1 : Int32))]) P164 at_492 rfl rfl ?_
                          exact J494 _ _ (0 : Int32) f22 (1 : Int32)  P164 N164 hk (if_pos ⟨q454, q464, q474, q484⟩).symm
                refine Own.iload (q := 402) P158 at_400 rfl rfl ?_
                refine Own.invStatic (q := 405) (W := 0) (y := (⟨"com/example/mokuroku/mokuroku/formats/JpcoarReaderIsReadingLanguagePinLaw", "low", "(C)C"⟩ : MethodName)) (argsL := [(.int c3)]) (rest := []) P158 at_402 (hw _ (List.mem_of_getElem? (i := 81) rfl)) (hw _ (List.mem_of_getElem? (i := 82) rfl)) (hw _ (List.mem_of_getElem? (i := 2) rfl)) (hw _ (List.mem_of_getElem? (i := 83) rfl)) (by decide) (backOf (W := 0) (rmLow l Z a0 hw [] c3 h124 n0 (Nat.le_trans Z0 E0_35_156.1) rc3) P158.2.2.2.1 (hw _ (List.mem_of_getElem? (i := 83) rfl)) (hw _ (List.mem_of_getElem? (i := 2) rfl)) (by decide) (by decide)) rfl rfl (by rw [hml]; rfl) (lenOf (show parseMethodDescriptor "(C)C" = some ⟨[.char], some .char⟩ from by decide +kernel) rfl) (by show 2 * 0 + _ ≤ _; exact Nat.le_of_eq rfl) (by decide) (by decide) rfl ?_
                rintro v165 T165 h165 L165 ⟨rfl, N165q, e165⟩ P165
                rw [e165] at P165
                have N165 := Fr.app N158 N165q
                show Own.Goes _ _ _ _ (T165.setTop (mkF m 405 #[.val (.int x0), .val (.int x1), .val (.int x2), .val (.int x3), .val (.int x4), .val (.int (x0 &&& (1 : Int32))), .val (.int ((Jvm.Free.XT.ushr x0 (1 : Int32)) &&& (7 : Int32))), .val (.int c0), .val (.int c1), .val (.int c2), .val (.int c3), .val (.int c4), .val (.int c5), .val (.int c6), .val (.int c7), .val (.ref a36), .val (.ref a37), .val (.ref a38), .val (.ref a39), .val (.ref a89), .val (.int (1 : Int32)), .val (.int (0 : Int32)), .unset, .unset] [(.int (lowf c3))]))
                refine Own.bipush (q := 407) (v := (107 : Int32)) P165 at_405 rfl rfl ?_
                refine Own.icmp_ne (q := 410) (qy := 444) P165 at_407 (by decide) rfl (fun q407 => ?_) (fun q407 => ?_)
                · refine Own.iconst (q := 445) (v := (0 : Int32)) P165 at_444 rfl rfl ?_
                  refine Own.istore (q := 447) (L2 := #[.val (.int x0), .val (.int x1), .val (.int x2), .val (.int x3), .val (.int x4), .val (.int (x0 &&& (1 : Int32))), .val (.int ((Jvm.Free.XT.ushr x0 (1 : Int32)) &&& (7 : Int32))), .val (.int c0), .val (.int c1), .val (.int c2), .val (.int c3), .val (.int c4), .val (.int c5), .val (.int c6), .val (.int c7), .val (.ref a36), .val (.ref a37), .val (.ref a38), .val (.ref a39), .val (.ref a89), .val (.int (1 : Int32)), .val (.int (0 : Int32)), .val (.int (0 : Int32)), .unset]) P165 at_445 rfl rfl ?_
                  exact J447 _ _ (0 : Int32)  P165 N165 (if_neg (fun z => q407 z.1)).symm
                · refine Own.iload (q := 412) P165 at_410 rfl rfl ?_
                  refine Own.invStatic (q := 415) (W := 0) (y := (⟨"com/example/mokuroku/mokuroku/formats/JpcoarReaderIsReadingLanguagePinLaw", "low", "(C)C"⟩ : MethodName)) (argsL := [(.int c4)]) (rest := []) P165 at_412 (hw _ (List.mem_of_getElem? (i := 81) rfl)) (hw _ (List.mem_of_getElem? (i := 82) rfl)) (hw _ (List.mem_of_getElem? (i := 2) rfl)) (hw _ (List.mem_of_getElem? (i := 83) rfl)) (by decide) (backOf (W := 0) (rmLow l Z a0 hw [] c4 h124 n0 (Nat.le_trans Z0 E0_35_156.1) rc4) P165.2.2.2.1 (hw _ (List.mem_of_getElem? (i := 83) rfl)) (hw _ (List.mem_of_getElem? (i := 2) rfl)) (by decide) (by decide)) rfl rfl (by rw [hml]; rfl) (lenOf (show parseMethodDescriptor "(C)C" = some ⟨[.char], some .char⟩ from by decide +kernel) rfl) (by show 2 * 0 + _ ≤ _; exact Nat.le_of_eq rfl) (by decide) (by decide) rfl ?_
                  rintro v166 T166 h166 L166 ⟨rfl, N166q, e166⟩ P166
                  rw [e166] at P166
                  have N166 := Fr.app N165 N166q
                  show Own.Goes _ _ _ _ (T166.setTop (mkF m 415 #[.val (.int x0), .val (.int x1), .val (.int x2), .val (.int x3), .val (.int x4), .val (.int (x0 &&& (1 : Int32))), .val (.int ((Jvm.Free.XT.ushr x0 (1 : Int32)) &&& (7 : Int32))), .val (.int c0), .val (.int c1), .val (.int c2), .val (.int c3), .val (.int c4), .val (.int c5), .val (.int c6), .val (.int c7), .val (.ref a36), .val (.ref a37), .val (.ref a38), .val (.ref a39), .val (.ref a89), .val (.int (1 : Int32)), .val (.int (0 : Int32)), .unset, .unset] [(.int (lowf c4))]))
                  refine Own.bipush (q := 417) (v := (97 : Int32)) P166 at_415 rfl rfl ?_
                  refine Own.icmp_ne (q := 420) (qy := 444) P166 at_417 (by decide) rfl (fun q417 => ?_) (fun q417 => ?_)
                  · refine Own.iconst (q := 445) (v := (0 : Int32)) P166 at_444 rfl rfl ?_
                    refine Own.istore (q := 447) (L2 := #[.val (.int x0), .val (.int x1), .val (.int x2), .val (.int x3), .val (.int x4), .val (.int (x0 &&& (1 : Int32))), .val (.int ((Jvm.Free.XT.ushr x0 (1 : Int32)) &&& (7 : Int32))), .val (.int c0), .val (.int c1), .val (.int c2), .val (.int c3), .val (.int c4), .val (.int c5), .val (.int c6), .val (.int c7), .val (.ref a36), .val (.ref a37), .val (.ref a38), .val (.ref a39), .val (.ref a89), .val (.int (1 : Int32)), .val (.int (0 : Int32)), .val (.int (0 : Int32)), .unset]) P166 at_445 rfl rfl ?_
                    exact J447 _ _ (0 : Int32)  P166 N166 (if_neg (fun z => q417 z.2.1)).symm
                  · refine Own.iload (q := 422) P166 at_420 rfl rfl ?_
                    refine Own.invStatic (q := 425) (W := 0) (y := (⟨"com/example/mokuroku/mokuroku/formats/JpcoarReaderIsReadingLanguagePinLaw", "low", "(C)C"⟩ : MethodName)) (argsL := [(.int c5)]) (rest := []) P166 at_422 (hw _ (List.mem_of_getElem? (i := 81) rfl)) (hw _ (List.mem_of_getElem? (i := 82) rfl)) (hw _ (List.mem_of_getElem? (i := 2) rfl)) (hw _ (List.mem_of_getElem? (i := 83) rfl)) (by decide) (backOf (W := 0) (rmLow l Z a0 hw [] c5 h124 n0 (Nat.le_trans Z0 E0_35_156.1) rc5) P166.2.2.2.1 (hw _ (List.mem_of_getElem? (i := 83) rfl)) (hw _ (List.mem_of_getElem? (i := 2) rfl)) (by decide) (by decide)) rfl rfl (by rw [hml]; rfl) (lenOf (show parseMethodDescriptor "(C)C" = some ⟨[.char], some .char⟩ from by decide +kernel) rfl) (by show 2 * 0 + _ ≤ _; exact Nat.le_of_eq rfl) (by decide) (by decide) rfl ?_
                    rintro v167 T167 h167 L167 ⟨rfl, N167q, e167⟩ P167
                    rw [e167] at P167
                    have N167 := Fr.app N166 N167q
                    show Own.Goes _ _ _ _ (T167.setTop (mkF m 425 #[.val (.int x0), .val (.int x1), .val (.int x2), .val (.int x3), .val (.int x4), .val (.int (x0 &&& (1 : Int32))), .val (.int ((Jvm.Free.XT.ushr x0 (1 : Int32)) &&& (7 : Int32))), .val (.int c0), .val (.int c1), .val (.int c2), .val (.int c3), .val (.int c4), .val (.int c5), .val (.int c6), .val (.int c7), .val (.ref a36), .val (.ref a37), .val (.ref a38), .val (.ref a39), .val (.ref a89), .val (.int (1 : Int32)), .val (.int (0 : Int32)), .unset, .unset] [(.int (lowf c5))]))
                    refine Own.bipush (q := 427) (v := (110 : Int32)) P167 at_425 rfl rfl ?_
                    refine Own.icmp_ne (q := 430) (qy := 444) P167 at_427 (by decide) rfl (fun q427 => ?_) (fun q427 => ?_)
                    · refine Own.iconst (q := 445) (v := (0 : Int32)) P167 at_444 rfl rfl ?_
                      refine Own.istore (q := 447) (L2 := #[.val (.int x0), .val (.int x1), .val (.int x2), .val (.int x3), .val (.int x4), .val (.int (x0 &&& (1 : Int32))), .val (.int ((Jvm.Free.XT.ushr x0 (1 : Int32)) &&& (7 : Int32))), .val (.int c0), .val (.int c1), .val (.int c2), .val (.int c3), .val (.int c4), .val (.int c5), .val (.int c6), .val (.int c7), .val (.ref a36), .val (.ref a37), .val (.ref a38), .val (.ref a39), .val (.ref a89), .val (.int (1 : Int32)), .val (.int (0 : Int32)), .val (.int (0 : Int32)), .unset]) P167 at_445 rfl rfl ?_
                      exact J447 _ _ (0 : Int32)  P167 N167 (if_neg (fun z => q427 z.2.2.1)).symm
                    · refine Own.iload (q := 432) P167 at_430 rfl rfl ?_
                      refine Own.invStatic (q := 435) (W := 0) (y := (⟨"com/example/mokuroku/mokuroku/formats/JpcoarReaderIsReadingLanguagePinLaw", "low", "(C)C"⟩ : MethodName)) (argsL := [(.int c6)]) (rest := []) P167 at_432 (hw _ (List.mem_of_getElem? (i := 81) rfl)) (hw _ (List.mem_of_getElem? (i := 82) rfl)) (hw _ (List.mem_of_getElem? (i := 2) rfl)) (hw _ (List.mem_of_getElem? (i := 83) rfl)) (by decide) (backOf (W := 0) (rmLow l Z a0 hw [] c6 h124 n0 (Nat.le_trans Z0 E0_35_156.1) rc6) P167.2.2.2.1 (hw _ (List.mem_of_getElem? (i := 83) rfl)) (hw _ (List.mem_of_getElem? (i := 2) rfl)) (by decide) (by decide)) rfl rfl (by rw [hml]; rfl) (lenOf (show parseMethodDescriptor "(C)C" = some ⟨[.char], some .char⟩ from by decide +kernel) rfl) (by show 2 * 0 + _ ≤ _; exact Nat.le_of_eq rfl) (by decide) (by decide) rfl ?_
                      rintro v168 T168 h168 L168 ⟨rfl, N168q, e168⟩ P168
                      rw [e168] at P168
                      have N168 := Fr.app N167 N168q
                      show Own.Goes _ _ _ _ (T168.setTop (mkF m 435 #[.val (.int x0), .val (.int x1), .val (.int x2), .val (.int x3), .val (.int x4), .val (.int (x0 &&& (1 : Int32))), .val (.int ((Jvm.Free.XT.ushr x0 (1 : Int32)) &&& (7 : Int32))), .val (.int c0), .val (.int c1), .val (.int c2), .val (.int c3), .val (.int c4), .val (.int c5), .val (.int c6), .val (.int c7), .val (.ref a36), .val (.ref a37), .val (.ref a38), .val (.ref a39), .val (.ref a89), .val (.int (1 : Int32)), .val (.int (0 : Int32)), .unset, .unset] [(.int (lowf c6))]))
                      refine Own.bipush (q := 437) (v := (97 : Int32)) P168 at_435 rfl rfl ?_
                      refine Own.icmp_ne (q := 440) (qy := 444) P168 at_437 (by decide) rfl (fun q437 => ?_) (fun q437 => ?_)
                      · refine Own.iconst (q := 445) (v := (0 : Int32)) P168 at_444 rfl rfl ?_
                        refine Own.istore (q := 447) (L2 := #[.val (.int x0), .val (.int x1), .val (.int x2), .val (.int x3), .val (.int x4), .val (.int (x0 &&& (1 : Int32))), .val (.int ((Jvm.Free.XT.ushr x0 (1 : Int32)) &&& (7 : Int32))), .val (.int c0), .val (.int c1), .val (.int c2), .val (.int c3), .val (.int c4), .val (.int c5), .val (.int c6), .val (.int c7), .val (.ref a36), .val (.ref a37), .val (.ref a38), .val (.ref a39), .val (.ref a89), .val (.int (1 : Int32)), .val (.int (0 : Int32)), .val (.int (0 : Int32)), .unset]) P168 at_445 rfl rfl ?_
                        exact J447 _ _ (0 : Int32)  P168 N168 (if_neg (fun z => q437 z.2.2.2)).symm
                      · refine Own.iconst (q := 441) (v := (1 : Int32)) P168 at_440 rfl rfl ?_
                        refine Own.goto (q := 445) P168 at_441 (by decide) ?_
                        refine Own.istore (q := 447) (L2 := #[.val (.int x0), .val (.int x1), .val (.int x2), .val (.int x3), .val (.int x4), .val (.int (x0 &&& (1 : Int32))), .val (.int ((Jvm.Free.XT.ushr x0 (1 : Int32)) &&& (7 : Int32))), .val (.int c0), .val (.int c1), .val (.int c2), .val (.int c3), .val (.int c4), .val (.int c5), .val (.int c6), .val (.int c7), .val (.ref a36), .val (.ref a37), .val (.ref a38), .val (.ref a39), .val (.ref a89), .val (.int (1 : Int32)), .val (.int (0 : Int32)), .val (.int (1 : Int32)), .unset]) P168 at_445 rfl rfl ?_
                        exact J447 _ _ (1 : Int32)  P168 N168 (if_pos ⟨q407, q417, q427, q437⟩).symm
        · refine Own.newobj (q := 340) P88 at_337 (hw _ (List.mem_of_getElem? (i := 50) rfl)) (hw _ (List.mem_of_getElem? (i := 6) rfl)) (hw _ (List.mem_of_getElem? (i := 5) rfl)) (by decide) (by decide) rfl ?_
          intro T169 h169 a169 ha169 P169 E169 A169 D169
          have F169_value : Fld Z h169 a169 "java/lang/String" "value" "[B" .null := D169 (Or.inr (hw _ (List.mem_of_getElem? (i := 8) rfl))) (ty := (.array .byte)) (by decide)
          have F169_coder : Fld Z h169 a169 "java/lang/String" "coder" "B" (.int (0 : Int32)) := D169 (Or.inr (hw _ (List.mem_of_getElem? (i := 9) rfl))) (ty := .byte) (by decide)
          refine Own.dup (q := 341) P169 at_340 rfl rfl ?_
          refine Own.aload (q := 343) P169 at_341 rfl rfl rfl ?_
          have E0_11_170 : Ext h0 h38 := (Own.Ext.tr E0_10_81 E38)
          have E0_12_171 : Ext h0 h39 := (Own.Ext.tr E0_11_170 E39)
          have E0_13_172 : Ext h0 h43 := (Own.Ext.wr E0_12_171 W43 (Nat.le_trans E0_8_44.1 (Nat.le_of_eq ha36.symm)))
          have E0_14_173 : Ext h0 h45 := (Own.Ext.wr E0_13_172 W45 (Nat.le_trans E0_8_44.1 (Nat.le_of_eq ha36.symm)))
          have E0_15_174 : Ext h0 h46 := (Own.Ext.wr E0_14_173 W46 (Nat.le_trans E0_8_44.1 (Nat.le_of_eq ha36.symm)))
          have E0_16_175 : Ext h0 h47 := (Own.Ext.wr E0_15_174 W47 (Nat.le_trans E0_8_44.1 (Nat.le_of_eq ha36.symm)))
          have E0_17_176 : Ext h0 h48 := (Own.Ext.wr E0_16_175 W48 (Nat.le_trans E0_8_44.1 (Nat.le_of_eq ha36.symm)))
          have E0_18_177 : Ext h0 h49 := (Own.Ext.wr E0_17_176 W49 (Nat.le_trans E0_8_44.1 (Nat.le_of_eq ha36.symm)))
          have E0_19_178 : Ext h0 h58 := (Own.Ext.wr E0_18_177 W58 (Nat.le_trans E0_9_59.1 (Nat.le_of_eq ha37.symm)))
          have E0_20_179 : Ext h0 h60 := (Own.Ext.wr E0_19_178 W60 (Nat.le_trans E0_9_59.1 (Nat.le_of_eq ha37.symm)))
          have E0_21_180 : Ext h0 h61 := (Own.Ext.wr E0_20_179 W61 (Nat.le_trans E0_9_59.1 (Nat.le_of_eq ha37.symm)))
          have E0_22_181 : Ext h0 h62 := (Own.Ext.wr E0_21_180 W62 (Nat.le_trans E0_9_59.1 (Nat.le_of_eq ha37.symm)))
          have E0_23_182 : Ext h0 h63 := (Own.Ext.wr E0_22_181 W63 (Nat.le_trans E0_9_59.1 (Nat.le_of_eq ha37.symm)))
          have E0_24_183 : Ext h0 h64 := (Own.Ext.wr E0_23_182 W64 (Nat.le_trans E0_9_59.1 (Nat.le_of_eq ha37.symm)))
          have E0_25_184 : Ext h0 h65 := (Own.Ext.wr E0_24_183 W65 (Nat.le_trans E0_9_59.1 (Nat.le_of_eq ha37.symm)))
          have E0_26_185 : Ext h0 h80 := (Own.Ext.wr E0_25_184 W80 (Nat.le_trans E0_10_81.1 (Nat.le_of_eq ha38.symm)))
          have E0_27_186 : Ext h0 h82 := (Own.Ext.wr E0_26_185 W82 (Nat.le_trans E0_10_81.1 (Nat.le_of_eq ha38.symm)))
          have E0_28_187 : Ext h0 h83 := (Own.Ext.wr E0_27_186 W83 (Nat.le_trans E0_10_81.1 (Nat.le_of_eq ha38.symm)))
          have E0_29_188 : Ext h0 h84 := (Own.Ext.wr E0_28_187 W84 (Nat.le_trans E0_10_81.1 (Nat.le_of_eq ha38.symm)))
          have E0_30_189 : Ext h0 h85 := (Own.Ext.wr E0_29_188 W85 (Nat.le_trans E0_10_81.1 (Nat.le_of_eq ha38.symm)))
          have E0_31_190 : Ext h0 h86 := (Own.Ext.wr E0_30_189 W86 (Nat.le_trans E0_10_81.1 (Nat.le_of_eq ha38.symm)))
          have E0_32_191 : Ext h0 h87 := (Own.Ext.wr E0_31_190 W87 (Nat.le_trans E0_10_81.1 (Nat.le_of_eq ha38.symm)))
          have E0_33_192 : Ext h0 h88 := (Own.Ext.wr E0_32_191 W88 (Nat.le_trans E0_10_81.1 (Nat.le_of_eq ha38.symm)))
          have qf193 := (Arv.keep V39 (Keep.of_wr W43) (ninS (Nat.ne_of_gt (Nat.lt_of_lt_of_le V36.lt (Nat.le_trans E9_11_41.1 (Nat.le_of_eq ha39.symm)))) nin0))
          have qf194 := (Arv.keep qf193 (Keep.of_wr W45) (ninS (Nat.ne_of_gt (Nat.lt_of_lt_of_le V36.lt (Nat.le_trans E9_11_41.1 (Nat.le_of_eq ha39.symm)))) nin0))
          have qf195 := (Arv.keep qf194 (Keep.of_wr W46) (ninS (Nat.ne_of_gt (Nat.lt_of_lt_of_le V36.lt (Nat.le_trans E9_11_41.1 (Nat.le_of_eq ha39.symm)))) nin0))
          have qf196 := (Arv.keep qf195 (Keep.of_wr W47) (ninS (Nat.ne_of_gt (Nat.lt_of_lt_of_le V36.lt (Nat.le_trans E9_11_41.1 (Nat.le_of_eq ha39.symm)))) nin0))
          have qf197 := (Arv.keep qf196 (Keep.of_wr W48) (ninS (Nat.ne_of_gt (Nat.lt_of_lt_of_le V36.lt (Nat.le_trans E9_11_41.1 (Nat.le_of_eq ha39.symm)))) nin0))
          have qf198 := (Arv.keep qf197 (Keep.of_wr W49) (ninS (Nat.ne_of_gt (Nat.lt_of_lt_of_le V36.lt (Nat.le_trans E9_11_41.1 (Nat.le_of_eq ha39.symm)))) nin0))
          have E10_11_199 : Ext h37 h38 := E38
          have qf200 := (Arv.keep qf198 (Keep.of_wr W58) (ninS (Nat.ne_of_gt (Nat.lt_of_lt_of_le V37.lt (Nat.le_trans E10_11_199.1 (Nat.le_of_eq ha39.symm)))) nin0))
          have qf201 := (Arv.keep qf200 (Keep.of_wr W60) (ninS (Nat.ne_of_gt (Nat.lt_of_lt_of_le V37.lt (Nat.le_trans E10_11_199.1 (Nat.le_of_eq ha39.symm)))) nin0))
          have qf202 := (Arv.keep qf201 (Keep.of_wr W61) (ninS (Nat.ne_of_gt (Nat.lt_of_lt_of_le V37.lt (Nat.le_trans E10_11_199.1 (Nat.le_of_eq ha39.symm)))) nin0))
          have qf203 := (Arv.keep qf202 (Keep.of_wr W62) (ninS (Nat.ne_of_gt (Nat.lt_of_lt_of_le V37.lt (Nat.le_trans E10_11_199.1 (Nat.le_of_eq ha39.symm)))) nin0))
          have qf204 := (Arv.keep qf203 (Keep.of_wr W63) (ninS (Nat.ne_of_gt (Nat.lt_of_lt_of_le V37.lt (Nat.le_trans E10_11_199.1 (Nat.le_of_eq ha39.symm)))) nin0))
          have qf205 := (Arv.keep qf204 (Keep.of_wr W64) (ninS (Nat.ne_of_gt (Nat.lt_of_lt_of_le V37.lt (Nat.le_trans E10_11_199.1 (Nat.le_of_eq ha39.symm)))) nin0))
          have qf206 := (Arv.keep qf205 (Keep.of_wr W65) (ninS (Nat.ne_of_gt (Nat.lt_of_lt_of_le V37.lt (Nat.le_trans E10_11_199.1 (Nat.le_of_eq ha39.symm)))) nin0))
          have qf207 := (Arv.keep qf206 (Keep.of_wr W80) (ninS (Nat.ne_of_gt (Nat.lt_of_lt_of_le V38.lt (Nat.le_of_eq ha39.symm))) nin0))
          have qf208 := (Arv.keep qf207 (Keep.of_wr W82) (ninS (Nat.ne_of_gt (Nat.lt_of_lt_of_le V38.lt (Nat.le_of_eq ha39.symm))) nin0))
          have qf209 := (Arv.keep qf208 (Keep.of_wr W83) (ninS (Nat.ne_of_gt (Nat.lt_of_lt_of_le V38.lt (Nat.le_of_eq ha39.symm))) nin0))
          have qf210 := (Arv.keep qf209 (Keep.of_wr W84) (ninS (Nat.ne_of_gt (Nat.lt_of_lt_of_le V38.lt (Nat.le_of_eq ha39.symm))) nin0))
          have qf211 := (Arv.keep qf210 (Keep.of_wr W85) (ninS (Nat.ne_of_gt (Nat.lt_of_lt_of_le V38.lt (Nat.le_of_eq ha39.symm))) nin0))
          have qf212 := (Arv.keep qf211 (Keep.of_wr W86) (ninS (Nat.ne_of_gt (Nat.lt_of_lt_of_le V38.lt (Nat.le_of_eq ha39.symm))) nin0))
          have qf213 := (Arv.keep qf212 (Keep.of_wr W87) (ninS (Nat.ne_of_gt (Nat.lt_of_lt_of_le V38.lt (Nat.le_of_eq ha39.symm))) nin0))
          have qf214 := (Arv.keep qf213 (Keep.of_wr W88) (ninS (Nat.ne_of_gt (Nat.lt_of_lt_of_le V38.lt (Nat.le_of_eq ha39.symm))) nin0))
          have E33_34_215 : Ext h88 h169 := E169
          have qf216 := (qf214.ext E33_34_215)
          have E8_9_217 : Ext h35 h36 := E36
          have E8_10_218 : Ext h35 h37 := (Own.Ext.tr E8_9_217 E37)
          have E8_11_219 : Ext h35 h38 := (Own.Ext.tr E8_10_218 E38)
          have E8_12_220 : Ext h35 h39 := (Own.Ext.tr E8_11_219 E39)
          have E8_13_221 : Ext h35 h43 := (Own.Ext.wr E8_12_220 W43 (Nat.le_of_eq ha36.symm))
          have E8_14_222 : Ext h35 h45 := (Own.Ext.wr E8_13_221 W45 (Nat.le_of_eq ha36.symm))
          have E8_15_223 : Ext h35 h46 := (Own.Ext.wr E8_14_222 W46 (Nat.le_of_eq ha36.symm))
          have E8_16_224 : Ext h35 h47 := (Own.Ext.wr E8_15_223 W47 (Nat.le_of_eq ha36.symm))
          have E8_17_225 : Ext h35 h48 := (Own.Ext.wr E8_16_224 W48 (Nat.le_of_eq ha36.symm))
          have E8_18_226 : Ext h35 h49 := (Own.Ext.wr E8_17_225 W49 (Nat.le_of_eq ha36.symm))
          have E8_19_227 : Ext h35 h58 := (Own.Ext.wr E8_18_226 W58 (Nat.le_trans E8_9_217.1 (Nat.le_of_eq ha37.symm)))
          have E8_20_228 : Ext h35 h60 := (Own.Ext.wr E8_19_227 W60 (Nat.le_trans E8_9_217.1 (Nat.le_of_eq ha37.symm)))
          have E8_21_229 : Ext h35 h61 := (Own.Ext.wr E8_20_228 W61 (Nat.le_trans E8_9_217.1 (Nat.le_of_eq ha37.symm)))
          have E8_22_230 : Ext h35 h62 := (Own.Ext.wr E8_21_229 W62 (Nat.le_trans E8_9_217.1 (Nat.le_of_eq ha37.symm)))
          have E8_23_231 : Ext h35 h63 := (Own.Ext.wr E8_22_230 W63 (Nat.le_trans E8_9_217.1 (Nat.le_of_eq ha37.symm)))
          have E8_24_232 : Ext h35 h64 := (Own.Ext.wr E8_23_231 W64 (Nat.le_trans E8_9_217.1 (Nat.le_of_eq ha37.symm)))
          have E8_25_233 : Ext h35 h65 := (Own.Ext.wr E8_24_232 W65 (Nat.le_trans E8_9_217.1 (Nat.le_of_eq ha37.symm)))
          have E8_26_234 : Ext h35 h80 := (Own.Ext.wr E8_25_233 W80 (Nat.le_trans E8_10_218.1 (Nat.le_of_eq ha38.symm)))
          have E8_27_235 : Ext h35 h82 := (Own.Ext.wr E8_26_234 W82 (Nat.le_trans E8_10_218.1 (Nat.le_of_eq ha38.symm)))
          have E8_28_236 : Ext h35 h83 := (Own.Ext.wr E8_27_235 W83 (Nat.le_trans E8_10_218.1 (Nat.le_of_eq ha38.symm)))
          have E8_29_237 : Ext h35 h84 := (Own.Ext.wr E8_28_236 W84 (Nat.le_trans E8_10_218.1 (Nat.le_of_eq ha38.symm)))
          have E8_30_238 : Ext h35 h85 := (Own.Ext.wr E8_29_237 W85 (Nat.le_trans E8_10_218.1 (Nat.le_of_eq ha38.symm)))
          have E8_31_239 : Ext h35 h86 := (Own.Ext.wr E8_30_238 W86 (Nat.le_trans E8_10_218.1 (Nat.le_of_eq ha38.symm)))
          have E8_32_240 : Ext h35 h87 := (Own.Ext.wr E8_31_239 W87 (Nat.le_trans E8_10_218.1 (Nat.le_of_eq ha38.symm)))
          have E8_33_241 : Ext h35 h88 := (Own.Ext.wr E8_32_240 W88 (Nat.le_trans E8_10_218.1 (Nat.le_of_eq ha38.symm)))
          have Hd242 := (H35.ext E8_33_241)
          have Sf243 := (Safe.ext E169 Hd242.2.1 (Safe.new (Nat.le_of_eq ha169.symm)))
          have E0_34_244 : Ext h0 h169 := (Own.Ext.tr E0_33_192 E169)
          have Hd245 := (Hd242.ext E33_34_215)
          refine Own.invSpecialH (q := 346) (W := 1) (y := (⟨"java/lang/String", "<init>", "([C)V"⟩ : MethodName)) (a := a169) (argsL := [(.ref a39)]) (rest := [(.ref a169)]) P169 Hd245 at_343 rfl (hw _ (List.mem_of_getElem? (i := 51) rfl)) (hw _ (List.mem_of_getElem? (i := 52) rfl)) (hw _ (List.mem_of_getElem? (i := 53) rfl)) (by decide) (Own.backH (W := 1) (rmE1 l Z a0 hw [] a169 a39 k39 .null (.int (0 : Int32)) _ h169 n0 (Nat.le_trans Z0 E0_34_244.1) A169 F169_value F169_coder (Nat.le_trans Z0 (Nat.le_trans E0_33_192.1 (Nat.le_of_eq ha169.symm))) qf216) P169.2.2.2.1 (hw _ (List.mem_of_getElem? (i := 53) rfl)) (hw _ (List.mem_of_getElem? (i := 5) rfl)) (by decide) (by decide) (ew hw) Hd245.2.1 (allS ⟨A169.lt, Sf243⟩ all0)) rfl rfl (by rw [hml]; rfl) (lenOf (show parseMethodDescriptor "([C)V" = some ⟨[(.array .char)], none⟩ from by decide +kernel) rfl) (by show 2 * 0 + _ ≤ _; exact Nat.le_of_eq rfl) (by decide) (by decide) rfl ?_
          rintro v246 T246 vm246 h246 L246 ⟨rfl, N246q, K246, St246⟩ P246 H246 hr246
          have N246 := Fr.app N88 N246q
          show Own.Goes _ _ _ _ (T246.setTop (mkF m 346 #[.val (.int x0), .val (.int x1), .val (.int x2), .val (.int x3), .val (.int x4), .val (.int (x0 &&& (1 : Int32))), .val (.int ((Jvm.Free.XT.ushr x0 (1 : Int32)) &&& (7 : Int32))), .val (.int c0), .val (.int c1), .val (.int c2), .val (.int c3), .val (.int c4), .val (.int c5), .val (.int c6), .val (.int c7), .val (.ref a36), .val (.ref a37), .val (.ref a38), .val (.ref a39), .unset, .val (.int (0 : Int32)), .unset, .unset, .unset] [(.ref a169)]))
          refine Own.astore (q := 348) (L2 := #[.val (.int x0), .val (.int x1), .val (.int x2), .val (.int x3), .val (.int x4), .val (.int (x0 &&& (1 : Int32))), .val (.int ((Jvm.Free.XT.ushr x0 (1 : Int32)) &&& (7 : Int32))), .val (.int c0), .val (.int c1), .val (.int c2), .val (.int c3), .val (.int c4), .val (.int c5), .val (.int c6), .val (.int c7), .val (.ref a36), .val (.ref a37), .val (.ref a38), .val (.ref a39), .val (.ref a169), .val (.int (0 : Int32)), .unset, .unset, .unset]) P246 at_346 rfl rfl rfl ?_
          refine Own.goto (q := 365) P246 at_348 (by decide) ?_
          refine Own.iconst (q := 366) (v := (0 : Int32)) P246 at_365 rfl rfl ?_
          refine Own.istore (q := 368) (L2 := #[.val (.int x0), .val (.int x1), .val (.int x2), .val (.int x3), .val (.int x4), .val (.int (x0 &&& (1 : Int32))), .val (.int ((Jvm.Free.XT.ushr x0 (1 : Int32)) &&& (7 : Int32))), .val (.int c0), .val (.int c1), .val (.int c2), .val (.int c3), .val (.int c4), .val (.int c5), .val (.int c6), .val (.int c7), .val (.ref a36), .val (.ref a37), .val (.ref a38), .val (.ref a39), .val (.ref a169), .val (.int (0 : Int32)), .val (.int (0 : Int32)), .unset, .unset]) P246 at_366 rfl rfl ?_
          refine Own.iload (q := 370) P246 at_368 rfl rfl ?_
          refine Own.if_eq (q := 373) (qy := 511) P246 at_370 (by decide) rfl (fun _ => ?_) (fun q => absurd rfl q)
          refine Own.aload (q := 513) P246 at_511 rfl rfl rfl ?_
          have E0_35_247 : Ext h0 h246 := (Own.Ext.kp E0_34_244 K246 (allS (Nat.le_trans E0_33_192.1 (Nat.le_of_eq ha169.symm)) all0))
          refine Own.invStaticH (q := 516) (W := 0) (y := (⟨"com/example/mokuroku/mokuroku/formats/JpcoarReader", "isReadingLanguage", "(Ljava/lang/String;)Z"⟩ : MethodName)) (argsL := [(.ref a169)]) (rest := []) P246 H246 at_513 (hw _ (List.mem_of_getElem? (i := 38) rfl)) (hw _ (List.mem_of_getElem? (i := 39) rfl)) (hw _ (List.mem_of_getElem? (i := 40) rfl)) (hw _ (List.mem_of_getElem? (i := 41) rfl)) (by decide) (Own.backH (W := 0) (rmRl1 l Z a0 hw [] a169 ([] : List Int32) zc h246 n0 (Nat.le_trans Z0 E0_35_247.1) (SC.ext E0_35_247) hzc St246 (fun z => nomatch z)) P246.2.2.2.1 (hw _ (List.mem_of_getElem? (i := 41) rfl)) (hw _ (List.mem_of_getElem? (i := 40) rfl)) (by decide) (by decide) (ew hw) H246.2.1 all0) rfl rfl (by rw [hml]; rfl) (lenOf (show parseMethodDescriptor "(Ljava/lang/String;)Z" = some ⟨[(.object "java/lang/String")], some .boolean⟩ from by decide +kernel) rfl) (by show 2 * 0 + _ ≤ _; exact Nat.le_of_eq rfl) (by decide) (by decide) rfl ?_
          rintro v248 T248 vm248 h248 L248 ⟨rfl, N248q, E248⟩ P248 H248 hr248
          have N248 := Fr.app N246 N248q
          show Own.Goes _ _ _ _ (T248.setTop (mkF m 516 #[.val (.int x0), .val (.int x1), .val (.int x2), .val (.int x3), .val (.int x4), .val (.int (x0 &&& (1 : Int32))), .val (.int ((Jvm.Free.XT.ushr x0 (1 : Int32)) &&& (7 : Int32))), .val (.int c0), .val (.int c1), .val (.int c2), .val (.int c3), .val (.int c4), .val (.int c5), .val (.int c6), .val (.int c7), .val (.ref a36), .val (.ref a37), .val (.ref a38), .val (.ref a39), .val (.ref a169), .val (.int (0 : Int32)), .val (.int (0 : Int32)), .unset, .unset] [(.int (0 : Int32))]))
          refine Own.iload (q := 518) P248 at_516 rfl rfl ?_
          refine Own.icmp_ne (q := 521) (qy := 525) P248 at_518 (by decide) rfl (fun q => absurd rfl q) (fun _ => ?_)
          refine Own.iconst (q := 522) (v := (1 : Int32)) P248 at_521 rfl rfl ?_
          refine Own.goto (q := 526) P248 at_522 (by decide) ?_
          refine Own.retZH (Q := QrmLaw Z x0 x1 x2 x3 x4 zc fm h0 n0) P248 hh (ew hw) H248 at_526 hret (by simp) hlk (by decide) (by decide) ?_
          exact ⟨rfl, N248⟩
      · refine Own.newobj (q := 320) P88 at_317 (hw _ (List.mem_of_getElem? (i := 50) rfl)) (hw _ (List.mem_of_getElem? (i := 6) rfl)) (hw _ (List.mem_of_getElem? (i := 5) rfl)) (by decide) (by decide) rfl ?_
        intro T249 h249 a249 ha249 P249 E249 A249 D249
        have F249_value : Fld Z h249 a249 "java/lang/String" "value" "[B" .null := D249 (Or.inr (hw _ (List.mem_of_getElem? (i := 8) rfl))) (ty := (.array .byte)) (by decide)
        have F249_coder : Fld Z h249 a249 "java/lang/String" "coder" "B" (.int (0 : Int32)) := D249 (Or.inr (hw _ (List.mem_of_getElem? (i := 9) rfl))) (ty := .byte) (by decide)
        refine Own.dup (q := 321) P249 at_320 rfl rfl ?_
        refine Own.aload (q := 323) P249 at_321 rfl rfl rfl ?_
        have E0_11_250 : Ext h0 h38 := (Own.Ext.tr E0_10_81 E38)
        have E0_12_251 : Ext h0 h39 := (Own.Ext.tr E0_11_250 E39)
        have E0_13_252 : Ext h0 h43 := (Own.Ext.wr E0_12_251 W43 (Nat.le_trans E0_8_44.1 (Nat.le_of_eq ha36.symm)))
        have E0_14_253 : Ext h0 h45 := (Own.Ext.wr E0_13_252 W45 (Nat.le_trans E0_8_44.1 (Nat.le_of_eq ha36.symm)))
        have E0_15_254 : Ext h0 h46 := (Own.Ext.wr E0_14_253 W46 (Nat.le_trans E0_8_44.1 (Nat.le_of_eq ha36.symm)))
        have E0_16_255 : Ext h0 h47 := (Own.Ext.wr E0_15_254 W47 (Nat.le_trans E0_8_44.1 (Nat.le_of_eq ha36.symm)))
        have E0_17_256 : Ext h0 h48 := (Own.Ext.wr E0_16_255 W48 (Nat.le_trans E0_8_44.1 (Nat.le_of_eq ha36.symm)))
        have E0_18_257 : Ext h0 h49 := (Own.Ext.wr E0_17_256 W49 (Nat.le_trans E0_8_44.1 (Nat.le_of_eq ha36.symm)))
        have E0_19_258 : Ext h0 h58 := (Own.Ext.wr E0_18_257 W58 (Nat.le_trans E0_9_59.1 (Nat.le_of_eq ha37.symm)))
        have E0_20_259 : Ext h0 h60 := (Own.Ext.wr E0_19_258 W60 (Nat.le_trans E0_9_59.1 (Nat.le_of_eq ha37.symm)))
        have E0_21_260 : Ext h0 h61 := (Own.Ext.wr E0_20_259 W61 (Nat.le_trans E0_9_59.1 (Nat.le_of_eq ha37.symm)))
        have E0_22_261 : Ext h0 h62 := (Own.Ext.wr E0_21_260 W62 (Nat.le_trans E0_9_59.1 (Nat.le_of_eq ha37.symm)))
        have E0_23_262 : Ext h0 h63 := (Own.Ext.wr E0_22_261 W63 (Nat.le_trans E0_9_59.1 (Nat.le_of_eq ha37.symm)))
        have E0_24_263 : Ext h0 h64 := (Own.Ext.wr E0_23_262 W64 (Nat.le_trans E0_9_59.1 (Nat.le_of_eq ha37.symm)))
        have E0_25_264 : Ext h0 h65 := (Own.Ext.wr E0_24_263 W65 (Nat.le_trans E0_9_59.1 (Nat.le_of_eq ha37.symm)))
        have E0_26_265 : Ext h0 h80 := (Own.Ext.wr E0_25_264 W80 (Nat.le_trans E0_10_81.1 (Nat.le_of_eq ha38.symm)))
        have E0_27_266 : Ext h0 h82 := (Own.Ext.wr E0_26_265 W82 (Nat.le_trans E0_10_81.1 (Nat.le_of_eq ha38.symm)))
        have E0_28_267 : Ext h0 h83 := (Own.Ext.wr E0_27_266 W83 (Nat.le_trans E0_10_81.1 (Nat.le_of_eq ha38.symm)))
        have E0_29_268 : Ext h0 h84 := (Own.Ext.wr E0_28_267 W84 (Nat.le_trans E0_10_81.1 (Nat.le_of_eq ha38.symm)))
        have E0_30_269 : Ext h0 h85 := (Own.Ext.wr E0_29_268 W85 (Nat.le_trans E0_10_81.1 (Nat.le_of_eq ha38.symm)))
        have E0_31_270 : Ext h0 h86 := (Own.Ext.wr E0_30_269 W86 (Nat.le_trans E0_10_81.1 (Nat.le_of_eq ha38.symm)))
        have E0_32_271 : Ext h0 h87 := (Own.Ext.wr E0_31_270 W87 (Nat.le_trans E0_10_81.1 (Nat.le_of_eq ha38.symm)))
        have E0_33_272 : Ext h0 h88 := (Own.Ext.wr E0_32_271 W88 (Nat.le_trans E0_10_81.1 (Nat.le_of_eq ha38.symm)))
        have E0_34_273 : Ext h0 h249 := (Own.Ext.tr E0_33_272 E249)
        have E33_34_274 : Ext h88 h249 := E249
        refine Own.invSpecial (q := 326) (W := 1) (y := (⟨"java/lang/String", "<init>", "([C)V"⟩ : MethodName)) (a := a249) (argsL := [(.ref a38)]) (rest := [(.ref a249)]) P249 at_323 rfl (hw _ (List.mem_of_getElem? (i := 51) rfl)) (hw _ (List.mem_of_getElem? (i := 52) rfl)) (hw _ (List.mem_of_getElem? (i := 53) rfl)) (by decide) (Own.newB (W := 1) (n0 := n0) (cs := [c0, c1, c2, c3, c4, c5, c6, c7]) (n := 8) P249.2.2.2.1 (fun d hd => hw d (sub_backV d hd)) (hw _ (List.mem_of_getElem? (i := 6) rfl)) (Nat.le_trans Z0 (Nat.le_trans E0_33_272.1 (Nat.le_of_eq ha249.symm))) (Nat.le_trans Z0 E0_34_273.1) A249 F249_value F249_coder (V88.ext E33_34_274) (SC.ext E0_34_273) hzc rfl rfl (by decide) (by decide) (Own.chS rc0 (Own.chS rc1 (Own.chS rc2 (Own.chS rc3 (Own.chS rc4 (Own.chS rc5 (Own.chS rc6 (Own.chS rc7 Own.ch0)))))))) (by decide) (by decide)) rfl rfl (by rw [hml]; rfl) (lenOf (show parseMethodDescriptor "([C)V" = some ⟨[(.array .char)], none⟩ from by decide +kernel) rfl) (by show 2 * 0 + _ ≤ _; exact Nat.le_of_eq rfl) (by decide) (by decide) rfl ?_
        rintro v275 T275 h275 L275 ⟨rfl, N275q, K275, St275⟩ P275
        have N275 := Fr.app N88 N275q
        show Own.Goes _ _ _ _ (T275.setTop (mkF m 326 #[.val (.int x0), .val (.int x1), .val (.int x2), .val (.int x3), .val (.int x4), .val (.int (x0 &&& (1 : Int32))), .val (.int ((Jvm.Free.XT.ushr x0 (1 : Int32)) &&& (7 : Int32))), .val (.int c0), .val (.int c1), .val (.int c2), .val (.int c3), .val (.int c4), .val (.int c5), .val (.int c6), .val (.int c7), .val (.ref a36), .val (.ref a37), .val (.ref a38), .val (.ref a39), .unset, .val (.int (0 : Int32)), .unset, .unset, .unset] [(.ref a249)]))
        refine Own.astore (q := 328) (L2 := #[.val (.int x0), .val (.int x1), .val (.int x2), .val (.int x3), .val (.int x4), .val (.int (x0 &&& (1 : Int32))), .val (.int ((Jvm.Free.XT.ushr x0 (1 : Int32)) &&& (7 : Int32))), .val (.int c0), .val (.int c1), .val (.int c2), .val (.int c3), .val (.int c4), .val (.int c5), .val (.int c6), .val (.int c7), .val (.ref a36), .val (.ref a37), .val (.ref a38), .val (.ref a39), .val (.ref a249), .val (.int (0 : Int32)), .unset, .unset, .unset]) P275 at_326 rfl rfl rfl ?_
        refine Own.goto (q := 365) P275 at_328 (by decide) ?_
        refine Own.iconst (q := 366) (v := (0 : Int32)) P275 at_365 rfl rfl ?_
        refine Own.istore (q := 368) (L2 := #[.val (.int x0), .val (.int x1), .val (.int x2), .val (.int x3), .val (.int x4), .val (.int (x0 &&& (1 : Int32))), .val (.int ((Jvm.Free.XT.ushr x0 (1 : Int32)) &&& (7 : Int32))), .val (.int c0), .val (.int c1), .val (.int c2), .val (.int c3), .val (.int c4), .val (.int c5), .val (.int c6), .val (.int c7), .val (.ref a36), .val (.ref a37), .val (.ref a38), .val (.ref a39), .val (.ref a249), .val (.int (0 : Int32)), .val (.int (0 : Int32)), .unset, .unset]) P275 at_366 rfl rfl ?_
        refine Own.iload (q := 370) P275 at_368 rfl rfl ?_
        refine Own.if_eq (q := 373) (qy := 511) P275 at_370 (by decide) rfl (fun _ => ?_) (fun q => absurd rfl q)
        refine Own.aload (q := 513) P275 at_511 rfl rfl rfl ?_
        have E0_35_276 : Ext h0 h275 := (Own.Ext.kp E0_34_273 K275 (allS (Nat.le_trans E0_33_272.1 (Nat.le_of_eq ha249.symm)) all0))
        have E8_9_277 : Ext h35 h36 := E36
        have E8_10_278 : Ext h35 h37 := (Own.Ext.tr E8_9_277 E37)
        have E8_11_279 : Ext h35 h38 := (Own.Ext.tr E8_10_278 E38)
        have E8_12_280 : Ext h35 h39 := (Own.Ext.tr E8_11_279 E39)
        have E8_13_281 : Ext h35 h43 := (Own.Ext.wr E8_12_280 W43 (Nat.le_of_eq ha36.symm))
        have E8_14_282 : Ext h35 h45 := (Own.Ext.wr E8_13_281 W45 (Nat.le_of_eq ha36.symm))
        have E8_15_283 : Ext h35 h46 := (Own.Ext.wr E8_14_282 W46 (Nat.le_of_eq ha36.symm))
        have E8_16_284 : Ext h35 h47 := (Own.Ext.wr E8_15_283 W47 (Nat.le_of_eq ha36.symm))
        have E8_17_285 : Ext h35 h48 := (Own.Ext.wr E8_16_284 W48 (Nat.le_of_eq ha36.symm))
        have E8_18_286 : Ext h35 h49 := (Own.Ext.wr E8_17_285 W49 (Nat.le_of_eq ha36.symm))
        have E8_19_287 : Ext h35 h58 := (Own.Ext.wr E8_18_286 W58 (Nat.le_trans E8_9_277.1 (Nat.le_of_eq ha37.symm)))
        have E8_20_288 : Ext h35 h60 := (Own.Ext.wr E8_19_287 W60 (Nat.le_trans E8_9_277.1 (Nat.le_of_eq ha37.symm)))
        have E8_21_289 : Ext h35 h61 := (Own.Ext.wr E8_20_288 W61 (Nat.le_trans E8_9_277.1 (Nat.le_of_eq ha37.symm)))
        have E8_22_290 : Ext h35 h62 := (Own.Ext.wr E8_21_289 W62 (Nat.le_trans E8_9_277.1 (Nat.le_of_eq ha37.symm)))
        have E8_23_291 : Ext h35 h63 := (Own.Ext.wr E8_22_290 W63 (Nat.le_trans E8_9_277.1 (Nat.le_of_eq ha37.symm)))
        have E8_24_292 : Ext h35 h64 := (Own.Ext.wr E8_23_291 W64 (Nat.le_trans E8_9_277.1 (Nat.le_of_eq ha37.symm)))
        have E8_25_293 : Ext h35 h65 := (Own.Ext.wr E8_24_292 W65 (Nat.le_trans E8_9_277.1 (Nat.le_of_eq ha37.symm)))
        have E8_26_294 : Ext h35 h80 := (Own.Ext.wr E8_25_293 W80 (Nat.le_trans E8_10_278.1 (Nat.le_of_eq ha38.symm)))
        have E8_27_295 : Ext h35 h82 := (Own.Ext.wr E8_26_294 W82 (Nat.le_trans E8_10_278.1 (Nat.le_of_eq ha38.symm)))
        have E8_28_296 : Ext h35 h83 := (Own.Ext.wr E8_27_295 W83 (Nat.le_trans E8_10_278.1 (Nat.le_of_eq ha38.symm)))
        have E8_29_297 : Ext h35 h84 := (Own.Ext.wr E8_28_296 W84 (Nat.le_trans E8_10_278.1 (Nat.le_of_eq ha38.symm)))
        have E8_30_298 : Ext h35 h85 := (Own.Ext.wr E8_29_297 W85 (Nat.le_trans E8_10_278.1 (Nat.le_of_eq ha38.symm)))
        have E8_31_299 : Ext h35 h86 := (Own.Ext.wr E8_30_298 W86 (Nat.le_trans E8_10_278.1 (Nat.le_of_eq ha38.symm)))
        have E8_32_300 : Ext h35 h87 := (Own.Ext.wr E8_31_299 W87 (Nat.le_trans E8_10_278.1 (Nat.le_of_eq ha38.symm)))
        have E8_33_301 : Ext h35 h88 := (Own.Ext.wr E8_32_300 W88 (Nat.le_trans E8_10_278.1 (Nat.le_of_eq ha38.symm)))
        have E8_34_302 : Ext h35 h249 := (Own.Ext.tr E8_33_301 E249)
        have E8_35_303 : Ext h35 h275 := (Own.Ext.kp E8_34_302 K275 (allS (Nat.le_trans E8_33_301.1 (Nat.le_of_eq ha249.symm)) all0))
        have Hd304 := (H35.ext E8_35_303)
        refine Own.invStaticH (q := 516) (W := 0) (y := (⟨"com/example/mokuroku/mokuroku/formats/JpcoarReader", "isReadingLanguage", "(Ljava/lang/String;)Z"⟩ : MethodName)) (argsL := [(.ref a249)]) (rest := []) P275 Hd304 at_513 (hw _ (List.mem_of_getElem? (i := 38) rfl)) (hw _ (List.mem_of_getElem? (i := 39) rfl)) (hw _ (List.mem_of_getElem? (i := 40) rfl)) (hw _ (List.mem_of_getElem? (i := 41) rfl)) (by decide) (Own.backH (W := 0) (rmRl1 l Z a0 hw [] a249 [c0, c1, c2, c3, c4, c5, c6, c7] zc h275 n0 (Nat.le_trans Z0 E0_35_276.1) (SC.ext E0_35_276) hzc St275 (fun z => nomatch z)) P275.2.2.2.1 (hw _ (List.mem_of_getElem? (i := 41) rfl)) (hw _ (List.mem_of_getElem? (i := 40) rfl)) (by decide) (by decide) (ew hw) Hd304.2.1 all0) rfl rfl (by rw [hml]; rfl) (lenOf (show parseMethodDescriptor "(Ljava/lang/String;)Z" = some ⟨[(.object "java/lang/String")], some .boolean⟩ from by decide +kernel) rfl) (by show 2 * 0 + _ ≤ _; exact Nat.le_of_eq rfl) (by decide) (by decide) rfl ?_
        rintro v305 T305 vm305 h305 L305 ⟨rfl, N305q, E305⟩ P305 H305 hr305
        have N305 := Fr.app N275 N305q
        show Own.Goes _ _ _ _ (T305.setTop (mkF m 516 #[.val (.int x0), .val (.int x1), .val (.int x2), .val (.int x3), .val (.int x4), .val (.int (x0 &&& (1 : Int32))), .val (.int ((Jvm.Free.XT.ushr x0 (1 : Int32)) &&& (7 : Int32))), .val (.int c0), .val (.int c1), .val (.int c2), .val (.int c3), .val (.int c4), .val (.int c5), .val (.int c6), .val (.int c7), .val (.ref a36), .val (.ref a37), .val (.ref a38), .val (.ref a39), .val (.ref a249), .val (.int (0 : Int32)), .val (.int (0 : Int32)), .unset, .unset] [(.int (0 : Int32))]))
        refine Own.iload (q := 518) P305 at_516 rfl rfl ?_
        refine Own.icmp_ne (q := 521) (qy := 525) P305 at_518 (by decide) rfl (fun q => absurd rfl q) (fun _ => ?_)
        refine Own.iconst (q := 522) (v := (1 : Int32)) P305 at_521 rfl rfl ?_
        refine Own.goto (q := 526) P305 at_522 (by decide) ?_
        refine Own.retZH (Q := QrmLaw Z x0 x1 x2 x3 x4 zc fm h0 n0) P305 hh (ew hw) H305 at_526 hret (by simp) hlk (by decide) (by decide) ?_
        exact ⟨rfl, N305⟩
    · refine Own.newobj (q := 300) P88 at_297 (hw _ (List.mem_of_getElem? (i := 50) rfl)) (hw _ (List.mem_of_getElem? (i := 6) rfl)) (hw _ (List.mem_of_getElem? (i := 5) rfl)) (by decide) (by decide) rfl ?_
      intro T306 h306 a306 ha306 P306 E306 A306 D306
      have F306_value : Fld Z h306 a306 "java/lang/String" "value" "[B" .null := D306 (Or.inr (hw _ (List.mem_of_getElem? (i := 8) rfl))) (ty := (.array .byte)) (by decide)
      have F306_coder : Fld Z h306 a306 "java/lang/String" "coder" "B" (.int (0 : Int32)) := D306 (Or.inr (hw _ (List.mem_of_getElem? (i := 9) rfl))) (ty := .byte) (by decide)
      refine Own.dup (q := 301) P306 at_300 rfl rfl ?_
      refine Own.aload (q := 303) P306 at_301 rfl rfl rfl ?_
      have E0_11_307 : Ext h0 h38 := (Own.Ext.tr E0_10_81 E38)
      have E0_12_308 : Ext h0 h39 := (Own.Ext.tr E0_11_307 E39)
      have E0_13_309 : Ext h0 h43 := (Own.Ext.wr E0_12_308 W43 (Nat.le_trans E0_8_44.1 (Nat.le_of_eq ha36.symm)))
      have E0_14_310 : Ext h0 h45 := (Own.Ext.wr E0_13_309 W45 (Nat.le_trans E0_8_44.1 (Nat.le_of_eq ha36.symm)))
      have E0_15_311 : Ext h0 h46 := (Own.Ext.wr E0_14_310 W46 (Nat.le_trans E0_8_44.1 (Nat.le_of_eq ha36.symm)))
      have E0_16_312 : Ext h0 h47 := (Own.Ext.wr E0_15_311 W47 (Nat.le_trans E0_8_44.1 (Nat.le_of_eq ha36.symm)))
      have E0_17_313 : Ext h0 h48 := (Own.Ext.wr E0_16_312 W48 (Nat.le_trans E0_8_44.1 (Nat.le_of_eq ha36.symm)))
      have E0_18_314 : Ext h0 h49 := (Own.Ext.wr E0_17_313 W49 (Nat.le_trans E0_8_44.1 (Nat.le_of_eq ha36.symm)))
      have E0_19_315 : Ext h0 h58 := (Own.Ext.wr E0_18_314 W58 (Nat.le_trans E0_9_59.1 (Nat.le_of_eq ha37.symm)))
      have E0_20_316 : Ext h0 h60 := (Own.Ext.wr E0_19_315 W60 (Nat.le_trans E0_9_59.1 (Nat.le_of_eq ha37.symm)))
      have E0_21_317 : Ext h0 h61 := (Own.Ext.wr E0_20_316 W61 (Nat.le_trans E0_9_59.1 (Nat.le_of_eq ha37.symm)))
      have E0_22_318 : Ext h0 h62 := (Own.Ext.wr E0_21_317 W62 (Nat.le_trans E0_9_59.1 (Nat.le_of_eq ha37.symm)))
      have E0_23_319 : Ext h0 h63 := (Own.Ext.wr E0_22_318 W63 (Nat.le_trans E0_9_59.1 (Nat.le_of_eq ha37.symm)))
      have E0_24_320 : Ext h0 h64 := (Own.Ext.wr E0_23_319 W64 (Nat.le_trans E0_9_59.1 (Nat.le_of_eq ha37.symm)))
      have E0_25_321 : Ext h0 h65 := (Own.Ext.wr E0_24_320 W65 (Nat.le_trans E0_9_59.1 (Nat.le_of_eq ha37.symm)))
      have E0_26_322 : Ext h0 h80 := (Own.Ext.wr E0_25_321 W80 (Nat.le_trans E0_10_81.1 (Nat.le_of_eq ha38.symm)))
      have E0_27_323 : Ext h0 h82 := (Own.Ext.wr E0_26_322 W82 (Nat.le_trans E0_10_81.1 (Nat.le_of_eq ha38.symm)))
      have E0_28_324 : Ext h0 h83 := (Own.Ext.wr E0_27_323 W83 (Nat.le_trans E0_10_81.1 (Nat.le_of_eq ha38.symm)))
      have E0_29_325 : Ext h0 h84 := (Own.Ext.wr E0_28_324 W84 (Nat.le_trans E0_10_81.1 (Nat.le_of_eq ha38.symm)))
      have E0_30_326 : Ext h0 h85 := (Own.Ext.wr E0_29_325 W85 (Nat.le_trans E0_10_81.1 (Nat.le_of_eq ha38.symm)))
      have E0_31_327 : Ext h0 h86 := (Own.Ext.wr E0_30_326 W86 (Nat.le_trans E0_10_81.1 (Nat.le_of_eq ha38.symm)))
      have E0_32_328 : Ext h0 h87 := (Own.Ext.wr E0_31_327 W87 (Nat.le_trans E0_10_81.1 (Nat.le_of_eq ha38.symm)))
      have E0_33_329 : Ext h0 h88 := (Own.Ext.wr E0_32_328 W88 (Nat.le_trans E0_10_81.1 (Nat.le_of_eq ha38.symm)))
      have E0_34_330 : Ext h0 h306 := (Own.Ext.tr E0_33_329 E306)
      have qf331 := (Arv.keep V49 (Keep.of_wr W58) (ninS (Nat.ne_of_lt (Nat.lt_of_lt_of_le V36.lt (Nat.le_of_eq ha37.symm))) nin0))
      have qf332 := (Arv.keep qf331 (Keep.of_wr W60) (ninS (Nat.ne_of_lt (Nat.lt_of_lt_of_le V36.lt (Nat.le_of_eq ha37.symm))) nin0))
      have qf333 := (Arv.keep qf332 (Keep.of_wr W61) (ninS (Nat.ne_of_lt (Nat.lt_of_lt_of_le V36.lt (Nat.le_of_eq ha37.symm))) nin0))
      have qf334 := (Arv.keep qf333 (Keep.of_wr W62) (ninS (Nat.ne_of_lt (Nat.lt_of_lt_of_le V36.lt (Nat.le_of_eq ha37.symm))) nin0))
      have qf335 := (Arv.keep qf334 (Keep.of_wr W63) (ninS (Nat.ne_of_lt (Nat.lt_of_lt_of_le V36.lt (Nat.le_of_eq ha37.symm))) nin0))
      have qf336 := (Arv.keep qf335 (Keep.of_wr W64) (ninS (Nat.ne_of_lt (Nat.lt_of_lt_of_le V36.lt (Nat.le_of_eq ha37.symm))) nin0))
      have qf337 := (Arv.keep qf336 (Keep.of_wr W65) (ninS (Nat.ne_of_lt (Nat.lt_of_lt_of_le V36.lt (Nat.le_of_eq ha37.symm))) nin0))
      have qf338 := (Arv.keep qf337 (Keep.of_wr W80) (ninS (Nat.ne_of_lt (Nat.lt_of_lt_of_le V36.lt (Nat.le_trans E9_10_40.1 (Nat.le_of_eq ha38.symm)))) nin0))
      have qf339 := (Arv.keep qf338 (Keep.of_wr W82) (ninS (Nat.ne_of_lt (Nat.lt_of_lt_of_le V36.lt (Nat.le_trans E9_10_40.1 (Nat.le_of_eq ha38.symm)))) nin0))
      have qf340 := (Arv.keep qf339 (Keep.of_wr W83) (ninS (Nat.ne_of_lt (Nat.lt_of_lt_of_le V36.lt (Nat.le_trans E9_10_40.1 (Nat.le_of_eq ha38.symm)))) nin0))
      have qf341 := (Arv.keep qf340 (Keep.of_wr W84) (ninS (Nat.ne_of_lt (Nat.lt_of_lt_of_le V36.lt (Nat.le_trans E9_10_40.1 (Nat.le_of_eq ha38.symm)))) nin0))
      have qf342 := (Arv.keep qf341 (Keep.of_wr W85) (ninS (Nat.ne_of_lt (Nat.lt_of_lt_of_le V36.lt (Nat.le_trans E9_10_40.1 (Nat.le_of_eq ha38.symm)))) nin0))
      have qf343 := (Arv.keep qf342 (Keep.of_wr W86) (ninS (Nat.ne_of_lt (Nat.lt_of_lt_of_le V36.lt (Nat.le_trans E9_10_40.1 (Nat.le_of_eq ha38.symm)))) nin0))
      have qf344 := (Arv.keep qf343 (Keep.of_wr W87) (ninS (Nat.ne_of_lt (Nat.lt_of_lt_of_le V36.lt (Nat.le_trans E9_10_40.1 (Nat.le_of_eq ha38.symm)))) nin0))
      have qf345 := (Arv.keep qf344 (Keep.of_wr W88) (ninS (Nat.ne_of_lt (Nat.lt_of_lt_of_le V36.lt (Nat.le_trans E9_10_40.1 (Nat.le_of_eq ha38.symm)))) nin0))
      have E33_34_346 : Ext h88 h306 := E306
      have qf347 := (qf345.ext E33_34_346)
      refine Own.invSpecial (q := 306) (W := 1) (y := (⟨"java/lang/String", "<init>", "([C)V"⟩ : MethodName)) (a := a306) (argsL := [(.ref a36)]) (rest := [(.ref a306)]) P306 at_303 rfl (hw _ (List.mem_of_getElem? (i := 51) rfl)) (hw _ (List.mem_of_getElem? (i := 52) rfl)) (hw _ (List.mem_of_getElem? (i := 53) rfl)) (by decide) (Own.newB (W := 1) (n0 := n0) (cs := [c0, c1, c2, c3, c4, c5]) (n := 6) P306.2.2.2.1 (fun d hd => hw d (sub_backV d hd)) (hw _ (List.mem_of_getElem? (i := 6) rfl)) (Nat.le_trans Z0 (Nat.le_trans E0_33_329.1 (Nat.le_of_eq ha306.symm))) (Nat.le_trans Z0 E0_34_330.1) A306 F306_value F306_coder qf347 (SC.ext E0_34_330) hzc rfl rfl (by decide) (by decide) (Own.chS rc0 (Own.chS rc1 (Own.chS rc2 (Own.chS rc3 (Own.chS rc4 (Own.chS rc5 Own.ch0)))))) (by decide) (by decide)) rfl rfl (by rw [hml]; rfl) (lenOf (show parseMethodDescriptor "([C)V" = some ⟨[(.array .char)], none⟩ from by decide +kernel) rfl) (by show 2 * 0 + _ ≤ _; exact Nat.le_of_eq rfl) (by decide) (by decide) rfl ?_
      rintro v348 T348 h348 L348 ⟨rfl, N348q, K348, St348⟩ P348
      have N348 := Fr.app N88 N348q
      show Own.Goes _ _ _ _ (T348.setTop (mkF m 306 #[.val (.int x0), .val (.int x1), .val (.int x2), .val (.int x3), .val (.int x4), .val (.int (x0 &&& (1 : Int32))), .val (.int ((Jvm.Free.XT.ushr x0 (1 : Int32)) &&& (7 : Int32))), .val (.int c0), .val (.int c1), .val (.int c2), .val (.int c3), .val (.int c4), .val (.int c5), .val (.int c6), .val (.int c7), .val (.ref a36), .val (.ref a37), .val (.ref a38), .val (.ref a39), .unset, .val (.int (0 : Int32)), .unset, .unset, .unset] [(.ref a306)]))
      refine Own.astore (q := 308) (L2 := #[.val (.int x0), .val (.int x1), .val (.int x2), .val (.int x3), .val (.int x4), .val (.int (x0 &&& (1 : Int32))), .val (.int ((Jvm.Free.XT.ushr x0 (1 : Int32)) &&& (7 : Int32))), .val (.int c0), .val (.int c1), .val (.int c2), .val (.int c3), .val (.int c4), .val (.int c5), .val (.int c6), .val (.int c7), .val (.ref a36), .val (.ref a37), .val (.ref a38), .val (.ref a39), .val (.ref a306), .val (.int (0 : Int32)), .unset, .unset, .unset]) P348 at_306 rfl rfl rfl ?_
      refine Own.goto (q := 365) P348 at_308 (by decide) ?_
      refine Own.iconst (q := 366) (v := (0 : Int32)) P348 at_365 rfl rfl ?_
      refine Own.istore (q := 368) (L2 := #[.val (.int x0), .val (.int x1), .val (.int x2), .val (.int x3), .val (.int x4), .val (.int (x0 &&& (1 : Int32))), .val (.int ((Jvm.Free.XT.ushr x0 (1 : Int32)) &&& (7 : Int32))), .val (.int c0), .val (.int c1), .val (.int c2), .val (.int c3), .val (.int c4), .val (.int c5), .val (.int c6), .val (.int c7), .val (.ref a36), .val (.ref a37), .val (.ref a38), .val (.ref a39), .val (.ref a306), .val (.int (0 : Int32)), .val (.int (0 : Int32)), .unset, .unset]) P348 at_366 rfl rfl ?_
      refine Own.iload (q := 370) P348 at_368 rfl rfl ?_
      refine Own.if_eq (q := 373) (qy := 511) P348 at_370 (by decide) rfl (fun _ => ?_) (fun q => absurd rfl q)
      refine Own.aload (q := 513) P348 at_511 rfl rfl rfl ?_
      have E0_35_349 : Ext h0 h348 := (Own.Ext.kp E0_34_330 K348 (allS (Nat.le_trans E0_33_329.1 (Nat.le_of_eq ha306.symm)) all0))
      have E8_9_350 : Ext h35 h36 := E36
      have E8_10_351 : Ext h35 h37 := (Own.Ext.tr E8_9_350 E37)
      have E8_11_352 : Ext h35 h38 := (Own.Ext.tr E8_10_351 E38)
      have E8_12_353 : Ext h35 h39 := (Own.Ext.tr E8_11_352 E39)
      have E8_13_354 : Ext h35 h43 := (Own.Ext.wr E8_12_353 W43 (Nat.le_of_eq ha36.symm))
      have E8_14_355 : Ext h35 h45 := (Own.Ext.wr E8_13_354 W45 (Nat.le_of_eq ha36.symm))
      have E8_15_356 : Ext h35 h46 := (Own.Ext.wr E8_14_355 W46 (Nat.le_of_eq ha36.symm))
      have E8_16_357 : Ext h35 h47 := (Own.Ext.wr E8_15_356 W47 (Nat.le_of_eq ha36.symm))
      have E8_17_358 : Ext h35 h48 := (Own.Ext.wr E8_16_357 W48 (Nat.le_of_eq ha36.symm))
      have E8_18_359 : Ext h35 h49 := (Own.Ext.wr E8_17_358 W49 (Nat.le_of_eq ha36.symm))
      have E8_19_360 : Ext h35 h58 := (Own.Ext.wr E8_18_359 W58 (Nat.le_trans E8_9_350.1 (Nat.le_of_eq ha37.symm)))
      have E8_20_361 : Ext h35 h60 := (Own.Ext.wr E8_19_360 W60 (Nat.le_trans E8_9_350.1 (Nat.le_of_eq ha37.symm)))
      have E8_21_362 : Ext h35 h61 := (Own.Ext.wr E8_20_361 W61 (Nat.le_trans E8_9_350.1 (Nat.le_of_eq ha37.symm)))
      have E8_22_363 : Ext h35 h62 := (Own.Ext.wr E8_21_362 W62 (Nat.le_trans E8_9_350.1 (Nat.le_of_eq ha37.symm)))
      have E8_23_364 : Ext h35 h63 := (Own.Ext.wr E8_22_363 W63 (Nat.le_trans E8_9_350.1 (Nat.le_of_eq ha37.symm)))
      have E8_24_365 : Ext h35 h64 := (Own.Ext.wr E8_23_364 W64 (Nat.le_trans E8_9_350.1 (Nat.le_of_eq ha37.symm)))
      have E8_25_366 : Ext h35 h65 := (Own.Ext.wr E8_24_365 W65 (Nat.le_trans E8_9_350.1 (Nat.le_of_eq ha37.symm)))
      have E8_26_367 : Ext h35 h80 := (Own.Ext.wr E8_25_366 W80 (Nat.le_trans E8_10_351.1 (Nat.le_of_eq ha38.symm)))
      have E8_27_368 : Ext h35 h82 := (Own.Ext.wr E8_26_367 W82 (Nat.le_trans E8_10_351.1 (Nat.le_of_eq ha38.symm)))
      have E8_28_369 : Ext h35 h83 := (Own.Ext.wr E8_27_368 W83 (Nat.le_trans E8_10_351.1 (Nat.le_of_eq ha38.symm)))
      have E8_29_370 : Ext h35 h84 := (Own.Ext.wr E8_28_369 W84 (Nat.le_trans E8_10_351.1 (Nat.le_of_eq ha38.symm)))
      have E8_30_371 : Ext h35 h85 := (Own.Ext.wr E8_29_370 W85 (Nat.le_trans E8_10_351.1 (Nat.le_of_eq ha38.symm)))
      have E8_31_372 : Ext h35 h86 := (Own.Ext.wr E8_30_371 W86 (Nat.le_trans E8_10_351.1 (Nat.le_of_eq ha38.symm)))
      have E8_32_373 : Ext h35 h87 := (Own.Ext.wr E8_31_372 W87 (Nat.le_trans E8_10_351.1 (Nat.le_of_eq ha38.symm)))
      have E8_33_374 : Ext h35 h88 := (Own.Ext.wr E8_32_373 W88 (Nat.le_trans E8_10_351.1 (Nat.le_of_eq ha38.symm)))
      have E8_34_375 : Ext h35 h306 := (Own.Ext.tr E8_33_374 E306)
      have E8_35_376 : Ext h35 h348 := (Own.Ext.kp E8_34_375 K348 (allS (Nat.le_trans E8_33_374.1 (Nat.le_of_eq ha306.symm)) all0))
      have Hd377 := (H35.ext E8_35_376)
      refine Own.invStaticH (q := 516) (W := 0) (y := (⟨"com/example/mokuroku/mokuroku/formats/JpcoarReader", "isReadingLanguage", "(Ljava/lang/String;)Z"⟩ : MethodName)) (argsL := [(.ref a306)]) (rest := []) P348 Hd377 at_513 (hw _ (List.mem_of_getElem? (i := 38) rfl)) (hw _ (List.mem_of_getElem? (i := 39) rfl)) (hw _ (List.mem_of_getElem? (i := 40) rfl)) (hw _ (List.mem_of_getElem? (i := 41) rfl)) (by decide) (Own.backH (W := 0) (rmRl1 l Z a0 hw [] a306 [c0, c1, c2, c3, c4, c5] zc h348 n0 (Nat.le_trans Z0 E0_35_349.1) (SC.ext E0_35_349) hzc St348 (fun z => nomatch z)) P348.2.2.2.1 (hw _ (List.mem_of_getElem? (i := 41) rfl)) (hw _ (List.mem_of_getElem? (i := 40) rfl)) (by decide) (by decide) (ew hw) Hd377.2.1 all0) rfl rfl (by rw [hml]; rfl) (lenOf (show parseMethodDescriptor "(Ljava/lang/String;)Z" = some ⟨[(.object "java/lang/String")], some .boolean⟩ from by decide +kernel) rfl) (by show 2 * 0 + _ ≤ _; exact Nat.le_of_eq rfl) (by decide) (by decide) rfl ?_
      rintro v378 T378 vm378 h378 L378 ⟨rfl, N378q, E378⟩ P378 H378 hr378
      have N378 := Fr.app N348 N378q
      show Own.Goes _ _ _ _ (T378.setTop (mkF m 516 #[.val (.int x0), .val (.int x1), .val (.int x2), .val (.int x3), .val (.int x4), .val (.int (x0 &&& (1 : Int32))), .val (.int ((Jvm.Free.XT.ushr x0 (1 : Int32)) &&& (7 : Int32))), .val (.int c0), .val (.int c1), .val (.int c2), .val (.int c3), .val (.int c4), .val (.int c5), .val (.int c6), .val (.int c7), .val (.ref a36), .val (.ref a37), .val (.ref a38), .val (.ref a39), .val (.ref a306), .val (.int (0 : Int32)), .val (.int (0 : Int32)), .unset, .unset] [(.int (0 : Int32))]))
      refine Own.iload (q := 518) P378 at_516 rfl rfl ?_
      refine Own.icmp_ne (q := 521) (qy := 525) P378 at_518 (by decide) rfl (fun q => absurd rfl q) (fun _ => ?_)
      refine Own.iconst (q := 522) (v := (1 : Int32)) P378 at_521 rfl rfl ?_
      refine Own.goto (q := 526) P378 at_522 (by decide) ?_
      refine Own.retZH (Q := QrmLaw Z x0 x1 x2 x3 x4 zc fm h0 n0) P378 hh (ew hw) H378 at_526 hret (by simp) hlk (by decide) (by decide) ?_
      exact ⟨rfl, N378⟩
  · refine Own.aconst (q := 286) P88 at_285  rfl ?_
    refine Own.astore (q := 288) (L2 := #[.val (.int x0), .val (.int x1), .val (.int x2), .val (.int x3), .val (.int x4), .val (.int (x0 &&& (1 : Int32))), .val (.int ((Jvm.Free.XT.ushr x0 (1 : Int32)) &&& (7 : Int32))), .val (.int c0), .val (.int c1), .val (.int c2), .val (.int c3), .val (.int c4), .val (.int c5), .val (.int c6), .val (.int c7), .val (.ref a36), .val (.ref a37), .val (.ref a38), .val (.ref a39), .val .null, .val (.int (0 : Int32)), .unset, .unset, .unset]) P88 at_286 rfl rfl rfl ?_
    refine Own.goto (q := 365) P88 at_288 (by decide) ?_
    refine Own.iconst (q := 366) (v := (0 : Int32)) P88 at_365 rfl rfl ?_
    refine Own.istore (q := 368) (L2 := #[.val (.int x0), .val (.int x1), .val (.int x2), .val (.int x3), .val (.int x4), .val (.int (x0 &&& (1 : Int32))), .val (.int ((Jvm.Free.XT.ushr x0 (1 : Int32)) &&& (7 : Int32))), .val (.int c0), .val (.int c1), .val (.int c2), .val (.int c3), .val (.int c4), .val (.int c5), .val (.int c6), .val (.int c7), .val (.ref a36), .val (.ref a37), .val (.ref a38), .val (.ref a39), .val .null, .val (.int (0 : Int32)), .val (.int (0 : Int32)), .unset, .unset]) P88 at_366 rfl rfl ?_
    refine Own.iload (q := 370) P88 at_368 rfl rfl ?_
    refine Own.if_eq (q := 373) (qy := 511) P88 at_370 (by decide) rfl (fun _ => ?_) (fun q => absurd rfl q)
    refine Own.aload (q := 513) P88 at_511 rfl rfl rfl ?_
    have E0_11_379 : Ext h0 h38 := (Own.Ext.tr E0_10_81 E38)
    have E0_12_380 : Ext h0 h39 := (Own.Ext.tr E0_11_379 E39)
    have E0_13_381 : Ext h0 h43 := (Own.Ext.wr E0_12_380 W43 (Nat.le_trans E0_8_44.1 (Nat.le_of_eq ha36.symm)))
    have E0_14_382 : Ext h0 h45 := (Own.Ext.wr E0_13_381 W45 (Nat.le_trans E0_8_44.1 (Nat.le_of_eq ha36.symm)))
    have E0_15_383 : Ext h0 h46 := (Own.Ext.wr E0_14_382 W46 (Nat.le_trans E0_8_44.1 (Nat.le_of_eq ha36.symm)))
    have E0_16_384 : Ext h0 h47 := (Own.Ext.wr E0_15_383 W47 (Nat.le_trans E0_8_44.1 (Nat.le_of_eq ha36.symm)))
    have E0_17_385 : Ext h0 h48 := (Own.Ext.wr E0_16_384 W48 (Nat.le_trans E0_8_44.1 (Nat.le_of_eq ha36.symm)))
    have E0_18_386 : Ext h0 h49 := (Own.Ext.wr E0_17_385 W49 (Nat.le_trans E0_8_44.1 (Nat.le_of_eq ha36.symm)))
    have E0_19_387 : Ext h0 h58 := (Own.Ext.wr E0_18_386 W58 (Nat.le_trans E0_9_59.1 (Nat.le_of_eq ha37.symm)))
    have E0_20_388 : Ext h0 h60 := (Own.Ext.wr E0_19_387 W60 (Nat.le_trans E0_9_59.1 (Nat.le_of_eq ha37.symm)))
    have E0_21_389 : Ext h0 h61 := (Own.Ext.wr E0_20_388 W61 (Nat.le_trans E0_9_59.1 (Nat.le_of_eq ha37.symm)))
    have E0_22_390 : Ext h0 h62 := (Own.Ext.wr E0_21_389 W62 (Nat.le_trans E0_9_59.1 (Nat.le_of_eq ha37.symm)))
    have E0_23_391 : Ext h0 h63 := (Own.Ext.wr E0_22_390 W63 (Nat.le_trans E0_9_59.1 (Nat.le_of_eq ha37.symm)))
    have E0_24_392 : Ext h0 h64 := (Own.Ext.wr E0_23_391 W64 (Nat.le_trans E0_9_59.1 (Nat.le_of_eq ha37.symm)))
    have E0_25_393 : Ext h0 h65 := (Own.Ext.wr E0_24_392 W65 (Nat.le_trans E0_9_59.1 (Nat.le_of_eq ha37.symm)))
    have E0_26_394 : Ext h0 h80 := (Own.Ext.wr E0_25_393 W80 (Nat.le_trans E0_10_81.1 (Nat.le_of_eq ha38.symm)))
    have E0_27_395 : Ext h0 h82 := (Own.Ext.wr E0_26_394 W82 (Nat.le_trans E0_10_81.1 (Nat.le_of_eq ha38.symm)))
    have E0_28_396 : Ext h0 h83 := (Own.Ext.wr E0_27_395 W83 (Nat.le_trans E0_10_81.1 (Nat.le_of_eq ha38.symm)))
    have E0_29_397 : Ext h0 h84 := (Own.Ext.wr E0_28_396 W84 (Nat.le_trans E0_10_81.1 (Nat.le_of_eq ha38.symm)))
    have E0_30_398 : Ext h0 h85 := (Own.Ext.wr E0_29_397 W85 (Nat.le_trans E0_10_81.1 (Nat.le_of_eq ha38.symm)))
    have E0_31_399 : Ext h0 h86 := (Own.Ext.wr E0_30_398 W86 (Nat.le_trans E0_10_81.1 (Nat.le_of_eq ha38.symm)))
    have E0_32_400 : Ext h0 h87 := (Own.Ext.wr E0_31_399 W87 (Nat.le_trans E0_10_81.1 (Nat.le_of_eq ha38.symm)))
    have E0_33_401 : Ext h0 h88 := (Own.Ext.wr E0_32_400 W88 (Nat.le_trans E0_10_81.1 (Nat.le_of_eq ha38.symm)))
    have E8_9_402 : Ext h35 h36 := E36
    have E8_10_403 : Ext h35 h37 := (Own.Ext.tr E8_9_402 E37)
    have E8_11_404 : Ext h35 h38 := (Own.Ext.tr E8_10_403 E38)
    have E8_12_405 : Ext h35 h39 := (Own.Ext.tr E8_11_404 E39)
    have E8_13_406 : Ext h35 h43 := (Own.Ext.wr E8_12_405 W43 (Nat.le_of_eq ha36.symm))
    have E8_14_407 : Ext h35 h45 := (Own.Ext.wr E8_13_406 W45 (Nat.le_of_eq ha36.symm))
    have E8_15_408 : Ext h35 h46 := (Own.Ext.wr E8_14_407 W46 (Nat.le_of_eq ha36.symm))
    have E8_16_409 : Ext h35 h47 := (Own.Ext.wr E8_15_408 W47 (Nat.le_of_eq ha36.symm))
    have E8_17_410 : Ext h35 h48 := (Own.Ext.wr E8_16_409 W48 (Nat.le_of_eq ha36.symm))
    have E8_18_411 : Ext h35 h49 := (Own.Ext.wr E8_17_410 W49 (Nat.le_of_eq ha36.symm))
    have E8_19_412 : Ext h35 h58 := (Own.Ext.wr E8_18_411 W58 (Nat.le_trans E8_9_402.1 (Nat.le_of_eq ha37.symm)))
    have E8_20_413 : Ext h35 h60 := (Own.Ext.wr E8_19_412 W60 (Nat.le_trans E8_9_402.1 (Nat.le_of_eq ha37.symm)))
    have E8_21_414 : Ext h35 h61 := (Own.Ext.wr E8_20_413 W61 (Nat.le_trans E8_9_402.1 (Nat.le_of_eq ha37.symm)))
    have E8_22_415 : Ext h35 h62 := (Own.Ext.wr E8_21_414 W62 (Nat.le_trans E8_9_402.1 (Nat.le_of_eq ha37.symm)))
    have E8_23_416 : Ext h35 h63 := (Own.Ext.wr E8_22_415 W63 (Nat.le_trans E8_9_402.1 (Nat.le_of_eq ha37.symm)))
    have E8_24_417 : Ext h35 h64 := (Own.Ext.wr E8_23_416 W64 (Nat.le_trans E8_9_402.1 (Nat.le_of_eq ha37.symm)))
    have E8_25_418 : Ext h35 h65 := (Own.Ext.wr E8_24_417 W65 (Nat.le_trans E8_9_402.1 (Nat.le_of_eq ha37.symm)))
    have E8_26_419 : Ext h35 h80 := (Own.Ext.wr E8_25_418 W80 (Nat.le_trans E8_10_403.1 (Nat.le_of_eq ha38.symm)))
    have E8_27_420 : Ext h35 h82 := (Own.Ext.wr E8_26_419 W82 (Nat.le_trans E8_10_403.1 (Nat.le_of_eq ha38.symm)))
    have E8_28_421 : Ext h35 h83 := (Own.Ext.wr E8_27_420 W83 (Nat.le_trans E8_10_403.1 (Nat.le_of_eq ha38.symm)))
    have E8_29_422 : Ext h35 h84 := (Own.Ext.wr E8_28_421 W84 (Nat.le_trans E8_10_403.1 (Nat.le_of_eq ha38.symm)))
    have E8_30_423 : Ext h35 h85 := (Own.Ext.wr E8_29_422 W85 (Nat.le_trans E8_10_403.1 (Nat.le_of_eq ha38.symm)))
    have E8_31_424 : Ext h35 h86 := (Own.Ext.wr E8_30_423 W86 (Nat.le_trans E8_10_403.1 (Nat.le_of_eq ha38.symm)))
    have E8_32_425 : Ext h35 h87 := (Own.Ext.wr E8_31_424 W87 (Nat.le_trans E8_10_403.1 (Nat.le_of_eq ha38.symm)))
    have E8_33_426 : Ext h35 h88 := (Own.Ext.wr E8_32_425 W88 (Nat.le_trans E8_10_403.1 (Nat.le_of_eq ha38.symm)))
    have Hd427 := (H35.ext E8_33_426)
    refine Own.invStaticH (q := 516) (W := 0) (y := (⟨"com/example/mokuroku/mokuroku/formats/JpcoarReader", "isReadingLanguage", "(Ljava/lang/String;)Z"⟩ : MethodName)) (argsL := [.null]) (rest := []) P88 Hd427 at_513 (hw _ (List.mem_of_getElem? (i := 38) rfl)) (hw _ (List.mem_of_getElem? (i := 39) rfl)) (hw _ (List.mem_of_getElem? (i := 40) rfl)) (hw _ (List.mem_of_getElem? (i := 41) rfl)) (by decide) (Own.backH (W := 0) (rmRl0 l Z a0 hw [] zc h88 n0 (Nat.le_trans Z0 E0_33_401.1) (SC.ext E0_33_401) hzc) P88.2.2.2.1 (hw _ (List.mem_of_getElem? (i := 41) rfl)) (hw _ (List.mem_of_getElem? (i := 40) rfl)) (by decide) (by decide) (ew hw) Hd427.2.1 all0) rfl rfl (by rw [hml]; rfl) (lenOf (show parseMethodDescriptor "(Ljava/lang/String;)Z" = some ⟨[(.object "java/lang/String")], some .boolean⟩ from by decide +kernel) rfl) (by show 2 * 0 + _ ≤ _; exact Nat.le_of_eq rfl) (by decide) (by decide) rfl ?_
    rintro v428 T428 vm428 h428 L428 ⟨rfl, N428q, E428⟩ P428 H428 hr428
    have N428 := Fr.app N88 N428q
    show Own.Goes _ _ _ _ (T428.setTop (mkF m 516 #[.val (.int x0), .val (.int x1), .val (.int x2), .val (.int x3), .val (.int x4), .val (.int (x0 &&& (1 : Int32))), .val (.int ((Jvm.Free.XT.ushr x0 (1 : Int32)) &&& (7 : Int32))), .val (.int c0), .val (.int c1), .val (.int c2), .val (.int c3), .val (.int c4), .val (.int c5), .val (.int c6), .val (.int c7), .val (.ref a36), .val (.ref a37), .val (.ref a38), .val (.ref a39), .val .null, .val (.int (0 : Int32)), .val (.int (0 : Int32)), .unset, .unset] [(.int (0 : Int32))]))
    refine Own.iload (q := 518) P428 at_516 rfl rfl ?_
    refine Own.icmp_ne (q := 521) (qy := 525) P428 at_518 (by decide) rfl (fun q => absurd rfl q) (fun _ => ?_)
    refine Own.iconst (q := 522) (v := (1 : Int32)) P428 at_521 rfl rfl ?_
    refine Own.goto (q := 526) P428 at_522 (by decide) ?_
    refine Own.retZH (Q := QrmLaw Z x0 x1 x2 x3 x4 zc fm h0 n0) P428 hh (ew hw) H428 at_526 hret (by simp) hlk (by decide) (by decide) ?_
    exact ⟨rfl, N428⟩
set_option maxRecDepth 65536 in
set_option maxHeartbeats 40000000 in
theorem comes_1 {Post : Tables → Env → Array Value → State → Outcome → State → Prop} (hpost : ∀ tb e args s v u, (limb_1_1.after args s (.returned v) u = true ∧ limb_1_2.after args s (.returned v) u = true ∧ True) → ReturnedEndW s (.returned v) u (Jvm.fieldLocs frame_1_writes args s ++ Jvm.arrayLocs frame_1_arrays args s ++ Jvm.staticLocs frame_1_statics s) 32 5312 → Post tb e args s (.returned v) u) :
    ArmFor flags0 classFile x code maxLocals ret World_1 tables_1 room_1 Calls_1 rest_1 Pre_1 Post := by
  intro l hfl _ _ p e ha hc hk s m args below hf hA hF happ hP
  obtain ⟨hcalls, hrest, hpre⟩ := hP
  obtain ⟨-, -, -, hnamed, -, -, -, hat⟩ := (Spec.applies_iff hf).mp happ
  obtain ⟨hg, hn⟩ := and_e (Cond.before_iff.mp (show (Jvm.Cond.and given_1 narrow_1).before args s = true from hpre))
  obtain ⟨hg0, hg1⟩ := and_e hg
  obtain ⟨hi1, hg2⟩ := and_e hg1
  obtain ⟨hi2, hg3⟩ := and_e hg2
  obtain ⟨hi3, hg4⟩ := and_e hg3
  obtain ⟨hi4, hg5⟩ := and_e hg4
  obtain ⟨w0, w1, w2, w3, w4, rfl⟩ : ∃ w0 w1 w2 w3 w4 : Value, args = #[w0, w1, w2, w3, w4] := by
    have hs : args.size = 5 := by simpa [Cond.value, given_1] using hg0
    obtain ⟨L⟩ := args
    match L, hs with
    | [w0, w1, w2, w3, w4], _ => exact ⟨w0, w1, w2, w3, w4, rfl⟩
  have hw := fun d (hd : d ∈ tables_1) => atoms_spec (ws := Jvm.Cond.code x code maxLocals ret :: tables_1) hat d (List.mem_cons_of_mem _ hd)
  obtain ⟨hsets, hown0⟩ := atoms_of _ (rest_1_c_eq ▸ (show rest_1_c.before _ s = true from hrest))
  have hfit : Fit s := fun {y c} hc i hi => by
    obtain ⟨ha, rfl⟩ := Array.getElem?_eq_some_iff.mp hc
    have q := List.all_eq_true.mp ((Array.all_eq_true_iff_forall_mem.mp hF) _ (Array.getElem_mem ha)) i (List.mem_range.mpr hi)
    simpa [Array.getElem?_eq_getElem hi] using q
  obtain ⟨i0, ei0⟩ := is_v hi1
  obtain rfl : w0 = (.int i0) := Option.some.inj ei0
  obtain ⟨i1, ei1⟩ := is_v hi2
  obtain rfl : w1 = (.int i1) := Option.some.inj ei1
  obtain ⟨i2, ei2⟩ := is_v hi3
  obtain rfl : w2 = (.int i2) := Option.some.inj ei2
  obtain ⟨i3, ei3⟩ := is_v hi4
  obtain rfl : w3 = (.int i3) := Option.some.inj ei3
  obtain ⟨i4, ei4⟩ := is_v hg5
  obtain rfl : w4 = (.int i4) := Option.some.inj ei4
  have n5 := not_v (Cond.before_iff.mp (hsets _ (List.mem_of_getElem? (i := 2) rfl)))
  obtain ⟨zc, ezc⟩ := is_v (Cond.before_iff.mp (hsets _ (List.mem_of_getElem? (i := 1) rfl)))
  have SC : Sta s s.heap "java/lang/String" "COMPACT_STRINGS" "Z" (.int zc) := Sta.start ezc (Or.inl (hsets _ (List.mem_of_getElem? (i := 0) rfl)))
  have hzc : ¬ (zc = (0 : Int32)) := gotF (Cond.eq_ints ezc (Term.int_eval (0))) n5
  obtain ⟨fm, efm, rfm⟩ := isR_v (Cond.before_iff.mp (hsets _ (List.mem_of_getElem? (i := 8) rfl)))
  have SF : Sta s s.heap "jdk/internal/util/Preconditions" "SIOOBE_FORMATTER" "Ljava/util/function/BiFunction;" fm := Sta.start efm (Or.inl (hsets _ (List.mem_of_getElem? (i := 7) rfl)))

  have hCH : CHv s EL s.vm s.heap := CHv.start (ew hw) (fun p hp => hcalls.1 p hp) (a0 := #[.int i0, .int i1, .int i2, .int i3, .int i4]) (hsets _ (List.mem_of_getElem? (i := 2) rfl)) (hw _ (List.mem_of_getElem? (i := 7) rfl)) (hw _ (List.mem_of_getElem? (i := 6) rfl))
  obtain ⟨n, o, h1, h2, h3, _, L, rfl, ⟨rfl, N⟩, -, hq⟩ := rmLaw l s _ hw tables_1 i0 i1 i2 i3 i4 zc fm s.heap s.heap.size (Nat.le_refl _) SC hzc SF rfm p e ha hc hk s m _ below hf ((Spec.applies_iff_loose hf).mp happ).1 ⟨rfl, State.Warmed39.refl s, rfl, hCH, fun _ q => nomatch q⟩ trivial
  refine ⟨n, _, h1, h2, h3, hpost _ _ _ _ _ _ ⟨Cond.after_iff.mpr rfl, Cond.after_iff.mpr (eq_i res_at (Term.int_eval (1)) rfl), trivial⟩ ⟨hq.1, hq.2.1, hq.2.2.1, (hq.2.2.2.sift fun y hy => Or.inr (N y hy)).mono (by decide) (by decide)⟩⟩
theorem main_1_1 : Claimed_1_1 := comes_1 fun _ _ _ _ _ _ h hF => ⟨h.1, hF⟩
theorem main_1_2 : Claimed_1_2 := comes_1 fun _ _ _ _ _ _ h hF => ⟨h.2.1, hF⟩
end Jvm.Pilot.@@N@@
namespace Jvm.Pilot.@@N@@
open Jvm Jvm.ClassFile Sem Op Lib Jvm.Free Jvm.Stand Jvm.Pilot.@@N@@.Jvm.D
/-! MADE BY PROGRAM (witnessworld.py) out of the Statement's table words and the real class files: 23 classes; the members and pool entries that the words name. The judged class is class 1, her method 1. -/
namespace start1
open Jvm.ClassFile
def u (s : String) : CpInfo := .utf8 (stringToUtf16 s)
/-- a pool by its gaps: so many unusable entries, then the entry; so many at the end -/
def gap : Nat → List CpInfo → List CpInfo
  | 0, r => r
  | n + 1, r => .unusable :: gap n r
def poolList (es : List (Nat × CpInfo)) (last : Nat) : List CpInfo := es.foldr (fun e r => gap e.1 (e.2 :: r)) (gap last [])
def pool (es : List (Nat × CpInfo)) (last : Nat) : Array CpInfo := ⟨poolList es last⟩
def fileOf (pool : Array CpInfo) (this : Nat) (attrs : Array Attribute := #[]) (ms : Array MethodInfo := #[]) (fl : Nat := 33) (sup : Nat := 0) (ifs : Array Nat := #[]) (fds : Array FieldInfo := #[]) : ClassFile where
  minorVersion := 0
  majorVersion := 65
  constantPool := pool
  accessFlags := fl
  thisClass := this
  superClass := sup
  interfaces := ifs
  fields := fds
  methods := ms
  attributes := attrs
def plain (name : String) (sup : Option ClassId) : Class where
  name := name
  kind := .ordinary
  loader := none
  accessFlags := 33
  super := sup
  interfaces := #[]
  cf := none
  fields := #[]
  methods := #[]
  instanceTypes := #[]
  staticTypes := #[]
  resolved := #[]
  callSites := []
  init := .initialized
  statics := none
  mirror := none

def pool0 : Array CpInfo := pool [(5, u "<init>"), (0, u "()V"), (1, .class_ 10), (1, u "java/lang/Object")] 113

def k0c0 : Code := { maxStack := 0, maxLocals := 1, code := object_method_1_code, exceptionTable := #[], attributes := #[] }
def k0m0 : Method := { name := "<init>", desc := "()V", sig := { parameters := [], returnType := none }, accessFlags := 1, code := some k0c0 }
/-- java/lang/Object -/
def k0 : Class := { plain "java/lang/Object" none with
  accessFlags := 33
  interfaces := #[]
  cf := some (fileOf pool0 8 #[] #[{ accessFlags := 1, nameIndex := 5, descriptorIndex := 6, attributes := #[] }] 33 0 #[] #[])
  fields := #[]
  methods := #[k0m0]
  instanceTypes := #[]
  staticTypes := #[]
  resolved := Array.replicate 124 none
  statics := none }

def pool1 : Array CpInfo := pool [(2, .class_ 4), (1, u "java/lang/Object"), (0, u "<init>"), (0, u "()V"), (0, .methodref 8 9), (0, .class_ 10), (0, .nameAndType 11 12), (0, u "com/example/mokuroku/mokuroku/formats/JpcoarReaderIsReadingLanguagePinLaw"), (0, u "pick"), (0, u "(IIIIII)C"), (0, .class_ 14), (0, u "java/lang/String"), (0, .methodref 13 16), (0, .nameAndType 5 17), (0, u "([C)V"), (0, .methodref 8 19), (0, .nameAndType 20 21), (0, u "low"), (0, u "(C)C"), (0, .methodref 23 24), (0, .class_ 25), (0, .nameAndType 26 27), (0, u "com/example/mokuroku/mokuroku/formats/JpcoarReader"), (0, u "isReadingLanguage"), (0, u "(Ljava/lang/String;)Z"), (0, .string 29), (0, u "ja-kana"), (0, .methodref 13 31), (0, .nameAndType 32 33), (0, u "charAt"), (0, u "(I)C"), (0, .string 35), (0, u "ja-latn"), (2, u "law"), (0, u "(IIIII)Z")] 5

def k1m0 : Method := { name := "<init>", desc := "()V", sig := { parameters := [], returnType := none }, accessFlags := 1, code := none }
def k1c1 : Code := { maxStack := 6, maxLocals := 24, code := code, exceptionTable := #[], attributes := #[] }
def k1m1 : Method := { name := "law", desc := "(IIIII)Z", sig := { parameters := [.int, .int, .int, .int, .int], returnType := some .boolean }, accessFlags := 9, code := some k1c1 }
def k1c2 : Code := { maxStack := 2, maxLocals := 1, code := method_3_code, exceptionTable := #[], attributes := #[] }
def k1m2 : Method := { name := "low", desc := "(C)C", sig := { parameters := [.char], returnType := some .char }, accessFlags := 10, code := some k1c2 }
def k1c3 : Code := { maxStack := 3, maxLocals := 8, code := method_4_code, exceptionTable := #[], attributes := #[] }
def k1m3 : Method := { name := "pick", desc := "(IIIIII)C", sig := { parameters := [.int, .int, .int, .int, .int, .int], returnType := some .char }, accessFlags := 10, code := some k1c3 }
/-- com/example/mokuroku/mokuroku/formats/JpcoarReaderIsReadingLanguagePinLaw -/
def k1 : Class := { plain "com/example/mokuroku/mokuroku/formats/JpcoarReaderIsReadingLanguagePinLaw" (some 0) with
  accessFlags := 49
  interfaces := #[]
  cf := some (fileOf pool1 8 #[] #[{ accessFlags := 1, nameIndex := 5, descriptorIndex := 6, attributes := #[] }, { accessFlags := 9, nameIndex := 38, descriptorIndex := 39, attributes := #[] }, { accessFlags := 10, nameIndex := 20, descriptorIndex := 21, attributes := #[] }, { accessFlags := 10, nameIndex := 11, descriptorIndex := 12, attributes := #[] }] 49 2 #[] #[])
  fields := #[]
  methods := #[k1m0, k1m1, k1m2, k1m3]
  instanceTypes := #[]
  staticTypes := #[]
  resolved := Array.replicate 45 none
  statics := none }

def pool2 : Array CpInfo := pool [(1, .class_ 2), (0, u "java/io/Serializable"), (0, .class_ 4), (0, u "java/lang/Object")] 2

/-- java/io/Serializable -/
def k2 : Class := { plain "java/io/Serializable" (some 0) with
  accessFlags := 1537
  interfaces := #[]
  cf := some (fileOf pool2 1 #[] #[] 1537 3 #[] #[])
  fields := #[]
  methods := #[]
  instanceTypes := #[]
  staticTypes := #[]
  resolved := Array.replicate 7 none
  statics := none }

def pool3 : Array CpInfo := pool [(1, .class_ 2), (0, u "java/lang/Comparable"), (0, .class_ 4), (0, u "java/lang/Object")] 7

/-- java/lang/Comparable -/
def k3 : Class := { plain "java/lang/Comparable" (some 0) with
  accessFlags := 1537
  interfaces := #[]
  cf := some (fileOf pool3 1 #[] #[] 1537 3 #[] #[])
  fields := #[]
  methods := #[]
  instanceTypes := #[]
  staticTypes := #[]
  resolved := Array.replicate 12 none
  statics := none }

def pool4 : Array CpInfo := pool [(2, .class_ 4), (1, u "java/lang/CharSequence"), (42, .class_ 48), (0, u "java/lang/CharSequence$1CodePointIterator"), (10, .class_ 60), (0, u "java/lang/CharSequence$1CharIterator"), (5, .class_ 67), (0, u "java/lang/Object")] 63

/-- java/lang/CharSequence -/
def k4 : Class := { plain "java/lang/CharSequence" (some 0) with
  accessFlags := 1537
  interfaces := #[]
  cf := some (fileOf pool4 2 #[.nestMembers #[47, 59]] #[] 1537 66 #[] #[])
  fields := #[]
  methods := #[]
  instanceTypes := #[]
  staticTypes := #[]
  resolved := Array.replicate 131 none
  statics := none }

def pool5 : Array CpInfo := pool [(1, .class_ 2), (0, u "java/lang/constant/Constable"), (0, .class_ 4), (0, u "java/lang/Object")] 6

/-- java/lang/constant/Constable -/
def k5 : Class := { plain "java/lang/constant/Constable" (some 0) with
  accessFlags := 1537
  interfaces := #[]
  cf := some (fileOf pool5 1 #[] #[] 1537 3 #[] #[])
  fields := #[]
  methods := #[]
  instanceTypes := #[]
  staticTypes := #[]
  resolved := Array.replicate 11 none
  statics := none }

def pool6 : Array CpInfo := pool [(1, .class_ 2), (0, u "java/lang/constant/ConstantDesc"), (0, .class_ 4), (0, u "java/lang/Object")] 32

/-- java/lang/constant/ConstantDesc -/
def k6 : Class := { plain "java/lang/constant/ConstantDesc" (some 0) with
  accessFlags := 1537
  interfaces := #[]
  cf := some (fileOf pool6 1 #[] #[] 1537 3 #[] #[])
  fields := #[]
  methods := #[]
  instanceTypes := #[]
  staticTypes := #[]
  resolved := Array.replicate 37 none
  statics := none }

def pool7 : Array CpInfo := pool [(1, .methodref 2 3), (0, .class_ 4), (0, .nameAndType 5 6), (0, u "java/lang/Object"), (0, u "<init>"), (0, u "()V"), (0, .string 8), (0, u ""), (0, .fieldref 10 11), (0, .class_ 12), (0, .nameAndType 13 14), (0, u "java/lang/String"), (0, u "value"), (0, u "[B"), (0, .fieldref 10 16), (0, .nameAndType 17 18), (0, u "coder"), (0, u "B"), (2, u "hash"), (0, u "I"), (2, u "hashIsZero"), (0, u "Z"), (0, .methodref 10 28), (0, .nameAndType 5 29), (0, u "([CIILjava/lang/Void;)V"), (8, .fieldref 10 39), (0, .nameAndType 40 26), (0, u "COMPACT_STRINGS"), (1, .class_ 44), (1, u "java/lang/StringUTF16"), (0, u "compress"), (1, .methodref 42 48), (0, .nameAndType 49 50), (0, u "coderFromArrayLen"), (0, u "([BI)B"), (56, .class_ 109), (1, u "java/lang/StringLatin1"), (32, u "()Z"), (34, .methodref 42 178), (0, .nameAndType 45 179), (0, u "([CII)[B"), (154, u "()I"), (0, .methodref 10 336), (0, .nameAndType 17 337), (0, u "()B"), (25, u "([BI)C"), (27, u "(II)V"), (35, u "(I)C"), (64, .methodref 10 493), (0, .nameAndType 494 142), (0, u "isLatin1"), (0, .methodref 107 496), (0, .nameAndType 497 363), (0, u "charAt"), (3, u "checkIndex"), (3, .methodref 10 506), (0, .nameAndType 507 334), (0, u "length"), (67, .class_ 576), (0, u "java/lang/CharSequence"), (5, .methodref 10 583), (0, .nameAndType 584 585), (0, u "regionMatches"), (0, u "(ZILjava/lang/String;II)Z"), (13, u "CASE_INSENSITIVE_ORDER"), (0, u "Ljava/util/Comparator;"), (12, .methodref 107 614), (0, .nameAndType 615 616), (0, u "regionMatchesCI"), (0, u "([BI[BII)Z"), (393, u "([C)V"), (42, .fieldref 1054 1055), (0, .class_ 1056), (0, .nameAndType 1057 1058), (0, u "jdk/internal/util/Preconditions"), (0, u "SIOOBE_FORMATTER"), (0, u "Ljava/util/function/BiFunction;"), (0, .methodref 1054 1060), (0, .nameAndType 501 1061), (0, u "(IILjava/util/function/BiFunction;)I"), (39, u "serialPersistentFields"), (0, u "[Ljava/io/ObjectStreamField;"), (0, .class_ 1104), (0, u "java/lang/String$CaseInsensitiveComparator"), (1, .class_ 1107), (0, u "java/io/Serializable"), (0, .class_ 1109), (0, u "java/lang/Comparable"), (0, .class_ 1111), (0, u "java/lang/constant/Constable"), (0, .class_ 1113), (0, u "java/lang/constant/ConstantDesc"), (2, u "serialVersionUID"), (0, u "J"), (3, u "REPL"), (0, u "C"), (2, u "LATIN1"), (1, u "UTF16"), (128, u "equalsIgnoreCase"), (0, u "(Ljava/lang/String;)Z")] 193

def k7m0 : Method := { name := "<init>", desc := "()V", sig := { parameters := [], returnType := none }, accessFlags := 1, code := none }
def k7c1 : Code := { maxStack := 5, maxLocals := 2, code := jdk_42_method_3_code, exceptionTable := #[], attributes := #[] }
def k7m1 : Method := { name := "<init>", desc := "([C)V", sig := { parameters := [(.array .char)], returnType := none }, accessFlags := 1, code := some k7c1 }
def k7c2 : Code := { maxStack := 2, maxLocals := 1, code := jdk_42_method_54_code, exceptionTable := #[], attributes := #[] }
def k7m2 : Method := { name := "length", desc := "()I", sig := { parameters := [], returnType := some .int }, accessFlags := 1, code := some k7c2 }
def k7c3 : Code := { maxStack := 2, maxLocals := 2, code := jdk_42_method_56_code, exceptionTable := #[], attributes := #[] }
def k7m3 : Method := { name := "charAt", desc := "(I)C", sig := { parameters := [.int], returnType := some .char }, accessFlags := 1, code := some k7c3 }
def k7c4 : Code := { maxStack := 6, maxLocals := 2, code := jdk_42_method_70_code, exceptionTable := #[], attributes := #[] }
def k7m4 : Method := { name := "equalsIgnoreCase", desc := "(Ljava/lang/String;)Z", sig := { parameters := [(.object "java/lang/String")], returnType := some .boolean }, accessFlags := 1, code := some k7c4 }
def k7c5 : Code := { maxStack := 6, maxLocals := 9, code := jdk_42_method_74_code, exceptionTable := #[], attributes := #[] }
def k7m5 : Method := { name := "regionMatches", desc := "(ZILjava/lang/String;II)Z", sig := { parameters := [.boolean, .int, (.object "java/lang/String"), .int, .int], returnType := some .boolean }, accessFlags := 1, code := some k7c5 }
def k7c6 : Code := { maxStack := 4, maxLocals := 6, code := jdk_42_method_149_code, exceptionTable := #[], attributes := #[] }
def k7m6 : Method := { name := "<init>", desc := "([CIILjava/lang/Void;)V", sig := { parameters := [(.array .char), .int, .int, (.object "java/lang/Void")], returnType := none }, accessFlags := 2, code := some k7c6 }
def k7c7 : Code := { maxStack := 1, maxLocals := 1, code := jdk_42_method_152_code, exceptionTable := #[], attributes := #[] }
def k7m7 : Method := { name := "coder", desc := "()B", sig := { parameters := [], returnType := some .byte }, accessFlags := 0, code := some k7c7 }
def k7c8 : Code := { maxStack := 1, maxLocals := 1, code := jdk_42_method_154_code, exceptionTable := #[], attributes := #[] }
def k7m8 : Method := { name := "isLatin1", desc := "()Z", sig := { parameters := [], returnType := some .boolean }, accessFlags := 0, code := some k7c8 }
def k7c9 : Code := { maxStack := 3, maxLocals := 2, code := jdk_42_method_155_code, exceptionTable := #[], attributes := #[] }
def k7m9 : Method := { name := "checkIndex", desc := "(II)V", sig := { parameters := [.int, .int], returnType := none }, accessFlags := 8, code := some k7c9 }
/-- java/lang/String -/
def k7 : Class := { plain "java/lang/String" (some 0) with
  accessFlags := 49
  interfaces := #[2, 3, 4, 5, 6]
  cf := some (fileOf pool7 10 #[.nestMembers #[1103]] #[{ accessFlags := 1, nameIndex := 5, descriptorIndex := 6, attributes := #[] }, { accessFlags := 1, nameIndex := 5, descriptorIndex := 1010, attributes := #[] }, { accessFlags := 1, nameIndex := 507, descriptorIndex := 334, attributes := #[] }, { accessFlags := 1, nameIndex := 497, descriptorIndex := 427, attributes := #[] }, { accessFlags := 1, nameIndex := 1256, descriptorIndex := 1257, attributes := #[] }, { accessFlags := 1, nameIndex := 584, descriptorIndex := 585, attributes := #[] }, { accessFlags := 2, nameIndex := 5, descriptorIndex := 29, attributes := #[] }, { accessFlags := 0, nameIndex := 17, descriptorIndex := 337, attributes := #[] }, { accessFlags := 0, nameIndex := 494, descriptorIndex := 142, attributes := #[] }, { accessFlags := 8, nameIndex := 501, descriptorIndex := 391, attributes := #[] }] 49 2 #[1106, 1108, 575, 1110, 1112] #[{ accessFlags := 18, nameIndex := 13, descriptorIndex := 14, attributes := #[] }, { accessFlags := 18, nameIndex := 17, descriptorIndex := 18, attributes := #[] }, { accessFlags := 2, nameIndex := 21, descriptorIndex := 22, attributes := #[] }, { accessFlags := 2, nameIndex := 25, descriptorIndex := 26, attributes := #[] }, { accessFlags := 26, nameIndex := 1116, descriptorIndex := 1117, attributes := #[] }, { accessFlags := 24, nameIndex := 40, descriptorIndex := 26, attributes := #[] }, { accessFlags := 26, nameIndex := 1101, descriptorIndex := 1102, attributes := #[] }, { accessFlags := 26, nameIndex := 1121, descriptorIndex := 1122, attributes := #[] }, { accessFlags := 25, nameIndex := 599, descriptorIndex := 600, attributes := #[] }, { accessFlags := 24, nameIndex := 1125, descriptorIndex := 18, attributes := #[] }, { accessFlags := 24, nameIndex := 1127, descriptorIndex := 18, attributes := #[] }])
  fields := #[{ name := "value", type := (.array .byte), accessFlags := 18, slot := 0, constantValue := 0 }, { name := "coder", type := .byte, accessFlags := 18, slot := 1, constantValue := 0 }, { name := "hash", type := .int, accessFlags := 2, slot := 2, constantValue := 0 }, { name := "hashIsZero", type := .boolean, accessFlags := 2, slot := 3, constantValue := 0 }, { name := "serialVersionUID", type := .long, accessFlags := 26, slot := 0, constantValue := 0 }, { name := "COMPACT_STRINGS", type := .boolean, accessFlags := 24, slot := 1, constantValue := 0 }, { name := "serialPersistentFields", type := (.array (.object "java/io/ObjectStreamField")), accessFlags := 26, slot := 2, constantValue := 0 }, { name := "REPL", type := .char, accessFlags := 26, slot := 3, constantValue := 0 }, { name := "CASE_INSENSITIVE_ORDER", type := (.object "java/util/Comparator"), accessFlags := 25, slot := 4, constantValue := 0 }, { name := "LATIN1", type := .byte, accessFlags := 24, slot := 5, constantValue := 0 }, { name := "UTF16", type := .byte, accessFlags := 24, slot := 6, constantValue := 0 }]
  methods := #[k7m0, k7m1, k7m2, k7m3, k7m4, k7m5, k7m6, k7m7, k7m8, k7m9]
  instanceTypes := #[(.array .byte), .byte, .int, .boolean]
  staticTypes := #[.long, .boolean, (.array (.object "java/io/ObjectStreamField")), .char, (.object "java/util/Comparator"), .byte, .byte]
  resolved := Array.replicate 1451 none
  statics := some 0 }

def pool8 : Array CpInfo := pool [(1, .class_ 2), (0, u "java/lang/String"), (1, .class_ 6), (1, u "java/lang/Object"), (0, u "<init>"), (0, u "()V"), (0, .methodref 1 10), (0, .nameAndType 11 12), (0, u "checkIndex"), (0, u "(II)V"), (1, .class_ 16), (1, u "java/lang/StringLatin1"), (36, u "([BI)C"), (13, .class_ 69), (1, u "java/lang/CharacterDataLatin1"), (51, u "$assertionsDisabled"), (0, u "Z"), (30, .methodref 67 154), (0, .nameAndType 155 156), (0, u "equalsIgnoreCase"), (0, u "(BB)Z"), (64, .class_ 223), (1, u "java/lang/StringLatin1$LinesSpliterator"), (28, u "charAt"), (87, u "regionMatchesCI"), (0, u "([BI[BII)Z"), (48, .class_ 391), (0, u "java/lang/StringLatin1$CharsSpliterator")] 3

def k8m0 : Method := { name := "<init>", desc := "()V", sig := { parameters := [], returnType := none }, accessFlags := 0, code := none }
def k8c1 : Code := { maxStack := 2, maxLocals := 2, code := jdk_43_method_2_code, exceptionTable := #[], attributes := #[] }
def k8m1 : Method := { name := "charAt", desc := "([BI)C", sig := { parameters := [(.array .byte), .int], returnType := some .char }, accessFlags := 9, code := some k8c1 }
def k8c2 : Code := { maxStack := 2, maxLocals := 8, code := jdk_43_method_30_code, exceptionTable := #[], attributes := #[] }
def k8m2 : Method := { name := "regionMatchesCI", desc := "([BI[BII)Z", sig := { parameters := [(.array .byte), .int, (.array .byte), .int, .int], returnType := some .boolean }, accessFlags := 9, code := some k8c2 }
/-- java/lang/StringLatin1 -/
def k8 : Class := { plain "java/lang/StringLatin1" (some 0) with
  accessFlags := 48
  interfaces := #[]
  cf := some (fileOf pool8 14 #[.nestMembers #[390, 221]] #[{ accessFlags := 0, nameIndex := 7, descriptorIndex := 8, attributes := #[] }, { accessFlags := 9, nameIndex := 252, descriptorIndex := 53, attributes := #[] }, { accessFlags := 9, nameIndex := 340, descriptorIndex := 341, attributes := #[] }] 48 4 #[] #[{ accessFlags := 4120, nameIndex := 121, descriptorIndex := 122, attributes := #[] }])
  fields := #[{ name := "$assertionsDisabled", type := .boolean, accessFlags := 4120, slot := 0, constantValue := 0 }]
  methods := #[k8m0, k8m1, k8m2]
  instanceTypes := #[]
  staticTypes := #[.boolean]
  resolved := Array.replicate 395 none
  statics := none }

def pool9 : Array CpInfo := pool [(2, .class_ 4), (1, u "java/lang/Object"), (0, u "<init>"), (0, u "()V"), (17, .class_ 26), (1, u "jdk/internal/util/Preconditions"), (6, u "checkIndex"), (21, .class_ 56), (0, u "jdk/internal/util/Preconditions$4"), (57, .class_ 115), (0, u "jdk/internal/util/Preconditions$1"), (7, u "SIOOBE_FORMATTER"), (0, u "Ljava/util/function/BiFunction;"), (0, .class_ 126), (0, u "jdk/internal/util/Preconditions$2"), (3, u "AIOOBE_FORMATTER"), (0, .class_ 132), (0, u "jdk/internal/util/Preconditions$3"), (3, u "IOOBE_FORMATTER"), (41, u "(IILjava/util/function/BiFunction;)I")] 15

def k9m0 : Method := { name := "<init>", desc := "()V", sig := { parameters := [], returnType := none }, accessFlags := 1, code := none }
def k9c1 : Code := { maxStack := 3, maxLocals := 3, code := jdk_41_method_11_code, exceptionTable := #[], attributes := #[] }
def k9m1 : Method := { name := "checkIndex", desc := "(IILjava/util/function/BiFunction;)I", sig := { parameters := [.int, .int, (.object "java/util/function/BiFunction")], returnType := some .int }, accessFlags := 9, code := some k9c1 }
/-- jdk/internal/util/Preconditions -/
def k9 : Class := { plain "jdk/internal/util/Preconditions" (some 0) with
  accessFlags := 33
  interfaces := #[]
  cf := some (fileOf pool9 24 #[.nestMembers #[55, 131, 125, 114]] #[{ accessFlags := 1, nameIndex := 5, descriptorIndex := 6, attributes := #[] }, { accessFlags := 9, nameIndex := 33, descriptorIndex := 178, attributes := #[] }] 33 2 #[] #[{ accessFlags := 25, nameIndex := 123, descriptorIndex := 124, attributes := #[] }, { accessFlags := 25, nameIndex := 130, descriptorIndex := 124, attributes := #[] }, { accessFlags := 25, nameIndex := 136, descriptorIndex := 124, attributes := #[] }])
  fields := #[{ name := "SIOOBE_FORMATTER", type := (.object "java/util/function/BiFunction"), accessFlags := 25, slot := 0, constantValue := 0 }, { name := "AIOOBE_FORMATTER", type := (.object "java/util/function/BiFunction"), accessFlags := 25, slot := 1, constantValue := 0 }, { name := "IOOBE_FORMATTER", type := (.object "java/util/function/BiFunction"), accessFlags := 25, slot := 2, constantValue := 0 }]
  methods := #[k9m0, k9m1]
  instanceTypes := #[]
  staticTypes := #[(.object "java/util/function/BiFunction"), (.object "java/util/function/BiFunction"), (.object "java/util/function/BiFunction")]
  resolved := Array.replicate 194 none
  statics := some 1 }

def pool10 : Array CpInfo := pool [(2, .class_ 4), (1, u "com/example/mokuroku/mokuroku/formats/RecordReader$1"), (32, .class_ 38), (0, u "com/example/mokuroku/mokuroku/formats/RecordReader"), (0, .class_ 40), (0, u "java/lang/Object"), (0, u "NOT_CONVERTED"), (0, u "Ljava/lang/String;")] 21

/-- com/example/mokuroku/mokuroku/formats/RecordReader -/
def k10 : Class := { plain "com/example/mokuroku/mokuroku/formats/RecordReader" (some 0) with
  accessFlags := 1537
  interfaces := #[]
  cf := some (fileOf pool10 37 #[.nestMembers #[2]] #[] 1537 39 #[] #[{ accessFlags := 25, nameIndex := 41, descriptorIndex := 42, attributes := #[] }])
  fields := #[{ name := "NOT_CONVERTED", type := (.object "java/lang/String"), accessFlags := 25, slot := 0, constantValue := 0 }]
  methods := #[]
  instanceTypes := #[]
  staticTypes := #[(.object "java/lang/String")]
  resolved := Array.replicate 64 none
  statics := none }

def pool11 : Array CpInfo := pool [(2, .class_ 4), (1, u "java/lang/Object"), (0, u "<init>"), (0, u "()V"), (0, .string 8), (0, u "ja-Kana"), (0, .methodref 10 11), (0, .class_ 12), (0, .nameAndType 13 14), (0, u "java/lang/String"), (0, u "equalsIgnoreCase"), (0, u "(Ljava/lang/String;)Z"), (0, .string 16), (0, u "ja-Latn"), (0, .class_ 18), (0, u "com/example/mokuroku/mokuroku/formats/JpcoarReader$1"), (12, .class_ 33), (1, u "com/example/mokuroku/mokuroku/formats/JpcoarReader"), (283, .class_ 318), (0, u "com/example/mokuroku/mokuroku/formats/JpcoarReader$Element"), (51, .class_ 371), (0, u "com/example/mokuroku/mokuroku/formats/JpcoarReader$OpenElement"), (60, .class_ 433), (0, u "com/example/mokuroku/mokuroku/formats/JpcoarReader$WithReadings"), (298, u "ATTRIBUTES_NOT_CARRIED"), (0, u "Ljava/util/Map;"), (25, .class_ 760), (0, u "com/example/mokuroku/mokuroku/formats/RecordReader"), (4, u "isReadingLanguage")] 103

def k11m0 : Method := { name := "<init>", desc := "()V", sig := { parameters := [], returnType := none }, accessFlags := 0, code := none }
def k11c1 : Code := { maxStack := 2, maxLocals := 1, code := prog_30_method_2_code, exceptionTable := #[], attributes := #[] }
def k11m1 : Method := { name := "isReadingLanguage", desc := "(Ljava/lang/String;)Z", sig := { parameters := [(.object "java/lang/String")], returnType := some .boolean }, accessFlags := 8, code := some k11c1 }
/-- com/example/mokuroku/mokuroku/formats/JpcoarReader -/
def k11 : Class := { plain "com/example/mokuroku/mokuroku/formats/JpcoarReader" (some 0) with
  accessFlags := 48
  interfaces := #[10]
  cf := some (fileOf pool11 31 #[.nestMembers #[370, 432, 317, 17]] #[{ accessFlags := 0, nameIndex := 5, descriptorIndex := 6, attributes := #[] }, { accessFlags := 8, nameIndex := 765, descriptorIndex := 14, attributes := #[] }] 48 2 #[759] #[{ accessFlags := 26, nameIndex := 732, descriptorIndex := 733, attributes := #[] }])
  fields := #[{ name := "ATTRIBUTES_NOT_CARRIED", type := (.object "java/util/Map"), accessFlags := 26, slot := 0, constantValue := 0 }]
  methods := #[k11m0, k11m1]
  instanceTypes := #[]
  staticTypes := #[(.object "java/util/Map")]
  resolved := Array.replicate 869 none
  statics := none }

def pool12 : Array CpInfo := pool [(6, .class_ 8), (1, u "java/lang/Object"), (0, u "<init>"), (0, u "()V"), (1, .class_ 14), (1, u "java/lang/StringUTF16"), (31, u "$assertionsDisabled"), (0, u "Z"), (13, u "HI_BYTE_SHIFT"), (0, u "I"), (2, u "LO_BYTE_SHIFT"), (49, .methodref 12 116), (0, .nameAndType 117 118), (0, u "compress"), (0, u "([CI[BII)I"), (3, u "([CII)[B"), (138, u "coderFromArrayLen"), (0, u "([BI)B"), (106, .class_ 371), (1, u "java/lang/StringUTF16$LinesSpliterator"), (58, u "MAX_LENGTH"), (196, .class_ 628), (0, u "java/lang/StringUTF16$CodePointsSpliterator"), (0, .class_ 630), (0, u "java/lang/StringUTF16$CharsSpliterator")] 4

def k12m0 : Method := { name := "<init>", desc := "()V", sig := { parameters := [], returnType := none }, accessFlags := 0, code := none }
def k12c1 : Code := { maxStack := 2, maxLocals := 2, code := jdk_52_method_15_code, exceptionTable := #[], attributes := #[] }
def k12m1 : Method := { name := "coderFromArrayLen", desc := "([BI)B", sig := { parameters := [(.array .byte), .int], returnType := some .byte }, accessFlags := 8, code := some k12c1 }
def k12c2 : Code := { maxStack := 5, maxLocals := 6, code := jdk_52_method_16_code, exceptionTable := #[], attributes := #[] }
def k12m2 : Method := { name := "compress", desc := "([CII)[B", sig := { parameters := [(.array .char), .int, .int], returnType := some (.array .byte) }, accessFlags := 9, code := some k12c2 }
def k12c3 : Code := { maxStack := 3, maxLocals := 7, code := jdk_52_method_21_code, exceptionTable := #[], attributes := #[] }
def k12m3 : Method := { name := "compress", desc := "([CI[BII)I", sig := { parameters := [(.array .char), .int, (.array .byte), .int, .int], returnType := some .int }, accessFlags := 9, code := some k12c3 }
/-- java/lang/StringUTF16 -/
def k12 : Class := { plain "java/lang/StringUTF16" (some 0) with
  accessFlags := 48
  interfaces := #[]
  cf := some (fileOf pool12 12 #[.nestMembers #[627, 629, 369]] #[{ accessFlags := 0, nameIndex := 9, descriptorIndex := 10, attributes := #[] }, { accessFlags := 8, nameIndex := 261, descriptorIndex := 262, attributes := #[] }, { accessFlags := 9, nameIndex := 117, descriptorIndex := 122, attributes := #[] }, { accessFlags := 9, nameIndex := 117, descriptorIndex := 118, attributes := #[] }] 48 6 #[] #[{ accessFlags := 26, nameIndex := 61, descriptorIndex := 62, attributes := #[] }, { accessFlags := 26, nameIndex := 65, descriptorIndex := 62, attributes := #[] }, { accessFlags := 24, nameIndex := 430, descriptorIndex := 62, attributes := #[] }, { accessFlags := 4120, nameIndex := 46, descriptorIndex := 47, attributes := #[] }])
  fields := #[{ name := "HI_BYTE_SHIFT", type := .int, accessFlags := 26, slot := 0, constantValue := 0 }, { name := "LO_BYTE_SHIFT", type := .int, accessFlags := 26, slot := 1, constantValue := 0 }, { name := "MAX_LENGTH", type := .int, accessFlags := 24, slot := 2, constantValue := 0 }, { name := "$assertionsDisabled", type := .boolean, accessFlags := 4120, slot := 3, constantValue := 0 }]
  methods := #[k12m0, k12m1, k12m2, k12m3]
  instanceTypes := #[]
  staticTypes := #[.int, .int, .int, .boolean]
  resolved := Array.replicate 635 none
  statics := none }

def pool13 : Array CpInfo := pool [(2, .class_ 4), (1, u "java/lang/Object"), (0, u "<init>"), (0, u "()V"), (1, .class_ 10), (1, u "java/lang/CharacterData")] 75

def k13m0 : Method := { name := "<init>", desc := "()V", sig := { parameters := [], returnType := none }, accessFlags := 0, code := none }
/-- java/lang/CharacterData -/
def k13 : Class := { plain "java/lang/CharacterData" (some 0) with
  accessFlags := 1056
  interfaces := #[]
  cf := some (fileOf pool13 8 #[] #[{ accessFlags := 0, nameIndex := 5, descriptorIndex := 6, attributes := #[] }] 1056 2 #[] #[])
  fields := #[]
  methods := #[k13m0]
  instanceTypes := #[]
  staticTypes := #[]
  resolved := Array.replicate 86 none
  statics := none }

def pool14 : Array CpInfo := pool [(2, .class_ 4), (1, u "java/lang/CharacterDataLatin1"), (0, u "A"), (0, u "[I"), (2, u "B"), (0, u "[C"), (16, u "DIGITS"), (0, u "[B"), (8, u "sharpsMap"), (1, .class_ 41), (1, u "java/lang/CharacterData"), (0, u "<init>"), (0, u "()V"), (3, u "instance"), (0, u "Ljava/lang/CharacterDataLatin1;"), (66, u "equalsIgnoreCase"), (0, u "(BB)Z")] 24

def k14c0 : Code := { maxStack := 3, maxLocals := 3, code := jdk_116_method_22_code, exceptionTable := #[], attributes := #[] }
def k14m0 : Method := { name := "equalsIgnoreCase", desc := "(BB)Z", sig := { parameters := [.byte, .byte], returnType := some .boolean }, accessFlags := 8, code := some k14c0 }
def k14m1 : Method := { name := "<init>", desc := "()V", sig := { parameters := [], returnType := none }, accessFlags := 2, code := none }
/-- java/lang/CharacterDataLatin1 -/
def k14 : Class := { plain "java/lang/CharacterDataLatin1" (some 13) with
  accessFlags := 32
  interfaces := #[]
  cf := some (fileOf pool14 2 #[] #[{ accessFlags := 8, nameIndex := 115, descriptorIndex := 116, attributes := #[] }, { accessFlags := 2, nameIndex := 42, descriptorIndex := 43, attributes := #[] }] 32 39 #[] #[{ accessFlags := 26, nameIndex := 27, descriptorIndex := 28, attributes := #[] }, { accessFlags := 8, nameIndex := 37, descriptorIndex := 10, attributes := #[] }, { accessFlags := 24, nameIndex := 47, descriptorIndex := 48, attributes := #[] }, { accessFlags := 24, nameIndex := 5, descriptorIndex := 6, attributes := #[] }, { accessFlags := 24, nameIndex := 9, descriptorIndex := 10, attributes := #[] }])
  fields := #[{ name := "DIGITS", type := (.array .byte), accessFlags := 26, slot := 0, constantValue := 0 }, { name := "sharpsMap", type := (.array .char), accessFlags := 8, slot := 1, constantValue := 0 }, { name := "instance", type := (.object "java/lang/CharacterDataLatin1"), accessFlags := 24, slot := 2, constantValue := 0 }, { name := "A", type := (.array .int), accessFlags := 24, slot := 3, constantValue := 0 }, { name := "B", type := (.array .char), accessFlags := 24, slot := 4, constantValue := 0 }]
  methods := #[k14m0, k14m1]
  instanceTypes := #[]
  staticTypes := #[(.array .byte), (.array .char), (.object "java/lang/CharacterDataLatin1"), (.array .int), (.array .char)]
  resolved := Array.replicate 141 none
  statics := none }

def pool15 : Array CpInfo := pool [(9, u "<init>"), (6, .class_ 18), (1, u "java/lang/Object"), (0, u "()V"), (1, .class_ 23), (1, u "jdk/internal/util/ArraysSupport"), (0, u "LOG2_ARRAY_LONG_INDEX_SCALE"), (0, u "I"), (2, u "U"), (0, u "Ljdk/internal/misc/Unsafe;"), (8, u "BIG_ENDIAN"), (0, u "Z"), (8, u "LOG2_BYTE_BIT_SIZE"), (4, u "LOG2_ARRAY_INT_INDEX_SCALE"), (54, u "JLA"), (0, u "Ljdk/internal/access/JavaLangAccess;"), (11, u "LOG2_ARRAY_BOOLEAN_INDEX_SCALE"), (9, u "LOG2_ARRAY_BYTE_INDEX_SCALE"), (5, u "LOG2_ARRAY_CHAR_INDEX_SCALE"), (5, u "LOG2_ARRAY_SHORT_INDEX_SCALE"), (18, u "LOG2_ARRAY_FLOAT_INDEX_SCALE"), (24, u "LOG2_ARRAY_DOUBLE_INDEX_SCALE"), (89, u "T_BOOLEAN"), (2, u "T_CHAR"), (1, u "T_FLOAT"), (1, u "T_DOUBLE"), (1, u "T_BYTE"), (1, u "T_SHORT"), (1, u "T_INT"), (1, u "T_LONG"), (1, u "SOFT_MAX_ARRAY_LENGTH")] 83

def k15m0 : Method := { name := "<init>", desc := "()V", sig := { parameters := [], returnType := none }, accessFlags := 2, code := none }
/-- jdk/internal/util/ArraysSupport -/
def k15 : Class := { plain "jdk/internal/util/ArraysSupport" (some 0) with
  accessFlags := 33
  interfaces := #[]
  cf := some (fileOf pool15 21 #[] #[{ accessFlags := 2, nameIndex := 9, descriptorIndex := 19, attributes := #[] }] 33 16 #[] #[{ accessFlags := 24, nameIndex := 28, descriptorIndex := 29, attributes := #[] }, { accessFlags := 26, nameIndex := 38, descriptorIndex := 39, attributes := #[] }, { accessFlags := 25, nameIndex := 121, descriptorIndex := 25, attributes := #[] }, { accessFlags := 25, nameIndex := 131, descriptorIndex := 25, attributes := #[] }, { accessFlags := 25, nameIndex := 137, descriptorIndex := 25, attributes := #[] }, { accessFlags := 25, nameIndex := 143, descriptorIndex := 25, attributes := #[] }, { accessFlags := 25, nameIndex := 53, descriptorIndex := 25, attributes := #[] }, { accessFlags := 25, nameIndex := 24, descriptorIndex := 25, attributes := #[] }, { accessFlags := 25, nameIndex := 162, descriptorIndex := 25, attributes := #[] }, { accessFlags := 25, nameIndex := 187, descriptorIndex := 25, attributes := #[] }, { accessFlags := 26, nameIndex := 48, descriptorIndex := 25, attributes := #[] }, { accessFlags := 25, nameIndex := 277, descriptorIndex := 25, attributes := #[] }, { accessFlags := 25, nameIndex := 280, descriptorIndex := 25, attributes := #[] }, { accessFlags := 25, nameIndex := 282, descriptorIndex := 25, attributes := #[] }, { accessFlags := 25, nameIndex := 284, descriptorIndex := 25, attributes := #[] }, { accessFlags := 25, nameIndex := 286, descriptorIndex := 25, attributes := #[] }, { accessFlags := 25, nameIndex := 288, descriptorIndex := 25, attributes := #[] }, { accessFlags := 25, nameIndex := 290, descriptorIndex := 25, attributes := #[] }, { accessFlags := 25, nameIndex := 292, descriptorIndex := 25, attributes := #[] }, { accessFlags := 26, nameIndex := 108, descriptorIndex := 109, attributes := #[] }, { accessFlags := 25, nameIndex := 294, descriptorIndex := 25, attributes := #[] }])
  fields := #[{ name := "U", type := (.object "jdk/internal/misc/Unsafe"), accessFlags := 24, slot := 0, constantValue := 0 }, { name := "BIG_ENDIAN", type := .boolean, accessFlags := 26, slot := 1, constantValue := 0 }, { name := "LOG2_ARRAY_BOOLEAN_INDEX_SCALE", type := .int, accessFlags := 25, slot := 2, constantValue := 0 }, { name := "LOG2_ARRAY_BYTE_INDEX_SCALE", type := .int, accessFlags := 25, slot := 3, constantValue := 0 }, { name := "LOG2_ARRAY_CHAR_INDEX_SCALE", type := .int, accessFlags := 25, slot := 4, constantValue := 0 }, { name := "LOG2_ARRAY_SHORT_INDEX_SCALE", type := .int, accessFlags := 25, slot := 5, constantValue := 0 }, { name := "LOG2_ARRAY_INT_INDEX_SCALE", type := .int, accessFlags := 25, slot := 6, constantValue := 0 }, { name := "LOG2_ARRAY_LONG_INDEX_SCALE", type := .int, accessFlags := 25, slot := 7, constantValue := 0 }, { name := "LOG2_ARRAY_FLOAT_INDEX_SCALE", type := .int, accessFlags := 25, slot := 8, constantValue := 0 }, { name := "LOG2_ARRAY_DOUBLE_INDEX_SCALE", type := .int, accessFlags := 25, slot := 9, constantValue := 0 }, { name := "LOG2_BYTE_BIT_SIZE", type := .int, accessFlags := 26, slot := 10, constantValue := 0 }, { name := "T_BOOLEAN", type := .int, accessFlags := 25, slot := 11, constantValue := 0 }, { name := "T_CHAR", type := .int, accessFlags := 25, slot := 12, constantValue := 0 }, { name := "T_FLOAT", type := .int, accessFlags := 25, slot := 13, constantValue := 0 }, { name := "T_DOUBLE", type := .int, accessFlags := 25, slot := 14, constantValue := 0 }, { name := "T_BYTE", type := .int, accessFlags := 25, slot := 15, constantValue := 0 }, { name := "T_SHORT", type := .int, accessFlags := 25, slot := 16, constantValue := 0 }, { name := "T_INT", type := .int, accessFlags := 25, slot := 17, constantValue := 0 }, { name := "T_LONG", type := .int, accessFlags := 25, slot := 18, constantValue := 0 }, { name := "JLA", type := (.object "jdk/internal/access/JavaLangAccess"), accessFlags := 26, slot := 19, constantValue := 0 }, { name := "SOFT_MAX_ARRAY_LENGTH", type := .int, accessFlags := 25, slot := 20, constantValue := 0 }]
  methods := #[k15m0]
  instanceTypes := #[]
  staticTypes := #[(.object "jdk/internal/misc/Unsafe"), .boolean, .int, .int, .int, .int, .int, .int, .int, .int, .int, .int, .int, .int, .int, .int, .int, .int, .int, (.object "jdk/internal/access/JavaLangAccess"), .int]
  resolved := Array.replicate 378 none
  statics := none }

def pool16 : Array CpInfo := pool [(1, u "java/lang/Cloneable"), (0, .class_ 1), (0, u "java/lang/Object"), (0, .class_ 3)] 3

/-- java/lang/Cloneable -/
def k16 : Class := { plain "java/lang/Cloneable" (some 0) with
  accessFlags := 1537
  interfaces := #[]
  cf := some (fileOf pool16 2 #[] #[] 1537 4 #[] #[])
  fields := #[]
  methods := #[]
  instanceTypes := #[]
  staticTypes := #[]
  resolved := Array.replicate 8 none
  statics := none }

/-- the primitive byte -/
def k17 : Class := { plain "byte" none with kind := .primitive 'B', accessFlags := 0x411 }
/-- [B -/
def k18 : Class := { plain "[B" (some 0) with kind := .array 17 .byte, interfaces := #[16, 2], accessFlags := 1041 }

/-- the primitive char -/
def k19 : Class := { plain "char" none with kind := .primitive 'C', accessFlags := 0x411 }
/-- [C -/
def k20 : Class := { plain "[C" (some 0) with kind := .array 19 .char, interfaces := #[16, 2], accessFlags := 1041 }

/-- the primitive int -/
def k21 : Class := { plain "int" none with kind := .primitive 'I', accessFlags := 0x411 }
/-- [I -/
def k22 : Class := { plain "[I" (some 0) with kind := .array 21 .int, interfaces := #[16, 2], accessFlags := 1041 }

def heap : Heap := #[{ cls := 7, slots := #[.long 0, .int 1, .null, .int 0, .null, .int 0, .int 0], vm := .statics 7 },
  { cls := 9, slots := #[.null, .null, .null], vm := .statics 9 }]
def classes : Array Class := #[k0, k1, k2, k3, k4, k5, k6, k7, k8, k9, k10, k11, k12, k13, k14, k15, k16, k17, k18, k19, k20, k21, k22]
def interned : List (Array UInt16 × Addr) := []
def slotsUsed : Nat := 10
def theMethod : MethodId := ⟨1, 1⟩
def args0 : Array Value := #[.int 5, .int 5, .int 5, .int 5, .int 5]
def aboutOver (below : List Frame) : State where
  vm := { classes := classes, interned := interned.toArray }
  heap := heap
  slotsUsed := slotsUsed
  threads := #[{ frames := .invoking theMethod args0 :: below }]
def below0 : List Frame := [.native { method := ⟨0, 0⟩, args := #[] }]
def about1 : State := aboutOver below0
def p0 : Program := .bare "" "" ""
def e0 : Env := launch0.env 0 0 0
theorem w_frames : about1.frames = Frame.invoking theMethod args0 :: below0 := rfl
set_option maxRecDepth 65536 in
theorem w_args : argsFit about1.vm theMethod args0 = true := by decide +kernel
set_option maxRecDepth 65536 in
theorem w_heap : heapFits about1 = true := by decide +kernel
set_option maxRecDepth 65536 in
theorem w_runnable : about1.curStatus? = some .runnable := by decide +kernel
set_option maxRecDepth 65536 in
theorem w_alone : about1.alone = true := by decide +kernel
set_option maxRecDepth 65536 in
theorem w_named : about1.methodNamed? x = some theMethod := by decide +kernel
set_option maxRecDepth 65536 in
theorem w_hears : about1.hears theMethod below0 = true := by decide +kernel
set_option maxRecDepth 65536 in
theorem w_ripe : about1.ripe theMethod args0 below0 = true := by decide +kernel
theorem w_running : about1.status = .running := rfl
set_option maxRecDepth 65536 in
theorem w_room : about1.hasRoom e0.platform room_1 = true :=
  launch0.hasRoom_least _ room_1 (by decide +kernel) (by decide +kernel) (by decide +kernel) (by decide +kernel) (by decide +kernel) (by decide +kernel)
theorem allAtoms_all (ts : List Jvm.Cond) (a : Array Jvm.Value) (st : Jvm.State) : (allAtoms ts).before a st = ts.all (fun c => c.before a st) := by
  induction ts with
  | nil => rfl
  | cons c t ih =>
    show (Jvm.Cond.and c (allAtoms t)).before a st = _
    rw [Jvm.Cond.before_and, ih, List.all_cons]
def words1 : List Jvm.Cond := Jvm.Cond.code x code maxLocals ret :: tables_1
/-- a 'code' word, met by the world's own term for the bytes: nothing is compared byte by byte -/
theorem code_word {y : MethodName} {bytes : ByteArray} {mx : Nat} {rt : Option FieldType} {a : Array Value} {s : State} {m : MethodId} {meth : Method} {c : Code} (h1 : s.methodNamed? y = some m) (h2 : s.vm.method? m = some meth) (h3 : meth.code = some c) (h4 : c.code = bytes)
    (h5 : (c.maxLocals == mx && c.exceptionTable.isEmpty && decide (c.maxStack ≤ mostOperands) && decide (meth.sig.returnType = rt) && !meth.locks && decide (parseMethodDescriptor y.desc = some meth.sig)) = true) : (Jvm.Cond.code y bytes mx rt).before a s = true := by
  simp only [Bool.and_eq_true, beq_iff_eq, Bool.not_eq_true', decide_eq_true_eq] at h5
  obtain ⟨⟨⟨⟨⟨g1, g2⟩, g3⟩, g4⟩, g5⟩, g6⟩ := h5
  simp [Cond.before, Cond.holds, Cond.value, h1, h2, h3, h4, g1, g2, g3, g4, g5, g6]
def isCode : Jvm.Cond → Bool
  | .code _ _ _ _ => true
  | _ => false
theorem all_split {L : List Jvm.Cond} {P : Jvm.Cond → Bool} (h1 : L.all (fun c => isCode c || P c) = true) (h2 : ∀ c ∈ L.filter isCode, P c = true) : L.all P = true := by
  refine List.all_eq_true.mpr fun c hc => ?_
  have h := List.all_eq_true.mp h1 c hc
  rcases Bool.eq_false_or_eq_true (isCode c) with hi | hi
  · exact h2 c (List.mem_filter.mpr ⟨hc, hi⟩)
  · simpa [hi] using h
set_option maxRecDepth 65536 in
theorem w_c0 : (Jvm.Cond.code x code maxLocals ret).before args0 about1 = true := code_word (m := ⟨1, 1⟩) (meth := k1m1) (c := k1c1) (by decide +kernel) rfl rfl rfl (by decide +kernel)
set_option maxRecDepth 65536 in
theorem w_c1 : (Jvm.Cond.code ({ cls := "com/example/mokuroku/mokuroku/formats/JpcoarReaderIsReadingLanguagePinLaw", name := "pick", desc := "(IIIIII)C" } : Jvm.MethodName) method_4_code (8 : Nat) (Option.some Jvm.ClassFile.FieldType.char)).before args0 about1 = true := code_word (m := ⟨1, 3⟩) (meth := k1m3) (c := k1c3) (by decide +kernel) rfl rfl rfl (by decide +kernel)
set_option maxRecDepth 65536 in
theorem w_c2 : (Jvm.Cond.code ({ cls := "java/lang/String", name := "charAt", desc := "(I)C" } : Jvm.MethodName) jdk_42_method_56_code (2 : Nat) (Option.some Jvm.ClassFile.FieldType.char)).before args0 about1 = true := code_word (m := ⟨7, 3⟩) (meth := k7m3) (c := k7c3) (by decide +kernel) rfl rfl rfl (by decide +kernel)
set_option maxRecDepth 65536 in
theorem w_c3 : (Jvm.Cond.code ({ cls := "java/lang/String", name := "isLatin1", desc := "()Z" } : Jvm.MethodName) jdk_42_method_154_code (1 : Nat) (Option.some Jvm.ClassFile.FieldType.boolean)).before args0 about1 = true := code_word (m := ⟨7, 8⟩) (meth := k7m8) (c := k7c8) (by decide +kernel) rfl rfl rfl (by decide +kernel)
set_option maxRecDepth 65536 in
theorem w_c4 : (Jvm.Cond.code ({ cls := "java/lang/StringLatin1", name := "charAt", desc := "([BI)C" } : Jvm.MethodName) jdk_43_method_2_code (2 : Nat) (Option.some Jvm.ClassFile.FieldType.char)).before args0 about1 = true := code_word (m := ⟨8, 1⟩) (meth := k8m1) (c := k8c1) (by decide +kernel) rfl rfl rfl (by decide +kernel)
set_option maxRecDepth 65536 in
theorem w_c5 : (Jvm.Cond.code ({ cls := "java/lang/String", name := "checkIndex", desc := "(II)V" } : Jvm.MethodName) jdk_42_method_155_code (2 : Nat) (Option.none : Option Jvm.ClassFile.FieldType)).before args0 about1 = true := code_word (m := ⟨7, 9⟩) (meth := k7m9) (c := k7c9) (by decide +kernel) rfl rfl rfl (by decide +kernel)
set_option maxRecDepth 65536 in
theorem w_c6 : (Jvm.Cond.code ({ cls := "jdk/internal/util/Preconditions", name := "checkIndex", desc := "(IILjava/util/function/BiFunction;)I" } : Jvm.MethodName) jdk_41_method_11_code (3 : Nat) (Option.some Jvm.ClassFile.FieldType.int)).before args0 about1 = true := code_word (m := ⟨9, 1⟩) (meth := k9m1) (c := k9c1) (by decide +kernel) rfl rfl rfl (by decide +kernel)
set_option maxRecDepth 65536 in
theorem w_c7 : (Jvm.Cond.code ({ cls := "com/example/mokuroku/mokuroku/formats/JpcoarReader", name := "isReadingLanguage", desc := "(Ljava/lang/String;)Z" } : Jvm.MethodName) prog_30_method_2_code (1 : Nat) (Option.some Jvm.ClassFile.FieldType.boolean)).before args0 about1 = true := code_word (m := ⟨11, 1⟩) (meth := k11m1) (c := k11c1) (by decide +kernel) rfl rfl rfl (by decide +kernel)
set_option maxRecDepth 65536 in
theorem w_c8 : (Jvm.Cond.code ({ cls := "java/lang/String", name := "equalsIgnoreCase", desc := "(Ljava/lang/String;)Z" } : Jvm.MethodName) jdk_42_method_70_code (2 : Nat) (Option.some Jvm.ClassFile.FieldType.boolean)).before args0 about1 = true := code_word (m := ⟨7, 4⟩) (meth := k7m4) (c := k7c4) (by decide +kernel) rfl rfl rfl (by decide +kernel)
set_option maxRecDepth 65536 in
theorem w_c9 : (Jvm.Cond.code ({ cls := "java/lang/String", name := "<init>", desc := "([C)V" } : Jvm.MethodName) jdk_42_method_3_code (2 : Nat) (Option.none : Option Jvm.ClassFile.FieldType)).before args0 about1 = true := code_word (m := ⟨7, 1⟩) (meth := k7m1) (c := k7c1) (by decide +kernel) rfl rfl rfl (by decide +kernel)
set_option maxRecDepth 65536 in
theorem w_c10 : (Jvm.Cond.code ({ cls := "java/lang/String", name := "<init>", desc := "([CIILjava/lang/Void;)V" } : Jvm.MethodName) jdk_42_method_149_code (6 : Nat) (Option.none : Option Jvm.ClassFile.FieldType)).before args0 about1 = true := code_word (m := ⟨7, 6⟩) (meth := k7m6) (c := k7c6) (by decide +kernel) rfl rfl rfl (by decide +kernel)
set_option maxRecDepth 65536 in
theorem w_c11 : (Jvm.Cond.code ({ cls := "java/lang/Object", name := "<init>", desc := "()V" } : Jvm.MethodName) object_method_1_code (1 : Nat) (Option.none : Option Jvm.ClassFile.FieldType)).before args0 about1 = true := code_word (m := ⟨0, 0⟩) (meth := k0m0) (c := k0c0) (by decide +kernel) rfl rfl rfl (by decide +kernel)
set_option maxRecDepth 65536 in
theorem w_c12 : (Jvm.Cond.code ({ cls := "java/lang/StringUTF16", name := "compress", desc := "([CII)[B" } : Jvm.MethodName) jdk_52_method_16_code (6 : Nat) (Option.some (Jvm.ClassFile.FieldType.array Jvm.ClassFile.FieldType.byte))).before args0 about1 = true := code_word (m := ⟨12, 2⟩) (meth := k12m2) (c := k12c2) (by decide +kernel) rfl rfl rfl (by decide +kernel)
set_option maxRecDepth 65536 in
theorem w_c13 : (Jvm.Cond.code ({ cls := "java/lang/StringUTF16", name := "compress", desc := "([CI[BII)I" } : Jvm.MethodName) jdk_52_method_21_code (7 : Nat) (Option.some Jvm.ClassFile.FieldType.int)).before args0 about1 = true := code_word (m := ⟨12, 3⟩) (meth := k12m3) (c := k12c3) (by decide +kernel) rfl rfl rfl (by decide +kernel)
set_option maxRecDepth 65536 in
theorem w_c14 : (Jvm.Cond.code ({ cls := "java/lang/StringUTF16", name := "coderFromArrayLen", desc := "([BI)B" } : Jvm.MethodName) jdk_52_method_15_code (2 : Nat) (Option.some Jvm.ClassFile.FieldType.byte)).before args0 about1 = true := code_word (m := ⟨12, 1⟩) (meth := k12m1) (c := k12c1) (by decide +kernel) rfl rfl rfl (by decide +kernel)
set_option maxRecDepth 65536 in
theorem w_c15 : (Jvm.Cond.code ({ cls := "java/lang/String", name := "length", desc := "()I" } : Jvm.MethodName) jdk_42_method_54_code (1 : Nat) (Option.some Jvm.ClassFile.FieldType.int)).before args0 about1 = true := code_word (m := ⟨7, 2⟩) (meth := k7m2) (c := k7c2) (by decide +kernel) rfl rfl rfl (by decide +kernel)
set_option maxRecDepth 65536 in
theorem w_c16 : (Jvm.Cond.code ({ cls := "java/lang/String", name := "coder", desc := "()B" } : Jvm.MethodName) jdk_42_method_152_code (1 : Nat) (Option.some Jvm.ClassFile.FieldType.byte)).before args0 about1 = true := code_word (m := ⟨7, 7⟩) (meth := k7m7) (c := k7c7) (by decide +kernel) rfl rfl rfl (by decide +kernel)
set_option maxRecDepth 65536 in
theorem w_c17 : (Jvm.Cond.code ({ cls := "com/example/mokuroku/mokuroku/formats/JpcoarReaderIsReadingLanguagePinLaw", name := "low", desc := "(C)C" } : Jvm.MethodName) method_3_code (1 : Nat) (Option.some Jvm.ClassFile.FieldType.char)).before args0 about1 = true := code_word (m := ⟨1, 2⟩) (meth := k1m2) (c := k1c2) (by decide +kernel) rfl rfl rfl (by decide +kernel)
set_option maxRecDepth 65536 in
theorem w_c18 : (Jvm.Cond.code ({ cls := "java/lang/String", name := "regionMatches", desc := "(ZILjava/lang/String;II)Z" } : Jvm.MethodName) jdk_42_method_74_code (9 : Nat) (Option.some Jvm.ClassFile.FieldType.boolean)).before args0 about1 = true := code_word (m := ⟨7, 5⟩) (meth := k7m5) (c := k7c5) (by decide +kernel) rfl rfl rfl (by decide +kernel)
set_option maxRecDepth 65536 in
theorem w_c19 : (Jvm.Cond.code ({ cls := "java/lang/StringLatin1", name := "regionMatchesCI", desc := "([BI[BII)Z" } : Jvm.MethodName) jdk_43_method_30_code (8 : Nat) (Option.some Jvm.ClassFile.FieldType.boolean)).before args0 about1 = true := code_word (m := ⟨8, 2⟩) (meth := k8m2) (c := k8c2) (by decide +kernel) rfl rfl rfl (by decide +kernel)
set_option maxRecDepth 65536 in
theorem w_c20 : (Jvm.Cond.code ({ cls := "java/lang/CharacterDataLatin1", name := "equalsIgnoreCase", desc := "(BB)Z" } : Jvm.MethodName) jdk_116_method_22_code (3 : Nat) (Option.some Jvm.ClassFile.FieldType.boolean)).before args0 about1 = true := code_word (m := ⟨14, 0⟩) (meth := k14m0) (c := k14c0) (by decide +kernel) rfl rfl rfl (by decide +kernel)
def codes1 : List Jvm.Cond := [Jvm.Cond.code x code maxLocals ret, Jvm.Cond.code ({ cls := "com/example/mokuroku/mokuroku/formats/JpcoarReaderIsReadingLanguagePinLaw", name := "pick", desc := "(IIIIII)C" } : Jvm.MethodName) method_4_code (8 : Nat) (Option.some Jvm.ClassFile.FieldType.char), Jvm.Cond.code ({ cls := "java/lang/String", name := "charAt", desc := "(I)C" } : Jvm.MethodName) jdk_42_method_56_code (2 : Nat) (Option.some Jvm.ClassFile.FieldType.char), Jvm.Cond.code ({ cls := "java/lang/String", name := "isLatin1", desc := "()Z" } : Jvm.MethodName) jdk_42_method_154_code (1 : Nat) (Option.some Jvm.ClassFile.FieldType.boolean), Jvm.Cond.code ({ cls := "java/lang/StringLatin1", name := "charAt", desc := "([BI)C" } : Jvm.MethodName) jdk_43_method_2_code (2 : Nat) (Option.some Jvm.ClassFile.FieldType.char), Jvm.Cond.code ({ cls := "java/lang/String", name := "checkIndex", desc := "(II)V" } : Jvm.MethodName) jdk_42_method_155_code (2 : Nat) (Option.none : Option Jvm.ClassFile.FieldType), Jvm.Cond.code ({ cls := "jdk/internal/util/Preconditions", name := "checkIndex", desc := "(IILjava/util/function/BiFunction;)I" } : Jvm.MethodName) jdk_41_method_11_code (3 : Nat) (Option.some Jvm.ClassFile.FieldType.int), Jvm.Cond.code ({ cls := "com/example/mokuroku/mokuroku/formats/JpcoarReader", name := "isReadingLanguage", desc := "(Ljava/lang/String;)Z" } : Jvm.MethodName) prog_30_method_2_code (1 : Nat) (Option.some Jvm.ClassFile.FieldType.boolean), Jvm.Cond.code ({ cls := "java/lang/String", name := "equalsIgnoreCase", desc := "(Ljava/lang/String;)Z" } : Jvm.MethodName) jdk_42_method_70_code (2 : Nat) (Option.some Jvm.ClassFile.FieldType.boolean), Jvm.Cond.code ({ cls := "java/lang/String", name := "<init>", desc := "([C)V" } : Jvm.MethodName) jdk_42_method_3_code (2 : Nat) (Option.none : Option Jvm.ClassFile.FieldType), Jvm.Cond.code ({ cls := "java/lang/String", name := "<init>", desc := "([CIILjava/lang/Void;)V" } : Jvm.MethodName) jdk_42_method_149_code (6 : Nat) (Option.none : Option Jvm.ClassFile.FieldType), Jvm.Cond.code ({ cls := "java/lang/Object", name := "<init>", desc := "()V" } : Jvm.MethodName) object_method_1_code (1 : Nat) (Option.none : Option Jvm.ClassFile.FieldType), Jvm.Cond.code ({ cls := "java/lang/StringUTF16", name := "compress", desc := "([CII)[B" } : Jvm.MethodName) jdk_52_method_16_code (6 : Nat) (Option.some (Jvm.ClassFile.FieldType.array Jvm.ClassFile.FieldType.byte)), Jvm.Cond.code ({ cls := "java/lang/StringUTF16", name := "compress", desc := "([CI[BII)I" } : Jvm.MethodName) jdk_52_method_21_code (7 : Nat) (Option.some Jvm.ClassFile.FieldType.int), Jvm.Cond.code ({ cls := "java/lang/StringUTF16", name := "coderFromArrayLen", desc := "([BI)B" } : Jvm.MethodName) jdk_52_method_15_code (2 : Nat) (Option.some Jvm.ClassFile.FieldType.byte), Jvm.Cond.code ({ cls := "java/lang/String", name := "length", desc := "()I" } : Jvm.MethodName) jdk_42_method_54_code (1 : Nat) (Option.some Jvm.ClassFile.FieldType.int), Jvm.Cond.code ({ cls := "java/lang/String", name := "coder", desc := "()B" } : Jvm.MethodName) jdk_42_method_152_code (1 : Nat) (Option.some Jvm.ClassFile.FieldType.byte), Jvm.Cond.code ({ cls := "com/example/mokuroku/mokuroku/formats/JpcoarReaderIsReadingLanguagePinLaw", name := "low", desc := "(C)C" } : Jvm.MethodName) method_3_code (1 : Nat) (Option.some Jvm.ClassFile.FieldType.char), Jvm.Cond.code ({ cls := "java/lang/String", name := "regionMatches", desc := "(ZILjava/lang/String;II)Z" } : Jvm.MethodName) jdk_42_method_74_code (9 : Nat) (Option.some Jvm.ClassFile.FieldType.boolean), Jvm.Cond.code ({ cls := "java/lang/StringLatin1", name := "regionMatchesCI", desc := "([BI[BII)Z" } : Jvm.MethodName) jdk_43_method_30_code (8 : Nat) (Option.some Jvm.ClassFile.FieldType.boolean), Jvm.Cond.code ({ cls := "java/lang/CharacterDataLatin1", name := "equalsIgnoreCase", desc := "(BB)Z" } : Jvm.MethodName) jdk_116_method_22_code (3 : Nat) (Option.some Jvm.ClassFile.FieldType.boolean)]
set_option maxRecDepth 65536 in
theorem codes_eq : words1.filter isCode = codes1 := rfl
theorem w_codes : ∀ c ∈ words1.filter isCode, c.before args0 about1 = true := by
  rw [codes_eq]
  intro c hc
  simp only [codes1, List.mem_cons, List.not_mem_nil, or_false] at hc
  rcases hc with rfl | rfl | rfl | rfl | rfl | rfl | rfl | rfl | rfl | rfl | rfl | rfl | rfl | rfl | rfl | rfl | rfl | rfl | rfl | rfl | rfl
  · exact w_c0
  · exact w_c1
  · exact w_c2
  · exact w_c3
  · exact w_c4
  · exact w_c5
  · exact w_c6
  · exact w_c7
  · exact w_c8
  · exact w_c9
  · exact w_c10
  · exact w_c11
  · exact w_c12
  · exact w_c13
  · exact w_c14
  · exact w_c15
  · exact w_c16
  · exact w_c17
  · exact w_c18
  · exact w_c19
  · exact w_c20
set_option maxRecDepth 65536 in
theorem w_t1 : (words1.take 24).all (fun c => isCode c || c.before args0 about1) = true := by decide +kernel
set_option maxRecDepth 65536 in
theorem w_t2 : ((words1.drop 24).take 24).all (fun c => isCode c || c.before args0 about1) = true := by decide +kernel
set_option maxRecDepth 65536 in
theorem w_t3 : (((words1.drop 24).drop 24).take 24).all (fun c => isCode c || c.before args0 about1) = true := by decide +kernel
set_option maxRecDepth 65536 in
theorem w_t4 : ((((words1.drop 24).drop 24).drop 24).take 24).all (fun c => isCode c || c.before args0 about1) = true := by decide +kernel
set_option maxRecDepth 65536 in
theorem w_t5 : ((((words1.drop 24).drop 24).drop 24).drop 24).all (fun c => isCode c || c.before args0 about1) = true := by decide +kernel
theorem w_tables : (allAtoms (Jvm.Cond.code x code maxLocals ret :: tables_1)).before args0 about1 = true := by
  rw [allAtoms_all]
  show words1.all (fun c => c.before args0 about1) = true
  refine all_split ?_ w_codes
  rw [← List.take_append_drop 24 words1, List.all_append, w_t1, ← List.take_append_drop 24 (words1.drop 24), List.all_append, w_t2, ← List.take_append_drop 24 ((words1.drop 24).drop 24), List.all_append, w_t3, ← List.take_append_drop 24 (((words1.drop 24).drop 24).drop 24), List.all_append, w_t4, w_t5]
  rfl
set_option maxRecDepth 65536 in
theorem w_rest : rest_1_c.before args0 about1 = true := by decide +kernel
set_option maxRecDepth 65536 in
theorem w_case : (Jvm.Cond.and given_1 narrow_1).before args0 about1 = true := by decide +kernel
set_option maxRecDepth 65536 in
theorem w_consts : constsHeld consts_1 about1 := Jvm.Lit.constsHeldB_iff.mp (by decide +kernel)
theorem w_applies : (headSpec (Jvm.Cond.code x code maxLocals ret :: tables_1) room_1).applies x e0.platform about1 = true :=
  (Spec.applies_iff w_frames).mpr ⟨w_running, w_runnable, w_alone, w_named, w_hears, w_ripe, w_room, w_tables⟩
theorem atStart : AtStart classFile x code maxLocals ret World_1 tables_1 room_1 Calls_1 rest_1 Pre_1 launch0 p0 e0 about1 theMethod args0 below0 :=
  ⟨lists_1, trivial, launch0.admits_env _ _ _, launch0.least_env, fairChoices_fair.cas, fairChoices_fair.clock, w_frames, w_args, w_heap, w_applies, ⟨w_consts, trivial⟩, w_rest, w_case⟩
end start1
theorem witness_1 : WitnessClaimed_1 := ⟨start1.p0, start1.e0, start1.about1, start1.theMethod, start1.args0, start1.below0, start1.atStart⟩
end Jvm.Pilot.@@N@@
