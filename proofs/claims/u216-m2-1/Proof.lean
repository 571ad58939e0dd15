import JvmDerived
import JvmDerived.Pilot.@@N@@Statement
import JvmDerived.Pilot.@@N@@Code
set_option linter.unusedVariables false
set_option linter.unusedSimpArgs false
namespace Jvm.Pilot.@@N@@
namespace Own
open Jvm Jvm.ClassFile Sem Op Lib Jvm.Free Jvm.Stand Jvm.LawKit Jvm.RoadKit Bundle
/-- from the state s the invocation comes to its end, and K holds there -/
def Goes (tb : Tables) (e : Env) (below : List Frame) (K : State → Outcome → Prop) (s : State) : Prop := ∃ s₂ o, Steps tb e below s s₂ ∧ s₂.status = .running ∧ Ended s₂ below o ∧ K s₂ o
theorem Goes.go {tb : Tables} {e : Env} {below : List Frame} {K : State → Outcome → Prop} {s s' : State} (st : ∀ t, Steps tb e below s' t → Steps tb e below s t) (h : Goes tb e below K s') : Goes tb e below K s := by
  obtain ⟨s₂, o, h1, h2⟩ := h
  exact ⟨s₂, o, st _ h1, h2⟩
theorem Goes.tr {tb : Tables} {e : Env} {below : List Frame} {K : State → Outcome → Prop} {s s' : State} (st : Steps tb e below s s') (h : Goes tb e below K s') : Goes tb e below K s := Goes.go (fun _ k => st.trans k) h
/-- where the walk stands, with all that the laws ask beside it -/
def Wk (Z : State) (own : String) (bytes : ByteArray) (h : Heap) (p : Program) (l : Launch) (e : Env) (R : Room) (s : State) (m : MethodId) (args : Array Value) (below : List Frame) (meth : Method) (c : Code) (T : State) (locs : List Loc) (cells slots : Nat) : Prop :=
  Stand p l e R s m args below meth c T locs cells slots ∧ p.tables.exec = Jvm.exec ∧ c.code = bytes ∧ Z.Warmed39 s.vm ∧ s.vm.findClass own = some m.cls ∧ T.heap = h
/-- how an invocation ends that keeps its promise Q -/
abbrev KE (Q : Option Value → Heap → List Loc → Prop) (s : State) (kc ks : Nat) : State → Outcome → Prop := fun s₂ o => ∃ v L, o = .returned v ∧ Q v s₂.heap L ∧ FrameEnd s o s₂ L kc ks
/-- a contract: from the heap h0, with these arguments, the method keeps Q -/
def MF (l : Launch) (Z : State) (y : MethodName) (cb : ByteArray) (mx : Nat) (rt : Option FieldType) (ws : List Jvm.Cond) (R : Room) (as' : Array Value) (h0 : Heap) (Q : Option Value → Heap → List Loc → Prop) : Prop :=
  MetFree l y (head1 (Jvm.Cond.code y cb mx rt :: ws) R) (fun a U => a = as' ∧ Z.Warmed39 U.vm ∧ U.heap = h0) (fun _ _ _ _ _ => True) (fun _ U o U' => ∃ v L, o = .returned v ∧ Q v U'.heap L ∧ FrameEnd U o U' L R.cells R.slots)
theorem MF.of {l : Launch} {Z : State} {y : MethodName} {cb : ByteArray} {mx : Nat} {rt : Option FieldType} {ws : List Jvm.Cond} {R : Room} {as' : Array Value} {h0 : Heap} {Q : Option Value → Heap → List Loc → Prop} {own : String} {n : Nat} (ho : y.cls = own) (hn : mx = n) (pn : plainFor y = true)
    (k : ∀ (p : Program) (e : Env) (s : State) (m : MethodId) (below : List Frame) (meth : Method) (c : Code) (s₁ : State), (∀ {j : Nat}, j = n → j = c.maxLocals) → meth.locks = false → meth.sig.returnType = rt → meth.name = y.name → Wk Z own cb h0 p l e R s m as' below meth c s₁ [] 0 0 → Goes p.tables e below (KE Q s R.cells R.slots) (s₁.setTop (entryFrame m as' mx))) : MF l Z y cb mx rt ws R as' h0 Q := by
  subst ho hn
  refine MetFree.of_bodySF pn hisR ?_
  intro p e s m args below meth c s₁ Bd hml0 hP hK
  obtain ⟨rfl, hZ, hh⟩ := hP
  exact k p e s m below meth c s₁ (fun q => q.trans hml0.symm) Bd.notSynchronized Bd.returns (name_of_methodNamed Bd.named Bd.method).1 ⟨Stand.of_body Bd, Bd.exec, Bd.bytes, hZ, findClass_of_methodNamed Bd.named, by rw [← hh, Bd.state]; rfl⟩
abbrev Cst (Z : State) (h : Heap) (zc : Int32) : Prop := Sta Z h "java/lang/String" "COMPACT_STRINGS" "Z" (.int zc)
abbrev Fst (Z : State) (h : Heap) (fm : Value) : Prop := Sta Z h "jdk/internal/util/Preconditions" "SIOOBE_FORMATTER" "Ljava/util/function/BiFunction;" fm
abbrev Ads (Z : State) (h : Heap) : Prop := Sta Z h "java/lang/StringUTF16" "$assertionsDisabled" "Z" (.int 1)
abbrev Hib (Z : State) (h : Heap) : Prop := Sta Z h "java/lang/StringUTF16" "HI_BYTE_SHIFT" "I" (.int 0)
abbrev Lob (Z : State) (h : Heap) : Prop := Sta Z h "java/lang/StringUTF16" "LO_BYTE_SHIFT" "I" (.int 8)
abbrev Bf (Z : State) (h : Heap) (a : Addr) (n d : String) (v : Value) : Prop := Fld Z h a "java/lang/AbstractStringBuilder" n d v
theorem w0 {x W : Nat} (h : x = W) : 2 * 0 + x ≤ W := by omega
/-- the words of a callee -/
def SW (Z : State) (a0 : Array Value) (y : MethodName) (cb : ByteArray) (mL : Nat) (ret : Option FieldType) (n : Nat) : Prop := (Cond.static y).before a0 Z = true ∧ (Cond.initialized y.cls).before a0 Z = true ∧ (Cond.code y cb mL ret).before a0 Z = true ∧ (y.cls ≠ "java/lang/invoke/MethodHandle" ∧ y.cls ≠ "java/lang/invoke/VarHandle") ∧ ∃ r ps, parseMethodDescriptor y.desc = some ⟨ps, r⟩ ∧ ps.length = n
def IW (Z : State) (a0 : Array Value) (y : MethodName) (cb : ByteArray) (mL : Nat) (n : Nat) : Prop := y.name = "<init>" ∧ (Cond.instanceMethod y).before a0 Z = true ∧ (Cond.initialized y.cls).before a0 Z = true ∧ (Cond.code y cb mL none).before a0 Z = true ∧ (y.cls ≠ "java/lang/invoke/MethodHandle" ∧ y.cls ≠ "java/lang/invoke/VarHandle") ∧ ∃ r ps, parseMethodDescriptor y.desc = some ⟨ps, r⟩ ∧ ps.length = n
def VW (Z : State) (a0 : Array Value) (C : String) (y z : MethodName) (cb : ByteArray) (mL : Nat) (ret : Option FieldType) (n : Nat) : Prop := (Cond.declares y).before a0 Z = true ∧ (Cond.selects C y z).before a0 Z = true ∧ (Cond.instanceMethod z).before a0 Z = true ∧ (Cond.initialized z.cls).before a0 Z = true ∧ (Cond.code z cb mL ret).before a0 Z = true ∧ (y.cls ≠ "java/lang/invoke/MethodHandle" ∧ y.cls ≠ "java/lang/invoke/VarHandle") ∧ ∃ r ps, parseMethodDescriptor y.desc = some ⟨ps, r⟩ ∧ ps.length = n
theorem lenW {d : String} {L : List Value} {n : Nat} (h : ∃ r ps, parseMethodDescriptor d = some ⟨ps, r⟩ ∧ ps.length = n) (hn : L.length = n) : ∀ sig, parseMethodDescriptor d = some sig → L.length = sig.parameters.length := by
  obtain ⟨r, ps, h1, h2⟩ := h
  exact lenOf h1 (hn.trans h2.symm)
section Steps
variable {Z : State} {own : String} {bytes : ByteArray} {h : Heap} {p : Program} {l : Launch} {e : Env} {R : Room} {s : State} {m : MethodId} {args : Array Value} {below : List Frame} {meth : Method} {c : Code} {T : State} {locs : List Loc} {cells slots : Nat}
  {K : State → Outcome → Prop} {a0 : Array Value} {pc q : Nat} {Ls : Array Slot} {st : List Value}
theorem iconst {i : Int} {v : Int32} (P : Wk Z own bytes h p l e R s m args below meth c T locs cells slots) (hd : decode bytes pc = .ok (.iconst i, 1)) (hv : Int32.ofInt i = v) (hq : pc + 1 = q) (k : Goes p.tables e below K (T.setTop (mkF m q Ls (.int v :: st)))) : Goes p.tables e below K (T.setTop (mkF m pc Ls (st))) := by
  subst hq
  exact Goes.go (fun _ r => XS.iconst P.1.here P.2.1 rfl (hb P.2.2.1 hd) (hv ▸ r)) k
theorem bipush {i : Int} {v : Int32} (P : Wk Z own bytes h p l e R s m args below meth c T locs cells slots) (hd : decode bytes pc = .ok (.bipush i, 2)) (hv : (Int8.ofInt i).toInt32 = v) (hq : pc + 2 = q) (k : Goes p.tables e below K (T.setTop (mkF m q Ls (.int v :: st)))) : Goes p.tables e below K (T.setTop (mkF m pc Ls (st))) := by
  subst hq
  exact Goes.go (fun _ r => XS.bipush P.1.here P.2.1 rfl (hb P.2.2.1 hd) (hv ▸ r)) k
theorem sipush {i : Int} {v : Int32} (P : Wk Z own bytes h p l e R s m args below meth c T locs cells slots) (hd : decode bytes pc = .ok (.sipush i, 3)) (hv : (Int16.ofInt i).toInt32 = v) (hq : pc + 3 = q) (k : Goes p.tables e below K (T.setTop (mkF m q Ls (.int v :: st)))) : Goes p.tables e below K (T.setTop (mkF m pc Ls (st))) := by
  subst hq
  exact Goes.go (fun _ r => XS.sipush P.1.here P.2.1 rfl (hb P.2.2.1 hd) (hv ▸ r)) k
theorem aconst  (P : Wk Z own bytes h p l e R s m args below meth c T locs cells slots) (hd : decode bytes pc = .ok (.aconst_null, 1))  (hq : pc + 1 = q) (k : Goes p.tables e below K (T.setTop (mkF m q Ls (.null :: st)))) : Goes p.tables e below K (T.setTop (mkF m pc Ls (st))) := by
  subst hq
  exact Goes.go (fun _ r => XS.aconstNull P.1.here P.2.1 rfl (hb P.2.2.1 hd) r) k
theorem iload {k : Nat} {v : Int32} (P : Wk Z own bytes h p l e R s m args below meth c T locs cells slots) (hd : decode bytes pc = .ok (.iload k, 2)) (hl : Ls[k]? = some (.val (.int v))) (hq : pc + 2 = q) (k : Goes p.tables e below K (T.setTop (mkF m q Ls (.int v :: st)))) : Goes p.tables e below K (T.setTop (mkF m pc Ls (st))) := by
  subst hq
  exact Goes.go (fun _ r => XS.iload P.1.here P.2.1 rfl (hb P.2.2.1 hd) hl r) k
theorem iloadN {k : _} {v : Int32} (P : Wk Z own bytes h p l e R s m args below meth c T locs cells slots) (hd : decode bytes pc = .ok (.iload_n k, 1)) (hl : Ls[k.val]? = some (.val (.int v))) (hq : pc + 1 = q) (k : Goes p.tables e below K (T.setTop (mkF m q Ls (.int v :: st)))) : Goes p.tables e below K (T.setTop (mkF m pc Ls (st))) := by
  subst hq
  exact Goes.go (fun _ r => XS.iloadN P.1.here P.2.1 rfl (hb P.2.2.1 hd) hl r) k
theorem aload {k : Nat} {v : Value} (P : Wk Z own bytes h p l e R s m args below meth c T locs cells slots) (hd : decode bytes pc = .ok (.aload k, 2)) (hl : Ls[k]? = some (.val v)) (hv : v.isRef = true) (hq : pc + 2 = q) (k : Goes p.tables e below K (T.setTop (mkF m q Ls (v :: st)))) : Goes p.tables e below K (T.setTop (mkF m pc Ls (st))) := by
  subst hq
  exact Goes.go (fun _ r => XS.aload P.1.here P.2.1 rfl (hb P.2.2.1 hd) hl hv r) k
theorem aloadN {k : _} {v : Value} (P : Wk Z own bytes h p l e R s m args below meth c T locs cells slots) (hd : decode bytes pc = .ok (.aload_n k, 1)) (hl : Ls[k.val]? = some (.val v)) (hv : v.isRef = true) (hq : pc + 1 = q) (k : Goes p.tables e below K (T.setTop (mkF m q Ls (v :: st)))) : Goes p.tables e below K (T.setTop (mkF m pc Ls (st))) := by
  subst hq
  exact Goes.go (fun _ r => XS.aloadN P.1.here P.2.1 rfl (hb P.2.2.1 hd) hl hv r) k
theorem istore {k : Nat} {x : Int32} {L2 : Array Slot} (P : Wk Z own bytes h p l e R s m args below meth c T locs cells slots) (hd : decode bytes pc = .ok (.istore k, 2)) (hl : storeLocals Ls k (.int x) = some L2) (hq : pc + 2 = q) (k : Goes p.tables e below K (T.setTop (mkF m q L2 (st)))) : Goes p.tables e below K (T.setTop (mkF m pc Ls (.int x :: st))) := by
  subst hq
  exact Goes.go (fun _ r => XS.istore P.1.here P.2.1 rfl (hb P.2.2.1 hd) rfl hl r) k
theorem istoreN {k : _} {x : Int32} {L2 : Array Slot} (P : Wk Z own bytes h p l e R s m args below meth c T locs cells slots) (hd : decode bytes pc = .ok (.istore_n k, 1)) (hl : storeLocals Ls k.val (.int x) = some L2) (hq : pc + 1 = q) (k : Goes p.tables e below K (T.setTop (mkF m q L2 (st)))) : Goes p.tables e below K (T.setTop (mkF m pc Ls (.int x :: st))) := by
  subst hq
  exact Goes.go (fun _ r => XS.istoreN P.1.here P.2.1 rfl (hb P.2.2.1 hd) rfl hl r) k
theorem astore {k : Nat} {x : Value} {L2 : Array Slot} (P : Wk Z own bytes h p l e R s m args below meth c T locs cells slots) (hd : decode bytes pc = .ok (.astore k, 2)) (hv : x.isRef = true) (hl : storeLocals Ls k x = some L2) (hq : pc + 2 = q) (k : Goes p.tables e below K (T.setTop (mkF m q L2 (st)))) : Goes p.tables e below K (T.setTop (mkF m pc Ls (x :: st))) := by
  subst hq
  exact Goes.go (fun _ r => XS.astore P.1.here P.2.1 rfl (hb P.2.2.1 hd) rfl hv hl r) k
theorem astoreN {k : _} {x : Value} {L2 : Array Slot} (P : Wk Z own bytes h p l e R s m args below meth c T locs cells slots) (hd : decode bytes pc = .ok (.astore_n k, 1)) (hv : x.isRef = true) (hl : storeLocals Ls k.val x = some L2) (hq : pc + 1 = q) (k : Goes p.tables e below K (T.setTop (mkF m q L2 (st)))) : Goes p.tables e below K (T.setTop (mkF m pc Ls (x :: st))) := by
  subst hq
  exact Goes.go (fun _ r => XS.astoreN P.1.here P.2.1 rfl (hb P.2.2.1 hd) rfl hv hl r) k
theorem iinc {k : Nat} {i : Int} {x v : Int32} {L2 : Array Slot} (P : Wk Z own bytes h p l e R s m args below meth c T locs cells slots) (hd : decode bytes pc = .ok (.iinc k i, 3)) (hl : Ls[k]? = some (.val (.int x))) (hv : Int32.ofInt i = v) (hs : storeLocals Ls k (.int (x + v)) = some L2) (hq : pc + 3 = q) (k : Goes p.tables e below K (T.setTop (mkF m q L2 (st)))) : Goes p.tables e below K (T.setTop (mkF m pc Ls (st))) := by
  subst hq
  exact Goes.go (fun _ r => XS.iinc P.1.here P.2.1 rfl (hb P.2.2.1 hd) hl (hv ▸ hs) r) k
theorem dup {x : Value} (P : Wk Z own bytes h p l e R s m args below meth c T locs cells slots) (hd : decode bytes pc = .ok (.dup, 1)) (hc : x.category = 1) (hq : pc + 1 = q) (k : Goes p.tables e below K (T.setTop (mkF m q Ls (x :: x :: st)))) : Goes p.tables e below K (T.setTop (mkF m pc Ls (x :: st))) := by
  subst hq
  exact Goes.go (fun _ r => XS.dup P.1.here P.2.1 rfl (hb P.2.2.1 hd) rfl hc r) k
theorem dupX1 {x y : Value} (P : Wk Z own bytes h p l e R s m args below meth c T locs cells slots) (hd : decode bytes pc = .ok (.dup_x1, 1)) (hc : x.category = 1) (hc2 : y.category = 1) (hq : pc + 1 = q) (k : Goes p.tables e below K (T.setTop (mkF m q Ls (x :: y :: x :: st)))) : Goes p.tables e below K (T.setTop (mkF m pc Ls (x :: y :: st))) := by
  subst hq
  exact Goes.go (fun _ r => XT.dupX1 P.1.here P.2.1 rfl (hb P.2.2.1 hd) rfl hc hc2 r) k
theorem pop {x : Value} (P : Wk Z own bytes h p l e R s m args below meth c T locs cells slots) (hd : decode bytes pc = .ok (.pop, 1)) (hc : x.category = 1) (hq : pc + 1 = q) (k : Goes p.tables e below K (T.setTop (mkF m q Ls (st)))) : Goes p.tables e below K (T.setTop (mkF m pc Ls (x :: st))) := by
  subst hq
  exact Goes.go (fun _ r => XT.pop P.1.here P.2.1 rfl (hb P.2.2.1 hd) rfl hc r) k
theorem iadd {x y : Int32} (P : Wk Z own bytes h p l e R s m args below meth c T locs cells slots) (hd : decode bytes pc = .ok (.iadd, 1))  (hq : pc + 1 = q) (k : Goes p.tables e below K (T.setTop (mkF m q Ls (.int (x + y) :: st)))) : Goes p.tables e below K (T.setTop (mkF m pc Ls (.int y :: .int x :: st))) := by
  subst hq
  exact Goes.go (fun _ r => XS.iadd P.1.here P.2.1 rfl (hb P.2.2.1 hd) rfl r) k
theorem isub {x y : Int32} (P : Wk Z own bytes h p l e R s m args below meth c T locs cells slots) (hd : decode bytes pc = .ok (.isub, 1))  (hq : pc + 1 = q) (k : Goes p.tables e below K (T.setTop (mkF m q Ls (.int (x - y) :: st)))) : Goes p.tables e below K (T.setTop (mkF m pc Ls (.int y :: .int x :: st))) := by
  subst hq
  exact Goes.go (fun _ r => XS.isub P.1.here P.2.1 rfl (hb P.2.2.1 hd) rfl r) k
theorem iand {x y : Int32} (P : Wk Z own bytes h p l e R s m args below meth c T locs cells slots) (hd : decode bytes pc = .ok (.iand, 1))  (hq : pc + 1 = q) (k : Goes p.tables e below K (T.setTop (mkF m q Ls (.int (x &&& y) :: st)))) : Goes p.tables e below K (T.setTop (mkF m pc Ls (.int y :: .int x :: st))) := by
  subst hq
  exact Goes.go (fun _ r => XS.iand P.1.here P.2.1 rfl (hb P.2.2.1 hd) rfl r) k
theorem ior {x y : Int32} (P : Wk Z own bytes h p l e R s m args below meth c T locs cells slots) (hd : decode bytes pc = .ok (.ior, 1))  (hq : pc + 1 = q) (k : Goes p.tables e below K (T.setTop (mkF m q Ls (.int (x ||| y) :: st)))) : Goes p.tables e below K (T.setTop (mkF m pc Ls (.int y :: .int x :: st))) := by
  subst hq
  exact Goes.go (fun _ r => XT.ior P.1.here P.2.1 rfl (hb P.2.2.1 hd) rfl r) k
theorem ishl {x y : Int32} (P : Wk Z own bytes h p l e R s m args below meth c T locs cells slots) (hd : decode bytes pc = .ok (.ishl, 1))  (hq : pc + 1 = q) (k : Goes p.tables e below K (T.setTop (mkF m q Ls (.int (x <<< (y &&& 31)) :: st)))) : Goes p.tables e below K (T.setTop (mkF m pc Ls (.int y :: .int x :: st))) := by
  subst hq
  exact Goes.go (fun _ r => XT.ishl P.1.here P.2.1 rfl (hb P.2.2.1 hd) rfl r) k
theorem ishr {x y : Int32} (P : Wk Z own bytes h p l e R s m args below meth c T locs cells slots) (hd : decode bytes pc = .ok (.ishr, 1))  (hq : pc + 1 = q) (k : Goes p.tables e below K (T.setTop (mkF m q Ls (.int (x >>> (y &&& 31)) :: st)))) : Goes p.tables e below K (T.setTop (mkF m pc Ls (.int y :: .int x :: st))) := by
  subst hq
  exact Goes.go (fun _ r => XT.ishr P.1.here P.2.1 rfl (hb P.2.2.1 hd) rfl r) k
theorem iushr {x y : Int32} (P : Wk Z own bytes h p l e R s m args below meth c T locs cells slots) (hd : decode bytes pc = .ok (.iushr, 1))  (hq : pc + 1 = q) (k : Goes p.tables e below K (T.setTop (mkF m q Ls (.int (XT.ushr x y) :: st)))) : Goes p.tables e below K (T.setTop (mkF m pc Ls (.int y :: .int x :: st))) := by
  subst hq
  exact Goes.go (fun _ r => XT.iushr P.1.here P.2.1 rfl (hb P.2.2.1 hd) rfl r) k
theorem i2c {x : Int32} (P : Wk Z own bytes h p l e R s m args below meth c T locs cells slots) (hd : decode bytes pc = .ok (.i2c, 1))  (hq : pc + 1 = q) (k : Goes p.tables e below K (T.setTop (mkF m q Ls (.int x.toUInt32.toUInt16.toUInt32.toInt32 :: st)))) : Goes p.tables e below K (T.setTop (mkF m pc Ls (.int x :: st))) := by
  subst hq
  exact Goes.go (fun _ r => XT.i2c P.1.here P.2.1 rfl (hb P.2.2.1 hd) rfl r) k
theorem i2cV {x v : Int32} (P : Wk Z own bytes h p l e R s m args below meth c T locs cells slots) (hd : decode bytes pc = .ok (.i2c, 1)) (hv : x.toUInt32.toUInt16.toUInt32.toInt32 = v) (hq : pc + 1 = q) (k : Goes p.tables e below K (T.setTop (mkF m q Ls (.int v :: st)))) : Goes p.tables e below K (T.setTop (mkF m pc Ls (.int x :: st))) := by
  subst hq
  exact Goes.go (fun _ r => XT.i2c P.1.here P.2.1 rfl (hb P.2.2.1 hd) rfl (hv ▸ r)) k
theorem i2b {x : Int32} (P : Wk Z own bytes h p l e R s m args below meth c T locs cells slots) (hd : decode bytes pc = .ok (.i2b, 1))  (hq : pc + 1 = q) (k : Goes p.tables e below K (T.setTop (mkF m q Ls (.int x.toInt8.toInt32 :: st)))) : Goes p.tables e below K (T.setTop (mkF m pc Ls (.int x :: st))) := by
  subst hq
  exact Goes.go (fun _ r => XT.i2b P.1.here P.2.1 rfl (hb P.2.2.1 hd) rfl r) k
theorem ldcI {i : Nat} {v : Int32} (P : Wk Z own bytes h p l e R s m args below meth c T locs cells slots) (hd : decode bytes pc = .ok (.ldc i, 2)) (w : (Cond.constant own i v).before a0 Z = true) (hq : pc + 2 = q) (k : Goes p.tables e below K (T.setTop (mkF m q Ls (.int v :: st)))) : Goes p.tables e below K (T.setTop (mkF m pc Ls (st))) := by
  subst hq
  exact Goes.go (fun _ r => Jvm.Stand.ldcI P.1 P.2.1 P.2.2.2.2.1 (mvT P.2.2.2.1 w) rfl (hb P.2.2.1 hd) r) k
theorem jmp {o : Int} {n : Nat} (h : (n : Int) + o = (q : Int)) : 0 ≤ (n : Int) + o ∧ ((n : Int) + o).toNat = q := by omega
theorem goto {o : Int} (P : Wk Z own bytes h p l e R s m args below meth c T locs cells slots) (hd : decode bytes pc = .ok (.goto o, 3)) (hq : (pc : Int) + o = (q : Int)) (k : Goes p.tables e below K (T.setTop (mkF m q Ls (st)))) : Goes p.tables e below K (T.setTop (mkF m pc Ls (st))) :=
  Goes.go (fun _ r => XS.goto P.1.here P.2.1 rfl (pc0 := pc) rfl (hb P.2.2.1 hd) (jmp hq).1 (jmp hq).2 r) k
theorem icmp_eq {x y : Int32} {o : Int} {qy : Nat} (P : Wk Z own bytes h p l e R s m args below meth c T locs cells slots) (hd : decode bytes pc = .ok (.if_icmp .eq o, 3)) (hy : (pc : Int) + o = (qy : Int)) (hq : pc + 3 = q) (ky : x = y → Goes p.tables e below K (T.setTop (mkF m qy Ls (st)))) (kn : ¬ x = y → Goes p.tables e below K (T.setTop (mkF m q Ls (st)))) : Goes p.tables e below K (T.setTop (mkF m pc Ls (.int y :: .int x :: st))) := by
  subst hq
  by_cases c0 : x = y
  · exact Goes.go (fun _ r => XS.icmpYes P.1.here P.2.1 rfl (pc0 := pc) rfl (hb P.2.2.1 hd) rfl (XT.ii_eq_t c0) (jmp hy).1 (jmp hy).2 r) (ky c0)
  · exact Goes.go (fun _ r => XS.icmpNo P.1.here P.2.1 rfl (hb P.2.2.1 hd) rfl (XT.ii_eq_f c0) r) (kn c0)
theorem if_eq {x : Int32} {o : Int} {qy : Nat} (P : Wk Z own bytes h p l e R s m args below meth c T locs cells slots) (hd : decode bytes pc = .ok (.ifCond .eq o, 3)) (hy : (pc : Int) + o = (qy : Int)) (hq : pc + 3 = q) (ky : x = 0 → Goes p.tables e below K (T.setTop (mkF m qy Ls (st)))) (kn : ¬ x = 0 → Goes p.tables e below K (T.setTop (mkF m q Ls (st)))) : Goes p.tables e below K (T.setTop (mkF m pc Ls (.int x :: st))) := by
  subst hq
  by_cases c0 : x = 0
  · exact Goes.go (fun _ r => XS.ifYes P.1.here P.2.1 rfl (pc0 := pc) rfl (hb P.2.2.1 hd) rfl (XT.i0_eq_t c0) (jmp hy).1 (jmp hy).2 r) (ky c0)
  · exact Goes.go (fun _ r => XS.ifNo P.1.here P.2.1 rfl (hb P.2.2.1 hd) rfl (XT.i0_eq_f c0) r) (kn c0)
theorem icmp_ne {x y : Int32} {o : Int} {qy : Nat} (P : Wk Z own bytes h p l e R s m args below meth c T locs cells slots) (hd : decode bytes pc = .ok (.if_icmp .ne o, 3)) (hy : (pc : Int) + o = (qy : Int)) (hq : pc + 3 = q) (ky : ¬ x = y → Goes p.tables e below K (T.setTop (mkF m qy Ls (st)))) (kn : x = y → Goes p.tables e below K (T.setTop (mkF m q Ls (st)))) : Goes p.tables e below K (T.setTop (mkF m pc Ls (.int y :: .int x :: st))) := by
  subst hq
  by_cases c0 : x = y
  · exact Goes.go (fun _ r => XS.icmpNo P.1.here P.2.1 rfl (hb P.2.2.1 hd) rfl (XT.ii_ne_f c0) r) (kn c0)
  · exact Goes.go (fun _ r => XS.icmpYes P.1.here P.2.1 rfl (pc0 := pc) rfl (hb P.2.2.1 hd) rfl (XT.ii_ne_t c0) (jmp hy).1 (jmp hy).2 r) (ky c0)
theorem if_ne {x : Int32} {o : Int} {qy : Nat} (P : Wk Z own bytes h p l e R s m args below meth c T locs cells slots) (hd : decode bytes pc = .ok (.ifCond .ne o, 3)) (hy : (pc : Int) + o = (qy : Int)) (hq : pc + 3 = q) (ky : ¬ x = 0 → Goes p.tables e below K (T.setTop (mkF m qy Ls (st)))) (kn : x = 0 → Goes p.tables e below K (T.setTop (mkF m q Ls (st)))) : Goes p.tables e below K (T.setTop (mkF m pc Ls (.int x :: st))) := by
  subst hq
  by_cases c0 : x = 0
  · exact Goes.go (fun _ r => XS.ifNo P.1.here P.2.1 rfl (hb P.2.2.1 hd) rfl (XT.i0_ne_f c0) r) (kn c0)
  · exact Goes.go (fun _ r => XS.ifYes P.1.here P.2.1 rfl (pc0 := pc) rfl (hb P.2.2.1 hd) rfl (XT.i0_ne_t c0) (jmp hy).1 (jmp hy).2 r) (ky c0)
theorem icmp_lt {x y : Int32} {o : Int} {qy : Nat} (P : Wk Z own bytes h p l e R s m args below meth c T locs cells slots) (hd : decode bytes pc = .ok (.if_icmp .lt o, 3)) (hy : (pc : Int) + o = (qy : Int)) (hq : pc + 3 = q) (ky : x < y → Goes p.tables e below K (T.setTop (mkF m qy Ls (st)))) (kn : ¬ x < y → Goes p.tables e below K (T.setTop (mkF m q Ls (st)))) : Goes p.tables e below K (T.setTop (mkF m pc Ls (.int y :: .int x :: st))) := by
  subst hq
  by_cases c0 : x < y
  · exact Goes.go (fun _ r => XS.icmpYes P.1.here P.2.1 rfl (pc0 := pc) rfl (hb P.2.2.1 hd) rfl (XT.ii_lt_t c0) (jmp hy).1 (jmp hy).2 r) (ky c0)
  · exact Goes.go (fun _ r => XS.icmpNo P.1.here P.2.1 rfl (hb P.2.2.1 hd) rfl (XT.ii_lt_f c0) r) (kn c0)
theorem if_lt {x : Int32} {o : Int} {qy : Nat} (P : Wk Z own bytes h p l e R s m args below meth c T locs cells slots) (hd : decode bytes pc = .ok (.ifCond .lt o, 3)) (hy : (pc : Int) + o = (qy : Int)) (hq : pc + 3 = q) (ky : x < 0 → Goes p.tables e below K (T.setTop (mkF m qy Ls (st)))) (kn : ¬ x < 0 → Goes p.tables e below K (T.setTop (mkF m q Ls (st)))) : Goes p.tables e below K (T.setTop (mkF m pc Ls (.int x :: st))) := by
  subst hq
  by_cases c0 : x < 0
  · exact Goes.go (fun _ r => XS.ifYes P.1.here P.2.1 rfl (pc0 := pc) rfl (hb P.2.2.1 hd) rfl (XT.i0_lt_t c0) (jmp hy).1 (jmp hy).2 r) (ky c0)
  · exact Goes.go (fun _ r => XS.ifNo P.1.here P.2.1 rfl (hb P.2.2.1 hd) rfl (XT.i0_lt_f c0) r) (kn c0)
theorem icmp_ge {x y : Int32} {o : Int} {qy : Nat} (P : Wk Z own bytes h p l e R s m args below meth c T locs cells slots) (hd : decode bytes pc = .ok (.if_icmp .ge o, 3)) (hy : (pc : Int) + o = (qy : Int)) (hq : pc + 3 = q) (ky : ¬ x < y → Goes p.tables e below K (T.setTop (mkF m qy Ls (st)))) (kn : x < y → Goes p.tables e below K (T.setTop (mkF m q Ls (st)))) : Goes p.tables e below K (T.setTop (mkF m pc Ls (.int y :: .int x :: st))) := by
  subst hq
  by_cases c0 : x < y
  · exact Goes.go (fun _ r => XS.icmpNo P.1.here P.2.1 rfl (hb P.2.2.1 hd) rfl (XT.ii_ge_f c0) r) (kn c0)
  · exact Goes.go (fun _ r => XS.icmpYes P.1.here P.2.1 rfl (pc0 := pc) rfl (hb P.2.2.1 hd) rfl (XT.ii_ge_t c0) (jmp hy).1 (jmp hy).2 r) (ky c0)
theorem if_ge {x : Int32} {o : Int} {qy : Nat} (P : Wk Z own bytes h p l e R s m args below meth c T locs cells slots) (hd : decode bytes pc = .ok (.ifCond .ge o, 3)) (hy : (pc : Int) + o = (qy : Int)) (hq : pc + 3 = q) (ky : ¬ x < 0 → Goes p.tables e below K (T.setTop (mkF m qy Ls (st)))) (kn : x < 0 → Goes p.tables e below K (T.setTop (mkF m q Ls (st)))) : Goes p.tables e below K (T.setTop (mkF m pc Ls (.int x :: st))) := by
  subst hq
  by_cases c0 : x < 0
  · exact Goes.go (fun _ r => XS.ifNo P.1.here P.2.1 rfl (hb P.2.2.1 hd) rfl (XT.i0_ge_f c0) r) (kn c0)
  · exact Goes.go (fun _ r => XS.ifYes P.1.here P.2.1 rfl (pc0 := pc) rfl (hb P.2.2.1 hd) rfl (XT.i0_ge_t c0) (jmp hy).1 (jmp hy).2 r) (ky c0)
theorem icmp_gt {x y : Int32} {o : Int} {qy : Nat} (P : Wk Z own bytes h p l e R s m args below meth c T locs cells slots) (hd : decode bytes pc = .ok (.if_icmp .gt o, 3)) (hy : (pc : Int) + o = (qy : Int)) (hq : pc + 3 = q) (ky : y < x → Goes p.tables e below K (T.setTop (mkF m qy Ls (st)))) (kn : ¬ y < x → Goes p.tables e below K (T.setTop (mkF m q Ls (st)))) : Goes p.tables e below K (T.setTop (mkF m pc Ls (.int y :: .int x :: st))) := by
  subst hq
  by_cases c0 : y < x
  · exact Goes.go (fun _ r => XS.icmpYes P.1.here P.2.1 rfl (pc0 := pc) rfl (hb P.2.2.1 hd) rfl (XT.ii_gt_t c0) (jmp hy).1 (jmp hy).2 r) (ky c0)
  · exact Goes.go (fun _ r => XS.icmpNo P.1.here P.2.1 rfl (hb P.2.2.1 hd) rfl (XT.ii_gt_f c0) r) (kn c0)
theorem icmp_le {x y : Int32} {o : Int} {qy : Nat} (P : Wk Z own bytes h p l e R s m args below meth c T locs cells slots) (hd : decode bytes pc = .ok (.if_icmp .le o, 3)) (hy : (pc : Int) + o = (qy : Int)) (hq : pc + 3 = q) (ky : ¬ y < x → Goes p.tables e below K (T.setTop (mkF m qy Ls (st)))) (kn : y < x → Goes p.tables e below K (T.setTop (mkF m q Ls (st)))) : Goes p.tables e below K (T.setTop (mkF m pc Ls (.int y :: .int x :: st))) := by
  subst hq
  by_cases c0 : y < x
  · exact Goes.go (fun _ r => XS.icmpNo P.1.here P.2.1 rfl (hb P.2.2.1 hd) rfl (XT.ii_le_f c0) r) (kn c0)
  · exact Goes.go (fun _ r => XS.icmpYes P.1.here P.2.1 rfl (pc0 := pc) rfl (hb P.2.2.1 hd) rfl (XT.ii_le_t c0) (jmp hy).1 (jmp hy).2 r) (ky c0)
theorem if_le {x : Int32} {o : Int} {qy : Nat} (P : Wk Z own bytes h p l e R s m args below meth c T locs cells slots) (hd : decode bytes pc = .ok (.ifCond .le o, 3)) (hy : (pc : Int) + o = (qy : Int)) (hq : pc + 3 = q) (ky : ¬ 0 < x → Goes p.tables e below K (T.setTop (mkF m qy Ls (st)))) (kn : 0 < x → Goes p.tables e below K (T.setTop (mkF m q Ls (st)))) : Goes p.tables e below K (T.setTop (mkF m pc Ls (.int x :: st))) := by
  subst hq
  by_cases c0 : 0 < x
  · exact Goes.go (fun _ r => XS.ifNo P.1.here P.2.1 rfl (hb P.2.2.1 hd) rfl (XT.i0_le_f c0) r) (kn c0)
  · exact Goes.go (fun _ r => XS.ifYes P.1.here P.2.1 rfl (pc0 := pc) rfl (hb P.2.2.1 hd) rfl (XT.i0_le_t c0) (jmp hy).1 (jmp hy).2 r) (ky c0)
theorem nonnullY {o : Int} {b : Addr} (P : Wk Z own bytes h p l e R s m args below meth c T locs cells slots) (hd : decode bytes pc = .ok (.ifnonnull o, 3)) (hy : (pc : Int) + o = (q : Int)) (k : Goes p.tables e below K (T.setTop (mkF m q Ls (st)))) : Goes p.tables e below K (T.setTop (mkF m pc Ls (.ref b :: st))) := Goes.go (fun _ r => XT.ifnonnullYes P.1.here P.2.1 rfl (pc0 := pc) rfl (hb P.2.2.1 hd) rfl (jmp hy).1 (jmp hy).2 r) k
theorem getfield {O n d : String} {i : Nat} {a : Addr} {v : Value} (P : Wk Z own bytes h p l e R s m args below meth c T locs cells slots) (hd : decode bytes pc = .ok (.getfield i, 3)) (w : (Cond.fieldLink own i O n d).before a0 Z = true) (F : Fld Z h a O n d v) (hq : pc + 3 = q) (k : ∀ T₂, Wk Z own bytes h p l e R s m args below meth c T₂ locs cells slots → Goes p.tables e below K (T₂.setTop (mkF m q Ls (v :: st)))) : Goes p.tables e below K (T.setTop (mkF m pc Ls (.ref a :: st))) := by
  subst hq
  obtain ⟨T₂, X2, e2, st2⟩ := getF P.1 P.2.1 P.2.2.2.1 P.2.2.2.2.1 (host := "") (Or.inl w) Via.refl P.2.2.2.2.2 F (g := mkF m pc Ls (.ref a :: st)) rfl rfl (hb P.2.2.1 hd)
  exact Goes.go st2 (k T₂ ⟨X2, P.2.1, P.2.2.1, P.2.2.2.1, P.2.2.2.2.1, e2⟩)
theorem getstatic {O n d : String} {i : Nat} {v : Value} (P : Wk Z own bytes h p l e R s m args below meth c T locs cells slots) (hd : decode bytes pc = .ok (.getstatic i, 3)) (w : (Cond.fieldLink own i O n d).before a0 Z = true) (F : Sta Z h O n d v) (hq : pc + 3 = q) (k : ∀ T₂, Wk Z own bytes h p l e R s m args below meth c T₂ locs cells slots → Goes p.tables e below K (T₂.setTop (mkF m q Ls (v :: st)))) : Goes p.tables e below K (T.setTop (mkF m pc Ls (st))) := by
  subst hq
  obtain ⟨T₂, X2, e2, st2⟩ := getS P.1 P.2.1 P.2.2.2.1 (host := "") P.2.2.2.2.1 w Via.refl P.2.2.2.2.2 F (g := mkF m pc Ls st) rfl (hb P.2.2.1 hd)
  exact Goes.go st2 (k T₂ ⟨X2, P.2.1, P.2.2.1, P.2.2.2.1, P.2.2.2.2.1, e2⟩)
theorem castTo {C : String} {i : Nat} {a : Addr} (P : Wk Z own bytes h p l e R s m args below meth c T locs cells slots) (hd : decode bytes pc = .ok (.checkcast i, 3)) (w : (Cond.classLink own i C).before a0 Z = true) (F : Ins Z h a C true) (hq : pc + 3 = q) (k : ∀ T₂, Wk Z own bytes h p l e R s m args below meth c T₂ locs cells slots → Goes p.tables e below K (T₂.setTop (mkF m q Ls (.ref a :: st)))) : Goes p.tables e below K (T.setTop (mkF m pc Ls (.ref a :: st))) := by
  subst hq
  obtain ⟨T₂, X2, e2, st2⟩ := castY P.1 P.2.1 P.2.2.2.1 P.2.2.2.2.1 w P.2.2.2.2.2 F (g := mkF m pc Ls (.ref a :: st)) rfl rfl (hb P.2.2.1 hd)
  exact Goes.go st2 (k T₂ ⟨X2, P.2.1, P.2.2.1, P.2.2.2.1, P.2.2.2.2.1, e2⟩)
theorem instOf {C : String} {i : Nat} {a : Addr} (P : Wk Z own bytes h p l e R s m args below meth c T locs cells slots) (hd : decode bytes pc = .ok (.instanceof i, 3)) (w : (Cond.classLink own i C).before a0 Z = true) (F : Ins Z h a C true) (hq : pc + 3 = q) (k : ∀ T₂, Wk Z own bytes h p l e R s m args below meth c T₂ locs cells slots → Goes p.tables e below K (T₂.setTop (mkF m q Ls (.int 1 :: st)))) : Goes p.tables e below K (T.setTop (mkF m pc Ls (.ref a :: st))) := by
  subst hq
  obtain ⟨T₂, X2, e2, st2⟩ := instY P.1 P.2.1 P.2.2.2.1 P.2.2.2.2.1 w P.2.2.2.2.2 F (g := mkF m pc Ls (.ref a :: st)) rfl rfl (hb P.2.2.1 hd)
  exact Goes.go st2 (k T₂ ⟨X2, P.2.1, P.2.2.1, P.2.2.2.1, P.2.2.2.2.1, e2⟩)
theorem caload {a : Addr} {kc : ClassId} {n j : Int32} {vs : List Value} {d v : Value} (P : Wk Z own bytes h p l e R s m args below meth c T locs cells slots) (hd : decode bytes pc = .ok (.caload, 1)) (A : Arv Z h a kc .char n vs d) (h0 : ¬ j < 0) (h1 : j < n) (hv : vs.getD j.toNatClampNeg d = v) (hq : pc + 1 = q) (k : Goes p.tables e below K (T.setTop (mkF m q Ls (v :: st)))) : Goes p.tables e below K (T.setTop (mkF m pc Ls (.int j :: .ref a :: st))) := by
  subst hq
  obtain ⟨cl, Ar, -, S, -, H, -⟩ := A
  have hin := inb_of S ⟨h0, h1⟩
  exact Goes.go (P.1.caload P.2.1 (by rw [P.2.2.2.2.2]; exact Ar.1) (State.isArrayOf_alike P.2.2.2.1.alike Ar.2.1) Ar.2.2 hin (H.at hin hv) (g := mkF m pc Ls (.int j :: .ref a :: st)) rfl rfl (hb P.2.2.1 hd)) k
theorem baload {a : Addr} {kc : ClassId} {n j : Int32} {vs : List Value} {d v : Value} (P : Wk Z own bytes h p l e R s m args below meth c T locs cells slots) (hd : decode bytes pc = .ok (.baload, 1)) (A : Arv Z h a kc .byte n vs d) (h0 : ¬ j < 0) (h1 : j < n) (hv : vs.getD j.toNatClampNeg d = v) (hq : pc + 1 = q) (k : Goes p.tables e below K (T.setTop (mkF m q Ls (v :: st)))) : Goes p.tables e below K (T.setTop (mkF m pc Ls (.int j :: .ref a :: st))) := by
  subst hq
  obtain ⟨cl, Ar, -, S, -, H, -⟩ := A
  have hin := inb_of S ⟨h0, h1⟩
  exact Goes.go (P.1.baloadBytes P.2.1 (by rw [P.2.2.2.2.2]; exact Ar.1) (State.isArrayOf_alike P.2.2.2.1.alike Ar.2.1) Ar.2.2 hin (H.at hin hv) (g := mkF m pc Ls (.int j :: .ref a :: st)) rfl rfl (hb P.2.2.1 hd)) k
theorem arraylength {a : Addr} {kc : ClassId} {ty : FieldType} {n : Int32} {vs : List Value} {d : Value} (P : Wk Z own bytes h p l e R s m args below meth c T locs cells slots) (hd : decode bytes pc = .ok (.arraylength, 1)) (A : Arv Z h a kc ty n vs d) (hq : pc + 1 = q) (k : Goes p.tables e below K (T.setTop (mkF m q Ls (.int n :: st)))) : Goes p.tables e below K (T.setTop (mkF m pc Ls (.ref a :: st))) := by
  subst hq
  obtain ⟨cl, Ar, -, S, N, H, -⟩ := A
  refine Goes.go (P.1.arraylength P.2.1 (by rw [P.2.2.2.2.2]; exact Ar.1) (State.isArrayOf_alike P.2.2.2.1.alike Ar.2.1) (g := mkF m pc Ls (.ref a :: st)) rfl rfl (hb P.2.2.1 hd)) ?_
  rw [len_of S N]
  exact k
theorem newobj {C : String} {i n : Nat} (P : Wk Z own bytes h p l e R s m args below meth c T locs cells slots) (hd : decode bytes pc = .ok (.new i, 3)) (w : (Cond.classLink own i C).before a0 Z = true) (wi : (Cond.instantiable C n).before a0 Z = true) (wz : (Cond.initialized C).before a0 Z = true) (hc : cells + 1 ≤ R.cells) (hl : slots + n ≤ R.slots) (hq : pc + 3 = q)
    (k : ∀ T₂ h₂ a, a = h.size → Wk Z own bytes h₂ p l e R s m args below meth c T₂ locs (cells + 1) (slots + n) → Ext h h₂ → Exa Z h₂ a C → (∀ {O nm d : String} {ty : FieldType}, Laid Z a0 C O nm d → parseFieldDescriptor d = some ty → Fld Z h₂ a O nm d (defaultValue ty)) → Goes p.tables e below K (T₂.setTop (mkF m q Ls (.ref a :: st)))) : Goes p.tables e below K (T.setTop (mkF m pc Ls (st))) := by
  subst hq
  obtain ⟨T₂, h₂, X2, e2, E2, A2, D2, -, st2⟩ := newO P.1 P.2.1 P.2.2.2.1 P.2.2.2.2.1 w wi wz P.2.2.2.2.2 (g := mkF m pc Ls st) rfl (hb P.2.2.1 hd) hc hl
  exact Goes.go st2 (k T₂ h₂ h.size rfl ⟨X2, P.2.1, P.2.2.1, P.2.2.2.1, P.2.2.2.2.1, e2⟩ E2 A2 D2)
theorem newarr {aty : ArrayType} {n : Int32} {cap : Nat} (P : Wk Z own bytes h p l e R s m args below meth c T locs cells slots) (hd : decode bytes pc = .ok (.newarray aty, 2)) (w : (Cond.arrayClass (newarray.typeOf aty)).before a0 Z = true) (hn : ¬ n < 0) (hcap : n.toNatClampNeg ≤ cap) (hcb : cap * 8 ≤ 536870912) (hc : cells + 1 ≤ R.cells) (hl : slots + cap ≤ R.slots) (hq : pc + 2 = q)
    (k : ∀ T₂ h₂ a kc, a = h.size → Wk Z own bytes h₂ p l e R s m args below meth c T₂ locs (cells + 1) (slots + cap) → Ext h h₂ → Arv Z h₂ a kc (newarray.typeOf aty) n [] (defaultValue (newarray.typeOf aty)) → Goes p.tables e below K (T₂.setTop (mkF m q Ls (.ref a :: st)))) : Goes p.tables e below K (T.setTop (mkF m pc Ls (.int n :: st))) := by
  subst hq
  obtain ⟨T₂, h₂, kc, X2, e2, E2, A2, st2⟩ := newP P.1 P.2.1 P.2.2.2.1 w P.2.2.2.2.2 (g := mkF m pc Ls (.int n :: st)) rfl (hb P.2.2.1 hd) rfl hn hcap hcb hc hl
  exact Goes.go st2 (k T₂ h₂ h.size kc rfl ⟨X2, P.2.1, P.2.2.1, P.2.2.2.1, P.2.2.2.2.1, e2⟩ E2 (Arv.new A2 hn))
theorem castore {a : Addr} {kc : ClassId} {n j x x2 : Int32} {i : Nat} {vs : List Value} {d : Value} (P : Wk Z own bytes h p l e R s m args below meth c T locs cells slots) (hd : decode bytes pc = .ok (.castore, 1)) (A : Arv Z h a kc .char n vs d) (h0 : ¬ j < 0) (h1 : j < n) (hx2 : nar .char x = x2) (hf : fits .char (.int x2) = true) (hi : j.toNatClampNeg = i) (hi2 : i < vs.length) (hq : pc + 1 = q)
    (k : ∀ T₂ h₂ lc, lc.base = a → Wk Z own bytes h₂ p l e R s m args below meth c T₂ (locs ++ [lc]) cells slots → Wr h h₂ a i (.int x2) → Arv Z h₂ a kc .char n (vs.set i (.int x2)) d → Goes p.tables e below K (T₂.setTop (mkF m q Ls (st)))) : Goes p.tables e below K (T.setTop (mkF m pc Ls (.int x :: .int j :: .ref a :: st))) := by
  subst hq hx2 hi
  obtain ⟨cl, Ar, q1, S, q3, H, G⟩ := A
  have hin := inb_of S ⟨h0, h1⟩
  obtain ⟨T₂, h₂, X2, e2, W2, st2⟩ := stC P.1 P.2.1 P.2.2.2.1 P.2.2.2.2.2 Ar hin (g := mkF m pc Ls (.int x :: .int j :: .ref a :: st)) rfl rfl (hb P.2.2.1 hd)
  exact Goes.go st2 (k T₂ h₂ ⟨a, j.toNatClampNeg⟩ rfl ⟨X2, P.2.1, P.2.2.1, P.2.2.2.1, P.2.2.2.2.1, e2⟩ W2 (Arv.set Ar q1 S q3 H G hf W2 _ rfl hi2))
theorem bastore {a : Addr} {kc : ClassId} {n j x x2 : Int32} {i : Nat} {vs : List Value} {d : Value} (P : Wk Z own bytes h p l e R s m args below meth c T locs cells slots) (hd : decode bytes pc = .ok (.bastore, 1)) (A : Arv Z h a kc .byte n vs d) (h0 : ¬ j < 0) (h1 : j < n) (hx2 : nar .byte x = x2) (hf : fits .byte (.int x2) = true) (hi : j.toNatClampNeg = i) (hi2 : i < vs.length) (hq : pc + 1 = q)
    (k : ∀ T₂ h₂ lc, lc.base = a → Wk Z own bytes h₂ p l e R s m args below meth c T₂ (locs ++ [lc]) cells slots → Wr h h₂ a i (.int x2) → Arv Z h₂ a kc .byte n (vs.set i (.int x2)) d → Goes p.tables e below K (T₂.setTop (mkF m q Ls (st)))) : Goes p.tables e below K (T.setTop (mkF m pc Ls (.int x :: .int j :: .ref a :: st))) := by
  subst hq hx2 hi
  obtain ⟨cl, Ar, q1, S, q3, H, G⟩ := A
  have hin := inb_of S ⟨h0, h1⟩
  obtain ⟨T₂, h₂, X2, e2, W2, st2⟩ := stB P.1 P.2.1 P.2.2.2.1 P.2.2.2.2.2 Ar hin (g := mkF m pc Ls (.int x :: .int j :: .ref a :: st)) rfl rfl (hb P.2.2.1 hd)
  exact Goes.go st2 (k T₂ h₂ ⟨a, j.toNatClampNeg⟩ rfl ⟨X2, P.2.1, P.2.2.1, P.2.2.2.1, P.2.2.2.2.1, e2⟩ W2 (Arv.set Ar q1 S q3 H G hf W2 _ rfl hi2))
theorem putfield {O n d C : String} {i kk : Nat} {ty : FieldType} {a : Addr} {v old : Value} (P : Wk Z own bytes h p l e R s m args below meth c T locs cells slots) (hd : decode bytes pc = .ok (.putfield i, 3)) (w : (Cond.fieldLink own i O n d).before a0 Z = true) (F : Fld Z h a O n d old) (E : Exa Z h a C) (L : (Cond.lays C O n d).before a0 Z = true ∨ ((Cond.laysFinal C O n d).before a0 Z = true ∧ own = O ∧ meth.name = "<init>")) (wi : (Cond.instantiable C kk).before a0 Z = true) (hty : parseFieldDescriptor d = some ty) (hn : narrow ty v = v) (hf : fits ty v = true) (hq : pc + 3 = q)
    (k : ∀ T₂ h₂ lc, lc.base = a → Wk Z own bytes h₂ p l e R s m args below meth c T₂ (locs ++ [lc]) cells slots → Wr h h₂ a (Jvm.RoadKit.slotOf Z O n d) v → Goes p.tables e below K (T₂.setTop (mkF m q Ls (st)))) : Goes p.tables e below K (T.setTop (mkF m pc Ls (v :: .ref a :: st))) := by
  subst hq
  obtain ⟨T₂, h₂, X2, e2, W2, st2⟩ := putF P.1 P.2.1 P.2.2.2.1 P.2.2.2.2.1 (host := "") (Or.inl w) Via.refl P.2.2.2.2.2 F E L wi hty hn hf (g := mkF m pc Ls (v :: .ref a :: st)) rfl rfl (hb P.2.2.1 hd)
  exact Goes.go st2 (k T₂ h₂ ⟨a, Jvm.RoadKit.slotOf Z O n d⟩ rfl ⟨X2, P.2.1, P.2.2.1, P.2.2.2.1, P.2.2.2.2.1, e2⟩ W2)
theorem objinit {i W : Nat} {a : Addr} (P : Wk Z own bytes h p l e R s m args below meth c T locs cells slots) (hd : decode bytes pc = .ok (.invokespecial i, 3)) (w1 : (Cond.methodLink own i Lib.objectInit).before a0 Z = true) (w2 : (Cond.instanceMethod Lib.objectInit).before a0 Z = true) (w3 : (Cond.code Lib.objectInit ⟨#[0xb1]⟩ 1 none).before a0 Z = true) (hz : Ls.size = c.maxLocals) (hf : 1 ≤ R.frames) (hW : 2 * (mkF m pc Ls (.ref a :: st)).monitorRoom + (st.map fun v => v.category).sum ≤ W) (hl : W + 12 ≤ R.locals) (hq : pc + 3 = q) (k : ∀ T₂, Wk Z own bytes h p l e R s m args below meth c T₂ locs cells slots → Goes p.tables e below K (T₂.setTop (mkF m q Ls (st)))) : Goes p.tables e below K (T.setTop (mkF m pc Ls (.ref a :: st))) := by
  subst hq
  obtain ⟨T₂, X2, e2, st2⟩ := initO P.1 P.2.1 P.2.2.2.1 P.2.2.2.2.1 w1 w2 w3 P.2.2.2.2.2 (g := mkF m pc Ls (.ref a :: st)) rfl hz rfl (hb P.2.2.1 hd) hf hW hl
  exact Goes.go st2 (k T₂ ⟨X2, P.2.1, P.2.2.1, P.2.2.2.1, P.2.2.2.2.1, e2⟩)
theorem invStatic {y : MethodName} {cb : ByteArray} {mL : Nat} {ret : Option FieldType} {i W kc ks : Nat} {as' : Array Value} {Q : Option Value → Heap → List Loc → Prop} {argsL rest : List Value} (P : Wk Z own bytes h p l e R s m args below meth c T locs cells slots) (hd : decode bytes pc = .ok (.invokestatic i, 3)) (w1 : (Cond.methodLink own i y).before a0 Z = true) (w2 : (Cond.static y).before a0 Z = true) (w3 : (Cond.initialized y.cls).before a0 Z = true) (w4 : (Cond.code y cb mL ret).before a0 Z = true) (hy : y.cls ≠ "java/lang/invoke/MethodHandle" ∧ y.cls ≠ "java/lang/invoke/VarHandle") (B : Back l R p e below s args y 3 W (fun A a => a = as' ∧ A.U.heap = h ∧ A.cells + kc ≤ R.cells ∧ A.slots + ks ≤ R.slots) (fun A _ v B => ∃ L, Q v B.U.heap L ∧ B.locs = A.locs ++ L ∧ B.cells = A.cells + kc ∧ B.slots = A.slots + ks)) (ha : argsL.toArray = as') (hst : st = argsL.reverse ++ rest) (hz : Ls.size = c.maxLocals) (hlen : ∀ sig, parseMethodDescriptor y.desc = some sig → argsL.length = sig.parameters.length) (hW : 2 * (mkF m pc Ls st).monitorRoom + (rest.map fun v => v.category).sum ≤ W) (hcc : cells + kc ≤ R.cells) (hss : slots + ks ≤ R.slots) (hq : pc + 3 = q) (k : ∀ v T₂ h₂ L, Q v h₂ L → Wk Z own bytes h₂ p l e R s m args below meth c T₂ (locs ++ L) (cells + kc) (slots + ks) → Goes p.tables e below K (T₂.setTop (mkF m q Ls (match v with | none => rest | some x => x :: rest)))) : Goes p.tables e below K (T.setTop (mkF m pc Ls (st))) := by
  subst hq
  obtain ⟨v, _, ⟨T₂, L₂, c₂, n₂⟩, -, X2, ⟨L, hQ, hl, hc2, hs2⟩, st2⟩ := Jvm.LawKit.callS P.1 P.2.1 (y := y) P.2.2.2.2.1 (mvT P.2.2.2.1 w1) (mvT P.2.2.2.1 w2) (mvT P.2.2.2.1 w3) (mvT P.2.2.2.1 w4) hy B (g := mkF m pc Ls st) rfl hz (argsL := argsL) (rest := rest) hlen hst hW (hb P.2.2.1 hd) (fun _ _ => ⟨ha, P.2.2.2.2.2, hcc, hss⟩)
  dsimp only [Pt.U, Pt.locs, Pt.cells, Pt.slots] at X2 hl hc2 hs2 st2 hQ
  subst hl hc2 hs2
  cases v <;> exact Goes.go st2 (k _ T₂ _ L hQ ⟨X2, P.2.1, P.2.2.1, P.2.2.2.1, P.2.2.2.2.1, rfl⟩)
theorem invSpecial {y : MethodName} {cb : ByteArray} {mL : Nat} {i W kc ks : Nat} {as' : Array Value} {Q : Option Value → Heap → List Loc → Prop} {a : Addr} {argsL rest : List Value} (P : Wk Z own bytes h p l e R s m args below meth c T locs cells slots) (hd : decode bytes pc = .ok (.invokespecial i, 3)) (hin : y.name = "<init>") (w1 : (Cond.methodLink own i y).before a0 Z = true) (w2 : (Cond.instanceMethod y).before a0 Z = true) (w4 : (Cond.code y cb mL none).before a0 Z = true) (hy : y.cls ≠ "java/lang/invoke/MethodHandle" ∧ y.cls ≠ "java/lang/invoke/VarHandle") (B : Back l R p e below s args y 3 W (fun A a => a = as' ∧ A.U.heap = h ∧ A.cells + kc ≤ R.cells ∧ A.slots + ks ≤ R.slots) (fun A _ v B => ∃ L, Q v B.U.heap L ∧ B.locs = A.locs ++ L ∧ B.cells = A.cells + kc ∧ B.slots = A.slots + ks)) (ha : (.ref a :: argsL).toArray = as') (hst : st = argsL.reverse ++ .ref a :: rest) (hz : Ls.size = c.maxLocals) (hlen : ∀ sig, parseMethodDescriptor y.desc = some sig → argsL.length = sig.parameters.length) (hW : 2 * (mkF m pc Ls st).monitorRoom + (rest.map fun v => v.category).sum ≤ W) (hcc : cells + kc ≤ R.cells) (hss : slots + ks ≤ R.slots) (hq : pc + 3 = q) (k : ∀ v T₂ h₂ L, Q v h₂ L → Wk Z own bytes h₂ p l e R s m args below meth c T₂ (locs ++ L) (cells + kc) (slots + ks) → Goes p.tables e below K (T₂.setTop (mkF m q Ls (match v with | none => rest | some x => x :: rest)))) : Goes p.tables e below K (T.setTop (mkF m pc Ls (st))) := by
  subst hq
  obtain ⟨v, _, ⟨T₂, L₂, c₂, n₂⟩, -, X2, ⟨L, hQ, hl, hc2, hs2⟩, st2⟩ := P.1.specialBack P.2.1 (y := y) hin P.2.2.2.2.1 (mvT P.2.2.2.1 w1) (mvT P.2.2.2.1 w2) (mvT P.2.2.2.1 w4) hy B (g := mkF m pc Ls st) rfl hz (Steps.refl _) (a := a) (argsL := argsL) (rest := rest) hlen hst hW (hb P.2.2.1 hd) (fun _ _ => ⟨ha, P.2.2.2.2.2, hcc, hss⟩)
  dsimp only [Pt.U, Pt.locs, Pt.cells, Pt.slots] at X2 hl hc2 hs2 st2 hQ
  subst hl hc2 hs2
  cases v <;> exact Goes.tr st2 (k _ T₂ _ L hQ ⟨X2, P.2.1, P.2.2.1, P.2.2.2.1, P.2.2.2.2.1, rfl⟩)
theorem invVirtual {y z : MethodName} {C : String} {i W kc ks : Nat} {as' : Array Value} {Q : Option Value → Heap → List Loc → Prop} {a : Addr} {argsL rest : List Value} (P : Wk Z own bytes h p l e R s m args below meth c T locs cells slots) (hd : decode bytes pc = .ok (.invokevirtual i, 3)) (w1 : (Cond.methodLink own i y).before a0 Z = true) (w2 : (Cond.declares y).before a0 Z = true) (w3 : (Cond.selects C y z).before a0 Z = true) (w4 : (Cond.instanceMethod z).before a0 Z = true) (nf : NotFace s y) (hy : y.cls ≠ "java/lang/invoke/MethodHandle" ∧ y.cls ≠ "java/lang/invoke/VarHandle") (B : Back l R p e below s args z 3 W (fun A a => a = as' ∧ A.U.heap = h ∧ A.cells + kc ≤ R.cells ∧ A.slots + ks ≤ R.slots) (fun A _ v B => ∃ L, Q v B.U.heap L ∧ B.locs = A.locs ++ L ∧ B.cells = A.cells + kc ∧ B.slots = A.slots + ks)) (E : Exa Z h a C) (ha : (.ref a :: argsL).toArray = as') (hst : st = argsL.reverse ++ .ref a :: rest) (hz : Ls.size = c.maxLocals) (hlen : ∀ sig, parseMethodDescriptor y.desc = some sig → argsL.length = sig.parameters.length) (hW : 2 * (mkF m pc Ls st).monitorRoom + (rest.map fun v => v.category).sum ≤ W) (hcc : cells + kc ≤ R.cells) (hss : slots + ks ≤ R.slots) (hq : pc + 3 = q) (k : ∀ v T₂ h₂ L, Q v h₂ L → Wk Z own bytes h₂ p l e R s m args below meth c T₂ (locs ++ L) (cells + kc) (slots + ks) → Goes p.tables e below K (T₂.setTop (mkF m q Ls (match v with | none => rest | some x => x :: rest)))) : Goes p.tables e below K (T.setTop (mkF m pc Ls (st))) := by
  subst hq
  obtain ⟨cB, kB, r1, -, r3⟩ := isOf P.2.2.2.1 P.2.2.2.2.2 E
  obtain ⟨v, _, ⟨T₂, L₂, c₂, n₂⟩, -, X2, ⟨L, hQ, hl, hc2, hs2⟩, st2⟩ := P.1.virtualBack P.2.1 (y := y) (z := z) P.2.2.2.2.1 (mvT P.2.2.2.1 w1) (mvT P.2.2.2.1 w2) nf (mvT P.2.2.2.1 w3) (mvT P.2.2.2.1 w4) hy B r1 r3 (g := mkF m pc Ls st) rfl hz (Steps.refl _) (argsL := argsL) (rest := rest) hlen hst hW (hb P.2.2.1 hd) (fun _ _ => ⟨ha, P.2.2.2.2.2, hcc, hss⟩)
  dsimp only [Pt.U, Pt.locs, Pt.cells, Pt.slots] at X2 hl hc2 hs2 st2 hQ
  subst hl hc2 hs2
  cases v <;> exact Goes.tr st2 (k _ T₂ _ L hQ ⟨X2, P.2.1, P.2.2.1, P.2.2.2.1, P.2.2.2.2.1, rfl⟩)
theorem mfBack {y : MethodName} {cb : ByteArray} {mL : Nat} {ret : Option FieldType} {rm : Room} {len W : Nat} {as' : Array Value} {Q : Option Value → Heap → List Loc → Prop} (M : MF l Z y cb mL ret [] rm as' h Q) (hZ : Z.Warmed39 s.vm) (wc : (Cond.code y cb mL ret).before a0 Z = true) (wz : (Cond.initialized y.cls).before a0 Z = true) (hf : rm.frames + 1 ≤ R.frames) (hl : W + (mL + 11) + rm.locals ≤ R.locals) : Back l R p e below s args y len W (fun A a => a = as' ∧ A.U.heap = h ∧ A.cells + rm.cells ≤ R.cells ∧ A.slots + rm.slots ≤ R.slots) (fun A _ v B => ∃ L, Q v B.U.heap L ∧ B.locs = A.locs ++ L ∧ B.cells = A.cells + rm.cells ∧ B.slots = A.slots + rm.slots) := backOf (Q := Q) M hZ wc wz hf hl
theorem nfs {C : String} {y : MethodName} (P : Wk Z own bytes h p l e R s m args below meth c T locs cells slots) (w : (Cond.selects C y y).before a0 Z = true) : NotFace s y := notFace_of_selects (args := #[]) (mvT P.2.2.2.1 w)
theorem cS {y : MethodName} {ret : Option FieldType} {cb : ByteArray} {mL nn : Nat} {rm : Room} {i W : Nat} {Q : Option Value → Heap → List Loc → Prop} {argsL rest : List Value} (P : Wk Z own bytes h p l e R s m args below meth c T locs cells slots) (hd : decode bytes pc = .ok (.invokestatic i, 3)) (w1 : (Cond.methodLink own i y).before a0 Z = true) (sw : SW Z a0 y cb mL ret nn) (M : MF l Z y cb mL ret [] rm argsL.toArray h Q) (hf : rm.frames + 1 ≤ R.frames) (hl : W + (mL + 11) + rm.locals ≤ R.locals) (hst : st = argsL.reverse ++ rest) (hz : Ls.size = c.maxLocals) (hn : argsL.length = nn) (hW : (rest.map fun v => v.category).sum = W) (hcc : cells + rm.cells ≤ R.cells) (hss : slots + rm.slots ≤ R.slots) (hq : pc + 3 = q) (k : ∀ v T₂ h₂ L, Q v h₂ L → Wk Z own bytes h₂ p l e R s m args below meth c T₂ (locs ++ L) (cells + rm.cells) (slots + rm.slots) → Goes p.tables e below K (T₂.setTop (mkF m q Ls (match v with | none => rest | some x => x :: rest)))) : Goes p.tables e below K (T.setTop (mkF m pc Ls (st))) :=
  invStatic P hd w1 sw.1 sw.2.1 sw.2.2.1 sw.2.2.2.1 (mfBack (W := W) M P.2.2.2.1 sw.2.2.1 sw.2.1 hf hl) rfl hst hz (lenW sw.2.2.2.2 hn) (w0 hW) hcc hss hq k
theorem cI {y : MethodName} {a : Addr} {cb : ByteArray} {mL nn : Nat} {rm : Room} {i W : Nat} {Q : Option Value → Heap → List Loc → Prop} {argsL rest : List Value} (P : Wk Z own bytes h p l e R s m args below meth c T locs cells slots) (hd : decode bytes pc = .ok (.invokespecial i, 3)) (w1 : (Cond.methodLink own i y).before a0 Z = true) (sw : IW Z a0 y cb mL nn) (M : MF l Z y cb mL none [] rm (.ref a :: argsL).toArray h Q) (hf : rm.frames + 1 ≤ R.frames) (hl : W + (mL + 11) + rm.locals ≤ R.locals) (hst : st = argsL.reverse ++ .ref a :: rest) (hz : Ls.size = c.maxLocals) (hn : argsL.length = nn) (hW : (rest.map fun v => v.category).sum = W) (hcc : cells + rm.cells ≤ R.cells) (hss : slots + rm.slots ≤ R.slots) (hq : pc + 3 = q) (k : ∀ v T₂ h₂ L, Q v h₂ L → Wk Z own bytes h₂ p l e R s m args below meth c T₂ (locs ++ L) (cells + rm.cells) (slots + rm.slots) → Goes p.tables e below K (T₂.setTop (mkF m q Ls (match v with | none => rest | some x => x :: rest)))) : Goes p.tables e below K (T.setTop (mkF m pc Ls (st))) :=
  invSpecial P hd sw.1 w1 sw.2.1 sw.2.2.2.1 sw.2.2.2.2.1 (mfBack (W := W) M P.2.2.2.1 sw.2.2.2.1 sw.2.2.1 hf hl) rfl hst hz (lenW sw.2.2.2.2.2 hn) (w0 hW) hcc hss hq k
theorem cV {y z : MethodName} {ret : Option FieldType} {a : Addr} {C : String} {cb : ByteArray} {mL nn : Nat} {rm : Room} {i W : Nat} {Q : Option Value → Heap → List Loc → Prop} {argsL rest : List Value} (P : Wk Z own bytes h p l e R s m args below meth c T locs cells slots) (hd : decode bytes pc = .ok (.invokevirtual i, 3)) (w1 : (Cond.methodLink own i y).before a0 Z = true) (sw : VW Z a0 C y z cb mL ret nn) (nf : NotFace s y) (E : Exa Z h a C) (M : MF l Z z cb mL ret [] rm (.ref a :: argsL).toArray h Q) (hf : rm.frames + 1 ≤ R.frames) (hl : W + (mL + 11) + rm.locals ≤ R.locals) (hst : st = argsL.reverse ++ .ref a :: rest) (hz : Ls.size = c.maxLocals) (hn : argsL.length = nn) (hW : (rest.map fun v => v.category).sum = W) (hcc : cells + rm.cells ≤ R.cells) (hss : slots + rm.slots ≤ R.slots) (hq : pc + 3 = q) (k : ∀ v T₂ h₂ L, Q v h₂ L → Wk Z own bytes h₂ p l e R s m args below meth c T₂ (locs ++ L) (cells + rm.cells) (slots + rm.slots) → Goes p.tables e below K (T₂.setTop (mkF m q Ls (match v with | none => rest | some x => x :: rest)))) : Goes p.tables e below K (T.setTop (mkF m pc Ls (st))) :=
  invVirtual P hd w1 sw.1 sw.2.1 sw.2.2.1 nf sw.2.2.2.2.2.1 (mfBack (W := W) M P.2.2.2.1 sw.2.2.2.2.1 sw.2.2.2.1 hf hl) E rfl hst hz (lenW sw.2.2.2.2.2.2 hn) (w0 hW) hcc hss hq k
theorem cW {y z : MethodName} {ret : Option FieldType} {aR : Addr} {C : String} {cb : ByteArray} {mL nn : Nat} {kc ks : Nat} {i W : Nat} {Q : Option Value → Heap → List Loc → Prop} {argsL rest : List Value} (P : Wk Z own bytes h p l e R s m args below meth c T locs cells slots) (hd : decode bytes pc = .ok (.invokevirtual i, 3)) (w1 : (Cond.methodLink own i y).before a0 Z = true) (sw : VW Z a0 C y z cb mL ret nn) (nf : NotFace s y) (E : Exa Z h aR C) (B : Back l R p e below s args z 3 W (fun A a => a = (.ref aR :: argsL).toArray ∧ A.U.heap = h ∧ A.cells + kc ≤ R.cells ∧ A.slots + ks ≤ R.slots) (fun A _ v B => ∃ L, Q v B.U.heap L ∧ B.locs = A.locs ++ L ∧ B.cells = A.cells + kc ∧ B.slots = A.slots + ks)) (hst : st = argsL.reverse ++ .ref aR :: rest) (hz : Ls.size = c.maxLocals) (hn : argsL.length = nn) (hW : (rest.map fun v => v.category).sum = W) (hcc : cells + kc ≤ R.cells) (hss : slots + ks ≤ R.slots) (hq : pc + 3 = q) (k : ∀ v T₂ h₂ L, Q v h₂ L → Wk Z own bytes h₂ p l e R s m args below meth c T₂ (locs ++ L) (cells + kc) (slots + ks) → Goes p.tables e below K (T₂.setTop (mkF m q Ls (match v with | none => rest | some x => x :: rest)))) : Goes p.tables e below K (T.setTop (mkF m pc Ls (st))) :=
  invVirtual P hd w1 sw.1 sw.2.1 sw.2.2.1 nf sw.2.2.2.2.2.1 B E rfl hst hz (lenW sw.2.2.2.2.2.2 hn) (w0 hW) hcc hss hq k
theorem retV {kc ks : Nat} {Q : Option Value → Heap → List Loc → Prop}  (P : Wk Z own bytes h p l e R s m args below meth c T locs cells slots) (hd : decode bytes pc = .ok (.return_, 1)) (hret : meth.sig.returnType = none) (hlk : meth.locks = false) (hc : cells ≤ kc) (hs : slots ≤ ks) (hQ : Q none h locs) : Goes p.tables e below (KE Q s kc ks) (T.setTop (mkF m pc Ls ([]))) := by
  obtain ⟨fs, hr, hrun, hended, hW, hsame⟩ := P.1.leave (v := none) (fun h => by first | rfl | (rw [hret] at h; cases h)) hlk
  exact ⟨_, _, P.1.returnOut P.2.1 hret (hb P.2.2.1 hd) hr, hrun, hended, _, _, rfl, by show Q _ T.heap _; rw [P.2.2.2.2.2]; exact hQ, ⟨_, rfl⟩, hW, hsame.mono hc hs⟩
theorem retZ {kc ks : Nat} {Q : Option Value → Heap → List Loc → Prop} {t : FieldType} {z : Int32} (P : Wk Z own bytes h p l e R s m args below meth c T locs cells slots) (hd : decode bytes pc = .ok (.ireturn, 1)) (hret : meth.sig.returnType = some t) (ht : t = .boolean ∨ t = .byte ∨ t = .char ∨ t = .short) (hlk : meth.locks = false) (hc : cells ≤ kc) (hs : slots ≤ ks) (hQ : Q (some (.int (nar t z))) h locs) : Goes p.tables e below (KE Q s kc ks) (T.setTop (mkF m pc Ls (.int z :: st))) := by
  obtain ⟨fs, hr, hrun, hended, hW, hsame⟩ := P.1.leave (v := (some (.int (nar t z)))) (fun h => by first | rfl | (rw [hret] at h; cases h)) hlk
  exact ⟨_, _, retN P.1 P.2.1 hret ht (hb P.2.2.1 hd) hr, hrun, hended, _, _, rfl, by show Q _ T.heap _; rw [P.2.2.2.2.2]; exact hQ, ⟨_, rfl⟩, hW, hsame.mono hc hs⟩
theorem retI {kc ks : Nat} {Q : Option Value → Heap → List Loc → Prop} {z : Int32} (P : Wk Z own bytes h p l e R s m args below meth c T locs cells slots) (hd : decode bytes pc = .ok (.ireturn, 1)) (hret : meth.sig.returnType = some .int) (hlk : meth.locks = false) (hc : cells ≤ kc) (hs : slots ≤ ks) (hQ : Q (some (.int z)) h locs) : Goes p.tables e below (KE Q s kc ks) (T.setTop (mkF m pc Ls (.int z :: st))) := by
  obtain ⟨fs, hr, hrun, hended, hW, hsame⟩ := P.1.leave (v := (some (.int z))) (fun h => by first | rfl | (rw [hret] at h; cases h)) hlk
  exact ⟨_, _, retOut P.1 P.2.1 hret rfl (Or.inl ⟨rfl, Or.inl rfl, _, rfl⟩) (hb P.2.2.1 hd) hr, hrun, hended, _, _, rfl, by show Q _ T.heap _; rw [P.2.2.2.2.2]; exact hQ, ⟨_, rfl⟩, hW, hsame.mono hc hs⟩
theorem retA {kc ks : Nat} {Q : Option Value → Heap → List Loc → Prop} {t : FieldType} {v : Value} (P : Wk Z own bytes h p l e R s m args below meth c T locs cells slots) (hd : decode bytes pc = .ok (.areturn, 1)) (hret : meth.sig.returnType = some t) (ht : t.isReference = true) (hv : v.isRef = true) (hn : narrow t v = v) (hlk : meth.locks = false) (hc : cells ≤ kc) (hs : slots ≤ ks) (hQ : Q (some v) h locs) : Goes p.tables e below (KE Q s kc ks) (T.setTop (mkF m pc Ls (v :: st))) := by
  obtain ⟨fs, hr, hrun, hended, hW, hsame⟩ := P.1.leave (v := (some v)) (fun h => by first | rfl | (rw [hret] at h; cases h)) hlk
  exact ⟨_, _, retOut P.1 P.2.1 hret hn (Or.inr (Or.inr (Or.inr (Or.inr ⟨rfl, ht, hv⟩)))) (hb P.2.2.1 hd) hr, hrun, hended, _, _, rfl, by show Q _ T.heap _; rw [P.2.2.2.2.2]; exact hQ, ⟨_, rfl⟩, hW, hsame.mono hc hs⟩
theorem Wk.up {c2 s2 : Nat} (P : Wk Z own bytes h p l e R s m args below meth c T locs cells slots) (hc : cells ≤ c2) (hs : slots ≤ s2) : Wk Z own bytes h p l e R s m args below meth c T locs c2 s2 := ⟨P.1.mono hc hs, P.2⟩
end Steps
theorem refc {v : Value} (h : v.isRef = true) : v = .null ∨ ∃ a, v = .ref a := by
  cases v <;> first | exact Or.inl rfl | exact Or.inr ⟨_, rfl⟩ | cases h
theorem ltb {i n : Nat} (h : Nat.ble (i + 1) n = true) : i < n := Nat.le_of_ble_eq_true h
theorem leb {i n : Nat} (h : Nat.ble i n = true) : i ≤ n := Nat.le_of_ble_eq_true h
theorem Ext.rf (h : Heap) : Ext h h := ⟨Nat.le_refl _, fun _ _ q => q⟩
theorem Ext.tr {h h' h2 : Heap} (A : Ext h h') (B : Ext h' h2) : Ext h h2 := ⟨Nat.le_trans A.1 B.1, fun a c q => B.2 a c (A.2 a c q)⟩
theorem Ext.wr {h h' h2 : Heap} {a : Addr} {sl : Nat} {v : Value} (A : Ext h h') (W : Wr h' h2 a sl v) (q : h.size ≤ a) : Ext h h2 := ⟨by rw [W.size]; exact A.1, fun b c hb => by
  have hb2 := A.2 b c hb
  obtain ⟨c2, g1, -, -, -, g5, -⟩ := wr_at W hb2
  have hne : b ≠ a := fun e => by subst e; exact absurd (Array.getElem?_eq_some_iff.mp hb).1 (Nat.not_lt.mpr q)
  rw [g1, g5 hne]⟩
theorem Ext.kp {h h' h2 : Heap} {ws : List Addr} (A : Ext h h') (K : Keep h' h2 ws) (q : ∀ x ∈ ws, h.size ≤ x) : Ext h h2 := ⟨Nat.le_trans A.1 K.1, fun b c hb => K.2.1 b c (A.2 b c hb) fun hm => absurd (Array.getElem?_eq_some_iff.mp hb).1 (Nat.not_lt.mpr (q b hm))⟩
theorem Fr.one {k : Nat} {L : List Loc} {lc : Loc} {a : Addr} (N : Fr k L) (e : lc.base = a) (q : k ≤ a) : Fr k (L ++ [lc]) := N.app fun y hy => by cases List.mem_singleton.mp hy; rw [e]; exact q
end Own
end Jvm.Pilot.@@N@@
namespace Jvm.Pilot.@@N@@
namespace Own
open Jvm Jvm.ClassFile Sem Op Lib Jvm.Free Jvm.Stand Jvm.LawKit Jvm.RoadKit Bundle
theorem i2c_id16 {x : Int32} (h : ¬ x < 0 ∧ ¬ (65535 : Int32) < x) : x.toUInt32.toUInt16.toUInt32.toInt32 = x := by
  obtain ⟨g1, g2, g3⟩ := c_i2c x
  have h0 : (0 : Int32).toInt = 0 := rfl
  have h5 : (65535 : Int32).toInt = 65535 := rfl
  obtain ⟨a, b⟩ := h
  rw [Int32.lt_iff_toInt_lt, h0] at a
  rw [Int32.lt_iff_toInt_lt, h5] at b
  exact Int32.toInt_inj.mp (by omega)
theorem up16 {x : Int32} (h : ¬ x < 0 ∧ ¬ (255 : Int32) < x) : ¬ x < 0 ∧ ¬ (65535 : Int32) < x := by
  refine ⟨h.1, fun q => h.2 ?_⟩
  have h5 : (65535 : Int32).toInt = 65535 := rfl
  have h2 : (255 : Int32).toInt = 255 := rfl
  rw [Int32.lt_iff_toInt_lt] at q ⊢
  omega
theorem i2c_id {x : Int32} (h : ¬ x < 0 ∧ ¬ (255 : Int32) < x) : x.toUInt32.toUInt16.toUInt32.toInt32 = x := i2c_id16 (up16 h)
theorem nar_id {x : Int32} (h : ¬ x < 0 ∧ ¬ (255 : Int32) < x) : nar .char x = x := i2c_id h
theorem nar_id16 {x : Int32} (h : ¬ x < 0 ∧ ¬ (65535 : Int32) < x) : nar .char x = x := i2c_id16 h
theorem nar_b (x : Int32) : nar .byte x.toInt8.toInt32 = x.toInt8.toInt32 := by simp [nar]
theorem fits_b (x : Int32) : fits .byte (.int x.toInt8.toInt32) = true := fits_nar_byte x
theorem ch0 {P : Int32 → Prop} : ∀ c ∈ ([] : List Int32), P c := fun _ q => nomatch q
theorem chS {P : Int32 → Prop} {a : Int32} {cs : List Int32} (h : P a) (r : ∀ c ∈ cs, P c) : ∀ c ∈ a :: cs, P c := fun c q => (List.mem_cons.mp q).elim (fun u => u ▸ h) (r c)
/-- the object at a is a compact String of the chars cs, each 0 to 255 -/
def Str (Z : State) (h : Heap) (a : Addr) (cs : List Int32) : Prop :=
  (∃ t kb, Exa Z h a "java/lang/String" ∧ Fld Z h a "java/lang/String" "value" "[B" (.ref t) ∧ Fld Z h a "java/lang/String" "coder" "B" (.int 0) ∧ Arv Z h t kb .byte (Int32.ofNat cs.length) ((cs.map fun c => c.toInt8.toInt32).map Value.int) (.int 0)) ∧ (∀ c ∈ cs, ¬ c < 0 ∧ ¬ (255 : Int32) < c) ∧ cs.length ≤ 4000
theorem Str.ext {Z : State} {h h' : Heap} {a : Addr} {cs : List Int32} (S : Str Z h a cs) (E : Ext h h') : Str Z h' a cs := by
  obtain ⟨⟨t, kb, s1, s2, s3, s4⟩, r⟩ := S
  exact ⟨⟨t, kb, s1.ext E, s2.ext E, s3.ext E, s4.ext E⟩, r⟩
theorem Str.exa {Z : State} {h : Heap} {a : Addr} {cs : List Int32} (S : Str Z h a cs) : Exa Z h a "java/lang/String" := by obtain ⟨⟨t, kb, s1, -⟩, -⟩ := S; exact s1
theorem Sta_kp1 {Z : State} {h h' : Heap} {x : Addr} {C D n d : String} {v : Value} (S : Sta Z h D n d v) (K : Keep h h' [x]) (E : Exa Z h x C) : Sta Z h' D n d v := by
  obtain ⟨cf, i, k, f, st, cell, t1, t2, t3, t4, t5, t6, t7⟩ := S
  obtain ⟨cx, kx, e1, -, -, e4, -⟩ := E
  have ne : st ≠ x := fun q => by
    subst q
    cases t5.symm.trans e1
    rw [e4] at t6
    cases t6
  exact ⟨cf, i, k, f, st, cell, t1, t2, t3, t4, K.2.1 _ _ t5 (ninS ne nin0), t6, t7⟩
theorem Sta_kpA {Z : State} {h h' : Heap} {x : Addr} {k : ClassId} {ty : FieldType} {z : Int32} {vs : List Value} {dv : Value} {D n d : String} {v : Value} (S : Sta Z h D n d v) (K : Keep h h' [x]) (A : Arv Z h x k ty z vs dv) : Sta Z h' D n d v := by
  obtain ⟨cf, i, kk, f, st, cell, t1, t2, t3, t4, t5, t6, t7⟩ := S
  obtain ⟨cl, Ar, -⟩ := A
  have ne : st ≠ x := fun q => by
    subst q
    cases t5.symm.trans Ar.1
    cases hv : cell.vm <;> rw [hv] at t6 <;> first | (cases t6; done) | exact Ar.2.1.1 _ hv
  exact ⟨cf, i, kk, f, st, cell, t1, t2, t3, t4, K.2.1 _ _ t5 (ninS ne nin0), t6, t7⟩
theorem byte_inj {x y : Int32} (hx : ¬ x < 0 ∧ ¬ (255 : Int32) < x) (hy : ¬ y < 0 ∧ ¬ (255 : Int32) < y) (h : x.toInt8.toInt32 = y.toInt8.toInt32) : x = y := by
  obtain ⟨a1, -, -⟩ := c_i2b x
  obtain ⟨b1, -, -⟩ := c_i2b y
  have h0 : (0 : Int32).toInt = 0 := rfl
  have h5 : (255 : Int32).toInt = 255 := rfl
  have e : x.toInt8.toInt32.toInt = y.toInt8.toInt32.toInt := by rw [h]
  obtain ⟨u1, u2⟩ := hx
  obtain ⟨v1, v2⟩ := hy
  rw [Int32.lt_iff_toInt_lt] at u1 u2 v1 v2
  exact Int32.toInt_inj.mp (by omega)
theorem bytes_inj : ∀ {cs ds : List Int32}, (∀ c ∈ cs, ¬ c < 0 ∧ ¬ (255 : Int32) < c) → (∀ c ∈ ds, ¬ c < 0 ∧ ¬ (255 : Int32) < c) → (cs.map fun c => c.toInt8.toInt32) = (ds.map fun c => c.toInt8.toInt32) → cs = ds
  | [], [], _, _, _ => rfl
  | [], _ :: _, _, _, h => by simp at h
  | _ :: _, [], _, _, h => by simp at h
  | c :: cs, d :: ds, hc, hd, h => by
    simp only [List.map_cons, List.cons.injEq] at h
    rw [byte_inj (hc c (by simp)) (hd d (by simp)) h.1, bytes_inj (fun x hx => hc x (by simp [hx])) (fun x hx => hd x (by simp [hx])) h.2]
theorem ofNat_inj {n k : Nat} (hn : n ≤ 4000) (hk : k ≤ 4000) (h : Int32.ofNat n = Int32.ofNat k) : n = k := by
  have a : (Int32.ofNat n).toInt = n := Int32.toInt_ofNat_of_lt (by omega)
  have b : (Int32.ofNat k).toInt = k := Int32.toInt_ofNat_of_lt (by omega)
  rw [h, b] at a
  omega
theorem Str.inj {Z : State} {h : Heap} {a : Addr} {cs ds : List Int32} (S : Str Z h a cs) (T : Str Z h a ds) : cs = ds := by
  obtain ⟨⟨t, kb, -, s2, -, c1, A1, -, z1, -, H1, -⟩, p1, l1⟩ := S
  obtain ⟨⟨u, ku, -, t2, -, c2, A2, -, z2, -, H2, -⟩, p2, l2⟩ := T
  have e : (Value.ref t) = .ref u := Classical.byContradiction fun q => Fld.ne s2 t2 q rfl
  cases e
  cases A1.1.symm.trans A2.1
  have m1 : (Int32.ofNat cs.length).toNatClampNeg = cs.length := by simp only [Int32.toNatClampNeg, Int32.toInt_ofNat_of_lt (show cs.length < 2 ^ 31 by omega)]; rfl
  have m2 : (Int32.ofNat ds.length).toNatClampNeg = ds.length := by simp only [Int32.toNatClampNeg, Int32.toInt_ofNat_of_lt (show ds.length < 2 ^ 31 by omega)]; rfl
  have n1 : cs.length = ds.length := by omega
  refine bytes_inj p1 p2 (List.ext_getElem (by simp [n1]) fun i g1 g2 => ?_)
  have q1 := H1 i (by simp at g1; omega)
  have q2 := H2 i (by simp at g1; omega)
  rw [q1] at q2
  have q3 := Option.some.inj q2
  simp only [List.getD_eq_getElem?_getD] at q3
  simp at g1
  simp [g1, n1 ▸ g1] at q3
  simpa using q3
theorem Str.up {Z : State} {h : Heap} {a : Addr} {cs : List Int32} (S : Str Z h a cs) : ∀ c ∈ cs, ¬ c < 0 ∧ ¬ (65535 : Int32) < c := fun c hc => up16 (S.2.1 c hc)
end Own
end Jvm.Pilot.@@N@@
/- laws to paste: Road.backV, Road.lenW, Road.chN (cut by pick.py; bodies as the Statement names them) -/
namespace Jvm.Pilot.@@N@@
namespace StrChars
open Jvm Sem ClassFile Op Lib Jvm.Stand Jvm.Free.XT Jvm.Free.ALB Jvm.Free.JM Jvm.Free
open Jvm.Lib.Cold (StaticIs)
/-- a char array whose places are chars -/
def Ch (a : Addr) (A : Cell) (U : State) : Prop := Arr .char a A U ∧ Typed .char A
theorem Ch.mv {a : Addr} {A : Cell} {U U' : State} (h : Ch a A U) (hal : U.vm.Alike U'.vm) (hh : U'.heap = U.heap) : Ch a A U' := ⟨h.1.mv hal hh, h.2⟩
theorem Ch.keep {a : Addr} {A : Cell} {U U' : State} (h : Ch a A U) (hal : U.vm.Alike U'.vm) (hk : U'.heap[a]? = some A) : Ch a A U' := ⟨h.1.keep hal hk, h.2⟩
/-- what place i of a char[]'s cell holds -/
def cv (A : Cell) (i : Nat) : Int32 := match A.slots[i]? with | some (.int x) => x | _ => 0
theorem Ch.get {a : Addr} {A : Cell} {U : State} (h : Ch a A U) {i : Nat} (hi : i < A.slots.size) : A.slots[i]? = some (.int (cv A i)) := by
  have e := Array.getElem?_eq_getElem hi
  have f := h.2 i _ e
  unfold cv; rw [e]
  generalize A.slots[i] = v at f
  cases v <;> simp [fits] at f ⊢
/-- the byte that i2b leaves of a char -/
def lo8 (x : Int32) : Int32 := x.toInt8.toInt32
theorem fits_lo8 (y : Int32) : fits .byte (.int (lo8 y)) = true := by
  have h1 := y.toInt8.le_toInt
  have h2 := y.toInt8.toInt_lt
  simp only [lo8, fits, Bool.and_eq_true, decide_eq_true_eq, Int32.le_iff_toInt_le, Int8.toInt_toInt32, show (-128 : Int32).toInt = -128 from by decide, show (127 : Int32).toInt = 127 from by decide]
  omega
/-- A' is A but that each place j of lo .. hi - 1 holds f j -/
def Laid (A A' : Cell) (lo hi : Nat) (f : Nat → Value) : Prop := A'.cls = A.cls ∧ A'.vm = A.vm ∧ A'.slots.size = A.slots.size ∧ ∀ i, A'.slots[i]? = if lo ≤ i ∧ i < hi then some (f i) else A.slots[i]?
theorem Laid.zero (A : Cell) (lo : Nat) (f : Nat → Value) : Laid A A lo (lo + 0) f := ⟨rfl, rfl, rfl, fun i => by rw [if_neg (by omega)]⟩
theorem Laid.step {A Ak : Cell} {lo k : Nat} {f : Nat → Value} {v : Value} (h : Laid A Ak lo k f) (hlo : lo ≤ k) (hk : k < Ak.slots.size) (hv : v = f k) : Laid A (Ak.setSlot k v) lo (k + 1) f := by
  refine ⟨h.1, h.2.1, by simpa [Cell.setSlot] using h.2.2.1, fun i => ?_⟩
  by_cases e : k = i
  · subst e; rw [Cell.slots_setSlot_self v hk, if_pos (by omega), hv]
  · rw [Cell.slots_setSlot_ne v e, h.2.2.2 i]
    by_cases q : lo ≤ i ∧ i < k
    · rw [if_pos q, if_pos (by omega)]
    · rw [if_neg q, if_neg (by omega)]
def U16 : String := "java/lang/StringUTF16"
namespace Cmp5
def yN : MethodName := ⟨"java/lang/StringUTF16", "compress", "([CI[BII)I"⟩
abbrev yB : ByteArray := jdk_52_method_21_code
theorem d0 : decode yB 0 = .ok (.iconst 0, 1) := by decide +kernel
theorem d1 : decode yB 1 = .ok (.istore 5, 2) := by decide +kernel
theorem d3 : decode yB 3 = .ok (.iload 5, 2) := by decide +kernel
theorem d5 : decode yB 5 = .ok (.iload 4, 2) := by decide +kernel
theorem d7 : decode yB 7 = .ok (.if_icmp (.ge) 37, 3) := by decide +kernel
theorem d10 : decode yB 10 = .ok (.aload_n 0, 1) := by decide +kernel
theorem d11 : decode yB 11 = .ok (.iload_n 1, 1) := by decide +kernel
theorem d12 : decode yB 12 = .ok (.caload, 1) := by decide +kernel
theorem d13 : decode yB 13 = .ok (.istore 6, 2) := by decide +kernel
theorem d15 : decode yB 15 = .ok (.iload 6, 2) := by decide +kernel
theorem d17 : decode yB 17 = .ok (.sipush 255, 3) := by decide +kernel
theorem d20 : decode yB 20 = .ok (.if_icmp (.le) 6, 3) := by decide +kernel
theorem d26 : decode yB 26 = .ok (.aload_n 2, 1) := by decide +kernel
theorem d27 : decode yB 27 = .ok (.iload_n 3, 1) := by decide +kernel
theorem d28 : decode yB 28 = .ok (.iload 6, 2) := by decide +kernel
theorem d30 : decode yB 30 = .ok (.i2b, 1) := by decide +kernel
theorem d31 : decode yB 31 = .ok (.bastore, 1) := by decide +kernel
theorem d32 : decode yB 32 = .ok (.iinc 1 1, 3) := by decide +kernel
theorem d35 : decode yB 35 = .ok (.iinc 3 1, 3) := by decide +kernel
theorem d38 : decode yB 38 = .ok (.iinc 5 1, 3) := by decide +kernel
theorem d41 : decode yB 41 = .ok (.goto (-38), 3) := by decide +kernel
theorem d44 : decode yB 44 = .ok (.iload 4, 2) := by decide +kernel
theorem d46 : decode yB 46 = .ok (.ireturn, 1) := by decide +kernel
def site : List Cond := []
def tab : Cond := tabOf yN yB 7 (some .int) site
def P (b : Addr) (A : Cell) (d : Addr) (B : Cell) (o q len : Nat) (args : Array Value) (s : State) : Prop := args = #[.ref b, .int (Int32.ofNat o), .ref d, .int (Int32.ofNat q), .int (Int32.ofNat len)] ∧ Ch b A s ∧ Arr .byte d B s ∧ b ≠ d ∧ o + len ≤ A.slots.size ∧ q + len ≤ B.slots.size ∧ ∀ i, i < len → ¬ 255 < cv A (o + i)
def E (b : Addr) (A : Cell) (d : Addr) (B : Cell) (o q len : Nat) (r : Option Value) (s u : State) : Prop := r = some (.int (Int32.ofNat len)) ∧ ∃ B', Put d B' s u ∧ Laid B B' q (q + len) (fun j => Value.int (lo8 (cv A (o + (j - q)))))
/-- no char of the range above 255: len; the places written hold each char's low byte -/
theorem law (l : Launch) (b : Addr) (A : Cell) (d : Addr) (B : Cell) (o q len : Nat) : Law l yN 5 5 0 0 yB 7 (some .int) site (P b A d B o q len) (E b A d B o q len) (copyLocs d q len) 0 0 := by
  refine Law.of_walk (plainFor_of_name (by decide +kernel)) (by decide +kernel) (by decide +kernel) (by decide) (fun _ _ h => by rw [h.1]; rfl) (fun _ U U' hal hh h => ⟨h.1, h.2.1.mv hal hh, h.2.2.1.mv hal hh, h.2.2.2⟩) (fun r U U' V V' h1 hal h2 h => ⟨h.1, h.2.elim fun B' q => ⟨B', q.1.mv h1 h2, q.2⟩⟩) ?_
  intro p e s m args below meth c s₁ X0 hexec hbytes hml hret hlk hnm hown hh0 W hP
  obtain ⟨rfl, hA, hB, hne, l1, l2, hp⟩ := hP
  have c1 : Steps p.tables e below (s₁.setTop (entryFrame m #[.ref b, .int (Int32.ofNat o), .ref d, .int (Int32.ofNat q), .int (Int32.ofNat len)] 7)) (s₁.setTop (mkF m 0 #[.val (.ref b), .val (.int (Int32.ofNat o)), .val (.ref d), .val (.int (Int32.ofNat q)), .val (.int (Int32.ofNat len)), .unset, .unset] [])) := entry rfl
  have hA0 := hA.1.mv X0.warmed.alike hh0
  have hB0 := hB.mv X0.warmed.alike hh0
  have a31 := hA.1.2.2.2
  have c2 : Steps p.tables e below (s₁.setTop (entryFrame m #[.ref b, .int (Int32.ofNat o), .ref d, .int (Int32.ofNat q), .int (Int32.ofNat len)] 7)) (s₁.setTop (mkF m 3 #[.val (.ref b), .val (.int (Int32.ofNat o)), .val (.ref d), .val (.int (Int32.ofNat q)), .val (.int (Int32.ofNat len)), .val (.int 0), .unset] [])) := c1.trans (by
    refine iconstV X0.here hexec rfl 0 (hb hbytes d0) (by decide) ?_
    refine XS.istore X0.here hexec rfl (hb hbytes d1) rfl rfl ?_
    exact Steps.refl _)
  have loop : ∀ (r i : Nat), i + r = len → ∀ (z : Slot), (z = .unset ∨ ∃ w, z = .val w ∧ w.category = 1) → ∀ (Tl : State) (Bk : Cell), Stand p l e { frames := 0, locals := 0, cells := 0, slots := 0 } s m #[.ref b, .int (Int32.ofNat o), .ref d, .int (Int32.ofNat q), .int (Int32.ofNat len)] below meth c Tl ([] ++ copyLocs d q i) 0 0 → Put d Bk s₁ Tl → Laid B Bk q (q + i) (fun j => Value.int (lo8 (cv A (o + (j - q))))) →
      Steps p.tables e below (s₁.setTop (entryFrame m #[.ref b, .int (Int32.ofNat o), .ref d, .int (Int32.ofNat q), .int (Int32.ofNat len)] 7)) (Tl.setTop (mkF m 3 #[.val (.ref b), .val (.int (Int32.ofNat (o + i))), .val (.ref d), .val (.int (Int32.ofNat (q + i))), .val (.int (Int32.ofNat len)), .val (.int (Int32.ofNat i)), z] [])) → ∃ (T' : State) (B' : Cell) (z' : Slot), Stand p l e { frames := 0, locals := 0, cells := 0, slots := 0 } s m #[.ref b, .int (Int32.ofNat o), .ref d, .int (Int32.ofNat q), .int (Int32.ofNat len)] below meth c T' ([] ++ copyLocs d q len) 0 0 ∧ Put d B' s₁ T' ∧ Laid B B' q (q + len) (fun j => Value.int (lo8 (cv A (o + (j - q))))) ∧
      Steps p.tables e below (s₁.setTop (entryFrame m #[.ref b, .int (Int32.ofNat o), .ref d, .int (Int32.ofNat q), .int (Int32.ofNat len)] 7)) (T'.setTop (mkF m 3 #[.val (.ref b), .val (.int (Int32.ofNat (o + len))), .val (.ref d), .val (.int (Int32.ofNat (q + len))), .val (.int (Int32.ofNat len)), .val (.int (Int32.ofNat len)), z'] [])) := by
    intro r
    induction r with
    | zero =>
      intro i hi z hz Tl Bk Xl pl fl cl
      have hil : i = len := by omega
      rw [hil] at Xl fl cl
      exact ⟨Tl, Bk, z, Xl, pl, fl, cl⟩
    | succ r ih =>
      intro i hi z hz Tl Bk Xl pl fl cl
      have all := X0.warmed.alike.symm.trans Xl.warmed.alike
      have hAl := hA0.keep all (pl.other hne hA0.1)
      have hBk := hB0.like all pl.1 fl.1 fl.2.1 fl.2.2.1
      have hlt : q + i < Bk.slots.size := by rw [fl.2.2.1]; omega
      have c3 : Steps p.tables e below (s₁.setTop (entryFrame m #[.ref b, .int (Int32.ofNat o), .ref d, .int (Int32.ofNat q), .int (Int32.ofNat len)] 7)) (Tl.setTop (mkF m 12 #[.val (.ref b), .val (.int (Int32.ofNat (o + i))), .val (.ref d), .val (.int (Int32.ofNat (q + i))), .val (.int (Int32.ofNat len)), .val (.int (Int32.ofNat i)), z] [.int (Int32.ofNat (o + i)), .ref b])) := cl.trans (by
        refine XS.iload Xl.here hexec rfl (hb hbytes d3) rfl ?_
        refine XS.iload Xl.here hexec rfl (hb hbytes d5) rfl ?_
        refine XS.icmpNo Xl.here hexec rfl (hb hbytes d7) rfl (ii_ge_f (lt32 (by omega) (by omega))) ?_
        refine XS.aloadN Xl.here hexec rfl (hb hbytes d10) rfl rfl ?_
        refine XS.iloadN Xl.here hexec rfl (hb hbytes d11) rfl ?_
        exact Steps.refl _)
      have c4 : Steps p.tables e below (s₁.setTop (entryFrame m #[.ref b, .int (Int32.ofNat o), .ref d, .int (Int32.ofNat q), .int (Int32.ofNat len)] 7)) (Tl.setTop (mkF m 13 #[.val (.ref b), .val (.int (Int32.ofNat (o + i))), .val (.ref d), .val (.int (Int32.ofNat (q + i))), .val (.int (Int32.ofNat len)), .val (.int (Int32.ofNat i)), z] [.int (cv A (o + i))])) := c3.trans (by
        refine Xl.aget hexec hAl rfl (hA.get (i := o + i) (by omega)) rfl rfl (hb hbytes d12) ?_
        exact Steps.refl _)
      have c5 : Steps p.tables e below (s₁.setTop (entryFrame m #[.ref b, .int (Int32.ofNat o), .ref d, .int (Int32.ofNat q), .int (Int32.ofNat len)] 7)) (Tl.setTop (mkF m 15 #[.val (.ref b), .val (.int (Int32.ofNat (o + i))), .val (.ref d), .val (.int (Int32.ofNat (q + i))), .val (.int (Int32.ofNat len)), .val (.int (Int32.ofNat i)), .val (.int (cv A (o + i)))] [])) := c4.trans (by
        refine XS.istoreS Xl.here hexec rfl (hb hbytes d13) rfl rfl hz ?_
        exact Steps.refl _)
      have c6 : Steps p.tables e below (s₁.setTop (entryFrame m #[.ref b, .int (Int32.ofNat o), .ref d, .int (Int32.ofNat q), .int (Int32.ofNat len)] 7)) (Tl.setTop (mkF m 31 #[.val (.ref b), .val (.int (Int32.ofNat (o + i))), .val (.ref d), .val (.int (Int32.ofNat (q + i))), .val (.int (Int32.ofNat len)), .val (.int (Int32.ofNat i)), .val (.int (cv A (o + i)))] [.int (lo8 (cv A (o + i))), .int (Int32.ofNat (q + i)), .ref d])) := c5.trans (by
        refine XS.iload Xl.here hexec rfl (hb hbytes d15) rfl ?_
        refine sipushV Xl.here hexec rfl 255 (hb hbytes d17) (by decide) ?_
        refine XS.icmpYes Xl.here hexec rfl (pc0 := 20) rfl (hb hbytes d20) rfl (ii_le_t (hp i (by omega))) (by decide) rfl ?_
        refine XS.aloadN Xl.here hexec rfl (hb hbytes d26) rfl rfl ?_
        refine XS.iloadN Xl.here hexec rfl (hb hbytes d27) rfl ?_
        refine XS.iload Xl.here hexec rfl (hb hbytes d28) rfl ?_
        refine i2b Xl.here hexec rfl (hb hbytes d30) rfl ?_
        exact Steps.refl _)
      obtain ⟨T7, X7, p7, st7⟩ := Xl.aput hexec hBk rfl hlt rfl (fits_lo8 (cv A (o + i))) (g := (mkF m 31 #[.val (.ref b), .val (.int (Int32.ofNat (o + i))), .val (.ref d), .val (.int (Int32.ofNat (q + i))), .val (.int (Int32.ofNat len)), .val (.int (Int32.ofNat i)), .val (.int (cv A (o + i)))] [.int (lo8 (cv A (o + i))), .int (Int32.ofNat (q + i)), .ref d])) rfl (rest := []) rfl (hb hbytes d31)
      have c8 : Steps p.tables e below (s₁.setTop (entryFrame m #[.ref b, .int (Int32.ofNat o), .ref d, .int (Int32.ofNat q), .int (Int32.ofNat len)] 7)) (T7.setTop (mkF m 32 #[.val (.ref b), .val (.int (Int32.ofNat (o + i))), .val (.ref d), .val (.int (Int32.ofNat (q + i))), .val (.int (Int32.ofNat len)), .val (.int (Int32.ofNat i)), .val (.int (cv A (o + i)))] [])) := c6.trans (st7 _ (Steps.refl _))
      have c9 : Steps p.tables e below (s₁.setTop (entryFrame m #[.ref b, .int (Int32.ofNat o), .ref d, .int (Int32.ofNat q), .int (Int32.ofNat len)] 7)) (T7.setTop (mkF m 3 #[.val (.ref b), .val (.int (Int32.ofNat (o + i) + 1)), .val (.ref d), .val (.int (Int32.ofNat (q + i) + 1)), .val (.int (Int32.ofNat len)), .val (.int (Int32.ofNat i + 1)), .val (.int (cv A (o + i)))] [])) := c8.trans (by
        refine iincV X7.here hexec rfl 1 (hb hbytes d32) (by decide) rfl rfl ?_
        refine iincV X7.here hexec rfl 1 (hb hbytes d35) (by decide) rfl rfl ?_
        refine iincV X7.here hexec rfl 1 (hb hbytes d38) (by decide) rfl rfl ?_
        refine XS.goto X7.here hexec rfl (pc0 := 41) rfl (hb hbytes d41) (by decide) rfl ?_
        exact Steps.refl _)
      have c10 : Steps p.tables e below (s₁.setTop (entryFrame m #[.ref b, .int (Int32.ofNat o), .ref d, .int (Int32.ofNat q), .int (Int32.ofNat len)] 7)) (T7.setTop (mkF m 3 #[.val (.ref b), .val (.int (Int32.ofNat (o + (i + 1)))), .val (.ref d), .val (.int (Int32.ofNat (q + (i + 1)))), .val (.int (Int32.ofNat len)), .val (.int (Int32.ofNat (i + 1))), .val (.int (cv A (o + i)))] [])) := by
        have := c9
        rw [succ32, succ32, succ32] at this
        exact this
      exact ih (i + 1) (by omega) _ (Or.inr ⟨_, rfl, rfl⟩) T7 _ (by rw [copyLocs_step, ← List.append_assoc]; exact X7) (pl.trans p7) (fl.step (by omega) hlt (by simp)) c10
  obtain ⟨T9, B9, z9, X9, p9, f9, g9⟩ := loop len 0 (by omega) .unset (Or.inl rfl) s₁ B (by simpa [copyLocs] using X0) ⟨hB0.1, fun _ _ => rfl, rfl⟩ (Laid.zero _ _ _) c2
  have c11 : Steps p.tables e below (s₁.setTop (entryFrame m #[.ref b, .int (Int32.ofNat o), .ref d, .int (Int32.ofNat q), .int (Int32.ofNat len)] 7)) (T9.setTop (mkF m 46 #[.val (.ref b), .val (.int (Int32.ofNat (o + len))), .val (.ref d), .val (.int (Int32.ofNat (q + len))), .val (.int (Int32.ofNat len)), .val (.int (Int32.ofNat len)), z9] [.int (Int32.ofNat len)])) := g9.trans (by
    refine XS.iload X9.here hexec rfl (hb hbytes d3) rfl ?_
    refine XS.iload X9.here hexec rfl (hb hbytes d5) rfl ?_
    refine XS.icmpYes X9.here hexec rfl (pc0 := 7) rfl (hb hbytes d7) rfl (ii_ge_t (nlt32 (by omega) (Nat.le_refl _))) (by decide) rfl ?_
    refine XS.iload X9.here hexec rfl (hb hbytes d44) rfl ?_
    exact Steps.refl _)
  exact ⟨T9, some (.int (Int32.ofNat len)), _, _, _, X9, by simp, rfl, rfl, (fun h => by cases h), ⟨rfl, B9, p9.from hh0, f9⟩, fun fs hl => c11.trans (X9.ireturnOut hexec hret rfl (Or.inl rfl) (hb hbytes d46) hl)⟩
end Cmp5
namespace Cmp3
def yN : MethodName := ⟨"java/lang/StringUTF16", "compress", "([CII)[B"⟩
abbrev yB : ByteArray := jdk_52_method_16_code
theorem d0 : decode yB 0 = .ok (.iload_n 2, 1) := by decide +kernel
theorem d1 : decode yB 1 = .ok (.newarray .byte, 2) := by decide +kernel
theorem d3 : decode yB 3 = .ok (.astore_n 3, 1) := by decide +kernel
theorem d4 : decode yB 4 = .ok (.aload_n 0, 1) := by decide +kernel
theorem d5 : decode yB 5 = .ok (.iload_n 1, 1) := by decide +kernel
theorem d6 : decode yB 6 = .ok (.aload_n 3, 1) := by decide +kernel
theorem d7 : decode yB 7 = .ok (.iconst 0, 1) := by decide +kernel
theorem d8 : decode yB 8 = .ok (.iload_n 2, 1) := by decide +kernel
theorem d9 : decode yB 9 = .ok (.invokestatic 115, 3) := by decide +kernel
theorem d12 : decode yB 12 = .ok (.istore 4, 2) := by decide +kernel
theorem d14 : decode yB 14 = .ok (.iload 4, 2) := by decide +kernel
theorem d16 : decode yB 16 = .ok (.iload_n 2, 1) := by decide +kernel
theorem d17 : decode yB 17 = .ok (.if_icmp (.eq) 40, 3) := by decide +kernel
theorem d57 : decode yB 57 = .ok (.aload_n 3, 1) := by decide +kernel
theorem d58 : decode yB 58 = .ok (.areturn, 1) := by decide +kernel
def site : List Cond := [.arrayClass .byte, Cmp5.tab] ++ staticW U16 115 Cmp5.yN
def tab : Cond := tabOf yN yB 6 (some (.array .byte)) site
def P (b : Addr) (A : Cell) (o len : Nat) (args : Array Value) (s : State) : Prop := args = #[.ref b, .int (Int32.ofNat o), .int (Int32.ofNat len)] ∧ Ch b A s ∧ o + len ≤ A.slots.size ∧ len ≤ 536870912 ∧ ∀ i, i < len → ¬ 255 < cv A (o + i)
def E (b : Addr) (A : Cell) (o len : Nat) (r : Option Value) (s u : State) : Prop := NewArr .byte "[B" len (fun j => .int (lo8 (cv A (o + j)))) r s u ∧ u.heap.size = s.heap.size + 1
/-- no char of the range above 255: a new byte[] of their low bytes -/
theorem law (l : Launch) (b : Addr) (A : Cell) (o len : Nat) : Law l yN 3 3 1 18 yB 6 (some (.array .byte)) site (P b A o len) (E b A o len) [] 1 len := by
  refine Law.of_walk (plainFor_of_name (by decide +kernel)) (by decide +kernel) (by decide +kernel) (by decide) (fun _ _ h => by rw [h.1]; rfl) (fun _ U U' hal hh h => ⟨h.1, h.2.1.mv hal hh, h.2.2⟩) (fun r U U' V V' h1 hal h2 h => ⟨NewArr.mv r U U' V V' h1 hal h2 h.1, by rw [h1, h2]; exact h.2⟩) ?_
  intro p e s m args below meth c s₁ X0 hexec hbytes hml hret hlk hnm hown hh0 W hP
  obtain ⟨rfl, hA, l1, l2, hp⟩ := hP
  have a31 := hA.1.2.2.2
  have c1 : Steps p.tables e below (s₁.setTop (entryFrame m #[.ref b, .int (Int32.ofNat o), .int (Int32.ofNat len)] 6)) (s₁.setTop (mkF m 0 #[.val (.ref b), .val (.int (Int32.ofNat o)), .val (.int (Int32.ofNat len)), .unset, .unset, .unset] [])) := entry rfl
  have c2 : Steps p.tables e below (s₁.setTop (entryFrame m #[.ref b, .int (Int32.ofNat o), .int (Int32.ofNat len)] 6)) (s₁.setTop (mkF m 1 #[.val (.ref b), .val (.int (Int32.ofNat o)), .val (.int (Int32.ofNat len)), .unset, .unset, .unset] [.int (Int32.ofNat len)])) := c1.trans (by
    refine XS.iloadN X0.here hexec rfl (hb hbytes d0) rfl ?_
    exact Steps.refl _)
  obtain ⟨T3, B3, X3, ba3, bs3, bv3, bh3, bf3, st3⟩ := X0.anew hexec (atype := .byte) (wk W (.arrayClass .byte)) rfl (by show len * 1 ≤ _; omega) (by omega) (g := (mkF m 1 #[.val (.ref b), .val (.int (Int32.ofNat o)), .val (.int (Int32.ofNat len)), .unset, .unset, .unset] [.int (Int32.ofNat len)])) rfl (hb hbytes d1) (rest := []) rfl (Nat.le_refl _) (by show 0 + len ≤ len; omega)
  rw [hh0] at ba3 st3
  have kp3 : XT.Kept s T3 := (XT.Kept.of_eq hh0).push bh3
  have hA3 := hA.keep X3.warmed.alike (kp3 _ _ hA.1.1)
  have hne : b ≠ s.heap.size := hA.1.ne
  have c4 : Steps p.tables e below (s₁.setTop (entryFrame m #[.ref b, .int (Int32.ofNat o), .int (Int32.ofNat len)] 6)) (T3.setTop (mkF m 3 #[.val (.ref b), .val (.int (Int32.ofNat o)), .val (.int (Int32.ofNat len)), .unset, .unset, .unset] [.ref s.heap.size])) := c2.trans (st3 _ (Steps.refl _))
  have c5 : Steps p.tables e below (s₁.setTop (entryFrame m #[.ref b, .int (Int32.ofNat o), .int (Int32.ofNat len)] 6)) (T3.setTop (mkF m 9 #[.val (.ref b), .val (.int (Int32.ofNat o)), .val (.int (Int32.ofNat len)), .val (.ref s.heap.size), .unset, .unset] [.int (Int32.ofNat len), .int 0, .ref s.heap.size, .int (Int32.ofNat o), .ref b])) := c4.trans (by
    refine XS.astoreN X3.here hexec rfl (hb hbytes d3) rfl rfl rfl ?_
    refine XS.aloadN X3.here hexec rfl (hb hbytes d4) rfl rfl ?_
    refine XS.iloadN X3.here hexec rfl (hb hbytes d5) rfl ?_
    refine XS.aloadN X3.here hexec rfl (hb hbytes d6) rfl rfl ?_
    refine iconstV X3.here hexec rfl 0 (hb hbytes d7) (by decide) ?_
    refine XS.iloadN X3.here hexec rfl (hb hbytes d8) rfl ?_
    exact Steps.refl _)
  obtain ⟨v6, T6, X6, E6, g6⟩ := X3.callS hexec (Cmp5.law l b A s.heap.size B3 o 0 len) hown (wks W (staticW U16 115 Cmp5.yN)) (wk W Cmp5.tab) (W := 0) (Nat.le_of_ble_eq_true rfl) (Nat.le_of_ble_eq_true rfl) (Nat.le_refl _) (by show 0 + len + 0 ≤ len; omega) (g := (mkF m 9 #[.val (.ref b), .val (.int (Int32.ofNat o)), .val (.int (Int32.ofNat len)), .val (.ref s.heap.size), .unset, .unset] [.int (Int32.ofNat len), .int (Int32.ofNat 0), .ref s.heap.size, .int (Int32.ofNat o), .ref b])) rfl (by rw [hml]; rfl) c5 (argsL := [.ref b, .int (Int32.ofNat o), .ref s.heap.size, .int (Int32.ofNat 0), .int (Int32.ofNat len)]) (rest := []) rfl rfl (by show 2 * 0 + 0 ≤ _; decide) (hb hbytes d9) (⟨rfl, hA3, ba3, hne, l1, by rw [bs3]; simp, hp⟩)
  obtain ⟨rfl, B6, p6, f6⟩ := E6
  have c7 : Steps p.tables e below (s₁.setTop (entryFrame m #[.ref b, .int (Int32.ofNat o), .int (Int32.ofNat len)] 6)) (T6.setTop (mkF m 12 #[.val (.ref b), .val (.int (Int32.ofNat o)), .val (.int (Int32.ofNat len)), .val (.ref s.heap.size), .unset, .unset] [.int (Int32.ofNat len)])) := g6
  have c8 : Steps p.tables e below (s₁.setTop (entryFrame m #[.ref b, .int (Int32.ofNat o), .int (Int32.ofNat len)] 6)) (T6.setTop (mkF m 58 #[.val (.ref b), .val (.int (Int32.ofNat o)), .val (.int (Int32.ofNat len)), .val (.ref s.heap.size), .val (.int (Int32.ofNat len)), .unset] [.ref s.heap.size])) := c7.trans (by
    refine XS.istore X6.here hexec rfl (hb hbytes d12) rfl rfl ?_
    refine XS.iload X6.here hexec rfl (hb hbytes d14) rfl ?_
    refine XS.iloadN X6.here hexec rfl (hb hbytes d16) rfl ?_
    refine XS.icmpYes X6.here hexec rfl (pc0 := 17) rfl (hb hbytes d17) rfl (ii_eq_t rfl) (by decide) rfl ?_
    refine XS.aloadN X6.here hexec rfl (hb hbytes d57) rfl rfl ?_
    exact Steps.refl _)
  have X8 := X6.wide (L' := []) (cells' := 1) (slots' := len) (fun x hx hlt => by
    simp only [List.nil_append, copyLocs, List.mem_map, List.mem_range] at hx
    obtain ⟨i, -, rfl⟩ := hx
    exact absurd hlt (Nat.lt_irrefl _)) (Nat.le_refl _) (by omega)
  exact ⟨T6, some (.ref s.heap.size), _, _, _, X8, rfl, rfl, rfl, (fun h => by cases h), ⟨⟨rfl, B6, ba3.like (X3.warmed.alike.symm.trans X6.warmed.alike) p6.1 f6.1 f6.2.1 f6.2.2.1, f6.2.1.trans bv3, by rw [X6.warmed.alike.findClass, f6.1]; exact bf3, by rw [f6.2.2.1, bs3]; simp, fun j hj => by rw [f6.2.2.2 j, if_pos (by omega)]; rfl, kp3.put p6 (Nat.le_refl _)⟩, by rw [p6.2.2, bh3, hh0]; simp⟩, fun fs hl => c8.trans (X8.areturnOut hexec rfl hret rfl (hb hbytes d58) hl)⟩
end Cmp3
namespace CodL
def yN : MethodName := ⟨"java/lang/StringUTF16", "coderFromArrayLen", "([BI)B"⟩
abbrev yB : ByteArray := jdk_52_method_15_code
theorem d0 : decode yB 0 = .ok (.iload_n 1, 1) := by decide +kernel
theorem d1 : decode yB 1 = .ok (.aload_n 0, 1) := by decide +kernel
theorem d2 : decode yB 2 = .ok (.arraylength, 1) := by decide +kernel
theorem d3 : decode yB 3 = .ok (.isub, 1) := by decide +kernel
theorem d4 : decode yB 4 = .ok (.bipush 31, 2) := by decide +kernel
theorem d6 : decode yB 6 = .ok (.iushr, 1) := by decide +kernel
theorem d7 : decode yB 7 = .ok (.i2b, 1) := by decide +kernel
theorem d8 : decode yB 8 = .ok (.ireturn, 1) := by decide +kernel
def site : List Cond := []
def tab : Cond := tabOf yN yB 2 (some .byte) site
def P (d : Addr) (B : Cell) (args : Array Value) (s : State) : Prop := args = #[.ref d, .int (Int32.ofNat B.slots.size)] ∧ Arr .byte d B s
def E (r : Option Value) (s u : State) : Prop := XT.PureE (some (.int 0)) r s u
/-- an array as long as the number of chars: LATIN1 -/
theorem law (l : Launch) (d : Addr) (B : Cell) : Law l yN 2 2 0 0 yB 2 (some .byte) site (P d B) E [] 0 0 := by
  refine Law.of_walk (plainFor_of_name (by decide +kernel)) (by decide +kernel) (by decide +kernel) (by decide) (fun _ _ h => by rw [h.1]; rfl) (fun _ U U' hal hh h => ⟨h.1, h.2.mv hal hh⟩) (fun r U U' V V' h1 hal h2 h => XT.PureE.mv r U U' V V' h1 hal h2 h) ?_
  intro p e s m args below meth c s₁ X0 hexec hbytes hml hret hlk hnm hown hh0 W hP
  obtain ⟨rfl, hB⟩ := hP
  have hB0 := hB.mv X0.warmed.alike hh0
  have c1 : Steps p.tables e below (s₁.setTop (entryFrame m #[.ref d, .int (Int32.ofNat B.slots.size)] 2)) (s₁.setTop (mkF m 0 #[.val (.ref d), .val (.int (Int32.ofNat B.slots.size))] [])) := entry rfl
  have c2 : Steps p.tables e below (s₁.setTop (entryFrame m #[.ref d, .int (Int32.ofNat B.slots.size)] 2)) (s₁.setTop (mkF m 2 #[.val (.ref d), .val (.int (Int32.ofNat B.slots.size))] [.ref d, .int (Int32.ofNat B.slots.size)])) := c1.trans (by
    refine XS.iloadN X0.here hexec rfl (hb hbytes d0) rfl ?_
    refine XS.aloadN X0.here hexec rfl (hb hbytes d1) rfl rfl ?_
    exact Steps.refl _)
  have c3 : Steps p.tables e below (s₁.setTop (entryFrame m #[.ref d, .int (Int32.ofNat B.slots.size)] 2)) (s₁.setTop (mkF m 8 #[.val (.ref d), .val (.int (Int32.ofNat B.slots.size))] [.int (lo8 (ushr (Int32.ofNat B.slots.size - Int32.ofNat B.slots.size) 31))])) := c2.trans (by
    refine X0.alen hexec hB0 rfl rfl (hb hbytes d2) ?_
    refine XS.isub X0.here hexec rfl (hb hbytes d3) rfl ?_
    refine bipushV X0.here hexec rfl 31 (hb hbytes d4) (by decide) ?_
    refine iushr X0.here hexec rfl (hb hbytes d6) rfl ?_
    refine i2b X0.here hexec rfl (hb hbytes d7) rfl ?_
    exact Steps.refl _)
  have e0 : lo8 (ushr (Int32.ofNat B.slots.size - Int32.ofNat B.slots.size) 31) = 0 := by rw [Int32.sub_self]; decide
  rw [e0] at c3
  exact ⟨s₁, some (.int 0), _, _, _, X0, rfl, rfl, rfl, (fun h => by cases h), ⟨rfl, hh0⟩, fun fs hl => c3.trans (X0.ireturnOut hexec hret rfl (Or.inr (Or.inr (Or.inl rfl))) (hb hbytes d8) hl)⟩
end CodL
/-- the String at a is Latin-1 over a new byte[] (the heap's one new cell): the low bytes of the len chars of A from o on; every cell but a is kept -/
def Got (a : Addr) (D : Cell) (fV fC : Field) (A : Cell) (o len : Nat) (r : Option Value) (s u : State) : Prop := r = none ∧ ∃ D' V : Cell, Blank "java/lang/String" a D' u ∧ Same D D' [fV.slot, fC.slot] ∧ D'.slots[fV.slot]? = some (.ref s.heap.size) ∧ D'.slots[fC.slot]? = some (.int 0) ∧ Arr .byte s.heap.size V u ∧ V.vm = .none ∧ u.vm.findClass "[B" = some V.cls ∧ V.slots.size = len ∧ (∀ j, j < len → V.slots[j]? = some (.int (lo8 (cv A (o + j))))) ∧ (∀ (y : Addr) (c : Cell), y ≠ a → s.heap[y]? = some c → u.heap[y]? = some c) ∧ u.heap.size = s.heap.size + 1
theorem Got.mv {a : Addr} {D A : Cell} {fV fC : Field} {o len : Nat} : ∀ r (U U' V V' : State), U'.heap = U.heap → V.vm.Alike V'.vm → V'.heap = V.heap → Got a D fV fC A o len r U V → Got a D fV fC A o len r U' V' :=
  fun r U U' V V' h1 hal h2 ⟨e0, D', X, a1, a2, a3, a4, a5, a6, a7, a8, a9, a10, a11⟩ => ⟨e0, D', X, a1.mv hal h2, a2, by rw [h1]; exact a3, a4, by rw [h1]; exact a5.mv hal h2, a6, by rw [hal.findClass]; exact a7, a8, a9, by rw [h1, h2]; exact a10, by rw [h1, h2]; exact a11⟩
namespace New4
def yN : MethodName := ⟨"java/lang/String", "<init>", "([CIILjava/lang/Void;)V"⟩
abbrev yB : ByteArray := jdk_42_method_149_code
theorem d0 : decode yB 0 = .ok (.aload_n 0, 1) := by decide +kernel
theorem d1 : decode yB 1 = .ok (.invokespecial 1, 3) := by decide +kernel
theorem d4 : decode yB 4 = .ok (.iload_n 3, 1) := by decide +kernel
theorem d5 : decode yB 5 = .ok (.ifCond (.ne) 22, 3) := by decide +kernel
theorem d27 : decode yB 27 = .ok (.getstatic 38, 3) := by decide +kernel
theorem d30 : decode yB 30 = .ok (.ifCond (.eq) 28, 3) := by decide +kernel
theorem d33 : decode yB 33 = .ok (.aload_n 1, 1) := by decide +kernel
theorem d34 : decode yB 34 = .ok (.iload_n 2, 1) := by decide +kernel
theorem d35 : decode yB 35 = .ok (.iload_n 3, 1) := by decide +kernel
theorem d36 : decode yB 36 = .ok (.invokestatic 177, 3) := by decide +kernel
theorem d39 : decode yB 39 = .ok (.astore 5, 2) := by decide +kernel
theorem d41 : decode yB 41 = .ok (.aload_n 0, 1) := by decide +kernel
theorem d42 : decode yB 42 = .ok (.aload 5, 2) := by decide +kernel
theorem d44 : decode yB 44 = .ok (.iload_n 3, 1) := by decide +kernel
theorem d45 : decode yB 45 = .ok (.invokestatic 47, 3) := by decide +kernel
theorem d48 : decode yB 48 = .ok (.putfield 15, 3) := by decide +kernel
theorem d51 : decode yB 51 = .ok (.aload_n 0, 1) := by decide +kernel
theorem d52 : decode yB 52 = .ok (.aload 5, 2) := by decide +kernel
theorem d54 : decode yB 54 = .ok (.putfield 9, 3) := by decide +kernel
theorem d57 : decode yB 57 = .ok (.return_, 1) := by decide +kernel
def site : List Cond := [.fieldLink "java/lang/String" 38 "java/lang/String" "COMPACT_STRINGS" "Z", Cmp3.tab, CodL.tab, .laysFinal "java/lang/String" "java/lang/String" "value" "[B", .fieldLink "java/lang/String" 9 "java/lang/String" "value" "[B", .laysFinal "java/lang/String" "java/lang/String" "coder" "B", .fieldLink "java/lang/String" 15 "java/lang/String" "coder" "B"] ++ objW "java/lang/String" 1 ++ staticW "java/lang/String" 177 Cmp3.yN ++ staticW "java/lang/String" 47 CodL.yN
def tab : Cond := tabOf yN yB 6 none site
def P (a : Addr) (D : Cell) (fV fC : Field) (b : Addr) (A : Cell) (z : Int32) (o len : Nat) (args : Array Value) (s : State) : Prop := args = #[.ref a, .ref b, .int (Int32.ofNat o), .int (Int32.ofNat len), .null] ∧ Blank "java/lang/String" a D s ∧ Found "java/lang/String" "value" "[B" fV s ∧ Found "java/lang/String" "coder" "B" fC s ∧ Ch b A s ∧ StaticIs s "java/lang/String" "COMPACT_STRINGS" "Z" (.int z) ∧ ¬ z = 0 ∧ 0 < len ∧ o + len ≤ A.slots.size ∧ len ≤ 536870912 ∧ ∀ i, i < len → ¬ 255 < cv A (o + i)
def E (a : Addr) (D : Cell) (fV fC : Field) (A : Cell) (o len : Nat) (r : Option Value) (s u : State) : Prop := Got a D fV fC A o len r s u
/-- len > 0, no char of the range above 255: a Latin-1 String of their low bytes -/
theorem law (l : Launch) (a : Addr) (D : Cell) (fV fC : Field) (b : Addr) (A : Cell) (z : Int32) (o len : Nat) : Law l yN 5 4 2 35 yB 6 none site (P a D fV fC b A z o len) (E a D fV fC A o len) [⟨a, fC.slot⟩, ⟨a, fV.slot⟩] 1 len := by
  refine Law.of_walk (plainFor_of_name (by decide +kernel)) (by decide +kernel) (by decide +kernel) (by decide) (fun _ _ h => by rw [h.1]; rfl) (fun _ U U' hal hh h => ⟨h.1, h.2.1.mv hal hh, h.2.2.1.al hal, h.2.2.2.1.al hal, h.2.2.2.2.1.mv hal hh, h.2.2.2.2.2.1.there hal hh, h.2.2.2.2.2.2⟩) (fun r U U' V V' h1 hal h2 h => Got.mv r U U' V V' h1 hal h2 h) ?_
  intro p e s m args below meth c s₁ X0 hexec hbytes hml hret hlk hnm hown hh0 W hP
  obtain ⟨rfl, hB, f1, f2, hA, s1, hz, l0, l1, l2, hp⟩ := hP
  have a31 := hA.1.2.2.2
  have c1 : Steps p.tables e below (s₁.setTop (entryFrame m #[.ref a, .ref b, .int (Int32.ofNat o), .int (Int32.ofNat len), .null] 6)) (s₁.setTop (mkF m 0 #[.val (.ref a), .val (.ref b), .val (.int (Int32.ofNat o)), .val (.int (Int32.ofNat len)), .val .null, .unset] [])) := entry rfl
  have c2 : Steps p.tables e below (s₁.setTop (entryFrame m #[.ref a, .ref b, .int (Int32.ofNat o), .int (Int32.ofNat len), .null] 6)) (s₁.setTop (mkF m 1 #[.val (.ref a), .val (.ref b), .val (.int (Int32.ofNat o)), .val (.int (Int32.ofNat len)), .val .null, .unset] [.ref a])) := c1.trans (by
    refine XS.aloadN X0.here hexec rfl (hb hbytes d0) rfl rfl ?_
    exact Steps.refl _)
  obtain ⟨T3, X3, q3, st3⟩ := X0.oinit hexec hown (wks W (objW "java/lang/String" 1)) (g := (mkF m 1 #[.val (.ref a), .val (.ref b), .val (.int (Int32.ofNat o)), .val (.int (Int32.ofNat len)), .val .null, .unset] [.ref a])) rfl (by rw [hml]; rfl) (rest := []) rfl (hb hbytes d1) (W := 0) (by show 2 * 0 + 0 ≤ _; decide) (Nat.le_of_ble_eq_true rfl) (Nat.le_of_ble_eq_true rfl)
  have hh3 := q3.trans hh0
  have c4 : Steps p.tables e below (s₁.setTop (entryFrame m #[.ref a, .ref b, .int (Int32.ofNat o), .int (Int32.ofNat len), .null] 6)) (T3.setTop (mkF m 27 #[.val (.ref a), .val (.ref b), .val (.int (Int32.ofNat o)), .val (.int (Int32.ofNat len)), .val .null, .unset] [])) := (c2.trans (st3 _ (Steps.refl _))).trans (by
    refine XS.iloadN X3.here hexec rfl (hb hbytes d4) rfl ?_
    refine XS.ifYes X3.here hexec rfl (pc0 := 5) rfl (hb hbytes d5) rfl (i0_ne_t (nz32 (by omega) l0)) (by decide) rfl ?_
    exact Steps.refl _)
  obtain ⟨T5, X5, q5, st5⟩ := X3.sget hexec hown (wk W (.fieldLink "java/lang/String" 38 "java/lang/String" "COMPACT_STRINGS" "Z")) s1 (fun _ _ h => by rw [hh3]; exact h) (g := (mkF m 27 #[.val (.ref a), .val (.ref b), .val (.int (Int32.ofNat o)), .val (.int (Int32.ofNat len)), .val .null, .unset] [])) rfl (hb hbytes d27)
  have hh5 := q5.trans hh3
  have c6 : Steps p.tables e below (s₁.setTop (entryFrame m #[.ref a, .ref b, .int (Int32.ofNat o), .int (Int32.ofNat len), .null] 6)) (T5.setTop (mkF m 30 #[.val (.ref a), .val (.ref b), .val (.int (Int32.ofNat o)), .val (.int (Int32.ofNat len)), .val .null, .unset] [.int z])) := c4.trans (st5 _ (Steps.refl _))
  have c7 : Steps p.tables e below (s₁.setTop (entryFrame m #[.ref a, .ref b, .int (Int32.ofNat o), .int (Int32.ofNat len), .null] 6)) (T5.setTop (mkF m 36 #[.val (.ref a), .val (.ref b), .val (.int (Int32.ofNat o)), .val (.int (Int32.ofNat len)), .val .null, .unset] [.int (Int32.ofNat len), .int (Int32.ofNat o), .ref b])) := c6.trans (by
    refine XS.ifNo X5.here hexec rfl (hb hbytes d30) rfl (i0_eq_f hz) ?_
    refine XS.aloadN X5.here hexec rfl (hb hbytes d33) rfl rfl ?_
    refine XS.iloadN X5.here hexec rfl (hb hbytes d34) rfl ?_
    refine XS.iloadN X5.here hexec rfl (hb hbytes d35) rfl ?_
    exact Steps.refl _)
  obtain ⟨v8, T8, X8, E8, g8⟩ := X5.callS hexec (Cmp3.law l b A o len) hown (wks W (staticW "java/lang/String" 177 Cmp3.yN)) (wk W Cmp3.tab) (W := 0) (Nat.le_of_ble_eq_true rfl) (Nat.le_of_ble_eq_true rfl) (Nat.le_refl _) (by show 0 + len ≤ len; omega) (g := (mkF m 36 #[.val (.ref a), .val (.ref b), .val (.int (Int32.ofNat o)), .val (.int (Int32.ofNat len)), .val .null, .unset] [.int (Int32.ofNat len), .int (Int32.ofNat o), .ref b])) rfl (by rw [hml]; rfl) c7 (argsL := [.ref b, .int (Int32.ofNat o), .int (Int32.ofNat len)]) (rest := []) rfl rfl (by show 2 * 0 + 0 ≤ _; decide) (hb hbytes d36) (⟨rfl, hA.mv X5.warmed.alike hh5, l1, l2, hp⟩)
  obtain ⟨e8, z8⟩ := E8
  obtain ⟨rfl, N, n1, n2, n3, n4, n5, n6⟩ := NewArr.mv _ T5 s _ _ hh5.symm (Vm.Alike.refl _) rfl e8
  rw [hh5] at z8
  have hB1 := hB.keep X8.warmed.alike (n6 _ _ hB.1)
  have hne : s.heap.size ≠ a := (Nat.ne_of_lt (Array.getElem?_eq_some_iff.mp hB.1).1).symm
  have c9 : Steps p.tables e below (s₁.setTop (entryFrame m #[.ref a, .ref b, .int (Int32.ofNat o), .int (Int32.ofNat len), .null] 6)) (T8.setTop (mkF m 39 #[.val (.ref a), .val (.ref b), .val (.int (Int32.ofNat o)), .val (.int (Int32.ofNat len)), .val .null, .unset] [.ref s.heap.size])) := g8
  have c10 : Steps p.tables e below (s₁.setTop (entryFrame m #[.ref a, .ref b, .int (Int32.ofNat o), .int (Int32.ofNat len), .null] 6)) (T8.setTop (mkF m 45 #[.val (.ref a), .val (.ref b), .val (.int (Int32.ofNat o)), .val (.int (Int32.ofNat len)), .val .null, .val (.ref s.heap.size)] [.int (Int32.ofNat N.slots.size), .ref s.heap.size, .ref a])) := by
    have hc : Steps p.tables e below (s₁.setTop (entryFrame m #[.ref a, .ref b, .int (Int32.ofNat o), .int (Int32.ofNat len), .null] 6)) (T8.setTop (mkF m 45 #[.val (.ref a), .val (.ref b), .val (.int (Int32.ofNat o)), .val (.int (Int32.ofNat len)), .val .null, .val (.ref s.heap.size)] [.int (Int32.ofNat len), .ref s.heap.size, .ref a])) := c9.trans (by
      refine XS.astore X8.here hexec rfl (hb hbytes d39) rfl rfl rfl ?_
      refine XS.aloadN X8.here hexec rfl (hb hbytes d41) rfl rfl ?_
      refine XS.aload X8.here hexec rfl (hb hbytes d42) rfl rfl ?_
      refine XS.iloadN X8.here hexec rfl (hb hbytes d44) rfl ?_
      exact Steps.refl _)
    rw [n4]; exact hc
  obtain ⟨v11, T11, X11, E11, g11⟩ := X8.callS hexec (CodL.law l s.heap.size N) hown (wks W (staticW "java/lang/String" 47 CodL.yN)) (wk W CodL.tab) (W := 1) (Nat.le_of_ble_eq_true rfl) (Nat.le_of_ble_eq_true rfl) (Nat.le_refl _) (by show 0 + len + 0 ≤ len; omega) (g := (mkF m 45 #[.val (.ref a), .val (.ref b), .val (.int (Int32.ofNat o)), .val (.int (Int32.ofNat len)), .val .null, .val (.ref s.heap.size)] [.int (Int32.ofNat N.slots.size), .ref s.heap.size, .ref a])) rfl (by rw [hml]; rfl) c10 (argsL := [.ref s.heap.size, .int (Int32.ofNat N.slots.size)]) (rest := [.ref a]) rfl rfl (by show 2 * 0 + (1 + 0) ≤ _; decide) (hb hbytes d45) (⟨rfl, n1⟩)
  obtain ⟨rfl, q11⟩ := E11
  have hB11 := hB1.mv (X8.warmed.alike.symm.trans X11.warmed.alike) q11
  have c12 : Steps p.tables e below (s₁.setTop (entryFrame m #[.ref a, .ref b, .int (Int32.ofNat o), .int (Int32.ofNat len), .null] 6)) (T11.setTop (mkF m 48 #[.val (.ref a), .val (.ref b), .val (.int (Int32.ofNat o)), .val (.int (Int32.ofNat len)), .val .null, .val (.ref s.heap.size)] [.int 0, .ref a])) := g11
  obtain ⟨T13, X13, p13, bl13, sl13, st13⟩ := X11.finit hexec hown (wk W (.fieldLink "java/lang/String" 15 "java/lang/String" "coder" "B")) (Or.inr ⟨_, (wk W (.laysFinal "java/lang/String" "java/lang/String" "coder" "B"))⟩) (Or.inl ⟨rfl, hnm⟩) f2 (Or.inl rfl) hB11 (t := .byte) (by decide +kernel) rfl (g := (mkF m 48 #[.val (.ref a), .val (.ref b), .val (.int (Int32.ofNat o)), .val (.int (Int32.ofNat len)), .val .null, .val (.ref s.heap.size)] [.int 0, .ref a])) rfl (rest := []) rfl (hb hbytes d48)
  have c14 : Steps p.tables e below (s₁.setTop (entryFrame m #[.ref a, .ref b, .int (Int32.ofNat o), .int (Int32.ofNat len), .null] 6)) (T13.setTop (mkF m 54 #[.val (.ref a), .val (.ref b), .val (.int (Int32.ofNat o)), .val (.int (Int32.ofNat len)), .val .null, .val (.ref s.heap.size)] [.ref s.heap.size, .ref a])) := (c12.trans (st13 _ (Steps.refl _))).trans (by
    refine XS.aloadN X13.here hexec rfl (hb hbytes d51) rfl rfl ?_
    refine XS.aload X13.here hexec rfl (hb hbytes d52) rfl rfl ?_
    exact Steps.refl _)
  obtain ⟨T15, X15, p15, bl15, sl15, st15⟩ := X13.finit hexec hown (wk W (.fieldLink "java/lang/String" 9 "java/lang/String" "value" "[B")) (Or.inr ⟨_, (wk W (.laysFinal "java/lang/String" "java/lang/String" "value" "[B"))⟩) (Or.inl ⟨rfl, hnm⟩) f1 (Or.inl rfl) bl13 (t := (.array .byte)) (by decide +kernel) rfl (g := (mkF m 54 #[.val (.ref a), .val (.ref b), .val (.int (Int32.ofNat o)), .val (.int (Int32.ofNat len)), .val .null, .val (.ref s.heap.size)] [.ref s.heap.size, .ref a])) rfl (rest := []) rfl (hb hbytes d54)
  have c16 : Steps p.tables e below (s₁.setTop (entryFrame m #[.ref a, .ref b, .int (Int32.ofNat o), .int (Int32.ofNat len), .null] 6)) (T15.setTop (mkF m 57 #[.val (.ref a), .val (.ref b), .val (.int (Int32.ofNat o)), .val (.int (Int32.ofNat len)), .val .null, .val (.ref s.heap.size)] [])) := c14.trans (st15 _ (Steps.refl _))
  have ap := apart (Or.inr ⟨_, (wk W (.laysFinal "java/lang/String" "java/lang/String" "value" "[B"))⟩) (Or.inr ⟨_, (wk W (.laysFinal "java/lang/String" "java/lang/String" "coder" "B"))⟩) f1 f2 (t₁ := .array .byte) (t₂ := .byte) (by decide +kernel) (by decide +kernel) (by decide)
  have al := X8.warmed.alike.symm.trans X15.warmed.alike
  have n7 : T11.heap[s.heap.size]? = some N := by rw [q11]; exact n1.1
  exact ⟨T15, none, _, _, _, X15, by simp, rfl, by omega, (fun _ => rfl), ⟨rfl, _, N, bl15, ((Same.refl D _).set _ (by simp)).set _ (by simp), sl15, (Cell.slots_setSlot_ne _ ap).trans sl13, n1.keep al (p15.other hne (p13.other hne n7)), n2, by rw [al.findClass]; exact n3, n4, n5, fun y c h1 h2 => p15.other h1 (p13.other h1 (by rw [q11]; exact n6 y c h2)), by rw [p15.2.2, p13.2.2, q11]; exact z8⟩, fun fs hl => c16.trans (X15.returnOut hexec hret (hb hbytes d57) hl)⟩
end New4
namespace New1
def yN : MethodName := ⟨"java/lang/String", "<init>", "([C)V"⟩
abbrev yB : ByteArray := jdk_42_method_3_code
theorem d0 : decode yB 0 = .ok (.aload_n 0, 1) := by decide +kernel
theorem d1 : decode yB 1 = .ok (.aload_n 1, 1) := by decide +kernel
theorem d2 : decode yB 2 = .ok (.iconst 0, 1) := by decide +kernel
theorem d3 : decode yB 3 = .ok (.aload_n 1, 1) := by decide +kernel
theorem d4 : decode yB 4 = .ok (.arraylength, 1) := by decide +kernel
theorem d5 : decode yB 5 = .ok (.aconst_null, 1) := by decide +kernel
theorem d6 : decode yB 6 = .ok (.invokespecial 27, 3) := by decide +kernel
theorem d9 : decode yB 9 = .ok (.return_, 1) := by decide +kernel
def site : List Cond := [New4.tab] ++ initW "java/lang/String" 27 New4.yN
def tab : Cond := tabOf yN yB 2 none site
def P (a : Addr) (D : Cell) (fV fC : Field) (b : Addr) (A : Cell) (z : Int32) (args : Array Value) (s : State) : Prop := args = #[.ref a, .ref b] ∧ Blank "java/lang/String" a D s ∧ Found "java/lang/String" "value" "[B" fV s ∧ Found "java/lang/String" "coder" "B" fC s ∧ Ch b A s ∧ StaticIs s "java/lang/String" "COMPACT_STRINGS" "Z" (.int z) ∧ ¬ z = 0 ∧ 0 < A.slots.size ∧ A.slots.size ≤ 536870912 ∧ ∀ i, i < A.slots.size → ¬ 255 < cv A i
def E (a : Addr) (D : Cell) (fV fC : Field) (A : Cell) (r : Option Value) (s u : State) : Prop := Got a D fV fC A 0 A.slots.size r s u
/-- new String(chars), not empty, no char above 255: a Latin-1 String of their low bytes -/
theorem law (l : Launch) (a : Addr) (D : Cell) (fV fC : Field) (b : Addr) (A : Cell) (z : Int32) : Law l yN 2 1 3 52 yB 2 none site (P a D fV fC b A z) (E a D fV fC A) [⟨a, fC.slot⟩, ⟨a, fV.slot⟩] 1 A.slots.size := by
  refine Law.of_walk (plainFor_of_name (by decide +kernel)) (by decide +kernel) (by decide +kernel) (by decide) (fun _ _ h => by rw [h.1]; rfl) (fun _ U U' hal hh h => ⟨h.1, h.2.1.mv hal hh, h.2.2.1.al hal, h.2.2.2.1.al hal, h.2.2.2.2.1.mv hal hh, h.2.2.2.2.2.1.there hal hh, h.2.2.2.2.2.2⟩) (fun r U U' V V' h1 hal h2 h => Got.mv r U U' V V' h1 hal h2 h) ?_
  intro p e s m args below meth c s₁ X0 hexec hbytes hml hret hlk hnm hown hh0 W hP
  obtain ⟨rfl, hB, f1, f2, hA, s1, hz, l0, l2, hp⟩ := hP
  have c1 : Steps p.tables e below (s₁.setTop (entryFrame m #[.ref a, .ref b] 2)) (s₁.setTop (mkF m 0 #[.val (.ref a), .val (.ref b)] [])) := entry rfl
  have c2 : Steps p.tables e below (s₁.setTop (entryFrame m #[.ref a, .ref b] 2)) (s₁.setTop (mkF m 6 #[.val (.ref a), .val (.ref b)] [.null, .int (Int32.ofNat A.slots.size), .int 0, .ref b, .ref a])) := c1.trans (by
    refine XS.aloadN X0.here hexec rfl (hb hbytes d0) rfl rfl ?_
    refine XS.aloadN X0.here hexec rfl (hb hbytes d1) rfl rfl ?_
    refine iconstV X0.here hexec rfl 0 (hb hbytes d2) (by decide) ?_
    refine XS.aloadN X0.here hexec rfl (hb hbytes d3) rfl rfl ?_
    refine X0.alen hexec (hA.1.mv X0.warmed.alike hh0) rfl rfl (hb hbytes d4) ?_
    refine XS.aconstNull X0.here hexec rfl (hb hbytes d5) ?_
    exact Steps.refl _)
  obtain ⟨v3, T3, X3, E3, g3⟩ := X0.callN hexec (New4.law l a D fV fC b A z 0 A.slots.size) rfl hown (wks W (initW "java/lang/String" 27 New4.yN)) (W New4.tab (by simp only [site, List.mem_cons, List.mem_append, true_or, or_true])) (W := 0) (Nat.le_of_ble_eq_true rfl) (Nat.le_of_ble_eq_true rfl) (Nat.le_refl _) (by show 0 + A.slots.size ≤ A.slots.size; omega) (g := (mkF m 6 #[.val (.ref a), .val (.ref b)] [.null, .int (Int32.ofNat A.slots.size), .int (Int32.ofNat 0), .ref b, .ref a])) rfl (by rw [hml]; rfl) c2 (argsL := [.ref b, .int (Int32.ofNat 0), .int (Int32.ofNat A.slots.size), .null]) (rest := []) rfl rfl (by show 2 * 0 + 0 ≤ _; decide) (hb hbytes d6) (⟨rfl, hB.mv X0.warmed.alike hh0, f1.al X0.warmed.alike, f2.al X0.warmed.alike, hA.mv X0.warmed.alike hh0, s1.there X0.warmed.alike hh0, hz, l0, by omega, l2, fun i hi => by rw [Nat.zero_add]; exact hp i hi⟩)
  have e0 := Got.mv _ s₁ s _ _ hh0.symm (Vm.Alike.refl _) rfl E3
  obtain rfl := e0.1
  have c4 : Steps p.tables e below (s₁.setTop (entryFrame m #[.ref a, .ref b] 2)) (T3.setTop (mkF m 9 #[.val (.ref a), .val (.ref b)] [])) := g3
  exact ⟨T3, none, _, _, _, X3, by simp, rfl, by omega, (fun _ => rfl), e0, fun fs hl => c4.trans (X3.returnOut hexec hret (hb hbytes d9) hl)⟩
theorem pays {l : Launch} {R : Room} {p : Program} {e : Env} {below : List Frame} {s : State} {sargs : Array Value} {len W : Nat} (a : Addr) (D : Cell) (fV fC : Field) (b : Addr) (A : Cell) (z : Int32) (htab : tab.before sargs s = true) (hfr : 4 ≤ R.frames) (hlo : W + 65 ≤ R.locals) :
    Back l R p e below s sargs yN len W (fun A₁ a₁ => A₁.cells + 1 ≤ R.cells ∧ A₁.slots + A.slots.size ≤ R.slots ∧ P a D fV fC b A z a₁ A₁.U) (fun A₁ _ v₁ B₁ => E a D fV fC A v₁ A₁.U B₁.U ∧ B₁.locs = A₁.locs ++ [⟨a, fC.slot⟩, ⟨a, fV.slot⟩] ∧ B₁.cells = A₁.cells + 1 ∧ B₁.slots = A₁.slots + A.slots.size) :=
  (law l a D fV fC b A z).pays htab hfr (by omega)
end New1
/-- the byte, read back as charAt reads it, is the char -/
theorem lo8_mask {x : Int32} (h0 : ¬ x < 0) (h1 : ¬ 255 < x) : lo8 x &&& 255 = x := by
  have t : ∀ k : Fin 256, lo8 (Int32.ofNat k.val) &&& 255 = Int32.ofNat k.val := by decide +kernel
  rw [Int32.lt_iff_toInt_lt] at h0 h1
  have e0 : (0 : Int32).toInt = 0 := rfl
  have e1 : (255 : Int32).toInt = 255 := rfl
  obtain ⟨k, hk⟩ : ∃ k : Nat, x.toInt = k := ⟨x.toInt.toNat, by omega⟩
  have hx : x = Int32.ofNat k := Int32.toInt_inj.mp (by rw [hk, Int32.toInt_ofNat_small (by omega)])
  rw [hx]
  exact t ⟨k, by omega⟩
end StrChars
namespace StrChars.Road
open Jvm Sem ClassFile Op Lib Jvm.Stand Jvm.Free Jvm.Free.XT
open Jvm.Lib.Cold (StaticIs)
abbrev ST : String := "java/lang/String"
/-- every table word that New1's law asks, flat -/
abbrev words : List Jvm.Cond := [.code New1.yN New1.yB 2 none, .initialized ST, .methodLink ST 27 New4.yN, .instanceMethod New4.yN,
  .code New4.yN New4.yB 6 none, .fieldLink ST 38 ST "COMPACT_STRINGS" "Z", .laysFinal ST ST "value" "[B", .fieldLink ST 9 ST "value" "[B", .laysFinal ST ST "coder" "B", .fieldLink ST 15 ST "coder" "B",
  .methodLink ST 1 Lib.objectInit, .instanceMethod Lib.objectInit, .code Lib.objectInit ⟨#[0xb1]⟩ 1 none, .methodLink ST 177 Cmp3.yN, .static Cmp3.yN, .methodLink ST 47 CodL.yN, .static CodL.yN,
  .code Cmp3.yN Cmp3.yB 6 (some (.array .byte)), .initialized U16, .arrayClass .byte, .methodLink U16 115 Cmp5.yN, .static Cmp5.yN, .code Cmp5.yN Cmp5.yB 7 (some .int), .code CodL.yN CodL.yB 2 (some .byte)]
theorem tab_of {a : Array Value} {s : State} (h : ∀ w ∈ words, w.before a s = true) : New1.tab.before a s = true := by
  have h5 : Cmp5.tab.before a s = true := unparts (wk h (.code Cmp5.yN Cmp5.yB 7 (some .int))) (wks h (.initialized Cmp5.yN.cls :: Cmp5.site))
  have hc : CodL.tab.before a s = true := unparts (wk h (.code CodL.yN CodL.yB 2 (some .byte))) (wks h (.initialized CodL.yN.cls :: CodL.site))
  have q5 : ∀ w ∈ Cmp5.tab :: words, w.before a s = true := fun w hw => (List.mem_cons.mp hw).elim (fun e => e ▸ h5) (h w)
  have h3 : Cmp3.tab.before a s = true := unparts (wk q5 (.code Cmp3.yN Cmp3.yB 6 (some (.array .byte)))) (wks q5 (.initialized Cmp3.yN.cls :: Cmp3.site))
  have q3 : ∀ w ∈ Cmp3.tab :: CodL.tab :: words, w.before a s = true := fun w hw => (List.mem_cons.mp hw).elim (fun e => e ▸ h3) fun hw => (List.mem_cons.mp hw).elim (fun e => e ▸ hc) (h w)
  have h4 : New4.tab.before a s = true := unparts (wk q3 (.code New4.yN New4.yB 6 none)) (wks q3 (.initialized New4.yN.cls :: New4.site))
  have q4 : ∀ w ∈ New4.tab :: words, w.before a s = true := fun w hw => (List.mem_cons.mp hw).elim (fun e => e ▸ h4) (h w)
  exact unparts (wk q4 (.code New1.yN New1.yB 2 none)) (wks q4 (.initialized New1.yN.cls :: New1.site))
/-- the words ride from the start Z to the walk's own state -/
theorem moved {Z s : State} {a0 args : Array Value} (hZ : Z.Warmed39 s.vm) (hw : ∀ d ∈ words, d.before a0 Z = true) : ∀ d ∈ words, d.before args s = true := fun d hd => by
  have q := hw d hd
  have t : ∀ d ∈ words, d = .arrayClass .byte ∨ (d.onTables && d.keepsFace) = true := by decide +kernel
  rcases t d hd with rfl | t
  · exact RoadKit.mvA hZ q
  · exact RoadKit.mv hZ q t
/-- WHAT COMES BACK, over the tables of the start Z: h the heap at the call, h' behind it -/
def Q (Z : State) (x : Addr) (A : Cell) (h : Heap) (v : Option Value) (h' : Heap) (L : List Loc) : Prop := v = none ∧ (∀ y ∈ L, y.base = x) ∧ RoadKit.Keep h h' [x] ∧ h'.size = h.size + 1 ∧ RoadKit.Exa Z h' x ST ∧ RoadKit.Fld Z h' x ST "value" "[B" (.ref h.size) ∧ RoadKit.Fld Z h' x ST "coder" "B" (.int 0) ∧
  (∃ V : Cell, RoadKit.Arr Z h' h.size V .byte ∧ V.vm = .none ∧ Z.vm.findClass "[B" = some V.cls ∧ V.slots.size = A.slots.size ∧ ∀ j, j < A.slots.size → V.slots[j]? = some (.int (lo8 (cv A j)))) ∧
  ∀ (O n d : String) (w : Value), RoadKit.Fld Z h x O n d w → RoadKit.slotOf Z O n d ≠ RoadKit.slotOf Z ST "value" "[B" → RoadKit.slotOf Z O n d ≠ RoadKit.slotOf Z ST "coder" "B" → RoadKit.Fld Z h' x O n d w
/-- **new String(chars) AT A CALL, IN THE ROAD'S FORM**: for specialBack behind newO: x the fresh String, b the char[] with the cell A -/
theorem back {p : Program} {l : Launch} {e : Env} {R : Room} {s : State} {args : Array Value} {below : List Frame} {len W : Nat} {Z : State} {a0 : Array Value} {h : Heap} (hZ : Z.Warmed39 s.vm) (hw : ∀ d ∈ words, d.before a0 Z = true) {kI : Nat} (wi : (Jvm.Cond.instantiable ST kI).before a0 Z = true)
    {x b : Addr} {A : Cell} {z : Int32} {v0 c0 : Value} (E : RoadKit.Exa Z h x ST) (V : RoadKit.Fld Z h x ST "value" "[B" v0) (C : RoadKit.Fld Z h x ST "coder" "B" c0) (K : RoadKit.Arr Z h b A .char) (hty : Typed .char A) (S : RoadKit.Sta Z h ST "COMPACT_STRINGS" "Z" (.int z)) (hz : ¬ z = 0)
    (l0 : 0 < A.slots.size) (l2 : A.slots.size ≤ 536870912) (hp : ∀ i, i < A.slots.size → ¬ 255 < cv A i) (hfr : 4 ≤ R.frames) (hlo : W + 65 ≤ R.locals) :
    Back l R p e below s args New1.yN len W (fun P a => a = #[.ref x, .ref b] ∧ P.U.heap = h ∧ P.cells + 1 ≤ R.cells ∧ P.slots + A.slots.size ≤ R.slots)
      (fun P _ v B => ∃ L, Q Z x A h v B.U.heap L ∧ B.locs = P.locs ++ L ∧ B.cells = P.cells + 1 ∧ B.slots = P.slots + A.slots.size) := by
  intro m meth c P g ig mk a X hg hsize hdg hW hn hp'
  obtain ⟨rfl, rfl, r1, r2⟩ := hp'
  have al : Z.vm.Alike P.U.vm := hZ.alike.trans X.warmed.alike
  obtain ⟨D, cfV, kV, iV, fV, hD, gV, stV, knV, obV, asV, slV⟩ := id V
  obtain ⟨D', cfC, kC, iC, fC, hD', gC, stC, -, -, asC, slC⟩ := id C
  cases hD.symm.trans hD'
  obtain ⟨D2, kD, e1, e2, e3, e4, e5⟩ := id E
  cases hD.symm.trans e1
  obtain ⟨c2, k2, i1, i2, i3, -⟩ := Cond.instantiable_spec wi
  cases e2.symm.trans i1
  cases e3.symm.trans i2
  obtain ⟨kU, u1, u2⟩ := al.2.2 _ _ e3
  have hB : Blank ST x D P.U := ⟨hD, ⟨knV, fun q hq => by rw [hq] at obV; cases obV⟩, by rw [al.findClass]; exact e2, kU, u1, by rw [u2]; exact i3, by rw [u2]; exact e5 i3⟩
  have F1 : Found ST "value" "[B" fV P.U := ⟨SBG.found_only al ⟨cfV, kV, iV, gV⟩, stV⟩
  have F2 : Found ST "coder" "B" fC P.U := ⟨SBG.found_only al ⟨cfC, kC, iC, gC⟩, stC⟩
  have hA : Ch b A P.U := ⟨⟨K.1, State.isArrayOf_alike al K.2.1, K.2.2, by omega⟩, hty⟩
  have hS : StaticIs P.U ST "COMPACT_STRINGS" "Z" (.int z) := by
    obtain ⟨cfS, iS, kS, fS, st, cS, t1, t2, t3, t4, t5, t6, t7⟩ := S
    exact StaticIs.there (s := { Z with heap := P.U.heap }) ⟨cfS, iS, kS, fS, st, cS, t1, t2, t3, t4, t5, (fun q => by rw [q] at t6; cases t6), t7⟩ al rfl
  obtain ⟨v, B, X', ⟨⟨hv, E', V', q1, q2, q3, q4, q5, q6, q7, q8, q9, q10, q11⟩, hl, hc, hs⟩, st⟩ := New1.pays x D fV fC b A z (tab_of (moved hZ hw)) hfr hlo m meth c P g ig mk _ X hg hsize hdg hW hn ⟨r1, r2, rfl, hB, F1, F2, hA, hS, hz, l0, l2, hp⟩
  have al' : Z.vm.Alike B.U.vm := hZ.alike.trans X'.warmed.alike
  have hsz : E'.slots.size = D.slots.size := by
    obtain ⟨-, -, -, kB, w1, w2, w3⟩ := q1
    obtain ⟨kB', y1, y2⟩ := al'.2.2 _ _ e3
    rw [q2.2.1] at w1
    cases w1.symm.trans y1
    rw [w3, e5 i3, y2]
  refine ⟨v, B, X', ⟨_, ⟨hv, ?_, ⟨by omega, fun y cy hy hn' => q10 y cy (by simpa using hn') hy, fun y cy hy => ?_⟩, q11, ⟨E', _, q1.1, by rw [q2.2.1]; exact e2, by rw [q2.2.1]; exact e3, by rw [q2.1]; exact obV, fun _ => by rw [hsz]; exact e5 i3⟩,
    ⟨E', cfV, kV, iV, fV, q1.1, gV, stV, by rw [q2.1]; exact knV, by rw [q2.1]; exact obV, by rw [q2.2.1]; exact asV, q3⟩, ⟨E', cfC, kC, iC, fC, q1.1, gC, stC, by rw [q2.1]; exact knV, by rw [q2.1]; exact obV, by rw [q2.2.1]; exact asC, q4⟩,
    ⟨V', ⟨q5.1, State.isArrayOf_alike al'.symm q5.2.1, q5.2.2.1⟩, q6, by rw [← al'.findClass]; exact q7, q8, fun j hj => by have := q9 j hj; rwa [Nat.zero_add] at this⟩, fun O n d w F n1 n2 => ?_⟩, hl, hc, hs⟩, st⟩
  · intro y hy
    simp only [List.mem_cons, List.not_mem_nil, or_false] at hy
    rcases hy with rfl | rfl <;> rfl
  · by_cases q : y = x
    · subst q
      cases hD.symm.trans hy
      exact ⟨E', q1.1, q2.2.1, q2.1, hsz⟩
    · exact ⟨cy, q10 y cy q hy, rfl, rfl, rfl⟩
  · obtain ⟨D3, cf, k, i, f, g1, g2, g3, g4, g5, g6, g7⟩ := F
    cases hD.symm.trans g1
    simp only [RoadKit.slotOf, g2, gV, gC, Option.map_some, Option.getD_some] at n1 n2
    exact ⟨E', cf, k, i, f, q1.1, g2, g3, by rw [q2.1]; exact g4, by rw [q2.1]; exact g5, by rw [q2.2.1]; exact g6, by rw [q2.2.2 f.slot (by simp [n1, n2])]; exact g7⟩
end StrChars.Road
namespace StrChars.Road
open Jvm Sem ClassFile Op Lib Jvm.Stand Jvm.Free Jvm.Free.XT
/-- WHAT COMES BACK, the byte[] as a list of values -/
def QA (Z : State) (x : Addr) (zn : Int32) (cs : List Int32) (h : Heap) (v : Option Value) (h' : Heap) (L : List Loc) : Prop := v = none ∧ (∀ y ∈ L, y.base = x) ∧ RoadKit.Keep h h' [x] ∧ h'.size = h.size + 1 ∧ RoadKit.Exa Z h' x ST ∧ RoadKit.Fld Z h' x ST "value" "[B" (.ref h.size) ∧ RoadKit.Fld Z h' x ST "coder" "B" (.int 0) ∧
  (∃ kb, Z.vm.findClass "[B" = some kb ∧ RoadKit.Arv Z h' h.size kb .byte zn (cs.map fun c => .int (lo8 c)) (.int 0)) ∧
  ∀ (O n d : String) (w : Value), RoadKit.Fld Z h x O n d w → RoadKit.slotOf Z O n d ≠ RoadKit.slotOf Z ST "value" "[B" → RoadKit.slotOf Z O n d ≠ RoadKit.slotOf Z ST "coder" "B" → RoadKit.Fld Z h' x O n d w
/-- **new String(chars) AT A CALL, THE ARRAYS AS LISTS**: the char[] at b holds cs, not empty, no char above 255 -/
theorem backArv {p : Program} {l : Launch} {e : Env} {R : Room} {s : State} {args : Array Value} {below : List Frame} {len W : Nat} {Z : State} {a0 : Array Value} {h : Heap} (hZ : Z.Warmed39 s.vm) (hw : ∀ d ∈ words, d.before a0 Z = true) {kI : Nat} (wi : (Jvm.Cond.instantiable ST kI).before a0 Z = true)
    {x b : Addr} {k : ClassId} {zn z : Int32} {cs : List Int32} {dv v0 c0 : Value} (E : RoadKit.Exa Z h x ST) (V : RoadKit.Fld Z h x ST "value" "[B" v0) (C : RoadKit.Fld Z h x ST "coder" "B" c0) (K : RoadKit.Arv Z h b k .char zn (cs.map Value.int) dv) (S : RoadKit.Sta Z h ST "COMPACT_STRINGS" "Z" (.int z)) (hz : ¬ z = 0)
    (hlen : zn.toNatClampNeg = cs.length) (h0 : 0 < cs.length) (hbig : cs.length ≤ 536870912) (hall : ∀ c ∈ cs, ¬ 255 < c) (hfr : 4 ≤ R.frames) (hlo : W + 65 ≤ R.locals) :
    Back l R p e below s args New1.yN len W (fun P a => a = #[.ref x, .ref b] ∧ P.U.heap = h ∧ P.cells + 1 ≤ R.cells ∧ P.slots + cs.length ≤ R.slots)
      (fun P _ v B => ∃ L, QA Z x zn cs h v B.U.heap L ∧ B.locs = P.locs ++ L ∧ B.cells = P.cells + 1 ∧ B.slots = P.slots + cs.length) := by
  obtain ⟨A, K1, K2, K3, K4, K5, K6⟩ := K
  have e : A.slots.size = cs.length := K3.trans hlen
  have hat : ∀ (i : Nat) (hi : i < cs.length), A.slots[i]? = some (.int cs[i]) := fun i hi => by rw [K5 i (by omega)]; simp [List.getD_eq_getElem?_getD, hi]
  have hcv : ∀ (i : Nat) (hi : i < cs.length), cv A i = cs[i] := fun i hi => by unfold cv; rw [hat i hi]
  have hty : Typed .char A := fun i v hv => by
    have hi : i < A.slots.size := (Array.getElem?_eq_some_iff.mp hv).1
    have q := K5 i hi
    rw [hv] at q
    rw [Option.some.inj q]
    exact K6 i hi
  refine Back.mono (back hZ hw wi E V C K1 hty S hz (by omega) (by omega) (fun i hi => by rw [hcv i (by omega)]; exact hall _ (List.getElem_mem _)) hfr hlo) (fun P a hp => ⟨hp.1, hp.2.1, hp.2.2.1, by rw [e]; exact hp.2.2.2⟩) (fun P a v B hp hq => ?_)
  obtain ⟨L, ⟨q1, q2, q3, q4, q5, q6, q7, ⟨V', v1, v2, v3, v4, v5⟩, q9⟩, hl, hc, hs⟩ := hq
  refine ⟨L, ⟨q1, q2, q3, q4, q5, q6, q7, ⟨V'.cls, v3, V', v1, rfl, by rw [v4, e, hlen], K4, fun i hi => ?_, fun i hi => ?_⟩, q9⟩, hl, hc, by rw [hs, e]⟩
  · have hi' : i < cs.length := by omega
    rw [v5 i (by omega), hcv i hi']; simp [List.getD_eq_getElem?_getD, hi']
  · have hi' : i < cs.length := by omega
    simp only [List.getD_eq_getElem?_getD, List.getElem?_map, List.getElem?_eq_getElem hi', Option.map_some, Option.getD_some]
    exact fits_lo8 _
end StrChars.Road
namespace StrChars.Road
open Jvm Sem ClassFile Op Lib Jvm.Stand Jvm.Free Jvm.Free.XT
/-- WHAT COMES BACK, in the writer's own shape -/
def QV (Z : State) (x : Addr) (N : Int32) (bs : List Int32) (h : Heap) (n0 : Nat) (v : Option Value) (h' : Heap) (L : List Loc) : Prop := v = none ∧ RoadKit.Fr n0 L ∧ RoadKit.Keep h h' [x] ∧ RoadKit.Exa Z h' x ST ∧ RoadKit.Fld Z h' x ST "coder" "B" (.int 0) ∧
  ∃ (t : Addr) (kb : ClassId), n0 ≤ t ∧ h.size ≤ t ∧ ¬ t = x ∧ RoadKit.Fld Z h' x ST "value" "[B" (.ref t) ∧ RoadKit.Arv Z h' t kb .byte N (bs.map Value.int) (.int 0)
/-- **new String(chars) AT A CALL, FOR THE WRITER**: a char[] of n known ints, each 0 to 255 -/
theorem backV {p : Program} {l : Launch} {e : Env} {R : Room} {s : State} {args : Array Value} {below : List Frame} {len W : Nat} {Z : State} {a0 : Array Value} {h : Heap} (hZ : Z.Warmed39 s.vm) (hw : ∀ d ∈ words, d.before a0 Z = true) {kI : Nat} (wi : (Jvm.Cond.instantiable ST kI).before a0 Z = true)
    {x b : Addr} {kC : ClassId} {cs bs : List Int32} {d v0 c0 : Value} {z N : Int32} {n n0 : Nat} (hx0 : n0 ≤ x) (hh0 : n0 ≤ h.size) (E : RoadKit.Exa Z h x ST) (V : RoadKit.Fld Z h x ST "value" "[B" v0) (C : RoadKit.Fld Z h x ST "coder" "B" c0) (K : RoadKit.Arv Z h b kC .char N (cs.map Value.int) d) (S : RoadKit.Sta Z h ST "COMPACT_STRINGS" "Z" (.int z)) (hz : ¬ z = 0)
    (hn : cs.length = n) (hN : N = Int32.ofNat n) (l0 : 0 < n) (l2 : n ≤ 4000) (hp : ∀ c ∈ cs, ¬ c < 0 ∧ ¬ (255 : Int32) < c) (hb : bs = cs.map (fun c => c.toInt8.toInt32)) (hfr : 4 ≤ R.frames) (hlo : W + 65 ≤ R.locals) :
    Back l R p e below s args (⟨"java/lang/String", "<init>", "([C)V"⟩ : MethodName) len W (fun P a => a = #[.ref x, .ref b] ∧ P.U.heap = h ∧ P.cells + 1 ≤ R.cells ∧ P.slots + n ≤ R.slots)
      (fun P _ v B => ∃ L, QV Z x N bs h n0 v B.U.heap L ∧ B.locs = P.locs ++ L ∧ B.cells = P.cells + 1 ∧ B.slots = P.slots + n) := by
  subst hn hN hb
  refine Back.mono (backArv hZ hw wi E V C K S hz (n32 (by omega)) l0 (by omega) (fun c hc => (hp c hc).2) hfr hlo) (fun P a hp => hp) (fun P a v B hp hq => ?_)
  obtain ⟨L, ⟨q1, q2, q3, q4, q5, q6, q7, ⟨kb, v1, v2⟩, q9⟩, hl, hc, hs⟩ := hq
  exact ⟨L, ⟨q1, fun y hy => by rw [q2 y hy]; exact hx0, q3, q5, q7, h.size, kb, hh0, Nat.le_refl _, Nat.ne_of_gt E.lt, q6, by rw [List.map_map]; exact v2⟩, hl, hc, hs⟩
end StrChars.Road
namespace StrChars
open Jvm Sem ClassFile Op Lib Jvm.Stand Jvm.Free.XT Jvm.Free.ALB Jvm.Free.JM Jvm.Free
open Jvm.Lib.Cold (StaticIs)
def hi8 (x : Int32) : Int32 := lo8 (x >>> ((8 : Int32) &&& 31))
/-- what StringUTF16.getChar makes of two bytes -/
def pairCh (u v : Int32) : Int32 := (((u &&& 255) <<< ((0 : Int32) &&& 31)) ||| ((v &&& 255) <<< ((8 : Int32) &&& 31))).toUInt32.toUInt16.toUInt32.toInt32
theorem shr0 (c : Int32) : c >>> ((0 : Int32) &&& 31) = c := by
  have e : ((0 : Int32) &&& 31) = 0 := by decide
  rw [e]
  apply Int32.toBitVec_inj.mp
  rw [Int32.toBitVec_shiftRight]
  have e1 : ((0 : Int32).toBitVec.smod 32) = 0#32 := by decide
  rw [e1, BitVec.sshiftRight_eq']
  exact BitVec.sshiftRight_zero
theorem lo8_and (x : Int32) : (lo8 x &&& 255).toBitVec.toNat = x.toBitVec.toNat % 256 := by
  have h : (lo8 x).toBitVec = (x.toBitVec.signExtend 8).signExtend 32 := by rw [lo8, Int8.toBitVec_toInt32, Int32.toBitVec_toInt8]
  rw [Int32.toBitVec_and, BitVec.toNat_and, h]
  have e : ((x.toBitVec.signExtend 8).signExtend 32).toNat % 256 = x.toBitVec.toNat % 256 := by
    rw [BitVec.toNat_signExtend]
    have hlt := x.toBitVec.isLt
    simp only [BitVec.toNat_setWidth, BitVec.toNat_signExtend]
    split <;> split <;> omega
  rw [← e]
  exact Nat.and_two_pow_sub_one_eq_mod _ 8
theorem pair_says {c : Int32} (h0 : ¬ c < 0) (h1 : ¬ 65535 < c) : pairCh (lo8 c) (hi8 c) = c := by
  rw [Int32.lt_iff_toInt_lt] at h0 h1
  have e0 : (0 : Int32).toInt = 0 := rfl
  have e1 : (65535 : Int32).toInt = 65535 := rfl
  have hc : c.toInt = c.toBitVec.toNat := by
    have := c.toBitVec.isLt
    have e : c.toInt = c.toBitVec.toInt := rfl
    rw [e] at h0 h1
    rw [e]
    rw [BitVec.toInt_eq_toNat_cond] at h0 h1 ⊢
    split at h0 <;> split <;> omega
  have hn : c.toBitVec.toNat < 65536 := by omega
  have a1 := lo8_and c
  have a2 : (hi8 c &&& 255).toBitVec.toNat = c.toBitVec.toNat / 256 := by
    rw [hi8, lo8_and]
    have e : ((8 : Int32) &&& 31) = 8 := by decide
    rw [e, Int32.toBitVec_shiftRight]
    have e2 : ((8 : Int32).toBitVec.smod 32) = 8#32 := by decide
    rw [e2, BitVec.sshiftRight_eq', BitVec.toNat_sshiftRight_of_msb_false (by rw [BitVec.msb_eq_false_iff_two_mul_lt]; omega)]
    show c.toBitVec.toNat >>> 8 % 256 = _
    rw [Nat.shiftRight_eq_div_pow]
    omega
  unfold pairCh
  apply Int32.toBitVec_inj.mp
  apply BitVec.eq_of_toNat_eq
  have f0 : ((0 : Int32) &&& 31) = 0 := by decide
  have f8 : ((8 : Int32) &&& 31) = 8 := by decide
  rw [f0, f8]
  have g : (((lo8 c &&& 255) <<< (0 : Int32)) ||| ((hi8 c &&& 255) <<< (8 : Int32))).toBitVec.toNat = c.toBitVec.toNat := by
    rw [Int32.toBitVec_or, Int32.toBitVec_shiftLeft, Int32.toBitVec_shiftLeft]
    have s0 : ((0 : Int32).toBitVec.smod 32) = 0#32 := by decide
    have s8 : ((8 : Int32).toBitVec.smod 32) = 8#32 := by decide
    rw [s0, s8, BitVec.toNat_or]
    simp only [BitVec.shiftLeft_eq', BitVec.toNat_shiftLeft, a1, a2]
    show (c.toBitVec.toNat % 256) <<< 0 % 2 ^ 32 ||| (c.toBitVec.toNat / 256) <<< 8 % 2 ^ 32 = _
    rw [Nat.shiftLeft_zero, Nat.mod_eq_of_lt (show c.toBitVec.toNat % 256 < 2 ^ 32 by omega), Nat.mod_eq_of_lt (show (c.toBitVec.toNat / 256) <<< 8 < 2 ^ 32 by rw [Nat.shiftLeft_eq]; omega), Nat.or_comm, ← Nat.shiftLeft_add_eq_or_of_lt (by omega), Nat.shiftLeft_eq]
    omega
  show BitVec.toNat (((((lo8 c &&& 255) <<< (0 : Int32)) ||| ((hi8 c &&& 255) <<< (8 : Int32))).toBitVec.setWidth 16).setWidth 32) = _
  rw [BitVec.toNat_setWidth, BitVec.toNat_setWidth, g]
  omega
end StrChars
namespace StrChars
open Jvm Sem ClassFile Op Lib Jvm.Stand Jvm.Free.XT Jvm.Free.ALB Jvm.Free.JM Jvm.Free
open Jvm.Lib.Cold (StaticIs)
theorem shr1 {n : Nat} (h : 2 * n < 2 ^ 31) : Int32.ofNat (2 * n) >>> ((1 : Int32) &&& 31) = Int32.ofNat n := by
  have e : ((1 : Int32) &&& 31) = 1 := by decide
  rw [e]
  apply Int32.toBitVec_inj.mp
  rw [Int32.toBitVec_shiftRight]
  have e1 : ((1 : Int32).toBitVec.smod 32) = 1#32 := by decide
  have hm : (BitVec.ofNat 32 (2 * n)).toNat = 2 * n := by rw [BitVec.toNat_ofNat, Nat.mod_eq_of_lt (by omega)]
  rw [e1, BitVec.sshiftRight_eq']
  apply BitVec.eq_of_toNat_eq
  show ((BitVec.ofNat 32 (2 * n)).sshiftRight 1).toNat = (BitVec.ofNat 32 n).toNat
  rw [BitVec.toNat_sshiftRight_of_msb_false (by rw [BitVec.msb_eq_false_iff_two_mul_lt, hm]; omega), hm, BitVec.toNat_ofNat, Nat.shiftRight_eq_div_pow]
  omega
/-- charAt's cast of a byte read back -/
def chr8 (u : Int32) : Int32 := (u &&& 255).toUInt32.toUInt16.toUInt32.toInt32
theorem chr8_lo8 {c : Int32} (h0 : ¬ c < 0) (h1 : ¬ 255 < c) : chr8 (lo8 c) = c := by
  have t : ∀ k : Fin 256, (Int32.ofNat k.val).toUInt32.toUInt16.toUInt32.toInt32 = Int32.ofNat k.val := by decide +kernel
  unfold chr8
  rw [lo8_mask h0 h1]
  rw [Int32.lt_iff_toInt_lt] at h0 h1
  have e0 : (0 : Int32).toInt = 0 := rfl
  have e1 : (255 : Int32).toInt = 255 := rfl
  obtain ⟨k, hk⟩ : ∃ k : Nat, c.toInt = k := ⟨c.toInt.toNat, by omega⟩
  have hx : c = Int32.ofNat k := Int32.toInt_inj.mp (by rw [hk, Int32.toInt_ofNat_small (by omega)])
  rw [hx]
  exact t ⟨k, by omega⟩
theorem narrow_ch {c : Int32} (h0 : ¬ c < 0) (h1 : ¬ 65535 < c) : narrow .char (.int c) = .int c := by
  have q : narrow .char (.int (pairCh (lo8 c) (hi8 c))) = .int (pairCh (lo8 c) (hi8 c)) := narrow_c _
  rwa [pair_says h0 h1] at q
/-- the array's cell V codes the n chars f 0 .. f (n - 1) by the coder cd, as the JDK does: coder 1 just where some char is above 255 -/
def Cod (cd : Int32) (n : Nat) (f : Nat → Int32) (V : Cell) : Prop := (cd = 0 ∧ V.slots.size = n ∧ ∀ j, j < n → V.slots[j]? = some (.int (lo8 (f j))) ∧ ¬ 255 < f j) ∨ (cd = 1 ∧ V.slots.size = 2 * n ∧ (∀ j, j < n → V.slots[2 * j]? = some (.int (lo8 (f j))) ∧ V.slots[2 * j + 1]? = some (.int (hi8 (f j)))) ∧ ∃ j, j < n ∧ 255 < f j)
theorem Cod.cd {cd : Int32} {n : Nat} {f : Nat → Int32} {V : Cell} (h : Cod cd n f V) : cd = 0 ∨ cd = 1 := h.imp (fun q => q.1) fun q => q.1
theorem Cod.len {cd : Int32} {n : Nat} {f : Nat → Int32} {V : Cell} (h : Cod cd n f V) (hs : V.slots.size < 2 ^ 31) : Int32.ofNat V.slots.size >>> (cd &&& 31) = Int32.ofNat n := by
  rcases h with ⟨rfl, h, -⟩ | ⟨rfl, h, -⟩
  · rw [shr0, h]
  · rw [h, shr1 (by omega)]
/-- **x is a String of the n chars f 0 .. f (n - 1)**, Latin-1 or UTF-16; its array at t has the cell V -/
def Txt (x t : Addr) (V : Cell) (cd : Int32) (n : Nat) (f : Nat → Int32) (U : State) : Prop := Exact "java/lang/String" x U ∧ Has x "java/lang/String" "value" "[B" (.ref t) U ∧ Has x "java/lang/String" "coder" "B" (.int cd) U ∧ XT.Arr .byte t V U ∧ Cod cd n f V ∧ ∀ j, j < n → ¬ f j < 0 ∧ ¬ 65535 < f j
theorem Txt.mv {x t : Addr} {V : Cell} {cd : Int32} {n : Nat} {f : Nat → Int32} {U U' : State} (h : Txt x t V cd n f U) (hal : U.vm.Alike U'.vm) (hh : U'.heap = U.heap) : Txt x t V cd n f U' := ⟨h.1.mv hal hh, h.2.1.mv hal hh, h.2.2.1.mv hal hh, h.2.2.2.1.mv hal hh, h.2.2.2.2⟩
namespace Cdr
def yN : MethodName := ⟨"java/lang/String", "coder", "()B"⟩
abbrev yB : ByteArray := jdk_42_method_152_code
theorem d0 : decode yB 0 = .ok (.getstatic 38, 3) := by decide +kernel
theorem d3 : decode yB 3 = .ok (.ifCond (.eq) 10, 3) := by decide +kernel
theorem d6 : decode yB 6 = .ok (.aload_n 0, 1) := by decide +kernel
theorem d7 : decode yB 7 = .ok (.getfield 15, 3) := by decide +kernel
theorem d10 : decode yB 10 = .ok (.goto 4, 3) := by decide +kernel
theorem d14 : decode yB 14 = .ok (.ireturn, 1) := by decide +kernel
def site : List Cond := [.fieldLink "java/lang/String" 38 "java/lang/String" "COMPACT_STRINGS" "Z", .fieldLink "java/lang/String" 15 "java/lang/String" "coder" "B"]
def tab : Cond := tabOf yN yB 1 (some .byte) site
def P (x : Addr) (cd z : Int32) (args : Array Value) (s : State) : Prop := args = #[.ref x] ∧ Has x "java/lang/String" "coder" "B" (.int cd) s ∧ (cd = 0 ∨ cd = 1) ∧ StaticIs s "java/lang/String" "COMPACT_STRINGS" "Z" (.int z) ∧ ¬ z = 0
def E (cd : Int32) (r : Option Value) (s u : State) : Prop := XT.PureE (some (.int cd)) r s u
theorem law (l : Launch) (x : Addr) (cd z : Int32) : Law l yN 1 0 0 0 yB 1 (some .byte) site (P x cd z) (E cd) [] 0 0 := by
  refine Law.of_walk (plainFor_of_name (by decide +kernel)) (by decide +kernel) (by decide +kernel) (by decide) (fun _ _ h => by rw [h.1]; rfl) (fun _ U U' hal hh h => ⟨h.1, h.2.1.mv hal hh, h.2.2.1, h.2.2.2.1.there hal hh, h.2.2.2.2⟩) (fun r U U' V V' h1 hal h2 h => XT.PureE.mv r U U' V V' h1 hal h2 h) ?_
  intro p e s m args below meth c s₁ X0 hexec hbytes hml hret hlk hnm hown hh0 W hP
  obtain ⟨rfl, hx, hc, s1, hz⟩ := hP
  have c1 : Steps p.tables e below (s₁.setTop (entryFrame m #[.ref x] 1)) (s₁.setTop (mkF m 0 #[.val (.ref x)] [])) := entry rfl
  obtain ⟨T2, X2, q2, st2⟩ := X0.sget hexec hown (wk W (.fieldLink "java/lang/String" 38 "java/lang/String" "COMPACT_STRINGS" "Z")) s1 (fun _ _ h => by rw [hh0]; exact h) (g := (mkF m 0 #[.val (.ref x)] [])) rfl (hb hbytes d0)
  have hh2 := q2.trans hh0
  have c3 : Steps p.tables e below (s₁.setTop (entryFrame m #[.ref x] 1)) (T2.setTop (mkF m 7 #[.val (.ref x)] [.ref x])) := (c1.trans (st2 _ (Steps.refl _))).trans (by
    refine XS.ifNo X2.here hexec rfl (hb hbytes d3) rfl (i0_eq_f hz) ?_
    refine XS.aloadN X2.here hexec rfl (hb hbytes d6) rfl rfl ?_
    exact Steps.refl _)
  obtain ⟨T4, X4, q4, st4⟩ := X2.hget hexec hown (wk W (.fieldLink "java/lang/String" 15 "java/lang/String" "coder" "B")) (hx.mv X2.warmed.alike hh2) (g := (mkF m 7 #[.val (.ref x)] [.ref x])) rfl (rest := []) rfl (hb hbytes d7)
  have c5 : Steps p.tables e below (s₁.setTop (entryFrame m #[.ref x] 1)) (T4.setTop (mkF m 14 #[.val (.ref x)] [.int cd])) := (c3.trans (st4 _ (Steps.refl _))).trans (by
    refine XS.goto X4.here hexec rfl (pc0 := 10) rfl (hb hbytes d10) (by decide) rfl ?_
    exact Steps.refl _)
  exact ⟨T4, some (.int cd), _, _, _, X4, rfl, rfl, rfl, (fun h => by cases h), ⟨rfl, q4.trans hh2⟩, fun fs hl => c5.trans (X4.ireturnOut hexec hret (by rcases hc with rfl | rfl <;> rfl) (Or.inr (Or.inr (Or.inl rfl))) (hb hbytes d14) hl)⟩
end Cdr
namespace Len
def yN : MethodName := ⟨"java/lang/String", "length", "()I"⟩
abbrev yB : ByteArray := jdk_42_method_54_code
theorem d0 : decode yB 0 = .ok (.aload_n 0, 1) := by decide +kernel
theorem d1 : decode yB 1 = .ok (.getfield 9, 3) := by decide +kernel
theorem d4 : decode yB 4 = .ok (.arraylength, 1) := by decide +kernel
theorem d5 : decode yB 5 = .ok (.aload_n 0, 1) := by decide +kernel
theorem d6 : decode yB 6 = .ok (.invokevirtual 335, 3) := by decide +kernel
theorem d9 : decode yB 9 = .ok (.ishr, 1) := by decide +kernel
theorem d10 : decode yB 10 = .ok (.ireturn, 1) := by decide +kernel
def site : List Cond := [.fieldLink "java/lang/String" 9 "java/lang/String" "value" "[B", Cdr.tab] ++ virtW "java/lang/String" 335 "java/lang/String" Cdr.yN Cdr.yN
def tab : Cond := tabOf yN yB 1 (some .int) site
def P (x t : Addr) (V : Cell) (cd : Int32) (n : Nat) (f : Nat → Int32) (z : Int32) (args : Array Value) (s : State) : Prop := args = #[.ref x] ∧ Txt x t V cd n f s ∧ StaticIs s "java/lang/String" "COMPACT_STRINGS" "Z" (.int z) ∧ ¬ z = 0
def E (n : Nat) (r : Option Value) (s u : State) : Prop := XT.PureE (some (.int (Int32.ofNat n))) r s u
/-- length() of a String of n chars, in either coding -/
theorem law (l : Launch) (x t : Addr) (V : Cell) (cd : Int32) (n : Nat) (f : Nat → Int32) (z : Int32) : Law l yN 1 0 1 13 yB 1 (some .int) site (P x t V cd n f z) (E n) [] 0 0 := by
  refine Law.of_walk (plainFor_of_name (by decide +kernel)) (by decide +kernel) (by decide +kernel) (by decide) (fun _ _ h => by rw [h.1]; rfl) (fun _ U U' hal hh h => ⟨h.1, h.2.1.mv hal hh, h.2.2.1.there hal hh, h.2.2.2⟩) (fun r U U' V V' h1 hal h2 h => XT.PureE.mv r U U' V V' h1 hal h2 h) ?_
  intro p e s m args below meth c s₁ X0 hexec hbytes hml hret hlk hnm hown hh0 W hP
  obtain ⟨rfl, hx, s1, hz⟩ := hP
  have v31 := hx.2.2.2.1.2.2.2
  have c1 : Steps p.tables e below (s₁.setTop (entryFrame m #[.ref x] 1)) (s₁.setTop (mkF m 1 #[.val (.ref x)] [.ref x])) := Steps.trans (entry rfl) (by
    show Steps p.tables e below (s₁.setTop (mkF m 0 #[.val (.ref x)] [])) _
    refine XS.aloadN X0.here hexec rfl (hb hbytes d0) rfl rfl ?_
    exact Steps.refl _)
  obtain ⟨T2, X2, q2, st2⟩ := X0.hget hexec hown (wk W (.fieldLink "java/lang/String" 9 "java/lang/String" "value" "[B")) (hx.mv X0.warmed.alike hh0).2.1 (g := (mkF m 1 #[.val (.ref x)] [.ref x])) rfl (rest := []) rfl (hb hbytes d1)
  have hh2 := q2.trans hh0
  have hx2 := hx.mv X2.warmed.alike hh2
  have c3 : Steps p.tables e below (s₁.setTop (entryFrame m #[.ref x] 1)) (T2.setTop (mkF m 6 #[.val (.ref x)] [.ref x, .int (Int32.ofNat V.slots.size)])) := (c1.trans (st2 _ (Steps.refl _))).trans (by
    refine X2.alen hexec hx2.2.2.2.1 rfl rfl (hb hbytes d4) ?_
    refine XS.aloadN X2.here hexec rfl (hb hbytes d5) rfl rfl ?_
    exact Steps.refl _)
  obtain ⟨v4, T4, X4, E4, g4⟩ := X2.callV hexec (Cdr.law l x cd z) hown (wks W (virtW "java/lang/String" 335 "java/lang/String" Cdr.yN Cdr.yN)) rfl (by decide) (wk W Cdr.tab) (W := 1) (Nat.le_of_ble_eq_true rfl) (Nat.le_of_ble_eq_true rfl) (Nat.le_refl _) (Nat.le_refl _) (hx2.1.fc X2.warmed.alike) hx2.1.is (g := (mkF m 6 #[.val (.ref x)] [.ref x, .int (Int32.ofNat V.slots.size)])) rfl (by rw [hml]; rfl) c3 (argsL := []) (rest := [.int (Int32.ofNat V.slots.size)]) rfl rfl (by show 2 * 0 + (1 + 0) ≤ _; decide) (hb hbytes d6) (⟨rfl, hx2.2.2.1, hx.2.2.2.2.1.cd, s1.there X2.warmed.alike hh2, hz⟩)
  obtain ⟨rfl, q4⟩ := E4
  have c5 : Steps p.tables e below (s₁.setTop (entryFrame m #[.ref x] 1)) (T4.setTop (mkF m 10 #[.val (.ref x)] [.int (Int32.ofNat V.slots.size >>> (cd &&& 31))])) := Steps.trans g4 (by
    refine ishr X4.here hexec rfl (hb hbytes d9) rfl ?_
    exact Steps.refl _)
  rw [hx.2.2.2.2.1.len v31] at c5
  exact ⟨T4, some (.int (Int32.ofNat n)), _, _, _, X4, rfl, rfl, rfl, (fun h => by cases h), ⟨rfl, q4.trans hh2⟩, fun fs hl => c5.trans (X4.ireturnOut hexec hret rfl (Or.inl rfl) (hb hbytes d10) hl)⟩
theorem pays {l : Launch} {R : Room} {p : Program} {e : Env} {below : List Frame} {s : State} {sargs : Array Value} {len W : Nat} (x t : Addr) (V : Cell) (cd : Int32) (n : Nat) (f : Nat → Int32) (z : Int32) (htab : tab.before sargs s = true) (hfr : 2 ≤ R.frames) (hlo : W + 25 ≤ R.locals) :
    Back l R p e below s sargs yN len W (fun A₁ a₁ => A₁.cells + 0 ≤ R.cells ∧ A₁.slots + 0 ≤ R.slots ∧ P x t V cd n f z a₁ A₁.U) (fun A₁ _ v₁ B₁ => E n v₁ A₁.U B₁.U ∧ B₁.locs = A₁.locs ++ [] ∧ B₁.cells = A₁.cells + 0 ∧ B₁.slots = A₁.slots + 0) :=
  (law l x t V cd n f z).pays htab hfr (by omega)
end Len
namespace IsL
def yN : MethodName := ⟨"java/lang/String", "isLatin1", "()Z"⟩
abbrev yB : ByteArray := jdk_42_method_154_code
theorem d0 : decode yB 0 = .ok (.getstatic 38, 3) := by decide +kernel
theorem d3 : decode yB 3 = .ok (.ifCond (.eq) 14, 3) := by decide +kernel
theorem d6 : decode yB 6 = .ok (.aload_n 0, 1) := by decide +kernel
theorem d7 : decode yB 7 = .ok (.getfield 15, 3) := by decide +kernel
theorem d10 : decode yB 10 = .ok (.ifCond (.ne) 7, 3) := by decide +kernel
theorem d13 : decode yB 13 = .ok (.iconst 1, 1) := by decide +kernel
theorem d14 : decode yB 14 = .ok (.goto 4, 3) := by decide +kernel
theorem d17 : decode yB 17 = .ok (.iconst 0, 1) := by decide +kernel
theorem d18 : decode yB 18 = .ok (.ireturn, 1) := by decide +kernel
def site : List Cond := [.fieldLink "java/lang/String" 38 "java/lang/String" "COMPACT_STRINGS" "Z", .fieldLink "java/lang/String" 15 "java/lang/String" "coder" "B"]
def tab : Cond := tabOf yN yB 1 (some .boolean) site
def P (x : Addr) (cd z : Int32) (args : Array Value) (s : State) : Prop := args = #[.ref x] ∧ Has x "java/lang/String" "coder" "B" (.int cd) s ∧ (cd = 0 ∨ cd = 1) ∧ StaticIs s "java/lang/String" "COMPACT_STRINGS" "Z" (.int z) ∧ ¬ z = 0
def E (cd : Int32) (r : Option Value) (s u : State) : Prop := XT.PureE (some (.int (1 - cd))) r s u
theorem law (l : Launch) (x : Addr) (cd z : Int32) : Law l yN 1 0 0 0 yB 1 (some .boolean) site (P x cd z) (E cd) [] 0 0 := by
  refine Law.of_walk (plainFor_of_name (by decide +kernel)) (by decide +kernel) (by decide +kernel) (by decide) (fun _ _ h => by rw [h.1]; rfl) (fun _ U U' hal hh h => ⟨h.1, h.2.1.mv hal hh, h.2.2.1, h.2.2.2.1.there hal hh, h.2.2.2.2⟩) (fun r U U' V V' h1 hal h2 h => XT.PureE.mv r U U' V V' h1 hal h2 h) ?_
  intro p e s m args below meth c s₁ X0 hexec hbytes hml hret hlk hnm hown hh0 W hP
  obtain ⟨rfl, hx, hc, s1, hz⟩ := hP
  have c1 : Steps p.tables e below (s₁.setTop (entryFrame m #[.ref x] 1)) (s₁.setTop (mkF m 0 #[.val (.ref x)] [])) := entry rfl
  obtain ⟨T2, X2, q2, st2⟩ := X0.sget hexec hown (wk W (.fieldLink "java/lang/String" 38 "java/lang/String" "COMPACT_STRINGS" "Z")) s1 (fun _ _ h => by rw [hh0]; exact h) (g := (mkF m 0 #[.val (.ref x)] [])) rfl (hb hbytes d0)
  have hh2 := q2.trans hh0
  have c3 : Steps p.tables e below (s₁.setTop (entryFrame m #[.ref x] 1)) (T2.setTop (mkF m 7 #[.val (.ref x)] [.ref x])) := (c1.trans (st2 _ (Steps.refl _))).trans (by
    refine XS.ifNo X2.here hexec rfl (hb hbytes d3) rfl (i0_eq_f hz) ?_
    refine XS.aloadN X2.here hexec rfl (hb hbytes d6) rfl rfl ?_
    exact Steps.refl _)
  obtain ⟨T4, X4, q4, st4⟩ := X2.hget hexec hown (wk W (.fieldLink "java/lang/String" 15 "java/lang/String" "coder" "B")) (hx.mv X2.warmed.alike hh2) (g := (mkF m 7 #[.val (.ref x)] [.ref x])) rfl (rest := []) rfl (hb hbytes d7)
  have c5 : Steps p.tables e below (s₁.setTop (entryFrame m #[.ref x] 1)) (T4.setTop (mkF m 10 #[.val (.ref x)] [.int cd])) := c3.trans (st4 _ (Steps.refl _))
  have c6 : Steps p.tables e below (s₁.setTop (entryFrame m #[.ref x] 1)) (T4.setTop (mkF m 18 #[.val (.ref x)] [.int (1 - cd)])) := by
    rcases hc with rfl | rfl
    · exact c5.trans (by
        refine XS.ifNo X4.here hexec rfl (hb hbytes d10) rfl (i0_ne_f rfl) ?_
        refine iconstV X4.here hexec rfl 1 (hb hbytes d13) (by decide) ?_
        refine XS.goto X4.here hexec rfl (pc0 := 14) rfl (hb hbytes d14) (by decide) rfl ?_
        exact Steps.refl _)
    · exact c5.trans (by
        refine XS.ifYes X4.here hexec rfl (pc0 := 10) rfl (hb hbytes d10) rfl (i0_ne_t (by decide)) (by decide) rfl ?_
        refine iconstV X4.here hexec rfl 0 (hb hbytes d17) (by decide) ?_
        exact Steps.refl _)
  exact ⟨T4, some (.int (1 - cd)), _, _, _, X4, rfl, rfl, rfl, (fun h => by cases h), ⟨rfl, q4.trans hh2⟩, fun fs hl => c6.trans (X4.ireturnOut hexec hret (by rcases hc with rfl | rfl <;> rfl) (Or.inr (Or.inl rfl)) (hb hbytes d18) hl)⟩
end IsL
namespace LChA
def yN : MethodName := ⟨"java/lang/StringLatin1", "charAt", "([BI)C"⟩
abbrev yB : ByteArray := jdk_43_method_2_code
theorem d0 : decode yB 0 = .ok (.iload_n 1, 1) := by decide +kernel
theorem d1 : decode yB 1 = .ok (.aload_n 0, 1) := by decide +kernel
theorem d2 : decode yB 2 = .ok (.arraylength, 1) := by decide +kernel
theorem d3 : decode yB 3 = .ok (.invokestatic 9, 3) := by decide +kernel
theorem d6 : decode yB 6 = .ok (.aload_n 0, 1) := by decide +kernel
theorem d7 : decode yB 7 = .ok (.iload_n 1, 1) := by decide +kernel
theorem d8 : decode yB 8 = .ok (.baload, 1) := by decide +kernel
theorem d9 : decode yB 9 = .ok (.sipush 255, 3) := by decide +kernel
theorem d12 : decode yB 12 = .ok (.iand, 1) := by decide +kernel
theorem d13 : decode yB 13 = .ok (.i2c, 1) := by decide +kernel
theorem d14 : decode yB 14 = .ok (.ireturn, 1) := by decide +kernel
def site : List Cond := [JO.Str_checkIndex.tab] ++ staticW "java/lang/StringLatin1" 9 JO.Str_checkIndex.yN
def tab : Cond := tabOf yN yB 2 (some .char) site
def P (t : Addr) (V : Cell) (i : Nat) (u : Int32) (fm : Value) (args : Array Value) (s : State) : Prop := args = #[.ref t, .int (Int32.ofNat i)] ∧ XT.Arr .byte t V s ∧ V.slots[i]? = some (.int u) ∧ (StaticIs s "jdk/internal/util/Preconditions" "SIOOBE_FORMATTER" "Ljava/util/function/BiFunction;" fm ∧ fm.isRef = true)
def E (u : Int32) (r : Option Value) (s w : State) : Prop := XT.PureE (some (.int (chr8 u))) r s w
theorem law (l : Launch) (t : Addr) (V : Cell) (i : Nat) (u : Int32) (fm : Value) : Law l yN 2 2 2 27 yB 2 (some .char) site (P t V i u fm) (E u) [] 0 0 := by
  refine Law.of_walk (plainFor_of_name (by decide +kernel)) (by decide +kernel) (by decide +kernel) (by decide) (fun _ _ h => by rw [h.1]; rfl) (fun _ U U' hal hh h => ⟨h.1, h.2.1.mv hal hh, h.2.2.1, h.2.2.2.1.there hal hh, h.2.2.2.2⟩) (fun r U U' V V' h1 hal h2 h => XT.PureE.mv r U U' V V' h1 hal h2 h) ?_
  intro p e s m args below meth c s₁ X0 hexec hbytes hml hret hlk hnm hown hh0 W hP
  obtain ⟨rfl, hV, hu, s1, rf⟩ := hP
  have v31 := hV.2.2.2
  have hi : i < V.slots.size := (Array.getElem?_eq_some_iff.mp hu).1
  have c1 : Steps p.tables e below (s₁.setTop (entryFrame m #[.ref t, .int (Int32.ofNat i)] 2)) (s₁.setTop (mkF m 0 #[.val (.ref t), .val (.int (Int32.ofNat i))] [])) := entry rfl
  have c2 : Steps p.tables e below (s₁.setTop (entryFrame m #[.ref t, .int (Int32.ofNat i)] 2)) (s₁.setTop (mkF m 3 #[.val (.ref t), .val (.int (Int32.ofNat i))] [.int (Int32.ofNat V.slots.size), .int (Int32.ofNat i)])) := c1.trans (by
    refine XS.iloadN X0.here hexec rfl (hb hbytes d0) rfl ?_
    refine XS.aloadN X0.here hexec rfl (hb hbytes d1) rfl rfl ?_
    refine X0.alen hexec (hV.mv X0.warmed.alike hh0) rfl rfl (hb hbytes d2) ?_
    exact Steps.refl _)
  obtain ⟨v3, T3, X3, E3, g3⟩ := X0.callS hexec (JO.Str_checkIndex.law l (Int32.ofNat i) (Int32.ofNat V.slots.size) fm) hown (wks W (staticW "java/lang/StringLatin1" 9 JO.Str_checkIndex.yN)) (wk W JO.Str_checkIndex.tab) (W := 0) (Nat.le_of_ble_eq_true rfl) (Nat.le_of_ble_eq_true rfl) (Nat.le_refl _) (Nat.le_refl _) (g := (mkF m 3 #[.val (.ref t), .val (.int (Int32.ofNat i))] [.int (Int32.ofNat V.slots.size), .int (Int32.ofNat i)])) rfl (by rw [hml]; rfl) c2 (argsL := [.int (Int32.ofNat i), .int (Int32.ofNat V.slots.size)]) (rest := []) rfl rfl (by show 2 * 0 + 0 ≤ _; decide) (hb hbytes d3) (⟨rfl, rf, s1.there X0.warmed.alike hh0, Int32.ofNat_not_neg (by omega), lt32 v31 hi⟩)
  obtain ⟨rfl, q3⟩ := E3
  have hh3 := q3.trans hh0
  have c4 : Steps p.tables e below (s₁.setTop (entryFrame m #[.ref t, .int (Int32.ofNat i)] 2)) (T3.setTop (mkF m 14 #[.val (.ref t), .val (.int (Int32.ofNat i))] [.int (chr8 u)])) := Steps.trans g3 (by
    refine XS.aloadN X3.here hexec rfl (hb hbytes d6) rfl rfl ?_
    refine XS.iloadN X3.here hexec rfl (hb hbytes d7) rfl ?_
    refine X3.aget hexec (hV.mv X3.warmed.alike hh3) rfl hu rfl rfl (hb hbytes d8) ?_
    refine sipushV X3.here hexec rfl 255 (hb hbytes d9) (by decide) ?_
    refine XS.iand X3.here hexec rfl (hb hbytes d12) rfl ?_
    refine i2c X3.here hexec rfl (hb hbytes d13) rfl ?_
    exact Steps.refl _)
  exact ⟨T3, some (.int (chr8 u)), _, _, _, X3, rfl, rfl, rfl, (fun h => by cases h), ⟨rfl, hh3⟩, fun fs hl => c4.trans (X3.ireturnOut hexec hret (narrow_c _) (Or.inr (Or.inr (Or.inr (Or.inl rfl)))) (hb hbytes d14) hl)⟩
end LChA
end StrChars
namespace StrChars.Road
open Jvm Sem ClassFile Op Lib Jvm.Stand Jvm.Free Jvm.Free.XT
open Jvm.Lib.Cold (StaticIs)
theorem consq {a : Array Value} {s : State} {c : Jvm.Cond} {L : List Jvm.Cond} (h0 : c.before a s = true) (h : ∀ w ∈ L, w.before a s = true) : ∀ w ∈ c :: L, w.before a s = true := fun w hw => (List.mem_cons.mp hw).elim (fun e => e ▸ h0) (h w)
/-- the words of String.length(), either coding -/
abbrev wordsLen : List Jvm.Cond := [.code Len.yN Len.yB 1 (some .int), .initialized ST, .fieldLink ST 9 ST "value" "[B", .fieldLink ST 38 ST "COMPACT_STRINGS" "Z", .fieldLink ST 15 ST "coder" "B", .code Cdr.yN Cdr.yB 1 (some .byte), .methodLink ST 335 Cdr.yN, .declares Cdr.yN, .selects ST Cdr.yN Cdr.yN, .instanceMethod Cdr.yN]
theorem tabLen_of {a : Array Value} {s : State} (h : ∀ w ∈ wordsLen, w.before a s = true) : Len.tab.before a s = true := by
  have hc : Cdr.tab.before a s = true := unparts (wk h (.code Cdr.yN Cdr.yB 1 (some .byte))) (wks h (.initialized Cdr.yN.cls :: Cdr.site))
  have q := consq hc h
  exact unparts (wk q (.code Len.yN Len.yB 1 (some .int))) (wks q (.initialized Len.yN.cls :: Len.site))
theorem movedLen {Z s : State} {a0 args : Array Value} (hZ : Z.Warmed39 s.vm) (hw : ∀ d ∈ wordsLen, d.before a0 Z = true) : ∀ d ∈ wordsLen, d.before args s = true := fun d hd => by
  have q := hw d hd
  have t : ∀ d ∈ wordsLen, d = .arrayClass .byte ∨ (d.onTables && d.keepsFace) = true := by decide +kernel
  rcases t d hd with rfl | t
  · exact RoadKit.mvA hZ q
  · exact RoadKit.mv hZ q t
/-- the bytes of the chars cs, low before high -/
def wideBytes : List Int32 → List Value
  | [] => []
  | c :: cs => .int (lo8 c) :: .int (hi8 c) :: wideBytes cs
theorem wide_lo (d : Value) : ∀ (cs : List Int32) (j : Nat), j < cs.length → (wideBytes cs).getD (2 * j) d = .int (lo8 (cs.getD j 0))
  | [], j, h => absurd h (Nat.not_lt_zero j)
  | c :: cs, 0, _ => rfl
  | c :: cs, j + 1, h => by
    have q := wide_lo d cs j (by simpa using h)
    rw [show 2 * (j + 1) = 2 * j + 1 + 1 from by omega]
    simpa [wideBytes] using q
theorem wide_hi (d : Value) : ∀ (cs : List Int32) (j : Nat), j < cs.length → (wideBytes cs).getD (2 * j + 1) d = .int (hi8 (cs.getD j 0))
  | [], j, h => absurd h (Nat.not_lt_zero j)
  | c :: cs, 0, _ => rfl
  | c :: cs, j + 1, h => by
    have q := wide_hi d cs j (by simpa using h)
    rw [show 2 * (j + 1) + 1 = 2 * j + 1 + 1 + 1 from by omega]
    simpa [wideBytes] using q
theorem low_at (d : Value) (cs : List Int32) (j : Nat) (h : j < cs.length) : (cs.map fun c => Value.int (lo8 c)).getD j d = .int (lo8 (cs.getD j 0)) := by
  simp [List.getD_eq_getElem?_getD, h]
/-- an array of N2 bytes vs codes the chars cs by the coder cd -/
def CodA (cs : List Int32) (cd N2 : Int32) (vs : List Value) : Prop := (cd = 0 ∧ N2 = Int32.ofNat cs.length ∧ vs = (cs.map fun c => Value.int (lo8 c)) ∧ ∀ c ∈ cs, ¬ 255 < c) ∨ (cd = 1 ∧ N2 = Int32.ofNat (2 * cs.length) ∧ vs = wideBytes cs ∧ ∃ c ∈ cs, 255 < c)
theorem CodA.cod {cs : List Int32} {cd N2 : Int32} {vs : List Value} {V : Cell} (h : CodA cs cd N2 vs) (hn : 2 * cs.length < 2 ^ 31) (hs : V.slots.size = N2.toNatClampNeg) (hv : RoadKit.Has V vs (.int 0)) : Cod cd cs.length (fun j => cs.getD j 0) V := by
  rcases h with ⟨rfl, rfl, rfl, h⟩ | ⟨rfl, rfl, rfl, c, hc, hw⟩
  · rw [n32 (by omega)] at hs
    exact Or.inl ⟨rfl, hs, fun j hj => ⟨by rw [hv j (by omega), low_at _ _ _ hj], by
      have e : cs.getD j 0 = cs[j] := by simp [List.getD_eq_getElem?_getD, hj]
      show ¬ 255 < cs.getD j 0
      rw [e]; exact h _ (List.getElem_mem _)⟩⟩
  · rw [n32 (by omega)] at hs
    obtain ⟨j, hj, rfl⟩ := List.getElem_of_mem hc
    exact Or.inr ⟨rfl, hs, fun j hj => ⟨by rw [hv _ (by omega), wide_lo _ _ _ hj], by rw [hv _ (by omega), wide_hi _ _ _ hj]⟩, j, hj, by
      have e : cs.getD j 0 = cs[j] := by simp [List.getD_eq_getElem?_getD, hj]
      show 255 < cs.getD j 0
      rw [e]; exact hw⟩
/-- an object of exactly java/lang/String, its two fields found: as the laws ask it -/
theorem strObj {Z U : State} {a0 : Array Value} {kI : Nat} (wi : (Jvm.Cond.instantiable ST kI).before a0 Z = true) (al : Z.vm.Alike U.vm) {x : Addr} {v0 c0 : Value} (E : RoadKit.Exa Z U.heap x ST) (V : RoadKit.Fld Z U.heap x ST "value" "[B" v0) (C : RoadKit.Fld Z U.heap x ST "coder" "B" c0) :
    ∃ (D : Cell) (fV fC : Field), Blank ST x D U ∧ Found ST "value" "[B" fV U ∧ Found ST "coder" "B" fC U ∧ D.slots[fV.slot]? = some v0 ∧ D.slots[fC.slot]? = some c0 ∧ RoadKit.slotOf Z ST "value" "[B" = fV.slot ∧ RoadKit.slotOf Z ST "coder" "B" = fC.slot := by
  obtain ⟨D, cfV, kV, iV, fV, hD, gV, stV, knV, obV, asV, slV⟩ := V
  obtain ⟨D', cfC, kC, iC, fC, hD', gC, stC, -, -, asC, slC⟩ := C
  cases hD.symm.trans hD'
  obtain ⟨D2, kD, e1, e2, e3, e4, e5⟩ := E
  cases hD.symm.trans e1
  obtain ⟨c2, k2, i1, i2, i3, -⟩ := Cond.instantiable_spec wi
  cases e2.symm.trans i1
  cases e3.symm.trans i2
  obtain ⟨kU, u1, u2⟩ := al.2.2 _ _ e3
  exact ⟨D, fV, fC, ⟨hD, ⟨knV, fun q hq => by rw [hq] at obV; cases obV⟩, by rw [al.findClass]; exact e2, kU, u1, by rw [u2]; exact i3, by rw [u2]; exact e5 i3⟩, ⟨SBG.found_only al ⟨cfV, kV, iV, gV⟩, stV⟩, ⟨SBG.found_only al ⟨cfC, kC, iC, gC⟩, stC⟩, slV, slC, by simp [RoadKit.slotOf, gV], by simp [RoadKit.slotOf, gC]⟩
theorem sta_is {Z U : State} (al : Z.vm.Alike U.vm) {C n d : String} {v : Value} (S : RoadKit.Sta Z U.heap C n d v) : StaticIs U C n d v := by
  obtain ⟨cfS, iS, kS, fS, st, cS, t1, t2, t3, t4, t5, t6, t7⟩ := S
  exact StaticIs.there (s := { Z with heap := U.heap }) ⟨cfS, iS, kS, fS, st, cS, t1, t2, t3, t4, t5, (fun q => by rw [q] at t6; cases t6), t7⟩ al rfl
/-- **length() OF SUCH A STRING** -/
theorem lenW {p : Program} {l : Launch} {e : Env} {R : Room} {s : State} {args : Array Value} {below : List Frame} {len W : Nat} {Z : State} {a0 : Array Value} {h : Heap} (hZ : Z.Warmed39 s.vm) (hw : ∀ d ∈ wordsLen, d.before a0 Z = true) {kI : Nat} (wi : (Jvm.Cond.instantiable ST kI).before a0 Z = true)
    {x t : Addr} {kb : ClassId} {cs : List Int32} {cd N2 z : Int32} {vs : List Value} (E : RoadKit.Exa Z h x ST) (V : RoadKit.Fld Z h x ST "value" "[B" (.ref t)) (C : RoadKit.Fld Z h x ST "coder" "B" (.int cd)) (K : RoadKit.Arv Z h t kb .byte N2 vs (.int 0)) (hc : CodA cs cd N2 vs) (hb : ∀ c ∈ cs, ¬ c < 0 ∧ ¬ (65535 : Int32) < c)
    (S : RoadKit.Sta Z h ST "COMPACT_STRINGS" "Z" (.int z)) (hz : ¬ z = 0) (l2 : cs.length ≤ 4000) (hfr : 2 ≤ R.frames) (hlo : W + 25 ≤ R.locals) :
    Back l R p e below s args (⟨"java/lang/String", "length", "()I"⟩ : MethodName) len W (fun P a => a = #[.ref x] ∧ P.U.heap = h ∧ P.cells + 0 ≤ R.cells ∧ P.slots + 0 ≤ R.slots)
      (fun P _ v B => ∃ L, (v = some (.int (Int32.ofNat cs.length)) ∧ L = [] ∧ B.U.heap = h) ∧ B.locs = P.locs ++ L ∧ B.cells = P.cells + 0 ∧ B.slots = P.slots + 0) := by
  obtain ⟨A, K1, K2, K3, K4, K5, K6⟩ := K
  have hcod := hc.cod (by omega) K3 K5
  intro m meth c P g ig mk a X hg hsize hdg hW hn hp'
  obtain ⟨rfl, rfl, r1, r2⟩ := hp'
  have al : Z.vm.Alike P.U.vm := hZ.alike.trans X.warmed.alike
  obtain ⟨D, fV, fC, hB, F1, F2, g1, g2, -, -⟩ := strObj wi al E V C
  have hx : Txt x t A cd cs.length (fun j => cs.getD j 0) P.U := ⟨⟨_, hB.2.2.1, D, hB.1, rfl, by cases q : D.vm <;> first | rfl | exact absurd q (hB.2.1.2 _)⟩, Has.of hB F1 g1, Has.of hB F2 g2, ⟨K1.1, State.isArrayOf_alike al K1.2.1, K1.2.2, by rcases hcod with ⟨-, q, -⟩ | ⟨-, q, -⟩ <;> omega⟩, hcod, fun j hj => by
    have e : cs.getD j 0 = cs[j] := by simp [List.getD_eq_getElem?_getD, hj]
    show ¬ cs.getD j 0 < 0 ∧ ¬ 65535 < cs.getD j 0
    rw [e]; exact hb _ (List.getElem_mem _)⟩
  obtain ⟨v, B, X', ⟨⟨hv, hh⟩, hl, hk, hs⟩, st⟩ := Len.pays x t A cd cs.length (fun j => cs.getD j 0) z (tabLen_of (movedLen hZ hw)) hfr hlo m meth c P g ig mk _ X hg hsize hdg hW hn ⟨r1, r2, rfl, hx, sta_is al S, hz⟩
  exact ⟨v, B, X', ⟨[], ⟨hv, rfl, hh⟩, hl, hk, hs⟩, st⟩
end StrChars.Road
namespace StrChars.Road
open Jvm Sem ClassFile Op Lib Jvm.Stand Jvm.Free Jvm.Free.XT
open Jvm.Lib.Cold (StaticIs)
/-- the road's facts of a String, as the laws ask it -/
theorem txt_of {Z U : State} {a0 : Array Value} {kI : Nat} (wi : (Jvm.Cond.instantiable ST kI).before a0 Z = true) (al : Z.vm.Alike U.vm) {x t : Addr} {kb : ClassId} {cs : List Int32} {cd N2 : Int32} {vs : List Value} (E : RoadKit.Exa Z U.heap x ST) (V : RoadKit.Fld Z U.heap x ST "value" "[B" (.ref t)) (C : RoadKit.Fld Z U.heap x ST "coder" "B" (.int cd)) (K : RoadKit.Arv Z U.heap t kb .byte N2 vs (.int 0)) (hc : CodA cs cd N2 vs) (hb : ∀ c ∈ cs, ¬ c < 0 ∧ ¬ (65535 : Int32) < c) (l2 : cs.length ≤ 4000) :
    ∃ A, Txt x t A cd cs.length (fun j => cs.getD j 0) U := by
  obtain ⟨A, K1, K2, K3, K4, K5, K6⟩ := K
  have hcod := hc.cod (by omega) K3 K5
  obtain ⟨D, fV, fC, hB, F1, F2, g1, g2, -, -⟩ := strObj wi al E V C
  exact ⟨A, ⟨_, hB.2.2.1, D, hB.1, rfl, by cases q : D.vm <;> first | rfl | exact absurd q (hB.2.1.2 _)⟩, Has.of hB F1 g1, Has.of hB F2 g2, ⟨K1.1, State.isArrayOf_alike al K1.2.1, K1.2.2, by rcases hcod with ⟨-, q, -⟩ | ⟨-, q, -⟩ <;> omega⟩, hcod, fun j hj => by
    have e : cs.getD j 0 = cs[j] := by simp [List.getD_eq_getElem?_getD, hj]
    show ¬ cs.getD j 0 < 0 ∧ ¬ 65535 < cs.getD j 0
    rw [e]; exact hb _ (List.getElem_mem _)⟩
end StrChars.Road
namespace StrChars
open Jvm Sem ClassFile Op Lib Jvm.Stand Jvm.Free.XT Jvm.Free.ALB Jvm.Free.JM Jvm.Free
open Jvm.Lib.Cold (StaticIs)
namespace ChN
def yN : MethodName := ⟨"java/lang/String", "charAt", "(I)C"⟩
abbrev yB : ByteArray := jdk_42_method_56_code
theorem d0 : decode yB 0 = .ok (.aload_n 0, 1) := by decide +kernel
theorem d1 : decode yB 1 = .ok (.invokevirtual 492, 3) := by decide +kernel
theorem d4 : decode yB 4 = .ok (.ifCond (.eq) 12, 3) := by decide +kernel
theorem d7 : decode yB 7 = .ok (.aload_n 0, 1) := by decide +kernel
theorem d8 : decode yB 8 = .ok (.getfield 9, 3) := by decide +kernel
theorem d11 : decode yB 11 = .ok (.iload_n 1, 1) := by decide +kernel
theorem d12 : decode yB 12 = .ok (.invokestatic 495, 3) := by decide +kernel
theorem d15 : decode yB 15 = .ok (.ireturn, 1) := by decide +kernel
def site : List Cond := [.fieldLink "java/lang/String" 9 "java/lang/String" "value" "[B", IsL.tab, LChA.tab] ++ virtW "java/lang/String" 492 "java/lang/String" IsL.yN IsL.yN ++ staticW "java/lang/String" 495 LChA.yN
def tab : Cond := tabOf yN yB 2 (some .char) site
def P (x t : Addr) (V : Cell) (n : Nat) (f : Nat → Int32) (z : Int32) (fm : Value) (i : Nat) (args : Array Value) (s : State) : Prop := args = #[.ref x, .int (Int32.ofNat i)] ∧ Txt x t V 0 n f s ∧ i < n ∧ StaticIs s "java/lang/String" "COMPACT_STRINGS" "Z" (.int z) ∧ ¬ z = 0 ∧ StaticIs s "jdk/internal/util/Preconditions" "SIOOBE_FORMATTER" "Ljava/util/function/BiFunction;" fm ∧ fm.isRef = true
def E (f : Nat → Int32) (i : Nat) (r : Option Value) (s u : State) : Prop := XT.PureE (some (.int (f i))) r s u
/-- charAt(i) of a Latin-1 String of n chars, i < n: f i -/
theorem law (l : Launch) (x t : Addr) (V : Cell) (n : Nat) (f : Nat → Int32) (z : Int32) (fm : Value) (i : Nat) : Law l yN 2 1 3 40 yB 2 (some .char) site (P x t V n f z fm i) (E f i) [] 0 0 := by
  refine Law.of_walk (plainFor_of_name (by decide +kernel)) (by decide +kernel) (by decide +kernel) (by decide) (fun _ _ h => by rw [h.1]; rfl) (fun _ U U' hal hh h => ⟨h.1, h.2.1.mv hal hh, h.2.2.1, h.2.2.2.1.there hal hh, h.2.2.2.2.1, h.2.2.2.2.2.1.there hal hh, h.2.2.2.2.2.2⟩) (fun r U U' V V' h1 hal h2 h => XT.PureE.mv r U U' V V' h1 hal h2 h) ?_
  intro p e s m args below meth c s₁ X0 hexec hbytes hml hret hlk hnm hown hh0 W hP
  obtain ⟨rfl, hx, hi, s1, hz, s3, rf⟩ := hP
  have v31 := hx.2.2.2.1.2.2.2
  have hr := hx.2.2.2.2.2 i hi
  have hx0 := hx.mv X0.warmed.alike hh0
  have c1 : Steps p.tables e below (s₁.setTop (entryFrame m #[.ref x, .int (Int32.ofNat i)] 2)) (s₁.setTop (mkF m 1 #[.val (.ref x), .val (.int (Int32.ofNat i))] [.ref x])) := Steps.trans (entry rfl) (by
    show Steps p.tables e below (s₁.setTop (mkF m 0 #[.val (.ref x), .val (.int (Int32.ofNat i))] [])) _
    refine XS.aloadN X0.here hexec rfl (hb hbytes d0) rfl rfl ?_
    exact Steps.refl _)
  obtain ⟨v2, T2, X2, E2, g2⟩ := X0.callV hexec (IsL.law l x 0 z) hown (wks W (virtW "java/lang/String" 492 "java/lang/String" IsL.yN IsL.yN)) rfl (by decide) (wk W IsL.tab) (W := 0) (Nat.le_of_ble_eq_true rfl) (Nat.le_of_ble_eq_true rfl) (Nat.le_refl _) (Nat.le_refl _) (hx0.1.fc X0.warmed.alike) hx0.1.is (g := (mkF m 1 #[.val (.ref x), .val (.int (Int32.ofNat i))] [.ref x])) rfl (by rw [hml]; rfl) c1 (argsL := []) (rest := []) rfl rfl (by show 2 * 0 + 0 ≤ _; decide) (hb hbytes d1) (⟨rfl, hx0.2.2.1, hx.2.2.2.2.1.cd, s1.there X0.warmed.alike hh0, hz⟩)
  obtain ⟨rfl, q2⟩ := E2
  have hh2 := q2.trans hh0
  have hx2 := hx.mv X2.warmed.alike hh2
  obtain ⟨-, k1, k2⟩ | ⟨k0, -⟩ := hx.2.2.2.2.1
  · have c3 : Steps p.tables e below (s₁.setTop (entryFrame m #[.ref x, .int (Int32.ofNat i)] 2)) (T2.setTop (mkF m 8 #[.val (.ref x), .val (.int (Int32.ofNat i))] [.ref x])) := Steps.trans g2 (by
      refine XS.ifNo X2.here hexec rfl (hb hbytes d4) rfl (i0_eq_f (by decide)) ?_
      refine XS.aloadN X2.here hexec rfl (hb hbytes d7) rfl rfl ?_
      exact Steps.refl _)
    obtain ⟨T4, X4, q4, st4⟩ := X2.hget hexec hown (wk W (.fieldLink "java/lang/String" 9 "java/lang/String" "value" "[B")) hx2.2.1 (g := (mkF m 8 #[.val (.ref x), .val (.int (Int32.ofNat i))] [.ref x])) rfl (rest := []) rfl (hb hbytes d8)
    have hh4 := q4.trans hh2
    have c5 : Steps p.tables e below (s₁.setTop (entryFrame m #[.ref x, .int (Int32.ofNat i)] 2)) (T4.setTop (mkF m 12 #[.val (.ref x), .val (.int (Int32.ofNat i))] [.int (Int32.ofNat i), .ref t])) := (c3.trans (st4 _ (Steps.refl _))).trans (by
      refine XS.iloadN X4.here hexec rfl (hb hbytes d11) rfl ?_
      exact Steps.refl _)
    obtain ⟨v6, T6, X6, E6, g6⟩ := X4.callS hexec (LChA.law l t V i (lo8 (f i)) fm) hown (wks W (staticW "java/lang/String" 495 LChA.yN)) (wk W LChA.tab) (W := 0) (Nat.le_of_ble_eq_true rfl) (Nat.le_of_ble_eq_true rfl) (Nat.le_refl _) (Nat.le_refl _) (g := (mkF m 12 #[.val (.ref x), .val (.int (Int32.ofNat i))] [.int (Int32.ofNat i), .ref t])) rfl (by rw [hml]; rfl) c5 (argsL := [.ref t, .int (Int32.ofNat i)]) (rest := []) rfl rfl (by show 2 * 0 + 0 ≤ _; decide) (hb hbytes d12) (⟨rfl, hx.2.2.2.1.mv X4.warmed.alike hh4, (k2 i hi).1, s3.there X4.warmed.alike hh4, rf⟩)
    obtain ⟨rfl, q6⟩ := E6
    rw [chr8_lo8 hr.1 (k2 i hi).2] at g6
    exact ⟨T6, some (.int (f i)), _, _, _, X6, rfl, rfl, rfl, (fun h => by cases h), ⟨rfl, q6.trans hh4⟩, fun fs hl => Steps.trans g6 (X6.ireturnOut hexec hret (narrow_ch hr.1 hr.2) (Or.inr (Or.inr (Or.inr (Or.inl rfl)))) (hb hbytes d15) hl)⟩
  · exact absurd k0 (by decide)
theorem pays {l : Launch} {R : Room} {p : Program} {e : Env} {below : List Frame} {s : State} {sargs : Array Value} {len W : Nat} (x t : Addr) (V : Cell) (n : Nat) (f : Nat → Int32) (z : Int32) (fm : Value) (i : Nat) (htab : tab.before sargs s = true) (hfr : 4 ≤ R.frames) (hlo : W + 53 ≤ R.locals) :
    Back l R p e below s sargs yN len W (fun A₁ a₁ => A₁.cells + 0 ≤ R.cells ∧ A₁.slots + 0 ≤ R.slots ∧ P x t V n f z fm i a₁ A₁.U) (fun A₁ _ v₁ B₁ => E f i v₁ A₁.U B₁.U ∧ B₁.locs = A₁.locs ++ [] ∧ B₁.cells = A₁.cells + 0 ∧ B₁.slots = A₁.slots + 0) :=
  (law l x t V n f z fm i).pays htab hfr (by omega)
end ChN
end StrChars
namespace StrChars.Road
open Jvm Sem ClassFile Op Lib Jvm.Stand Jvm.Free Jvm.Free.XT
open Jvm.Lib.Cold (StaticIs)
/-- the words of String.charAt(int), the Latin-1 road alone -/
abbrev wordsChN : List Jvm.Cond := [.code ChN.yN ChN.yB 2 (some .char), .initialized ST, .fieldLink ST 9 ST "value" "[B", .fieldLink ST 38 ST "COMPACT_STRINGS" "Z", .fieldLink ST 15 ST "coder" "B", .code IsL.yN IsL.yB 1 (some .boolean), .methodLink ST 492 IsL.yN, .declares IsL.yN, .selects ST IsL.yN IsL.yN, .instanceMethod IsL.yN,
  .methodLink ST 495 LChA.yN, .static LChA.yN, .code LChA.yN LChA.yB 2 (some .char), .initialized "java/lang/StringLatin1", .methodLink "java/lang/StringLatin1" 9 JO.Str_checkIndex.yN, .static JO.Str_checkIndex.yN, .code JO.Str_checkIndex.yN JO.Str_checkIndex.yB 2 none,
  .fieldLink ST 1053 "jdk/internal/util/Preconditions" "SIOOBE_FORMATTER" "Ljava/util/function/BiFunction;", .methodLink ST 1059 JC.PreCheck.yN, .static JC.PreCheck.yN, .code JC.PreCheck.yN JC.PreCheck.yB 3 (some .int), .initialized "jdk/internal/util/Preconditions"]
theorem tabChN_of {a : Array Value} {s : State} (h : ∀ w ∈ wordsChN, w.before a s = true) : ChN.tab.before a s = true := by
  have hp : JC.PreCheck.tab.before a s = true := unparts (wk h (.code JC.PreCheck.yN JC.PreCheck.yB 3 (some .int))) (wks h (.initialized JC.PreCheck.yN.cls :: JC.PreCheck.site))
  have qk := consq hp h
  have hk : JO.Str_checkIndex.tab.before a s = true := unparts (wk qk (.code JO.Str_checkIndex.yN JO.Str_checkIndex.yB 2 none)) (wks qk (.initialized JO.Str_checkIndex.yN.cls :: JO.Str_checkIndex.site))
  have ql := consq hk h
  have hl : LChA.tab.before a s = true := unparts (wk ql (.code LChA.yN LChA.yB 2 (some .char))) (wks ql (.initialized LChA.yN.cls :: LChA.site))
  have hi : IsL.tab.before a s = true := unparts (wk h (.code IsL.yN IsL.yB 1 (some .boolean))) (wks h (.initialized IsL.yN.cls :: IsL.site))
  have q := consq hi (consq hl h)
  exact unparts (wk q (.code ChN.yN ChN.yB 2 (some .char))) (wks q (.initialized ChN.yN.cls :: ChN.site))
theorem movedChN {Z s : State} {a0 args : Array Value} (hZ : Z.Warmed39 s.vm) (hw : ∀ d ∈ wordsChN, d.before a0 Z = true) : ∀ d ∈ wordsChN, d.before args s = true := fun d hd => by
  have t : ∀ d ∈ wordsChN, (d.onTables && d.keepsFace) = true := by decide +kernel
  exact RoadKit.mv hZ (hw d hd) (t d hd)
/-- **charAt(i) OF A LATIN-1 STRING**, i < n: the char -/
theorem chN {p : Program} {l : Launch} {e : Env} {R : Room} {s : State} {args : Array Value} {below : List Frame} {len W : Nat} {Z : State} {a0 : Array Value} {h : Heap} (hZ : Z.Warmed39 s.vm) (hw : ∀ d ∈ wordsChN, d.before a0 Z = true) {kI : Nat} (wi : (Jvm.Cond.instantiable ST kI).before a0 Z = true)
    {x t : Addr} {kb : ClassId} {cs : List Int32} {N2 z : Int32} {vs : List Value} {fm : Value} {i : Nat} {j : Int32} (E : RoadKit.Exa Z h x ST) (V : RoadKit.Fld Z h x ST "value" "[B" (.ref t)) (C : RoadKit.Fld Z h x ST "coder" "B" (.int 0)) (K : RoadKit.Arv Z h t kb .byte N2 vs (.int 0)) (hc : CodA cs 0 N2 vs) (hb : ∀ c ∈ cs, ¬ c < 0 ∧ ¬ (65535 : Int32) < c)
    (S : RoadKit.Sta Z h ST "COMPACT_STRINGS" "Z" (.int z)) (hz : ¬ z = 0) (F : RoadKit.Sta Z h "jdk/internal/util/Preconditions" "SIOOBE_FORMATTER" "Ljava/util/function/BiFunction;" fm) (rf : fm.isRef = true) (l2 : cs.length ≤ 4000) (hi : i < cs.length) (hj : j = Int32.ofNat i) (hfr : 4 ≤ R.frames) (hlo : W + 53 ≤ R.locals) :
    Back l R p e below s args (⟨"java/lang/String", "charAt", "(I)C"⟩ : MethodName) len W (fun P a => a = #[.ref x, .int j] ∧ P.U.heap = h ∧ P.cells + 0 ≤ R.cells ∧ P.slots + 0 ≤ R.slots)
      (fun P _ v B => ∃ L, (v = some (.int (cs.getD i 0)) ∧ L = [] ∧ B.U.heap = h) ∧ B.locs = P.locs ++ L ∧ B.cells = P.cells + 0 ∧ B.slots = P.slots + 0) := by
  subst hj
  intro m meth c P g ig mk a X hg hsize hdg hW hn hp'
  obtain ⟨rfl, rfl, r1, r2⟩ := hp'
  have al : Z.vm.Alike P.U.vm := hZ.alike.trans X.warmed.alike
  obtain ⟨A, hx⟩ := txt_of wi al E V C K hc hb l2
  obtain ⟨v, B, X', ⟨⟨hv, hh⟩, hl, hk, hs⟩, st⟩ := ChN.pays x t A cs.length (fun j => cs.getD j 0) z fm i (tabChN_of (movedChN hZ hw)) hfr hlo m meth c P g ig mk _ X hg hsize hdg hW hn ⟨r1, r2, rfl, hx, hi, sta_is al S, hz, sta_is al F, rf⟩
  exact ⟨v, B, X', ⟨[], ⟨hv, rfl, hh⟩, hl, hk, hs⟩, st⟩
end StrChars.Road
end Jvm.Pilot.@@N@@

namespace Jvm.Pilot.@@N@@
namespace Own
open Jvm Jvm.ClassFile Sem Op Lib Jvm.Free Jvm.Stand Jvm.LawKit Jvm.RoadKit Bundle
section StrB
variable {p : Program} {l : Launch} {e : Env} {R : Room} {s : State} {args : Array Value} {below : List Frame} {W : Nat} {Z : State} {a0 : Array Value} {h : Heap} {z : Int32} {kI n0 : Nat}
def QPure (w : Value) (h : Heap) (n0 : Nat) (v : Option Value) (h' : Heap) (L : List Loc) : Prop := v = some w ∧ Fr n0 L ∧ h' = h
def QNew (Z : State) (x : Addr) (cs : List Int32) (h : Heap) (n0 : Nat) (v : Option Value) (h' : Heap) (L : List Loc) : Prop := v = none ∧ Fr n0 L ∧ Keep h h' [x] ∧ Str Z h' x cs
theorem newB (hZ : Z.Warmed39 s.vm) (hw : ∀ d ∈ StrChars.Road.words, d.before a0 Z = true) (wi : (Jvm.Cond.instantiable "java/lang/String" kI).before a0 Z = true) {x b : Addr} {kC : ClassId} {cs : List Int32} {d v0 c0 : Value} {N : Int32} {n : Nat} (hx0 : n0 ≤ x) (hh0 : n0 ≤ h.size) (E : Exa Z h x "java/lang/String") (V : Fld Z h x "java/lang/String" "value" "[B" v0) (C : Fld Z h x "java/lang/String" "coder" "B" c0) (K : Arv Z h b kC .char N (cs.map Value.int) d) (S : Sta Z h "java/lang/String" "COMPACT_STRINGS" "Z" (.int z)) (hz : ¬ z = 0)
    (hn : cs.length = n) (hN : N = Int32.ofNat n) (l0 : 0 < n) (l2 : n ≤ 4000) (hp : ∀ c ∈ cs, ¬ c < 0 ∧ ¬ (255 : Int32) < c) (hfr : 4 ≤ R.frames) (hlo : W + 65 ≤ R.locals) :
    Back l R p e below s args (⟨"java/lang/String", "<init>", "([C)V"⟩ : MethodName) 3 W (fun A a => a = #[.ref x, .ref b] ∧ A.U.heap = h ∧ A.cells + 1 ≤ R.cells ∧ A.slots + n ≤ R.slots)
      (fun A _ v B => ∃ L, QNew Z x cs h n0 v B.U.heap L ∧ B.locs = A.locs ++ L ∧ B.cells = A.cells + 1 ∧ B.slots = A.slots + n) := by
  subst hn hN
  refine Back.mono (StrChars.Road.backV hZ hw wi (cs := cs) (n0 := n0) hx0 hh0 E V C K S hz rfl rfl l0 l2 hp rfl hfr hlo) (fun _ _ q => q) (fun P a v B _ hq => ?_)
  obtain ⟨L, ⟨q1, q2, q3, q4, q5, t, kb, -, -, -, q6, q7⟩, r⟩ := hq
  exact ⟨L, ⟨q1, q2, q3, ⟨t, kb, q4, q6, q5, q7⟩, hp, l2⟩, r⟩
theorem Str.cod {cs : List Int32} (hb : ∀ c ∈ cs, ¬ c < 0 ∧ ¬ (255 : Int32) < c) : StrChars.Road.CodA cs 0 (Int32.ofNat cs.length) ((cs.map fun c => c.toInt8.toInt32).map Value.int) := Or.inl ⟨rfl, rfl, by rw [List.map_map]; rfl, fun c hc => (hb c hc).2⟩
theorem lenB (hZ : Z.Warmed39 s.vm) (hw : ∀ d ∈ StrChars.Road.wordsLen, d.before a0 Z = true) (wi : (Jvm.Cond.instantiable "java/lang/String" kI).before a0 Z = true) {x : Addr} {cs : List Int32} (X : Str Z h x cs) (S : Sta Z h "java/lang/String" "COMPACT_STRINGS" "Z" (.int z)) (hz : ¬ z = 0) (hfr : 2 ≤ R.frames) (hlo : W + 25 ≤ R.locals) :
    Back l R p e below s args (⟨"java/lang/String", "length", "()I"⟩ : MethodName) 3 W (fun A a => a = #[.ref x] ∧ A.U.heap = h ∧ A.cells + 0 ≤ R.cells ∧ A.slots + 0 ≤ R.slots)
      (fun A _ v B => ∃ L, QPure (.int (Int32.ofNat cs.length)) h n0 v B.U.heap L ∧ B.locs = A.locs ++ L ∧ B.cells = A.cells + 0 ∧ B.slots = A.slots + 0) := by
  have up := X.up
  obtain ⟨⟨t, kb, x1, x2, x3, x4⟩, hp, hl⟩ := X
  refine Back.mono (StrChars.Road.lenW hZ hw wi x1 x2 x3 x4 (Str.cod hp) up S hz hl hfr hlo) (fun _ _ q => q) (fun P a v B _ hq => ?_)
  obtain ⟨L, ⟨q1, q2, q3⟩, r⟩ := hq
  exact ⟨L, ⟨q1, by subst q2; exact Fr.nil _, q3⟩, r⟩
theorem chB (hZ : Z.Warmed39 s.vm) (hw : ∀ d ∈ StrChars.Road.wordsChN, d.before a0 Z = true) (wi : (Jvm.Cond.instantiable "java/lang/String" kI).before a0 Z = true) {x : Addr} {cs : List Int32} (X : Str Z h x cs) (S : Sta Z h "java/lang/String" "COMPACT_STRINGS" "Z" (.int z)) (hz : ¬ z = 0) {fm : Value} (F : Sta Z h "jdk/internal/util/Preconditions" "SIOOBE_FORMATTER" "Ljava/util/function/BiFunction;" fm) (rf : fm.isRef = true) {i : Nat} {j : Int32} (hi : i < cs.length) (hj : j = Int32.ofNat i) (hfr : 4 ≤ R.frames) (hlo : W + 53 ≤ R.locals) :
    Back l R p e below s args (⟨"java/lang/String", "charAt", "(I)C"⟩ : MethodName) 3 W (fun A a => a = #[.ref x, .int j] ∧ A.U.heap = h ∧ A.cells + 0 ≤ R.cells ∧ A.slots + 0 ≤ R.slots)
      (fun A _ v B => ∃ L, QPure (.int (cs.getD i 0)) h n0 v B.U.heap L ∧ B.locs = A.locs ++ L ∧ B.cells = A.cells + 0 ∧ B.slots = A.slots + 0) := by
  have up := X.up
  obtain ⟨⟨t, kb, x1, x2, x3, x4⟩, hp, hl⟩ := X
  refine Back.mono (StrChars.Road.chN hZ hw wi x1 x2 x3 x4 (Str.cod hp) up S hz F rf hl hi hj hfr hlo) (fun _ _ q => q) (fun P a v B _ hq => ?_)
  obtain ⟨L, ⟨q1, q2, q3⟩, r⟩ := hq
  exact ⟨L, ⟨q1, by subst q2; exact Fr.nil _, q3⟩, r⟩
end StrB
end Own
end Jvm.Pilot.@@N@@
namespace Jvm.Pilot.@@N@@
namespace Own
open Jvm Jvm.ClassFile Sem Op Lib Jvm.Free Jvm.Stand Jvm.LawKit Jvm.RoadKit Bundle
abbrev KEH (Z : State) (EL : List (String × Nat)) (Q : Option Value → Heap → List Loc → Prop) (s : State) (kc ks : Nat) : State → Outcome → Prop := fun s₂ o => ∃ v L, o = .returned v ∧ Q v s₂.heap L ∧ CHr Z EL s.vm s.heap s₂.vm s₂.heap ∧ ReturnedEndW s o s₂ L kc ks
section Held
variable {Z : State} {own : String} {bytes : ByteArray} {h h' : Heap} {p : Program} {l : Launch} {e : Env} {R : Room} {s : State} {m : MethodId} {args : Array Value} {below : List Frame} {meth : Method} {c : Code} {T : State} {locs : List Loc} {cells slots : Nat}
  {K : State → Outcome → Prop} {a0 : Array Value} {pc q : Nat} {Ls : Array Slot} {st : List Value} {vm : Vm} {h0 : Heap} {EL : List (String × Nat)}
/-- where a walk that may intern stands: since its start s, with the tables vm -/
def Hd (Z : State) (EL : List (String × Nat)) (s : State) (vm : Vm) (h0 h : Heap) : Prop := (∃ k, s.Since vm k ∧ k ≤ h.size) ∧ CHr Z EL s.vm h0 vm h
theorem Hd.start (H : CHv Z EL s.vm h0) : Hd Z EL s s.vm h0 h0 := ⟨⟨0, (State.WarmedH.refl s).since 0, Nat.zero_le _⟩, CHr.refl H⟩
theorem Hd.ext (H : Hd Z EL s vm h0 h) (E : Ext h h') : Hd Z EL s vm h0 h' := by
  obtain ⟨⟨k, a, b⟩, r⟩ := H
  exact ⟨⟨k, a, Nat.le_trans b E.1⟩, r.trans (CHr.ext E r.1)⟩
theorem Hd.wr {a : Addr} {sl : Nat} {v : Value} (H : Hd Z EL s vm h0 h) (W : Wr h h' a sl v) (S : Safe Z EL vm h a) : Hd Z EL s vm h0 h' := by
  obtain ⟨⟨k, a, b⟩, r⟩ := H
  exact ⟨⟨k, a, by rw [W.size]; exact b⟩, r.trans (CHr.wr W S r.1)⟩
theorem Hd.kp {ws : List Addr} (H : Hd Z EL s vm h0 h) (Kp : Keep h h' ws) (S : ∀ x ∈ ws, Safe Z EL vm h x) : Hd Z EL s vm h0 h' := by
  obtain ⟨⟨k, a, b⟩, r⟩ := H
  exact ⟨⟨k, a, Nat.le_trans b Kp.1⟩, r.trans (CHr.keep Kp S r.1)⟩
def MFH (l : Launch) (Z : State) (EL : List (String × Nat)) (y : MethodName) (cb : ByteArray) (mx : Nat) (rt : Option FieldType) (ws : List Jvm.Cond) (R : Room) (as' : Array Value) (sf : List Addr) (h0 : Heap) (Q : Option Value → Heap → List Loc → Prop) : Prop :=
  MetFree l y (head1 (Jvm.Cond.code y cb mx rt :: ws) R) (fun a U => a = as' ∧ Z.Warmed39 U.vm ∧ U.heap = h0 ∧ CHv Z EL U.vm h0 ∧ ∀ x ∈ sf, Safe Z EL U.vm h0 x) (fun _ _ _ _ _ => True) (fun _ U o U' => ∃ v L, o = .returned v ∧ Q v U'.heap L ∧ CHr Z EL U.vm U.heap U'.vm U'.heap ∧ ReturnedEndW U o U' L R.cells R.slots)
theorem MFH.of {y : MethodName} {cb : ByteArray} {mx : Nat} {rt : Option FieldType} {ws : List Jvm.Cond} {as' : Array Value} {sf : List Addr} {Q : Option Value → Heap → List Loc → Prop} {n : Nat} (ho : y.cls = own) (hn : mx = n) (pn : plainFor y = true)
    (k : ∀ (p : Program) (e : Env) (s : State) (m : MethodId) (below : List Frame) (meth : Method) (c : Code) (s₁ : State), (∀ {j : Nat}, j = n → j = c.maxLocals) → meth.locks = false → meth.sig.returnType = rt → meth.name = y.name → s.heap = h0 → Hd Z EL s s.vm h0 h0 → (∀ x ∈ sf, Safe Z EL s.vm h0 x) → Wk Z own cb h0 p l e R (s.setVm s.vm) m as' below meth c s₁ [] 0 0 → Goes p.tables e below (KEH Z EL Q s R.cells R.slots) (s₁.setTop (entryFrame m as' mx))) : MFH l Z EL y cb mx rt ws R as' sf h0 Q := by
  subst ho hn
  refine MetFree.of_bodySF pn hisR ?_
  intro p e s m args below meth c s₁ Bd hml0 hP hK
  obtain ⟨rfl, hZ, hh, hCH, hSf⟩ := hP
  exact k p e s m below meth c s₁ (fun q => q.trans hml0.symm) Bd.notSynchronized Bd.returns (name_of_methodNamed Bd.named Bd.method).1 hh (Hd.start hCH) hSf ⟨Stand.of_body Bd, Bd.exec, Bd.bytes, hZ, findClass_of_methodNamed Bd.named, by rw [← hh, Bd.state]; rfl⟩
theorem backH {y : MethodName} {cb : ByteArray} {maxL : Nat} {ret : Option FieldType} {rm : Room} {len W : Nat} {as' : Array Value} {Q : Option Value → Heap → List Loc → Prop} {sf : List Addr}
    (hM : MetFree l y (head1 [Cond.code y cb maxL ret] rm) (fun a U => a = as' ∧ Z.Warmed39 U.vm ∧ U.heap = h ∧ CHv Z EL U.vm h ∧ ∀ x ∈ sf, Safe Z EL U.vm h x) (fun _ _ _ _ _ => True) (fun _ U o U' => ∃ v L, o = .returned v ∧ Q v U'.heap L ∧ CHr Z EL U.vm U.heap U'.vm U'.heap ∧ ReturnedEndW U o U' L rm.cells rm.slots))
    (hZ : Z.Warmed39 vm) (wc : (Cond.code y cb maxL ret).before a0 Z = true) (wz : (Cond.initialized y.cls).before a0 Z = true) (hf : rm.frames + 1 ≤ R.frames) (hl : W + (maxL + 11) + rm.locals ≤ R.locals) (hEL : EW Z a0 EL) (H : CHv Z EL vm h) (hsf : ∀ x ∈ sf, x < h.size ∧ Safe Z EL vm h x) :
    BackS l R p e below (s.setVm vm) args y len W (fun A a => a = as' ∧ A.U.heap = h ∧ A.cells + rm.cells ≤ R.cells ∧ A.slots + rm.slots ≤ R.slots)
      (fun A _ v B => ∃ L, Q v B.U.heap L ∧ B.locs = A.locs ++ L ∧ B.cells = A.cells + rm.cells ∧ B.slots = A.slots + rm.slots ∧ CHr Z EL vm h B.U.vm B.U.heap) := by
  refine BackS.of_freeW (bytes := cb) (maxL := maxL) (ret := ret) (E := fun _ first o t L k n => k = rm.cells ∧ n = rm.slots ∧ (∃ v, o = .returned v ∧ Q v t.heap L) ∧ CHr Z EL first.vm first.heap t.vm t.heap) hM hf hl ?_ ?_ (fun _ _ _ _ _ _ _ _ _ => trivial) ?_ ?_
  · intro m meth c A a Y hp
    have hU : Z.Warmed39 A.U.vm := wtrans (s := s.setVm vm) hZ Y.warmed
    exact ⟨by show (Cond.and _ .tt).before a A.U = true; rw [Cond.before_and, mv hU wc]; rfl, mv hU wc, mv hU wz, hp.2.2.1, hp.2.2.2⟩
  · intro m meth c A a g mk Y hp
    have q := CHv.at Y hZ hEL H
    exact ⟨hp.1, wtrans (s := s.setVm vm) hZ Y.warmed, hp.2.1, q.1, fun x hx => q.safe (hsf x hx).1 (hsf x hx).2⟩
  · rintro _ _ _ _ ⟨v, L, h1, h2, h3, h4⟩
    exact ⟨L, _, _, h4, rfl, rfl, ⟨v, h1, h2⟩, h3⟩
  · rintro m meth c A a g mk v t L k n Y hp - - ⟨e1, e2, ⟨v', e3, e4⟩, e5⟩
    cases e3
    subst e1 e2
    refine ⟨L, e4, rfl, rfl, rfl, (CHv.at Y hZ hEL H).trans ?_⟩
    rw [← hp.2.1]
    exact e5
theorem ldcStr {i n : Nat} {text : String} {cs : List Int32} (P : Wk Z own bytes h p l e R (s.setVm vm) m args below meth c T locs cells slots) (H : Hd Z EL s vm h0 h) (hd : decode bytes pc = .ok (.ldc i, 2)) (w : (Cond.stringLink own i text).before a0 Z = true) (wS : ∀ a ∈ Bundle.stringAtoms, a.before a0 Z = true) (hEL : EW Z a0 EL) (hmem : (own, i) ∈ EL)
    (ht : (∀ c ∈ text.toList, c.toNat < 256) ∧ text.toList.map (fun c => Value.int (Jvm.Lit.byteI c.toNat.toUInt16)) = (cs.map fun c => c.toInt8.toInt32).map Value.int) (hp : ∀ c ∈ cs, ¬ c < 0 ∧ ¬ (255 : Int32) < c) (hl : cs.length ≤ 4000) (hz : ¬ (Int32.ofNat cs.length) < 0) (hz2 : (Int32.ofNat cs.length).toNatClampNeg = ((cs.map fun c => c.toInt8.toInt32).map Value.int).length)
    (hn : 4 * text.toList.length ≤ n) (hbig : n ≤ 536870912) (hc : cells + 2 ≤ R.cells) (hs : slots + (n + 4) ≤ R.slots) (hq : pc + 2 = q)
    (k : ∀ T₂ vm₂ h₂ a, Wk Z own bytes h₂ p l e R (s.setVm vm₂) m args below meth c T₂ locs (cells + 2) (slots + (n + 4)) → Hd Z EL s vm₂ h0 h₂ → CHr Z EL vm h vm₂ h₂ → Ext h h₂ → Str Z h₂ a cs → Goes p.tables e below K (T₂.setTop (mkF m (q) Ls (.ref a :: st)))) : Goes p.tables e below K (T.setTop (mkF m pc Ls (st))) := by
  subst hq
  obtain ⟨⟨k0, S0, b0⟩, r0⟩ := H
  obtain ⟨a, T₂, h₂, k1, b, kb, X2, e2, E2, S2, b2, hW, hf, g1, g2, g3, g4, -, -, r2, -, -, st2⟩ := ldcCH P.1 P.2.1 P.2.2.2.1 P.2.2.2.2.1 w wS P.2.2.2.2.2 S0 b0 hEL hmem r0.1 ht hz hz2 (g := mkF m pc Ls st) rfl (hb P.2.2.1 hd) hn hbig hc hs
  exact Goes.go st2 (k T₂ T₂.vm h₂ a ⟨X2, P.2.1, P.2.2.1, hW, hf, e2⟩ ⟨⟨k1, S2, b2⟩, r0.trans r2⟩ r2 E2 ⟨⟨b, kb, g1, g3, g2, g4⟩, hp, hl⟩)
theorem invStaticH {y : MethodName} {cb : ByteArray} {mL : Nat} {ret : Option FieldType} {i W kc ks : Nat} {as' : Array Value} {Q : Option Value → Heap → List Loc → Prop} {argsL rest : List Value} (P : Wk Z own bytes h p l e R (s.setVm vm) m args below meth c T locs cells slots) (H : Hd Z EL s vm h0 h) (hd : decode bytes pc = .ok (.invokestatic i, 3)) (w1 : (Cond.methodLink own i y).before a0 Z = true) (w2 : (Cond.static y).before a0 Z = true) (w3 : (Cond.initialized y.cls).before a0 Z = true) (w4 : (Cond.code y cb mL ret).before a0 Z = true) (hy : y.cls ≠ "java/lang/invoke/MethodHandle" ∧ y.cls ≠ "java/lang/invoke/VarHandle") (B : BackS l R p e below (s.setVm vm) args y 3 W (fun A a => a = as' ∧ A.U.heap = h ∧ A.cells + kc ≤ R.cells ∧ A.slots + ks ≤ R.slots) (fun A _ v B => ∃ L, Q v B.U.heap L ∧ B.locs = A.locs ++ L ∧ B.cells = A.cells + kc ∧ B.slots = A.slots + ks ∧ CHr Z EL vm h B.U.vm B.U.heap)) (ha : argsL.toArray = as') (hst : st = argsL.reverse ++ rest) (hz : Ls.size = c.maxLocals) (hlen : ∀ sig, parseMethodDescriptor y.desc = some sig → argsL.length = sig.parameters.length) (hW : 2 * (mkF m pc Ls st).monitorRoom + (rest.map fun v => v.category).sum ≤ W) (hcc : cells + kc ≤ R.cells) (hss : slots + ks ≤ R.slots) (hq : pc + 3 = q) (k : ∀ v T₂ vm₂ h₂ L, Q v h₂ L → Wk Z own bytes h₂ p l e R (s.setVm vm₂) m args below meth c T₂ (locs ++ L) (cells + kc) (slots + ks) → Hd Z EL s vm₂ h0 h₂ → CHr Z EL vm h vm₂ h₂ → Goes p.tables e below K (T₂.setTop (mkF m q Ls (match v with | none => rest | some x => x :: rest)))) : Goes p.tables e below K (T.setTop (mkF m pc Ls (st))) := by
  subst hq
  obtain ⟨v, _, ⟨T₂, L₂, c₂, n₂⟩, -, X2, S2, b2, ⟨L, hQ, hl, hc2, hs2, r2⟩, st2⟩ := callSS P.1 P.2.1 (y := y) P.2.2.2.2.1 (mvT P.2.2.2.1 w1) (mvT P.2.2.2.1 w2) (mvT P.2.2.2.1 w3) (mvT P.2.2.2.1 w4) hy B (g := mkF m pc Ls st) rfl hz (argsL := argsL) (rest := rest) hlen hst hW (hb P.2.2.1 hd) (fun _ _ => ⟨ha, P.2.2.2.2.2, hcc, hss⟩)
  dsimp only [Pt.U, Pt.locs, Pt.cells, Pt.slots] at X2 hl hc2 hs2 st2 hQ S2 b2 r2
  subst hl hc2 hs2
  obtain ⟨⟨k0, S0, b0⟩, r0⟩ := H
  have hW : Z.Warmed39 T₂.vm := State.Warmed39.trans (t := s.setVm vm) P.2.2.2.1 S2.1
  have hf : (s.setVm T₂.vm).vm.findClass own = some m.cls := by rw [show (s.setVm T₂.vm).vm = T₂.vm from rfl, S2.1.alike.findClass]; exact P.2.2.2.2.1
  have b1 : k0 ≤ T.heap.size := by rw [P.2.2.2.2.2]; exact b0
  cases v <;> exact Goes.tr st2 (k _ T₂ T₂.vm _ L hQ ⟨X2, P.2.1, P.2.2.1, hW, hf, rfl⟩ ⟨⟨_, S0.trans S2 (Nat.le_trans b1 b2), Nat.le_refl _⟩, r0.trans r2⟩ r2)
theorem invSpecialH {y : MethodName} {cb : ByteArray} {mL : Nat} {i W kc ks : Nat} {as' : Array Value} {Q : Option Value → Heap → List Loc → Prop} {a : Addr} {argsL rest : List Value} (P : Wk Z own bytes h p l e R (s.setVm vm) m args below meth c T locs cells slots) (H : Hd Z EL s vm h0 h) (hd : decode bytes pc = .ok (.invokespecial i, 3)) (hin : y.name = "<init>") (w1 : (Cond.methodLink own i y).before a0 Z = true) (w2 : (Cond.instanceMethod y).before a0 Z = true) (w4 : (Cond.code y cb mL none).before a0 Z = true) (hy : y.cls ≠ "java/lang/invoke/MethodHandle" ∧ y.cls ≠ "java/lang/invoke/VarHandle") (B : BackS l R p e below (s.setVm vm) args y 3 W (fun A a => a = as' ∧ A.U.heap = h ∧ A.cells + kc ≤ R.cells ∧ A.slots + ks ≤ R.slots) (fun A _ v B => ∃ L, Q v B.U.heap L ∧ B.locs = A.locs ++ L ∧ B.cells = A.cells + kc ∧ B.slots = A.slots + ks ∧ CHr Z EL vm h B.U.vm B.U.heap)) (ha : (.ref a :: argsL).toArray = as') (hst : st = argsL.reverse ++ .ref a :: rest) (hz : Ls.size = c.maxLocals) (hlen : ∀ sig, parseMethodDescriptor y.desc = some sig → argsL.length = sig.parameters.length) (hW : 2 * (mkF m pc Ls st).monitorRoom + (rest.map fun v => v.category).sum ≤ W) (hcc : cells + kc ≤ R.cells) (hss : slots + ks ≤ R.slots) (hq : pc + 3 = q) (k : ∀ v T₂ vm₂ h₂ L, Q v h₂ L → Wk Z own bytes h₂ p l e R (s.setVm vm₂) m args below meth c T₂ (locs ++ L) (cells + kc) (slots + ks) → Hd Z EL s vm₂ h0 h₂ → CHr Z EL vm h vm₂ h₂ → Goes p.tables e below K (T₂.setTop (mkF m q Ls (match v with | none => rest | some x => x :: rest)))) : Goes p.tables e below K (T.setTop (mkF m pc Ls (st))) := by
  subst hq
  obtain ⟨v, _, ⟨T₂, L₂, c₂, n₂⟩, -, X2, S2, b2, ⟨L, hQ, hl, hc2, hs2, r2⟩, st2⟩ := P.1.specialBackS P.2.1 (y := y) hin P.2.2.2.2.1 (mvT P.2.2.2.1 w1) (mvT P.2.2.2.1 w2) (mvT P.2.2.2.1 w4) hy B (g := mkF m pc Ls st) rfl hz (Steps.refl _) (a := a) (argsL := argsL) (rest := rest) hlen hst hW (hb P.2.2.1 hd) (fun _ _ => ⟨ha, P.2.2.2.2.2, hcc, hss⟩)
  dsimp only [Pt.U, Pt.locs, Pt.cells, Pt.slots] at X2 hl hc2 hs2 st2 hQ S2 b2 r2
  subst hl hc2 hs2
  obtain ⟨⟨k0, S0, b0⟩, r0⟩ := H
  have hW : Z.Warmed39 T₂.vm := State.Warmed39.trans (t := s.setVm vm) P.2.2.2.1 S2.1
  have hf : (s.setVm T₂.vm).vm.findClass own = some m.cls := by rw [show (s.setVm T₂.vm).vm = T₂.vm from rfl, S2.1.alike.findClass]; exact P.2.2.2.2.1
  have b1 : k0 ≤ T.heap.size := by rw [P.2.2.2.2.2]; exact b0
  cases v <;> exact Goes.tr st2 (k _ T₂ T₂.vm _ L hQ ⟨X2, P.2.1, P.2.2.1, hW, hf, rfl⟩ ⟨⟨_, S0.trans S2 (Nat.le_trans b1 b2), Nat.le_refl _⟩, r0.trans r2⟩ r2)
theorem cSH {y : MethodName} {ret : Option FieldType} {cb : ByteArray} {mL nn : Nat} {rm : Room} {i W : Nat} {Q : Option Value → Heap → List Loc → Prop} {argsL rest : List Value} {sf : List Addr} (P : Wk Z own bytes h p l e R (s.setVm vm) m args below meth c T locs cells slots) (H : Hd Z EL s vm h0 h) (hd : decode bytes pc = .ok (.invokestatic i, 3)) (w1 : (Cond.methodLink own i y).before a0 Z = true) (sw : SW Z a0 y cb mL ret nn) (M : MFH l Z EL y cb mL ret [] rm argsL.toArray sf h Q) (hEL : EW Z a0 EL) (hsf : ∀ x ∈ sf, x < h.size ∧ Safe Z EL vm h x) (hf : rm.frames + 1 ≤ R.frames) (hl : W + (mL + 11) + rm.locals ≤ R.locals) (hst : st = argsL.reverse ++ rest) (hz : Ls.size = c.maxLocals) (hn : argsL.length = nn) (hW : (rest.map fun v => v.category).sum = W) (hcc : cells + rm.cells ≤ R.cells) (hss : slots + rm.slots ≤ R.slots) (hq : pc + 3 = q) (k : ∀ v T₂ vm₂ h₂ L, Q v h₂ L → Wk Z own bytes h₂ p l e R (s.setVm vm₂) m args below meth c T₂ (locs ++ L) (cells + rm.cells) (slots + rm.slots) → Hd Z EL s vm₂ h0 h₂ → CHr Z EL vm h vm₂ h₂ → Goes p.tables e below K (T₂.setTop (mkF m q Ls (match v with | none => rest | some x => x :: rest)))) : Goes p.tables e below K (T.setTop (mkF m pc Ls (st))) :=
  invStaticH P H hd w1 sw.1 sw.2.1 sw.2.2.1 sw.2.2.2.1 (backH (W := W) M P.2.2.2.1 sw.2.2.1 sw.2.1 hf hl hEL H.2.1 hsf) rfl hst hz (lenW sw.2.2.2.2 hn) (w0 hW) hcc hss hq k
theorem cIH {y : MethodName} {a : Addr} {cb : ByteArray} {mL nn : Nat} {rm : Room} {i W : Nat} {Q : Option Value → Heap → List Loc → Prop} {argsL rest : List Value} {sf : List Addr} (P : Wk Z own bytes h p l e R (s.setVm vm) m args below meth c T locs cells slots) (H : Hd Z EL s vm h0 h) (hd : decode bytes pc = .ok (.invokespecial i, 3)) (w1 : (Cond.methodLink own i y).before a0 Z = true) (sw : IW Z a0 y cb mL nn) (M : MFH l Z EL y cb mL none [] rm (.ref a :: argsL).toArray sf h Q) (hEL : EW Z a0 EL) (hsf : ∀ x ∈ sf, x < h.size ∧ Safe Z EL vm h x) (hf : rm.frames + 1 ≤ R.frames) (hl : W + (mL + 11) + rm.locals ≤ R.locals) (hst : st = argsL.reverse ++ .ref a :: rest) (hz : Ls.size = c.maxLocals) (hn : argsL.length = nn) (hW : (rest.map fun v => v.category).sum = W) (hcc : cells + rm.cells ≤ R.cells) (hss : slots + rm.slots ≤ R.slots) (hq : pc + 3 = q) (k : ∀ v T₂ vm₂ h₂ L, Q v h₂ L → Wk Z own bytes h₂ p l e R (s.setVm vm₂) m args below meth c T₂ (locs ++ L) (cells + rm.cells) (slots + rm.slots) → Hd Z EL s vm₂ h0 h₂ → CHr Z EL vm h vm₂ h₂ → Goes p.tables e below K (T₂.setTop (mkF m q Ls (match v with | none => rest | some x => x :: rest)))) : Goes p.tables e below K (T.setTop (mkF m pc Ls (st))) :=
  invSpecialH P H hd sw.1 w1 sw.2.1 sw.2.2.2.1 sw.2.2.2.2.1 (backH (W := W) M P.2.2.2.1 sw.2.2.2.1 sw.2.2.1 hf hl hEL H.2.1 hsf) rfl hst hz (lenW sw.2.2.2.2.2 hn) (w0 hW) hcc hss hq k
theorem retVH {kc ks : Nat} {Q : Option Value → Heap → List Loc → Prop}  (P : Wk Z own bytes h p l e R (s.setVm vm) m args below meth c T locs cells slots) (hh : s.heap = h0) (hEL : EW Z a0 EL) (H : Hd Z EL s vm h0 h) (hd : decode bytes pc = .ok (.return_, 1)) (hret : meth.sig.returnType = none) (hlk : meth.locks = false) (hc : cells ≤ kc) (hs : slots ≤ ks) (hQ : Q none h locs) : Goes p.tables e below (KEH Z EL Q s kc ks) (T.setTop (mkF m pc Ls ([]))) := by
  obtain ⟨⟨k0, S0, b0⟩, r0⟩ := H
  obtain ⟨fs, hr, hrun, hended, q1, q2, q3, q4⟩ := P.1.leaveW S0 (by rw [P.2.2.2.2.2]; exact b0) (v := none) (fun h => by first | rfl | (rw [hret] at h; cases h)) hlk
  have r1 := CHv.at P.1 P.2.2.2.1 hEL r0.1
  refine ⟨_, _, P.1.returnOut P.2.1 hret (hb P.2.2.1 hd) hr, hrun, hended, _, _, rfl, by show Q _ T.heap _; rw [P.2.2.2.2.2]; exact hQ, ?_, q1, q2, q3, q4.mono hc hs⟩
  show CHr Z EL s.vm s.heap T.vm T.heap
  rw [P.2.2.2.2.2, hh]
  exact r0.trans r1
theorem retZH {kc ks : Nat} {Q : Option Value → Heap → List Loc → Prop} {t : FieldType} {z : Int32} (P : Wk Z own bytes h p l e R (s.setVm vm) m args below meth c T locs cells slots) (hh : s.heap = h0) (hEL : EW Z a0 EL) (H : Hd Z EL s vm h0 h) (hd : decode bytes pc = .ok (.ireturn, 1)) (hret : meth.sig.returnType = some t) (ht : t = .boolean ∨ t = .byte ∨ t = .char ∨ t = .short) (hlk : meth.locks = false) (hc : cells ≤ kc) (hs : slots ≤ ks) (hQ : Q (some (.int (nar t z))) h locs) : Goes p.tables e below (KEH Z EL Q s kc ks) (T.setTop (mkF m pc Ls (.int z :: st))) := by
  obtain ⟨⟨k0, S0, b0⟩, r0⟩ := H
  obtain ⟨fs, hr, hrun, hended, q1, q2, q3, q4⟩ := P.1.leaveW S0 (by rw [P.2.2.2.2.2]; exact b0) (v := (some (.int (nar t z)))) (fun h => by first | rfl | (rw [hret] at h; cases h)) hlk
  have r1 := CHv.at P.1 P.2.2.2.1 hEL r0.1
  refine ⟨_, _, retN P.1 P.2.1 hret ht (hb P.2.2.1 hd) hr, hrun, hended, _, _, rfl, by show Q _ T.heap _; rw [P.2.2.2.2.2]; exact hQ, ?_, q1, q2, q3, q4.mono hc hs⟩
  show CHr Z EL s.vm s.heap T.vm T.heap
  rw [P.2.2.2.2.2, hh]
  exact r0.trans r1
theorem retAH {kc ks : Nat} {Q : Option Value → Heap → List Loc → Prop} {t : FieldType} {v : Value} (P : Wk Z own bytes h p l e R (s.setVm vm) m args below meth c T locs cells slots) (hh : s.heap = h0) (hEL : EW Z a0 EL) (H : Hd Z EL s vm h0 h) (hd : decode bytes pc = .ok (.areturn, 1)) (hret : meth.sig.returnType = some t) (ht : t.isReference = true) (hv : v.isRef = true) (hn : narrow t v = v) (hlk : meth.locks = false) (hc : cells ≤ kc) (hs : slots ≤ ks) (hQ : Q (some v) h locs) : Goes p.tables e below (KEH Z EL Q s kc ks) (T.setTop (mkF m pc Ls (v :: st))) := by
  obtain ⟨⟨k0, S0, b0⟩, r0⟩ := H
  obtain ⟨fs, hr, hrun, hended, q1, q2, q3, q4⟩ := P.1.leaveW S0 (by rw [P.2.2.2.2.2]; exact b0) (v := (some v)) (fun h => by first | rfl | (rw [hret] at h; cases h)) hlk
  have r1 := CHv.at P.1 P.2.2.2.1 hEL r0.1
  refine ⟨_, _, retOut P.1 P.2.1 hret hn (Or.inr (Or.inr (Or.inr (Or.inr ⟨rfl, ht, hv⟩)))) (hb P.2.2.1 hd) hr, hrun, hended, _, _, rfl, by show Q _ T.heap _; rw [P.2.2.2.2.2]; exact hQ, ?_, q1, q2, q3, q4.mono hc hs⟩
  show CHr Z EL s.vm s.heap T.vm T.heap
  rw [P.2.2.2.2.2, hh]
  exact r0.trans r1
end Held
end Own
end Jvm.Pilot.@@N@@
namespace Jvm.Pilot.@@N@@
open Jvm Jvm.ClassFile Sem Op Lib Jvm.Free Jvm.Stand Jvm.LawKit Jvm.RoadKit Bundle Jvm.Pilot.@@N@@.Jvm.D
set_option maxRecDepth 65536
set_option maxHeartbeats 40000000
def decs (b : ByteArray) (L : List (Nat × Instr × Nat)) : Bool := L.all fun x => decide (decode b x.1 = .ok (x.2.1, x.2.2))
theorem dc {b : ByteArray} {L : List (Nat × Instr × Nat)} (h : decs b L = true) (k : Nat) {pc n : Nat} {i : Instr} (hx : L[k]? = some (pc, i, n)) : decode b pc = .ok (i, n) := by
  unfold decs at h
  rw [List.all_eq_true] at h
  have q := h _ (List.mem_of_getElem? hx)
  rw [decide_eq_true_eq] at q
  exact q
abbrev HW (a0 : Array Value) (Z : State) : Prop := ∀ d ∈ tables_1, d.before a0 Z = true
theorem wd {Z : State} {a0 : Array Value} (hw : HW a0 Z) {d : Jvm.Cond} (i : Nat) (h : tables_1[i]? = some d) : d.before a0 Z = true := hw d (List.mem_of_getElem? h)
set_option maxRecDepth 65536 in
theorem sub_backV : ∀ d ∈ StrChars.Road.words, d ∈ tables_1 := by
  intro d hd
  have h : StrChars.Road.words.all (fun d => tables_1.contains d) = true := by decide +kernel
  exact List.contains_iff_mem.mp (List.all_eq_true.mp h d hd)
set_option maxRecDepth 65536 in
theorem sub_lenW : ∀ d ∈ StrChars.Road.wordsLen, d ∈ tables_1 := by
  intro d hd
  have h : StrChars.Road.wordsLen.all (fun d => tables_1.contains d) = true := by decide +kernel
  exact List.contains_iff_mem.mp (List.all_eq_true.mp h d hd)
set_option maxRecDepth 65536 in
theorem sub_chN : ∀ d ∈ StrChars.Road.wordsChN, d ∈ tables_1 := by
  intro d hd
  have h : StrChars.Road.wordsChN.all (fun d => tables_1.contains d) = true := by decide +kernel
  exact List.contains_iff_mem.mp (List.all_eq_true.mp h d hd)

abbrev EL : List (String × Nat) := [("java/lang/String", 7), ("lifestack/util/Lines", 32), ("lifestack/util/Lines", 37), ("lifestack/util/Lines", 39)]
theorem ew {Z : State} {a0 : Array Value} (hw : ∀ d ∈ tables_1, d.before a0 Z = true) : EW Z a0 EL := (EW.cons (wd hw 15 rfl) (by decide) (EW.cons (wd hw 296 rfl) (by decide) (EW.cons (wd hw 299 rfl) (by decide) (EW.cons (wd hw 142 rfl) (by decide) EW.nil))))
set_option maxRecDepth 65536 in
theorem sub_str : ∀ d ∈ Bundle.stringAtoms, d ∈ tables_1 := by
  intro d hd
  have h : Bundle.stringAtoms.all (fun d => tables_1.contains d) = true := by decide +kernel
  exact List.contains_iff_mem.mp (List.all_eq_true.mp h d hd)

namespace Own
section SbSteps
variable {Z : State} {own : String} {bytes : ByteArray} {h : Heap} {p : Program} {l : Launch} {e : Env} {R : Room} {s : State} {m : MethodId} {args : Array Value} {below : List Frame} {meth : Method} {c : Code} {T : State} {locs : List Loc} {cells slots : Nat}
  {K : State → Outcome → Prop} {a0 : Array Value} {pc q : Nat} {Ls : Array Slot} {st : List Value}
theorem copyA {i W n0 j d : Nat} {a b : Addr} {k1 k2 : ClassId} {ty : FieldType} {z z' sp dp nn : Int32} {vs vd us : List Value} {dv dd : Value} {rest : List Value} (P : Wk Z own bytes h p l e R s m args below meth c T locs cells slots) (N : Fr n0 locs) (hd : decode bytes pc = .ok (.invokestatic i, 3))
    (w1 : (Cond.methodLink own i Jvm.Stand.acN).before a0 Z = true) (w2 : (Cond.native Jvm.Stand.acN).before a0 Z = true) (w3 : (Cond.static Jvm.Stand.acN).before a0 Z = true) (w4 : (Cond.initialized "java/lang/System").before a0 Z = true) (A : Arv Z h a k1 ty z vs dv) (B : Arv Z h b k2 ty z' vd dd) (hty : refKind ty = false)
    (h1 : ¬ sp < 0) (h2 : ¬ dp < 0) (h3 : ¬ nn < 0) (hsp : sp.toNatClampNeg = 0) (hdp : dp.toNatClampNeg = d) (hnn : nn.toNatClampNeg = j) (h4 : j ≤ z.toNatClampNeg) (h5 : d + j ≤ z'.toNatClampNeg) (hus : us = (List.range j).map fun i => vs.getD i dv) (hl : d + j ≤ vd.length) (ge : n0 ≤ b)
    (hz : Ls.size = c.maxLocals) (hf : 1 ≤ R.frames) (hW : 2 * (mkF m pc Ls (.int nn :: .int dp :: .ref b :: .int sp :: .ref a :: rest)).monitorRoom + (rest.map fun v => v.category).sum ≤ W) (hlo : W + 18 ≤ R.locals) (hq : pc + 3 = q)
    (k : ∀ T₂ h₂ L, Fr n0 L → Wk Z own bytes h₂ p l e R s m args below meth c T₂ L cells slots → Keep h h₂ [b] → Arv Z h₂ b k2 ty z' (vd.take d ++ us ++ vd.drop (d + j)) dd → Goes p.tables e below K (T₂.setTop (mkF m q Ls rest))) : Goes p.tables e below K (T.setTop (mkF m pc Ls (.int nn :: .int dp :: .ref b :: .int sp :: .ref a :: rest))) := by
  subst hq hdp hnn
  obtain ⟨T₂, h₂, L, X2, e2, N2, K2, A2, st2⟩ := cpA P.1 P.2.1 P.2.2.2.1 P.2.2.2.2.1 w1 w2 w3 w4 P.2.2.2.2.2 A B (us := us) (Or.inl ⟨rfl, hty⟩) h1 h2 h3 (by rw [hsp]; omega) h5 (by rw [hsp, hus]; simp only [Nat.zero_add]) hl N ge (g := mkF m pc Ls (.int nn :: .int dp :: .ref b :: .int sp :: .ref a :: rest)) rfl hz rfl (hb P.2.2.1 hd) hf hW hlo
  exact Goes.go st2 (k T₂ h₂ L N2 ⟨X2, P.2.1, P.2.2.1, P.2.2.2.1, P.2.2.2.2.1, e2⟩ K2 A2)
theorem invSuper {y : MethodName} {cb : ByteArray} {mL : Nat} {ret : Option FieldType} {C : String} {i W kc ks : Nat} {as' : Array Value} {Q : Option Value → Heap → List Loc → Prop} {a : Addr} {argsL rest : List Value} (P : Wk Z own bytes h p l e R s m args below meth c T locs cells slots) (hd : decode bytes pc = .ok (.invokespecial i, 3)) (hin : y.name ≠ "<init>")
    (w1 : (Cond.methodLink own i y).before a0 Z = true) (w2 : (Cond.sameMethod y.cls y.cls y.name y.desc).before a0 Z = true) (w3 : (Cond.instanceMethod y).before a0 Z = true) (w4 : (Cond.superclass own y.cls).before a0 Z = true) (w5 : (Cond.code y cb mL ret).before a0 Z = true)
    (B : Back l R p e below s args y 3 W (fun A a => a = as' ∧ A.U.heap = h ∧ A.cells + kc ≤ R.cells ∧ A.slots + ks ≤ R.slots) (fun A _ v B => ∃ L, Q v B.U.heap L ∧ B.locs = A.locs ++ L ∧ B.cells = A.cells + kc ∧ B.slots = A.slots + ks)) (E : Exa Z h a C) (ha : (.ref a :: argsL).toArray = as') (hst : st = argsL.reverse ++ .ref a :: rest) (hz : Ls.size = c.maxLocals) (hlen : ∀ sig, parseMethodDescriptor y.desc = some sig → argsL.length = sig.parameters.length)
    (hW : 2 * (mkF m pc Ls st).monitorRoom + (rest.map fun v => v.category).sum ≤ W) (hcc : cells + kc ≤ R.cells) (hss : slots + ks ≤ R.slots) (hq : pc + 3 = q)
    (k : ∀ v T₂ h₂ L, Q v h₂ L → Wk Z own bytes h₂ p l e R s m args below meth c T₂ (locs ++ L) (cells + kc) (slots + ks) → Goes p.tables e below K (T₂.setTop (mkF m q Ls (match v with | none => rest | some x => x :: rest)))) : Goes p.tables e below K (T.setTop (mkF m pc Ls st)) := by
  subst hq
  obtain ⟨v, _, ⟨T₂, L₂, c₂, n₂⟩, -, X2, ⟨L, hQ, hl, hc2, hs2⟩, st2⟩ := superBack P.1 P.2.1 P.2.2.2.1 (y := y) P.2.2.2.2.1 w1 w2 w3 w4 hin B P.2.2.2.2.2 (Ins.self E) (g := mkF m pc Ls st) rfl hz w5 (argsL := argsL) (rest := rest) hlen hst hW (hb P.2.2.1 hd) (fun _ _ => ⟨ha, P.2.2.2.2.2, hcc, hss⟩)
  dsimp only [Pt.U, Pt.locs, Pt.cells, Pt.slots] at X2 hl hc2 hs2 st2 hQ
  subst hl hc2 hs2
  cases v <;> exact Goes.tr st2 (k _ T₂ _ L hQ ⟨X2, P.2.1, P.2.2.1, P.2.2.2.1, P.2.2.2.2.1, rfl⟩)
end SbSteps
theorem sameOwn {Z : State} {a0 : Array Value} {y y' : MethodName} {C : String} (w3 : (Cond.instanceMethod y).before a0 Z = true) (w3' : (Cond.instanceMethod y').before a0 Z = true) (ws : (Cond.selects C y' y').before a0 Z = true) (e : y'.cls = y.cls) (hy : y.cls ≠ "java/lang/invoke/MethodHandle" ∧ y.cls ≠ "java/lang/invoke/VarHandle") : (Cond.sameMethod y.cls y.cls y.name y.desc).before a0 Z = true := by
  obtain ⟨mk, methM, hnamed, -⟩ := Cond.instanceMethod_spec w3
  obtain ⟨mk', meth', hnamed', -⟩ := Cond.instanceMethod_spec w3'
  have hcn := findClass_of_methodNamed hnamed
  have hcn' := findClass_of_methodNamed hnamed'
  have hf := State.methodFound?_of_named hnamed hy
  obtain ⟨kr, hk, hi⟩ := notFace_of_selects (args := a0) ws _ hnamed'
  rw [e, hcn] at hcn'
  have ec : mk'.cls = mk.cls := (Option.some.inj hcn').symm
  rw [ec] at hk
  have hn2 : Z.methodNamed? ⟨y.cls, y.name, y.desc⟩ = some mk := hnamed
  simp [Cond.before, Cond.holds, Cond.value, hcn, hf, hn2, hk, hi]
theorem declOf {Z : State} {a0 : Array Value} {y : MethodName} {cb : ByteArray} {mL : Nat} {ret : Option FieldType} (w3 : (Cond.instanceMethod y).before a0 Z = true) (wc : (Cond.code y cb mL ret).before a0 Z = true) : (Cond.declares y).before a0 Z = true := by
  obtain ⟨mk, methM, hnamed, hmethM, hstM, -⟩ := Cond.instanceMethod_spec w3
  obtain ⟨m2, cM, q1, -, -, -, -, -, -, hsig⟩ := Cond.code_spec hnamed wc
  cases hmethM.symm.trans q1
  simp [Cond.before, Cond.holds, Cond.value, hnamed, hmethM, hstM, hsig]
theorem clamp {n : Nat} (h : n ≤ 4000) : (Int32.ofNat n).toNatClampNeg = n := by simp only [Int32.toNatClampNeg, Int32.toInt_ofNat_of_lt (show n < 2 ^ 31 by omega)]; rfl
theorem nneg {n : Nat} (h : n ≤ 4000) : ¬ Int32.ofNat n < 0 := by
  rw [Int32.lt_iff_toInt_lt, Int32.toInt_ofNat_of_lt (show n < 2 ^ 31 by omega)]
  have : (0 : Int32).toInt = 0 := rfl
  omega
theorem ofNat_lt {a b : Nat} (ha : a ≤ 4000) (hb : b ≤ 4000) : Int32.ofNat a < Int32.ofNat b ↔ a < b := by
  rw [Int32.lt_iff_toInt_lt, Int32.toInt_ofNat_of_lt (show a < 2 ^ 31 by omega), Int32.toInt_ofNat_of_lt (show b < 2 ^ 31 by omega)]
  omega
theorem range_get (vs : List Value) (d : Value) : vs = (List.range vs.length).map fun i => vs.getD i d := by
  apply List.ext_getElem
  · simp
  · intro i h1 h2
    simp [List.getD_eq_getElem?_getD, h1]
theorem shl0 (x : Int32) : x <<< ((0 : Int32) &&& 31) = x := by
  rw [show ((0 : Int32) &&& 31) = 0 from rfl]
  first | exact Int32.shiftLeft_zero | simp
theorem range_get2 (ds : List Int32) : ((ds.map fun c : Int32 => c.toInt8.toInt32).map Value.int) = (List.range ds.length).map fun i => (((ds.map fun c : Int32 => c.toInt8.toInt32).map Value.int)).getD i (.int 0) := by
  have h := range_get ((ds.map fun c : Int32 => c.toInt8.toInt32).map Value.int) (.int 0)
  rw [show (((ds.map fun c : Int32 => c.toInt8.toInt32).map Value.int)).length = ds.length by simp] at h
  exact h
end Own

namespace Own
section SbSteps2
variable {Z : State} {own : String} {bytes : ByteArray} {h : Heap} {p : Program} {l : Launch} {e : Env} {R : Room} {s : State} {m : MethodId} {args : Array Value} {below : List Frame} {meth : Method} {c : Code} {T : State} {locs : List Loc} {cells slots : Nat}
  {K : State → Outcome → Prop} {a0 : Array Value} {pc q : Nat} {Ls : Array Slot} {st : List Value}
theorem copyB {i W n0 j d sp0 : Nat} {a b : Addr} {k1 k2 : ClassId} {ty : FieldType} {z z' sp dp nn : Int32} {vs vd us : List Value} {dv dd : Value} {rest : List Value} (P : Wk Z own bytes h p l e R s m args below meth c T locs cells slots) (N : Fr n0 locs) (hd : decode bytes pc = .ok (.invokestatic i, 3))
    (w1 : (Cond.methodLink own i Jvm.Stand.acN).before a0 Z = true) (w2 : (Cond.native Jvm.Stand.acN).before a0 Z = true) (w3 : (Cond.static Jvm.Stand.acN).before a0 Z = true) (w4 : (Cond.initialized "java/lang/System").before a0 Z = true) (A : Arv Z h a k1 ty z vs dv) (B : Arv Z h b k2 ty z' vd dd) (hty : refKind ty = false)
    (h1 : ¬ sp < 0) (h2 : ¬ dp < 0) (h3 : ¬ nn < 0) (hsp : sp.toNatClampNeg = sp0) (hdp : dp.toNatClampNeg = d) (hnn : nn.toNatClampNeg = j) (h4 : sp0 + j ≤ z.toNatClampNeg) (h5 : d + j ≤ z'.toNatClampNeg) (hus : us = (List.range j).map fun i => vs.getD (sp0 + i) dv) (hl : d + j ≤ vd.length) (ge : n0 ≤ b)
    (hz : Ls.size = c.maxLocals) (hf : 1 ≤ R.frames) (hW : 2 * (mkF m pc Ls (.int nn :: .int dp :: .ref b :: .int sp :: .ref a :: rest)).monitorRoom + (rest.map fun v => v.category).sum ≤ W) (hlo : W + 18 ≤ R.locals) (hq : pc + 3 = q)
    (k : ∀ T₂ h₂ L, Fr n0 L → Wk Z own bytes h₂ p l e R s m args below meth c T₂ L cells slots → Keep h h₂ [b] → Arv Z h₂ b k2 ty z' (vd.take d ++ us ++ vd.drop (d + j)) dd → Goes p.tables e below K (T₂.setTop (mkF m q Ls rest))) : Goes p.tables e below K (T.setTop (mkF m pc Ls (.int nn :: .int dp :: .ref b :: .int sp :: .ref a :: rest))) := by
  subst hq hdp hnn hsp
  obtain ⟨T₂, h₂, L, X2, e2, N2, K2, A2, st2⟩ := cpA P.1 P.2.1 P.2.2.2.1 P.2.2.2.2.1 w1 w2 w3 w4 P.2.2.2.2.2 A B (us := us) (Or.inl ⟨rfl, hty⟩) h1 h2 h3 h4 h5 hus hl N ge (g := mkF m pc Ls (.int nn :: .int dp :: .ref b :: .int sp :: .ref a :: rest)) rfl hz rfl (hb P.2.2.1 hd) hf hW hlo
  exact Goes.go st2 (k T₂ h₂ L N2 ⟨X2, P.2.1, P.2.2.1, P.2.2.2.1, P.2.2.2.2.1, e2⟩ K2 A2)
end SbSteps2
theorem nfOwn {Z s : State} {a0 : Array Value} {y y' : MethodName} {C : String} (ws : (Cond.selects C y' y').before a0 s = true) (w3 : (Cond.instanceMethod y').before a0 s = true) (e : y'.cls = y.cls) : NotFace s y := fun r0 h0 => by
  obtain ⟨mk', meth', hnamed', -⟩ := Cond.instanceMethod_spec w3
  obtain ⟨kr, hk, hi⟩ := notFace_of_selects (args := a0) ws _ hnamed'
  have hcn := findClass_of_methodNamed h0
  have hcn' := findClass_of_methodNamed hnamed'
  rw [e, hcn] at hcn'
  have ec : r0.cls = mk'.cls := Option.some.inj hcn'
  exact ⟨kr, by rw [ec]; exact hk, hi⟩
theorem subE {e f n : Nat} (h : e = f + n) : Int32.ofNat e - Int32.ofNat f = Int32.ofNat n := by
  rw [h, Int32.ofNat_add, Int32.add_comm, Int32.add_sub_cancel]
theorem leE {e f n : Nat} (h : e = f + n) (he : e ≤ 4000) : ¬ Int32.ofNat e < Int32.ofNat f := by
  rw [ofNat_lt he (by omega)]
  omega
theorem minE {z f n : Nat} (h : f + n ≤ z) (hz : z ≤ 4000) : (if Int32.ofNat n < (Int32.ofNat z - Int32.ofNat f) then Int32.ofNat n else (Int32.ofNat z - Int32.ofNat f)) = Int32.ofNat n := by
  have e := ofNat_lt (a := n) (b := z - f) (by omega) (by omega)
  rw [subE (show z = f + (z - f) by omega)]
  by_cases q : n < z - f
  · rw [if_pos (e.mpr q)]
  · rw [if_neg (fun y => q (e.mp y)), show z - f = n by omega]
theorem range_drop {vs : List Value} {z f n : Nat} (d : Value) (h : vs.length = z) (h2 : f + n ≤ z) : (vs.drop f).take n = (List.range n).map fun i => vs.getD (f + i) d := by
  apply List.ext_getElem
  · simp
    omega
  · intro i h1 h2
    simp at h1 h2
    simp [List.getD_eq_getElem?_getD, show f + i < vs.length by omega]
theorem cr_list (us : List Value) (n : Nat) (d : Value) : (List.replicate n d).take 0 ++ us ++ (List.replicate n d).drop (0 + n) = us := by
  simp
theorem crNe {e f n z : Nat} (he : e = f + n) (h : f + n ≤ z) (hz : z ≤ 4000) (hne : ¬ (f = 0 ∧ n = z)) (q1 : Int32.ofNat f = 0) (q : Int32.ofNat e = Int32.ofNat z) : False := by
  have a := ofNat_inj (n := f) (k := 0) (by omega) (by omega) q1
  have b := ofNat_inj (by omega) hz q
  exact hne ⟨a, by omega⟩
theorem by_get (cs : List Int32) (n : Nat) : ((cs.map fun c : Int32 => c.toInt8.toInt32).map Value.int).getD n (.int 0) = .int (cs.getD n 0).toInt8.toInt32 := by
  simp only [List.getD_eq_getElem?_getD, List.getElem?_map]
  cases cs[n]? <;> rfl
theorem rng_app {cs ds : List Int32} (hp : ∀ c ∈ cs, ¬ c < 0 ∧ ¬ (255 : Int32) < c) (hq : ∀ c ∈ ds, ¬ c < 0 ∧ ¬ (255 : Int32) < c) : ∀ c ∈ cs ++ ds, ¬ c < 0 ∧ ¬ (255 : Int32) < c := fun c hc => (List.mem_append.mp hc).elim (hp c) (hq c)
end Own

namespace Own
def lo (c : Int32) : Int32 := (c >>> ((0 : Int32) &&& 31)).toInt8.toInt32
def hi (c : Int32) : Int32 := (c >>> ((8 : Int32) &&& 31)).toInt8.toInt32
def Ch (c : Int32) : Prop := ¬ c < 0 ∧ ¬ (65535 : Int32) < c
theorem Ch.i {c : Int32} (h : Ch c) : 0 ≤ c.toInt ∧ c.toInt ≤ 65535 := by
  obtain ⟨a, b⟩ := h
  rw [Int32.lt_iff_toInt_lt] at a b
  have k0 : (0 : Int32).toInt = 0 := rfl
  have k1 : (65535 : Int32).toInt = 65535 := rfl
  omega
theorem ofN {n : Nat} (h : n ≤ 4000) : (Int32.ofNat n).toInt = n := Int32.toInt_ofNat_of_lt (by omega)
theorem dbl {i : Nat} (h : i ≤ 1000) : Int32.ofNat i <<< ((1 : Int32) &&& 31) = Int32.ofNat (2 * i) := by
  have a := c_ishl (Int32.ofNat i) 1 1 (by decide)
  have r := rng32 (Int32.ofNat i <<< ((1 : Int32) &&& 31))
  rw [ofN (by omega)] at a
  apply Int32.toInt_inj.mp
  rw [ofN (by omega)]
  omega
theorem hlf {i : Nat} (h : i ≤ 1000) : Int32.ofNat (2 * i) >>> ((1 : Int32) &&& 31) = Int32.ofNat i := by
  have a := c_ishr (Int32.ofNat (2 * i)) 1 1 (by decide)
  rw [ofN (by omega)] at a
  apply Int32.toInt_inj.mp
  rw [ofN (by omega), a]
  omega
theorem or_add {x y : Int32} (hx : 0 ≤ x.toInt ∧ x.toInt < 256) (hy : 0 ≤ y.toInt ∧ y.toInt < 256) : ((x <<< ((0 : Int32) &&& 31)) ||| (y <<< ((8 : Int32) &&& 31))).toInt = x.toInt + 256 * y.toInt := by
  have a := c_ishl y 8 8 (by decide)
  have r := rng32 (y <<< ((8 : Int32) &&& 31))
  have e : (y <<< ((8 : Int32) &&& 31)).toInt = 256 * y.toInt := by omega
  rw [show x <<< ((0 : Int32) &&& 31) = x from by rw [show ((0 : Int32) &&& 31) = 0 from rfl]; simp]
  generalize y <<< ((8 : Int32) &&& 31) = z at e
  have nx : x.toBitVec.toNat = x.toInt.toNat := by
    have := BitVec.toInt_eq_toNat_cond x.toBitVec
    have l := x.toBitVec.isLt
    change x.toInt = _ at this
    split at this <;> omega
  have nz : z.toBitVec.toNat = 256 * y.toInt.toNat := by
    have := BitVec.toInt_eq_toNat_cond z.toBitVec
    have l := z.toBitVec.isLt
    change z.toInt = _ at this
    split at this <;> omega
  have nn : (x ||| z).toBitVec.toNat = x.toInt.toNat + 256 * y.toInt.toNat := by
    show (x.toBitVec ||| z.toBitVec).toNat = _
    rw [BitVec.toNat_or, nx, nz, show 256 * y.toInt.toNat = y.toInt.toNat <<< 8 by rw [Nat.shiftLeft_eq]; omega, Nat.or_comm]
    rw [Nat.shiftLeft_eq, Nat.mul_comm, Nat.add_comm]
    exact (Nat.two_pow_add_eq_or_of_lt (by omega) _).symm
  have := BitVec.toInt_eq_toNat_cond (x ||| z).toBitVec
  change (x ||| z).toInt = _ at this
  rw [nn] at this
  split at this <;> omega
theorem get16 {c : Int32} (h : Ch c) : (((lo c &&& 255) <<< ((0 : Int32) &&& 31)) ||| ((hi c &&& 255) <<< ((8 : Int32) &&& 31))).toUInt32.toUInt16.toUInt32.toInt32 = c := by
  have hc := h.i
  have a := c_mask (lo c) 255 8 (by decide) (by decide)
  have b := c_mask (hi c) 255 8 (by decide) (by decide)
  have a1 := c_i2b (c >>> ((0 : Int32) &&& 31))
  have b1 := c_i2b (c >>> ((8 : Int32) &&& 31))
  have a2 := c_ishr c 0 0 (by decide)
  have b2 := c_ishr c 8 8 (by decide)
  have el : (lo c).toInt = (c >>> ((0 : Int32) &&& 31)).toInt8.toInt32.toInt := rfl
  have eh : (hi c).toInt = (c >>> ((8 : Int32) &&& 31)).toInt8.toInt32.toInt := rfl
  have o := or_add (x := lo c &&& 255) (y := hi c &&& 255) (by omega) (by omega)
  have q := c_i2c (((lo c &&& 255) <<< ((0 : Int32) &&& 31)) ||| ((hi c &&& 255) <<< ((8 : Int32) &&& 31)))
  apply Int32.toInt_inj.mp
  omega
def b16 : List Int32 → List Value
  | [] => []
  | c :: cs => .int (lo c) :: .int (hi c) :: b16 cs
theorem b16_len : ∀ cs : List Int32, (b16 cs).length = 2 * cs.length
  | [] => rfl
  | c :: cs => by simp only [b16, List.length_cons, b16_len cs]; omega
theorem b16_app : ∀ cs ds : List Int32, b16 (cs ++ ds) = b16 cs ++ b16 ds
  | [], _ => rfl
  | c :: cs, ds => by simp only [b16, List.cons_append, b16_app cs ds]
theorem b16_set : ∀ (cs : List Int32) (i : Nat) (c : Int32), ((b16 cs).set (2 * i) (.int (lo c))).set (2 * i + 1) (.int (hi c)) = b16 (cs.set i c)
  | [], i, c => by simp [b16]
  | a :: cs, 0, c => rfl
  | a :: cs, i + 1, c => by
    rw [show 2 * (i + 1) = (2 * i + 1) + 1 by omega]
    simp only [b16, List.set_cons_succ, b16_set cs i c]
theorem b16_get : ∀ (cs : List Int32) (i : Nat), i < cs.length → (b16 cs).getD (2 * i) (.int 0) = .int (lo (cs.getD i 0)) ∧ (b16 cs).getD (2 * i + 1) (.int 0) = .int (hi (cs.getD i 0))
  | [], i, h => absurd h (Nat.not_lt_zero _)
  | a :: cs, 0, _ => ⟨rfl, rfl⟩
  | a :: cs, i + 1, h => by
    have q := b16_get cs i (by simp at h; omega)
    rw [show 2 * (i + 1) = (2 * i + 1) + 1 by omega]
    exact q
theorem b16_rep : ∀ n : Nat, b16 (List.replicate n 0) = List.replicate (2 * n) (.int 0)
  | 0 => rfl
  | n + 1 => by
    rw [show 2 * (n + 1) = (2 * n + 1) + 1 by omega]
    simp only [List.replicate_succ, b16, b16_rep n]
    rfl
/-- the byte array at t holds these N chars, as UTF16 -/
def U16 (Z : State) (h : Heap) (t : Addr) (k : ClassId) (N : Nat) (cs : List Int32) : Prop := Arv Z h t k .byte (Int32.ofNat (2 * N)) (b16 cs) (.int 0) ∧ cs.length = N ∧ N ≤ 100 ∧ ∀ c ∈ cs, Ch c
theorem U16.ext {Z : State} {h h' : Heap} {t : Addr} {k : ClassId} {N : Nat} {cs : List Int32} (A : U16 Z h t k N cs) (E : Ext h h') : U16 Z h' t k N cs := ⟨A.1.ext E, A.2⟩
theorem U16.keep {Z : State} {h h' : Heap} {t : Addr} {k : ClassId} {N : Nat} {cs : List Int32} {ws : List Addr} (A : U16 Z h t k N cs) (K : Keep h h' ws) (q : t ∉ ws) : U16 Z h' t k N cs := ⟨A.1.keep K q, A.2⟩
theorem Ch.up {c : Int32} (h : ¬ c < 0 ∧ ¬ (255 : Int32) < c) : Ch c := up16 h
theorem Ch.z : Ch 0 := ⟨by decide, by decide⟩
theorem ch_getD {cs : List Int32} (h : ∀ c ∈ cs, Ch c) (n : Nat) : Ch (cs.getD n 0) := by
  rw [List.getD_eq_getElem?_getD]
  cases q : cs[n]? with
  | none => exact Ch.z
  | some c => exact h c (List.mem_of_getElem? q)
theorem ch_set {cs : List Int32} (h : ∀ c ∈ cs, Ch c) {n : Nat} {c : Int32} (hc : Ch c) : ∀ x ∈ cs.set n c, Ch x := fun x hx => (List.mem_or_eq_of_mem_set hx).elim (h x) (fun e => e ▸ hc)
theorem ch_rep (n : Nat) : ∀ x ∈ List.replicate n (0 : Int32), Ch x := fun x hx => by rw [List.eq_of_mem_replicate hx]; exact Ch.z
theorem nar16 {c : Int32} (h : Ch c) : nar .char c = c := by
  have q := c_i2c c
  have hc := h.i
  apply Int32.toInt_inj.mp
  show c.toUInt32.toUInt16.toUInt32.toInt32.toInt = _
  omega
theorem big20 {n : Nat} (h : n ≤ 20) : Int32.ofNat n < 1073741823 := by
  rw [Int32.lt_iff_toInt_lt, ofN (by omega)]
  have : (1073741823 : Int32).toInt = 1073741823 := rfl
  omega
/-- the object at a is a UTF16 String of these chars -/
def Str16 (Z : State) (h : Heap) (a : Addr) (cs : List Int32) : Prop := ∃ t k, Exa Z h a "java/lang/String" ∧ Fld Z h a "java/lang/String" "value" "[B" (.ref t) ∧ Fld Z h a "java/lang/String" "coder" "B" (.int 1) ∧ U16 Z h t k cs.length cs
def TX (Z : State) (h : Heap) (a : Addr) (cs : List Int32) : Prop := Str Z h a cs ∨ Str16 Z h a cs
theorem Str16.ext {Z : State} {h h' : Heap} {a : Addr} {cs : List Int32} (S : Str16 Z h a cs) (E : Ext h h') : Str16 Z h' a cs := by
  obtain ⟨t, k, s1, s2, s3, s4⟩ := S
  exact ⟨t, k, s1.ext E, s2.ext E, s3.ext E, s4.ext E⟩
theorem TX.ext {Z : State} {h h' : Heap} {a : Addr} {cs : List Int32} (S : TX Z h a cs) (E : Ext h h') : TX Z h' a cs := S.imp (·.ext E) (·.ext E)
theorem TX.exa {Z : State} {h : Heap} {a : Addr} {cs : List Int32} (S : TX Z h a cs) : Exa Z h a "java/lang/String" := S.elim (·.exa) (fun ⟨_, _, s, _⟩ => s)
theorem TX.ch {Z : State} {h : Heap} {a : Addr} {cs : List Int32} (S : TX Z h a cs) : ∀ c ∈ cs, Ch c := S.elim (fun s c hc => Ch.up (s.2.1 c hc)) (fun ⟨_, _, _, _, _, s⟩ => s.2.2.2)
theorem TX.le {Z : State} {h : Heap} {a : Addr} {cs : List Int32} (S : TX Z h a cs) : cs.length ≤ 4000 := S.elim (·.2.2) (fun ⟨_, _, _, _, _, s⟩ => Nat.le_trans s.2.2.1 (by decide))
theorem shr0 (x : Int32) : x >>> ((0 : Int32) &&& 31) = x := by
  rw [show ((0 : Int32) &&& 31) = 0 from rfl]
  simp
theorem roomN {m N : Nat} (h : m ≤ N) (hN : N ≤ 20) : ¬ (0 : Int32) < Int32.ofNat m - Int32.ofNat N := by
  have a := c_isub (Int32.ofNat m) (Int32.ofNat N)
  have r := rng32 (Int32.ofNat m - Int32.ofNat N)
  rw [ofN (by omega), ofN (by omega)] at a
  rw [Int32.lt_iff_toInt_lt]
  have k0 : (0 : Int32).toInt = 0 := rfl
  omega
theorem or3 {a b c : Nat} (ha : a ≤ 4000) (hb : b ≤ 4000) (hc : c ≤ 4000) : ¬ ((Int32.ofNat a ||| Int32.ofNat b) ||| Int32.ofNat c) < 0 := by
  have p := ofN ha
  have q := ofN hb
  have r := ofN hc
  have s := c_or0 (Int32.ofNat a) (Int32.ofNat b) (by omega) (by omega)
  have t := c_or0 (Int32.ofNat a ||| Int32.ofNat b) (Int32.ofNat c) (by omega) (by omega)
  rw [Int32.lt_iff_toInt_lt]
  have k0 : (0 : Int32).toInt = 0 := rfl
  omega
theorem sub_ge {o c n : Nat} (h : o + c ≤ n) (hn : n ≤ 4000) : ¬ (Int32.ofNat n - Int32.ofNat o) < Int32.ofNat c := by
  rw [subE (show n = o + (n - o) by omega), ofNat_lt (by omega) (by omega)]
  omega
def putL (ws : List Int32) (j : Nat) (ds : List Int32) : List Int32 := ws.take j ++ ds ++ ws.drop (j + ds.length)
theorem putL_nil (ws : List Int32) (j : Nat) : putL ws j [] = ws := by
  unfold putL
  simp
theorem putL_set {ws ds : List Int32} {j i : Nat} (h : j + ds.length ≤ ws.length) (hi : i < ds.length) : (putL ws j (ds.take i)).set (j + i) (ds.getD i 0) = putL ws j (ds.take (i + 1)) := by
  unfold putL
  have e1 : (ds.take i).length = i := by simp; omega
  have e2 : (ds.take (i + 1)).length = i + 1 := by simp; omega
  have e3 : (ws.take j).length = j := by simp; omega
  have e4 : ds.take (i + 1) = ds.take i ++ [ds.getD i 0] := by
    rw [List.take_add_one]
    simp [List.getD_eq_getElem?_getD, hi]
  rw [e1, e2, e4]
  have e5 : (ws.drop (j + i)) = ws.getD (j + i) 0 :: ws.drop (j + (i + 1)) := by
    rw [List.drop_eq_getElem_cons (by omega)]
    simp [List.getD_eq_getElem?_getD, show j + i < ws.length by omega, Nat.add_assoc]
  rw [e5, List.set_append_right _ _ (by simp; omega)]
  rw [show j + i - (ws.take j ++ ds.take i).length = 0 by simp; omega]
  simp
theorem and255 {c : Int32} (h : ¬ c < 0 ∧ ¬ (255 : Int32) < c) : c.toInt8.toInt32 &&& 255 = c := by
  have a := c_mask (c.toInt8.toInt32) 255 8 (by decide) (by decide)
  have b := c_i2b c
  obtain ⟨p, q⟩ := h
  rw [Int32.lt_iff_toInt_lt] at p q
  have k0 : (0 : Int32).toInt = 0 := rfl
  have k1 : (255 : Int32).toInt = 255 := rfl
  apply Int32.toInt_inj.mp
  omega
theorem rng_getD {cs : List Int32} (hp : ∀ c ∈ cs, ¬ c < 0 ∧ ¬ (255 : Int32) < c) (n : Nat) : ¬ cs.getD n 0 < 0 ∧ ¬ (255 : Int32) < cs.getD n 0 := by
  rw [List.getD_eq_getElem?_getD]
  cases h : cs[n]? with
  | none => exact ⟨by decide, by decide⟩
  | some c => exact hp c (List.mem_of_getElem? h)
theorem vd_get {cs : List Int32} {n i : Nat} (h : i < cs.length) : (((cs.map fun c : Int32 => c.toInt8.toInt32).map Value.int) ++ List.replicate (n - cs.length) (Value.int 0)).getD i (.int 0) = .int (cs.getD i 0).toInt8.toInt32 := by
  rw [List.getD_eq_getElem?_getD, List.getElem?_append_left (by simpa using h), ← List.getD_eq_getElem?_getD]
  exact by_get cs i
theorem putL_rep {cs : List Int32} {N : Nat} (h : cs.length ≤ N) : putL (List.replicate N 0) 0 cs = cs ++ List.replicate (N - cs.length) 0 := by
  unfold putL
  simp [List.drop_replicate]
theorem vd_setN {cs : List Int32} {N : Nat} {c : Int32} (h : cs.length < N) : (((cs.map fun c : Int32 => c.toInt8.toInt32).map Value.int) ++ List.replicate (N - cs.length) (Value.int 0)).set cs.length (.int c.toInt8.toInt32) = ((((cs ++ [c]).map fun c : Int32 => c.toInt8.toInt32).map Value.int) ++ List.replicate (N - (cs ++ [c]).length) (Value.int 0)) := by
  have e : N - cs.length = (N - (cs.length + 1)) + 1 := by omega
  rw [List.set_append_right _ _ (by simp), e, List.replicate_succ]
  simp
theorem vu_set {cs : List Int32} {N : Nat} {c : Int32} (h : cs.length < N) : (cs ++ List.replicate (N - cs.length) (0 : Int32)).set cs.length c = ((cs ++ [c]) ++ List.replicate (N - (cs ++ [c]).length) (0 : Int32)) := by
  have e : N - cs.length = (N - (cs.length + 1)) + 1 := by omega
  rw [List.set_append_right _ _ (Nat.le_refl _), e, List.replicate_succ]
  simp
theorem len1 (cs : List Int32) (c : Int32) : Int32.ofNat (cs ++ [c]).length = Int32.ofNat cs.length + 1 := by
  rw [List.length_append, Int32.ofNat_add]
  rfl
theorem put_listN (cs ds : List Int32) (N : Nat) : (((cs.map fun c : Int32 => c.toInt8.toInt32).map Value.int) ++ List.replicate (N - cs.length) (Value.int 0)).take cs.length ++ ((ds.map fun c : Int32 => c.toInt8.toInt32).map Value.int) ++ (((cs.map fun c : Int32 => c.toInt8.toInt32).map Value.int) ++ List.replicate (N - cs.length) (Value.int 0)).drop (cs.length + ds.length) = ((((cs ++ ds).map fun c : Int32 => c.toInt8.toInt32).map Value.int) ++ List.replicate (N - (cs ++ ds).length) (Value.int 0)) := by
  have e1 : ((cs.map fun c : Int32 => c.toInt8.toInt32).map Value.int).length = cs.length := by simp
  have t1 : ∀ (A B : List Value) (n k : Nat), A.length = n → (A ++ B).take n = A ∧ (A ++ B).drop (n + k) = B.drop k := fun A B n k h => by
    subst h
    exact ⟨by simp, by simp [List.drop_append]⟩
  rw [(t1 _ _ _ 0 e1).1, (t1 _ _ _ ds.length e1).2]
  simp [List.drop_replicate, List.map_append, Nat.sub_sub]
theorem putL_app (cs ds : List Int32) (N : Nat) : putL (cs ++ List.replicate (N - cs.length) (0 : Int32)) cs.length ds = ((cs ++ ds) ++ List.replicate (N - (cs ++ ds).length) (0 : Int32)) := by
  unfold putL
  have t1 : ∀ (A B : List Int32) (n k : Nat), A.length = n → (A ++ B).take n = A ∧ (A ++ B).drop (n + k) = B.drop k := fun A B n k h => by
    subst h
    exact ⟨by simp, by simp [List.drop_append]⟩
  rw [(t1 _ _ _ 0 rfl).1, (t1 _ _ _ ds.length rfl).2]
  simp [List.drop_replicate, Nat.sub_sub]
theorem arvNe {Z : State} {h : Heap} {a b : Addr} {k k' : ClassId} {ty ty' : FieldType} {m n : Nat} {vs vs' : List Value} {d d' : Value} (A : Arv Z h a k ty (Int32.ofNat m) vs d) (B : Arv Z h b k' ty' (Int32.ofNat n) vs' d') (hm : m ≤ 4000) (hn : n ≤ 4000) (ne : m ≠ n) : a ≠ b := fun e => by
  subst e
  obtain ⟨c1, A1, -, z1, -⟩ := A
  obtain ⟨c2, A2, -, z2, -⟩ := B
  cases A1.1.symm.trans A2.1
  rw [clamp hm] at z1
  rw [clamp hn] at z2
  omega
theorem vdN_len {cs : List Int32} {N : Nat} (h : cs.length ≤ N) : (((cs.map fun c : Int32 => c.toInt8.toInt32).map Value.int) ++ List.replicate (N - cs.length) (Value.int 0)).length = N := by
  simp only [List.length_append, List.length_map, List.length_replicate]
  omega
theorem vuN_len {cs : List Int32} {N : Nat} (h : cs.length ≤ N) : (cs ++ List.replicate (N - cs.length) (0 : Int32)).length = N := by
  simp only [List.length_append, List.length_replicate]
  omega
theorem take_len {cs : List Int32} {e : Nat} (h : e ≤ cs.length) : (cs.take e).length = e := by
  simp
  omega
theorem range_take {vs : List Value} {n : Nat} (d : Value) (h : n ≤ vs.length) : vs.take n = (List.range n).map fun i => vs.getD i d := by
  have q := range_drop (vs := vs) (z := vs.length) (f := 0) (n := n) d rfl (by omega)
  simpa using q
theorem ap_list (cs : List Int32) (N e : Nat) (h : e ≤ cs.length) : (((([] : List Int32).map fun c : Int32 => c.toInt8.toInt32).map Value.int) ++ List.replicate (N - ([] : List Int32).length) (Value.int 0)).take 0 ++ ((cs.map fun c : Int32 => c.toInt8.toInt32).map Value.int).take e ++ (((([] : List Int32).map fun c : Int32 => c.toInt8.toInt32).map Value.int) ++ List.replicate (N - ([] : List Int32).length) (Value.int 0)).drop (0 + e) = ((((cs.take e).map fun c : Int32 => c.toInt8.toInt32).map Value.int) ++ List.replicate (N - (cs.take e).length) (Value.int 0)) := by
  rw [take_len h]
  simp [List.drop_replicate, List.map_take]
theorem b16_take : ∀ (cs : List Int32) (i : Nat), (b16 cs).take (2 * i) = b16 (cs.take i)
  | [], i => by simp [b16]
  | a :: cs, 0 => rfl
  | a :: cs, i + 1 => by
    rw [show 2 * (i + 1) = (2 * i + 1) + 1 by omega]
    simp only [b16, List.take_succ_cons, b16_take cs i]
theorem b16_drop : ∀ (cs : List Int32) (i : Nat), (b16 cs).drop (2 * i) = b16 (cs.drop i)
  | [], i => by simp [b16]
  | a :: cs, 0 => rfl
  | a :: cs, i + 1 => by
    rw [show 2 * (i + 1) = (2 * i + 1) + 1 by omega]
    simp only [b16, List.drop_succ_cons, b16_drop cs i]
theorem ap16_list {cs : List Int32} {N i e : Nat} (h : i ≤ e) (he : e ≤ cs.length) : (b16 ((cs.take i) ++ List.replicate (N - (cs.take i).length) (0 : Int32))).take (2 * i) ++ ((b16 cs).drop (2 * i)).take (2 * (e - i)) ++ (b16 ((cs.take i) ++ List.replicate (N - (cs.take i).length) (0 : Int32))).drop (2 * i + 2 * (e - i)) = b16 ((cs.take e) ++ List.replicate (N - (cs.take e).length) (0 : Int32)) := by
  rw [show 2 * i + 2 * (e - i) = 2 * e by omega, b16_take, b16_drop, b16_drop, b16_take, ← b16_app, ← b16_app]
  congr 1
  have l1 : (cs.take i).length = i := take_len (by omega)
  rw [take_len he, l1]
  have t1 : (cs.take i ++ List.replicate (N - i) 0).take i = cs.take i := by rw [List.take_append_of_le_length (by omega), List.take_of_length_le (by omega)]
  have dr : ∀ (A B : List Int32) (n k : Nat), A.length = n → (A ++ B).drop (n + k) = B.drop k := fun A B n k h => by
    subst h
    simp [List.drop_append]
  have t2 : (cs.take i ++ List.replicate (N - i) (0 : Int32)).drop e = List.replicate (N - e) 0 := by
    have q := dr (cs.take i) (List.replicate (N - i) 0) i (e - i) l1
    rw [show i + (e - i) = e by omega, List.drop_replicate, show N - i - (e - i) = N - e by omega] at q
    exact q
  rw [t1, t2]
  congr 1
  rw [show cs.take e = cs.take i ++ (cs.drop i).take (e - i) by rw [← List.take_add]; congr 1; omega]
theorem rng_take {cs : List Int32} {i : Nat} (h : ∀ c ∈ cs.take i, ¬ c < 0 ∧ ¬ (255 : Int32) < c) (hi : i < cs.length) (hc : ¬ cs.getD i 0 < 0 ∧ ¬ (255 : Int32) < cs.getD i 0) : ∀ c ∈ cs.take (i + 1), ¬ c < 0 ∧ ¬ (255 : Int32) < c := by
  rw [List.take_add_one]
  intro c hm
  rcases List.mem_append.mp hm with q | q
  · exact h c q
  · have : c = cs.getD i 0 := by simpa [List.getD_eq_getElem?_getD, hi, eq_comm] using q
    rw [this]
    exact hc
theorem take_snoc {cs : List Int32} {i : Nat} (hi : i < cs.length) : cs.take i ++ [cs.getD i 0] = cs.take (i + 1) := by
  rw [List.take_add_one]
  simp [List.getD_eq_getElem?_getD, hi]
theorem addE {i e : Nat} (h : e = i + (e - i)) : Int32.ofNat i + Int32.ofNat (e - i) = Int32.ofNat e := by
  rw [← Int32.ofNat_add, ← h]
theorem ch_vu {cs : List Int32} {n : Nat} (h : ∀ c ∈ cs, Ch c) : ∀ c ∈ cs ++ List.replicate n (0 : Int32), Ch c := fun c q => (List.mem_append.mp q).elim (h c) (fun r => ch_rep n c r)
theorem take_vdN (cs : List Int32) (N : Nat) : ((((cs.map fun c : Int32 => c.toInt8.toInt32).map Value.int) ++ List.replicate (N - cs.length) (Value.int 0)).drop 0).take cs.length = ((cs.map fun c : Int32 => c.toInt8.toInt32).map Value.int) := by
  rw [List.drop_zero, List.take_append_of_le_length (by simp), List.take_of_length_le (by simp)]
theorem take_vuN (cs : List Int32) (N : Nat) : ((b16 (cs ++ List.replicate (N - cs.length) (0 : Int32))).drop 0).take (2 * cs.length) = b16 cs := by
  rw [List.drop_zero, b16_take, List.take_append_of_le_length (Nat.le_refl _), List.take_of_length_le (Nat.le_refl _)]
theorem ltN {a b : Nat} (ha : a ≤ 4000) (hb : b ≤ 4000) (h : a < b) : Int32.ofNat a < Int32.ofNat b := (ofNat_lt ha hb).mpr h
end Own

namespace Own
section FaceSteps
variable {Z : State} {own : String} {bytes : ByteArray} {h : Heap} {p : Program} {l : Launch} {e : Env} {R : Room} {s : State} {m : MethodId} {args : Array Value} {below : List Frame} {meth : Method} {c : Code} {T : State} {locs : List Loc} {cells slots : Nat}
  {K : State → Outcome → Prop} {a0 : Array Value} {pc q : Nat} {Ls : Array Slot} {st : List Value}
theorem invFace {y z : MethodName} {C : String} {i W kc ks cnt : Nat} {as' : Array Value} {Q : Option Value → Heap → List Loc → Prop} {a : Addr} {argsL rest : List Value} (P : Wk Z own bytes h p l e R s m args below meth c T locs cells slots) (hd : decode bytes pc = .ok (.invokeinterface i cnt, 5))
    (w1 : (Cond.methodLink own i y).before a0 Z = true) (w2 : (Cond.declares y).before a0 Z = true) (w3 : (Cond.interfaceMethod y.cls y.cls y.name y.desc).before args s = true) (w4 : (Cond.selects C y z).before a0 Z = true) (w5 : (Cond.instanceMethod z).before a0 Z = true) (w6 : (Cond.publicMethod z).before a0 Z = true) (w7 : (Cond.unhidden C y.name y.desc).before a0 Z = true) (w8 : (Cond.castable C y.cls).before a0 Z = true)
    (hy : y.cls ≠ "java/lang/invoke/MethodHandle" ∧ y.cls ≠ "java/lang/invoke/VarHandle")
    (B : Back l R p e below s args z 5 W (fun A a => a = as' ∧ A.U.heap = h ∧ A.cells + kc ≤ R.cells ∧ A.slots + ks ≤ R.slots) (fun A _ v B => ∃ L, Q v B.U.heap L ∧ B.locs = A.locs ++ L ∧ B.cells = A.cells + kc ∧ B.slots = A.slots + ks)) (E : Exa Z h a C) (ha : (.ref a :: argsL).toArray = as') (hst : st = argsL.reverse ++ .ref a :: rest) (hz : Ls.size = c.maxLocals) (hlen : ∀ sig, parseMethodDescriptor y.desc = some sig → argsL.length = sig.parameters.length)
    (hW : 2 * (mkF m pc Ls st).monitorRoom + (rest.map fun v => v.category).sum ≤ W) (hcc : cells + kc ≤ R.cells) (hss : slots + ks ≤ R.slots) (hq : pc + 5 = q)
    (k : ∀ v T₂ h₂ L, Q v h₂ L → Wk Z own bytes h₂ p l e R s m args below meth c T₂ (locs ++ L) (cells + kc) (slots + ks) → Goes p.tables e below K (T₂.setTop (mkF m q Ls (match v with | none => rest | some x => x :: rest)))) : Goes p.tables e below K (T.setTop (mkF m pc Ls st)) := by
  subst hq
  obtain ⟨cB, kB, r1, r2, r3⟩ := isOf P.2.2.2.1 P.2.2.2.2.2 E
  obtain ⟨v, _, ⟨T₂, L₂, c₂, n₂⟩, -, X2, ⟨L, hQ, hl, hc2, hs2⟩, st2⟩ := P.1.interfaceBack P.2.1 (xi := y) (y := z) P.2.2.2.2.1 (mvT P.2.2.2.1 w1) (mvT P.2.2.2.1 w2) w3 (mvT P.2.2.2.1 w4) (mvT P.2.2.2.1 w5) (mvT P.2.2.2.1 w6) (mvT P.2.2.2.1 w7) (mvT P.2.2.2.1 w8) hy B r1 r2 r3 (g := mkF m pc Ls st) rfl hz (Steps.refl _) (argsL := argsL) (rest := rest) hlen hst hW (hb P.2.2.1 hd) (fun _ _ => ⟨ha, P.2.2.2.2.2, hcc, hss⟩)
  dsimp only [Pt.U, Pt.locs, Pt.cells, Pt.slots] at X2 hl hc2 hs2 st2 hQ
  subst hl hc2 hs2
  cases v <;> exact Goes.tr st2 (k _ T₂ _ L hQ ⟨X2, P.2.1, P.2.2.1, P.2.2.2.1, P.2.2.2.2.1, rfl⟩)
end FaceSteps
end Own

namespace Own
def escV (c : Int32) : Int32 := if c < 32 then 1 else if c < 127 then 0 else if ¬ (159 : Int32) < c then 1 else if c = 8232 then 1 else if c = 8233 then 1 else 0
def hxV (d : Int32) : Int32 := if d < 10 then 48 + d else 87 + d
def rendC (c : Int32) : List Int32 := if c = 13 then [92, 114] else if c = 10 then [92, 110] else if escV c = 0 then [c] else [92, 117, hxV ((c >>> ((12 : Int32) &&& 31)) &&& (15 : Int32)), hxV ((c >>> ((8 : Int32) &&& 31)) &&& (15 : Int32)), hxV ((c >>> ((4 : Int32) &&& 31)) &&& (15 : Int32)), hxV ((c >>> ((0 : Int32) &&& 31)) &&& (15 : Int32))]
def rend (cs : List Int32) : List Int32 := cs.flatMap rendC
theorem dg (c k : Int32) : ¬ (c >>> (k &&& 31)) &&& 15 < 0 ∧ (c >>> (k &&& 31)) &&& 15 < 16 := by
  have h := c_mask (c >>> (k &&& 31)) 15 4 (by decide) (by decide)
  rw [Int32.lt_iff_toInt_lt, Int32.lt_iff_toInt_lt]
  have k0 : (0 : Int32).toInt = 0 := rfl
  have k1 : (16 : Int32).toInt = 16 := rfl
  omega
theorem hx_lo {d : Int32} (h : ¬ d < 0 ∧ d < 16) (q : d < 10) : ¬ (48 + d) < 0 ∧ ¬ (255 : Int32) < (48 + d) := by
  have a := c_iadd 48 d
  have r := rng32 (48 + d)
  obtain ⟨p1, p2⟩ := h
  rw [Int32.lt_iff_toInt_lt] at p1 p2 q
  rw [Int32.lt_iff_toInt_lt, Int32.lt_iff_toInt_lt]
  have k0 : (0 : Int32).toInt = 0 := rfl
  have k1 : (16 : Int32).toInt = 16 := rfl
  have k2 : (48 : Int32).toInt = 48 := rfl
  have k3 : (255 : Int32).toInt = 255 := rfl
  have k4 : (10 : Int32).toInt = 10 := rfl
  omega
theorem hx_hi {d : Int32} (h : ¬ d < 0 ∧ d < 16) : ¬ (87 + d) < 0 ∧ ¬ (255 : Int32) < (87 + d) := by
  have a := c_iadd 87 d
  have r := rng32 (87 + d)
  obtain ⟨p1, p2⟩ := h
  rw [Int32.lt_iff_toInt_lt] at p1 p2
  rw [Int32.lt_iff_toInt_lt, Int32.lt_iff_toInt_lt]
  have k0 : (0 : Int32).toInt = 0 := rfl
  have k1 : (16 : Int32).toInt = 16 := rfl
  have k2 : (87 : Int32).toInt = 87 := rfl
  have k3 : (255 : Int32).toInt = 255 := rfl
  omega
theorem hx_rng {d : Int32} (h : ¬ d < 0 ∧ d < 16) : ¬ hxV d < 0 ∧ ¬ (255 : Int32) < hxV d := by
  unfold hxV
  by_cases q : d < 10
  · rw [if_pos q]; exact hx_lo h q
  · rw [if_neg q]; exact hx_hi h
theorem rend_snoc {cs : List Int32} {j : Nat} (h : j < cs.length) : rend (cs.take (j + 1)) = rend (cs.take j) ++ rendC (cs.getD j 0) := by
  unfold rend
  rw [← take_snoc h, List.flatMap_append]
  simp
theorem rendC_len (c : Int32) : (rendC c).length ≤ 6 := by
  unfold rendC
  split
  · decide
  · split
    · decide
    · split
      · simp
      · simp
theorem rend_len (cs : List Int32) : (rend cs).length ≤ 6 * cs.length := by
  induction cs with
  | nil => simp [rend]
  | cons c cs ih =>
    have := rendC_len c
    simp only [rend, List.flatMap_cons, List.length_append, List.length_cons] at ih ⊢
    omega
theorem esc_of {c : Int32} (h : escV c = 0) : rendC c = [c] := by
  unfold rendC
  rw [if_neg (fun e => by rw [e] at h; exact absurd h (by decide)), if_neg (fun e => by rw [e] at h; exact absurd h (by decide)), if_pos h]
theorem rend_id {cs : List Int32} (h : ∀ c ∈ cs, escV c = 0) : rend cs = cs := by
  induction cs with
  | nil => rfl
  | cons c cs ih =>
    have a := esc_of (h c (by simp))
    have b := ih (fun x hx => h x (by simp [hx]))
    unfold rend at b ⊢
    rw [List.flatMap_cons, a, b]
    rfl
theorem rtj {cs : List Int32} {j : Nat} (h : j ≤ cs.length) : (rend (cs.take j)).length ≤ 6 * j := by
  have := rend_len (cs.take j)
  rw [take_len h] at this
  exact this
theorem esc_take {cs : List Int32} {i : Nat} (h : ∀ c ∈ cs.take i, escV c = 0) (hi : i < cs.length) (hc : escV (cs.getD i 0) = 0) : ∀ c ∈ cs.take (i + 1), escV c = 0 := by
  rw [← take_snoc hi]
  intro c hm
  rcases List.mem_append.mp hm with q | q
  · exact h c q
  · rw [List.mem_singleton.mp q]
    exact hc
theorem lt32 {c : Int32} : ¬ (31 : Int32) < c ↔ c < 32 := by
  rw [Int32.lt_iff_toInt_lt, Int32.lt_iff_toInt_lt]
  have k0 : (31 : Int32).toInt = 31 := rfl
  have k1 : (32 : Int32).toInt = 32 := rfl
  omega
theorem hx_law {d : Int32} : 97 + (d - 10) = 87 + d := by
  have a := c_iadd 97 (d - 10)
  have b := c_isub d 10
  have c := c_iadd 87 d
  have r1 := rng32 (97 + (d - 10))
  have r2 := rng32 (87 + d)
  have k0 : (97 : Int32).toInt = 97 := rfl
  have k1 : (10 : Int32).toInt = 10 := rfl
  have k2 : (87 : Int32).toInt = 87 := rfl
  apply Int32.toInt_inj.mp
  omega
theorem dg0 (c : Int32) : c &&& 15 = (c >>> ((0 : Int32) &&& 31)) &&& 15 := by rw [shr0]
theorem chS_ofU {Z : State} {h : Heap} {t : Addr} {k : ClassId} {N n : Nat} {cs : List Int32} (U : U16 Z h t k N (cs ++ List.replicate n 0)) : ∀ c ∈ cs, Ch c := fun c q => U.2.2.2 c (List.mem_append_left _ q)
end Own

theorem s1 : decs jdk_52_method_4_code [(0, .getstatic 44, 3), (3, .ifCond .ne 25, 3), (28, .iload_n 1, 1), (29, .iconst 1, 1), (30, .ishl, 1), (31, .istore_n 1, 1), (32, .aload_n 0, 1), (33, .iload_n 1, 1), (34, .iinc 1 1, 3), (37, .iload_n 2, 1), (38, .getstatic 59, 3), (41, .ishr, 1), (42, .i2b, 1), (43, .bastore, 1), (44, .aload_n 0, 1), (45, .iload_n 1, 1), (46, .iload_n 2, 1), (47, .getstatic 63, 3), (50, .ishr, 1), (51, .i2b, 1), (52, .bastore, 1), (53, .return_, 1)] = true := by decide +kernel
theorem pn_51 : plainFor (⟨"java/lang/StringUTF16", "putChar", "([BII)V"⟩ : MethodName) = true := by first | exact plainFor_of_name (by first | (simp [plainName, overriddenIn]; done) | decide +kernel) | decide +kernel
def QrmPc (Z : State) (t1 : Addr) (k1 : ClassId) (N : Nat) (cs : List Int32) (i : Nat) (c1 : Int32) (h0 : Heap) (n0 : Nat) (v : Option Value) (h : Heap) (L : List Loc) : Prop := v = none ∧ Fr n0 L ∧ Keep h0 h [t1] ∧ Own.U16 Z h t1 k1 N (cs.set i c1)
theorem rmPc (l : Launch) (Z : State) (a0 : Array Value) (hw : HW a0 Z) (ws : List Jvm.Cond) (t1 : Addr) (k1 : ClassId) (N : Nat) (cs : List Int32) (i : Nat) (c1 : Int32) (h0 : Heap) (n0 : Nat) (Z0 : n0 ≤ h0.size) (SA : Own.Ads Z h0) (SH : Own.Hib Z h0) (SL : Own.Lob Z h0) (A : Own.U16 Z h0 t1 k1 N cs) (hiN : i < N) (hc : Own.Ch c1) (g_t1 : n0 ≤ t1) :
    Own.MF l Z (⟨"java/lang/StringUTF16", "putChar", "([BII)V"⟩ : MethodName) jdk_52_method_4_code 3 none ws (⟨0, 0, 0, 0⟩ : Room) #[(.ref t1), (.int (Int32.ofNat i)), (.int c1)] h0 (QrmPc Z t1 k1 N cs i c1 h0 n0) := by
  refine Own.MF.of (own := "java/lang/StringUTF16") (n := 3) rfl rfl pn_51 (fun p e s m below meth c s₁ hml hlk hret hnm P0 => ?_)
  rw [show entryFrame m #[(.ref t1), (.int (Int32.ofNat i)), (.int c1)] 3 = mkF m 0 #[.val (.ref t1), .val (.int (Int32.ofNat i)), .val (.int c1)] [] from by first | (simp [entryFrame, mkF, argsToLocals, Value.category]; done) | rfl]
  refine Own.getstatic (q := 3) P0 (dc s1 0 rfl) (wd hw 254 rfl) SA rfl ?_
  intro T21 P21
  refine Own.if_ne (q := 6) (qy := 28) P21 (dc s1 1 rfl) (by decide) rfl (fun _ => ?_) (fun q => absurd q (by decide))
  refine Own.iloadN (q := 29) P21 (dc s1 2 rfl) rfl rfl ?_
  refine Own.iconst (q := 30) (v := (1 : Int32)) P21 (dc s1 3 rfl) rfl rfl ?_
  refine Own.ishl (q := 31) P21 (dc s1 4 rfl)  rfl ?_
  rw [show ((Int32.ofNat i) <<< ((1 : Int32) &&& 31)) = (Int32.ofNat (2 * i)) from Own.dbl (by have := hiN; have := A.2.2.1; omega)]
  refine Own.istoreN (q := 32) (L2 := #[.val (.ref t1), .val (.int (Int32.ofNat (2 * i))), .val (.int c1)]) P21 (dc s1 5 rfl) rfl rfl ?_
  refine Own.aloadN (q := 33) P21 (dc s1 6 rfl) rfl rfl rfl ?_
  refine Own.iloadN (q := 34) P21 (dc s1 7 rfl) rfl rfl ?_
  refine Own.iinc (q := 37) (v := (1 : Int32)) (L2 := #[.val (.ref t1), .val (.int ((Int32.ofNat (2 * i)) + (1 : Int32))), .val (.int c1)]) P21 (dc s1 8 rfl) rfl rfl rfl rfl ?_
  rw [show (Int32.ofNat (2 * i) + (1 : Int32)) = Int32.ofNat (2 * i + 1) from (Int32.ofNat_add (2 * i) 1).symm]
  refine Own.iloadN (q := 38) P21 (dc s1 9 rfl) rfl rfl ?_
  refine Own.getstatic (q := 41) P21 (dc s1 10 rfl) (wd hw 255 rfl) SH rfl ?_
  intro T22 P22
  refine Own.ishr (q := 42) P22 (dc s1 11 rfl)  rfl ?_
  refine Own.i2b (q := 43) P22 (dc s1 12 rfl)  rfl ?_
  refine Own.bastore (q := 44) (i := (2 * i)) (x2 := (Own.lo c1)) P22 (dc s1 13 rfl) A.1 (Own.nneg (by have := hiN; have := A.2.2.1; omega)) (Own.ltN (by have := hiN; have := A.2.2.1; omega) (by have := hiN; have := A.2.2.1; omega) (by have := hiN; have := A.2.2.1; omega)) (Own.nar_b _) (Own.fits_b _) (Own.clamp (by have := hiN; have := A.2.2.1; omega)) (by rw [Own.b16_len, A.2.1]; have := hiN; omega) rfl ?_
  intro T24 h24 lc24 hl24 P24 W24 A24
  have N24 := Own.Fr.one (Fr.nil n0) hl24 g_t1
  refine Own.aloadN (q := 45) P24 (dc s1 14 rfl) rfl rfl rfl ?_
  refine Own.iloadN (q := 46) P24 (dc s1 15 rfl) rfl rfl ?_
  refine Own.iloadN (q := 47) P24 (dc s1 16 rfl) rfl rfl ?_
  have qf25 := (Sta.wr W24 SL)
  refine Own.getstatic (q := 50) P24 (dc s1 17 rfl) (wd hw 256 rfl) qf25 rfl ?_
  intro T26 P26
  refine Own.ishr (q := 51) P26 (dc s1 18 rfl)  rfl ?_
  refine Own.i2b (q := 52) P26 (dc s1 19 rfl)  rfl ?_
  refine Own.bastore (q := 53) (i := (2 * i + 1)) (x2 := (Own.hi c1)) P26 (dc s1 20 rfl) A24 (Own.nneg (by have := hiN; have := A.2.2.1; omega)) (Own.ltN (by have := hiN; have := A.2.2.1; omega) (by have := hiN; have := A.2.2.1; omega) (by have := hiN; have := A.2.2.1; omega)) (Own.nar_b _) (Own.fits_b _) (Own.clamp (by have := hiN; have := A.2.2.1; omega)) (by rw [List.length_set, Own.b16_len, A.2.1]; have := hiN; omega) rfl ?_
  intro T28 h28 lc28 hl28 P28 W28 A28
  have N28 := Own.Fr.one N24 hl28 g_t1
  refine Own.retV P28 (dc s1 21 rfl) hret hlk (by decide) (by decide) ?_
  exact ⟨rfl, N28, (Keep.wr (Keep.wr (Keep.refl h0 _) W24 (Or.inl (by simp))) W28 (Or.inl (by simp))), by rw [← Own.b16_set]; exact A28, by rw [List.length_set]; exact A.2.1, A.2.2.1, Own.ch_set A.2.2.2 hc⟩
theorem s2 : decs jdk_52_method_5_code [(0, .getstatic 44, 3), (3, .ifCond .ne 25, 3), (28, .iload_n 1, 1), (29, .iconst 1, 1), (30, .ishl, 1), (31, .istore_n 1, 1), (32, .aload_n 0, 1), (33, .iload_n 1, 1), (34, .iinc 1 1, 3), (37, .baload, 1), (38, .sipush 255, 3), (41, .iand, 1), (42, .getstatic 59, 3), (45, .ishl, 1), (46, .aload_n 0, 1), (47, .iload_n 1, 1), (48, .baload, 1), (49, .sipush 255, 3), (52, .iand, 1), (53, .getstatic 63, 3), (56, .ishl, 1), (57, .ior, 1), (58, .i2c, 1), (59, .ireturn, 1)] = true := by decide +kernel
theorem pn_52 : plainFor (⟨"java/lang/StringUTF16", "getChar", "([BI)C"⟩ : MethodName) = true := by first | exact plainFor_of_name (by first | (simp [plainName, overriddenIn]; done) | decide +kernel) | decide +kernel
def QrmGc (Z : State) (t1 : Addr) (k1 : ClassId) (N : Nat) (cs : List Int32) (i : Nat) (h0 : Heap) (n0 : Nat) (v : Option Value) (h : Heap) (L : List Loc) : Prop := v = some (.int (cs.getD i 0)) ∧ Fr n0 L ∧ h = h0
theorem rmGc (l : Launch) (Z : State) (a0 : Array Value) (hw : HW a0 Z) (ws : List Jvm.Cond) (t1 : Addr) (k1 : ClassId) (N : Nat) (cs : List Int32) (i : Nat) (h0 : Heap) (n0 : Nat) (Z0 : n0 ≤ h0.size) (SA : Own.Ads Z h0) (SH : Own.Hib Z h0) (SL : Own.Lob Z h0) (A : Own.U16 Z h0 t1 k1 N cs) (hiN : i < N) :
    Own.MF l Z (⟨"java/lang/StringUTF16", "getChar", "([BI)C"⟩ : MethodName) jdk_52_method_5_code 2 (some .char) ws (⟨0, 0, 0, 0⟩ : Room) #[(.ref t1), (.int (Int32.ofNat i))] h0 (QrmGc Z t1 k1 N cs i h0 n0) := by
  refine Own.MF.of (own := "java/lang/StringUTF16") (n := 2) rfl rfl pn_52 (fun p e s m below meth c s₁ hml hlk hret hnm P0 => ?_)
  rw [show entryFrame m #[(.ref t1), (.int (Int32.ofNat i))] 2 = mkF m 0 #[.val (.ref t1), .val (.int (Int32.ofNat i))] [] from by first | (simp [entryFrame, mkF, argsToLocals, Value.category]; done) | rfl]
  refine Own.getstatic (q := 3) P0 (dc s2 0 rfl) (wd hw 254 rfl) SA rfl ?_
  intro T21 P21
  refine Own.if_ne (q := 6) (qy := 28) P21 (dc s2 1 rfl) (by decide) rfl (fun _ => ?_) (fun q => absurd q (by decide))
  refine Own.iloadN (q := 29) P21 (dc s2 2 rfl) rfl rfl ?_
  refine Own.iconst (q := 30) (v := (1 : Int32)) P21 (dc s2 3 rfl) rfl rfl ?_
  refine Own.ishl (q := 31) P21 (dc s2 4 rfl)  rfl ?_
  rw [show ((Int32.ofNat i) <<< ((1 : Int32) &&& 31)) = (Int32.ofNat (2 * i)) from Own.dbl (by have := hiN; have := A.2.2.1; omega)]
  refine Own.istoreN (q := 32) (L2 := #[.val (.ref t1), .val (.int (Int32.ofNat (2 * i)))]) P21 (dc s2 5 rfl) rfl rfl ?_
  refine Own.aloadN (q := 33) P21 (dc s2 6 rfl) rfl rfl rfl ?_
  refine Own.iloadN (q := 34) P21 (dc s2 7 rfl) rfl rfl ?_
  refine Own.iinc (q := 37) (v := (1 : Int32)) (L2 := #[.val (.ref t1), .val (.int ((Int32.ofNat (2 * i)) + (1 : Int32)))]) P21 (dc s2 8 rfl) rfl rfl rfl rfl ?_
  rw [show (Int32.ofNat (2 * i) + (1 : Int32)) = Int32.ofNat (2 * i + 1) from (Int32.ofNat_add (2 * i) 1).symm]
  refine Own.baload (q := 38) (v := .int (Own.lo (cs.getD i 0))) P21 (dc s2 9 rfl) A.1 (Own.nneg (by have := hiN; have := A.2.2.1; omega)) (Own.ltN (by have := hiN; have := A.2.2.1; omega) (by have := hiN; have := A.2.2.1; omega) (by have := hiN; have := A.2.2.1; omega)) (by rw [Own.clamp (by have := hiN; have := A.2.2.1; omega)]; exact (Own.b16_get cs i (by rw [A.2.1]; exact hiN)).1) rfl ?_
  refine Own.sipush (q := 41) (v := (255 : Int32)) P21 (dc s2 10 rfl) rfl rfl ?_
  refine Own.iand (q := 42) P21 (dc s2 11 rfl)  rfl ?_
  refine Own.getstatic (q := 45) P21 (dc s2 12 rfl) (wd hw 255 rfl) SH rfl ?_
  intro T22 P22
  refine Own.ishl (q := 46) P22 (dc s2 13 rfl)  rfl ?_
  refine Own.aloadN (q := 47) P22 (dc s2 14 rfl) rfl rfl rfl ?_
  refine Own.iloadN (q := 48) P22 (dc s2 15 rfl) rfl rfl ?_
  refine Own.baload (q := 49) (v := .int (Own.hi (cs.getD i 0))) P22 (dc s2 16 rfl) A.1 (Own.nneg (by have := hiN; have := A.2.2.1; omega)) (Own.ltN (by have := hiN; have := A.2.2.1; omega) (by have := hiN; have := A.2.2.1; omega) (by have := hiN; have := A.2.2.1; omega)) (by rw [Own.clamp (by have := hiN; have := A.2.2.1; omega)]; exact (Own.b16_get cs i (by rw [A.2.1]; exact hiN)).2) rfl ?_
  refine Own.sipush (q := 52) (v := (255 : Int32)) P22 (dc s2 17 rfl) rfl rfl ?_
  refine Own.iand (q := 53) P22 (dc s2 18 rfl)  rfl ?_
  refine Own.getstatic (q := 56) P22 (dc s2 19 rfl) (wd hw 256 rfl) SL rfl ?_
  intro T23 P23
  refine Own.ishl (q := 57) P23 (dc s2 20 rfl)  rfl ?_
  refine Own.ior (q := 58) P23 (dc s2 21 rfl)  rfl ?_
  refine Own.i2c (q := 59) P23 (dc s2 22 rfl)  rfl ?_
  refine Own.retZ P23 (dc s2 23 rfl) hret (by simp) hlk (by decide) (by decide) ?_
  exact ⟨by rw [show (((((Own.lo (cs.getD i 0)) &&& (255 : Int32)) <<< ((0 : Int32) &&& 31)) ||| (((Own.hi (cs.getD i 0)) &&& (255 : Int32)) <<< ((8 : Int32) &&& 31)))).toUInt32.toUInt16.toUInt32.toInt32 = cs.getD i 0 from Own.get16 (Own.ch_getD A.2.2.2 i), show nar .char (cs.getD i 0) = cs.getD i 0 from Own.nar16 (Own.ch_getD A.2.2.2 i)], (Fr.nil n0), rfl⟩
theorem s3 : decs jdk_52_method_6_code [(0, .aload_n 0, 1), (1, .arraylength, 1), (2, .iconst 1, 1), (3, .ishr, 1), (4, .ireturn, 1)] = true := by decide +kernel
theorem pn_55 : plainFor (⟨"java/lang/StringUTF16", "length", "([B)I"⟩ : MethodName) = true := by first | exact plainFor_of_name (by first | (simp [plainName, overriddenIn]; done) | decide +kernel) | decide +kernel
def QrmUl (Z : State) (t1 : Addr) (k1 : ClassId) (N : Nat) (cs : List Int32) (h0 : Heap) (n0 : Nat) (v : Option Value) (h : Heap) (L : List Loc) : Prop := v = some (.int (Int32.ofNat N)) ∧ Fr n0 L ∧ h = h0
theorem rmUl (l : Launch) (Z : State) (a0 : Array Value) (hw : HW a0 Z) (ws : List Jvm.Cond) (t1 : Addr) (k1 : ClassId) (N : Nat) (cs : List Int32) (h0 : Heap) (n0 : Nat) (Z0 : n0 ≤ h0.size) (A : Own.U16 Z h0 t1 k1 N cs) :
    Own.MF l Z (⟨"java/lang/StringUTF16", "length", "([B)I"⟩ : MethodName) jdk_52_method_6_code 1 (some .int) ws (⟨0, 0, 0, 0⟩ : Room) #[(.ref t1)] h0 (QrmUl Z t1 k1 N cs h0 n0) := by
  refine Own.MF.of (own := "java/lang/StringUTF16") (n := 1) rfl rfl pn_55 (fun p e s m below meth c s₁ hml hlk hret hnm P0 => ?_)
  rw [show entryFrame m #[(.ref t1)] 1 = mkF m 0 #[.val (.ref t1)] [] from by first | (simp [entryFrame, mkF, argsToLocals, Value.category]; done) | rfl]
  refine Own.aloadN (q := 1) P0 (dc s3 0 rfl) rfl rfl rfl ?_
  refine Own.arraylength (q := 2) P0 (dc s3 1 rfl) A.1 rfl ?_
  refine Own.iconst (q := 3) (v := (1 : Int32)) P0 (dc s3 2 rfl) rfl rfl ?_
  refine Own.ishr (q := 4) P0 (dc s3 3 rfl)  rfl ?_
  rw [show ((Int32.ofNat (2 * N)) >>> ((1 : Int32) &&& 31)) = (Int32.ofNat N) from Own.hlf (by have := A.2.2.1; omega)]
  refine Own.retI P0 (dc s3 4 rfl) hret hlk (by decide) (by decide) ?_
  exact ⟨rfl, (Fr.nil n0), rfl⟩
theorem s4 : decs jdk_52_method_3_code [(0, .iload_n 0, 1), (1, .ifCond .ge 11, 3), (12, .iload_n 0, 1), (13, .ldc 20, 2), (15, .if_icmp .lt 40, 3), (55, .iload_n 0, 1), (56, .iconst 1, 1), (57, .ishl, 1), (58, .ireturn, 1)] = true := by decide +kernel
theorem pn_50 : plainFor (⟨"java/lang/StringUTF16", "newBytesLength", "(I)I"⟩ : MethodName) = true := by first | exact plainFor_of_name (by first | (simp [plainName, overriddenIn]; done) | decide +kernel) | decide +kernel
def QrmNbl (Z : State) (n : Nat) (h0 : Heap) (n0 : Nat) (v : Option Value) (h : Heap) (L : List Loc) : Prop := v = some (.int (Int32.ofNat (2 * n))) ∧ Fr n0 L ∧ h = h0
theorem rmNbl (l : Launch) (Z : State) (a0 : Array Value) (hw : HW a0 Z) (ws : List Jvm.Cond) (n : Nat) (h0 : Heap) (n0 : Nat) (Z0 : n0 ≤ h0.size) (hn : n ≤ 20) :
    Own.MF l Z (⟨"java/lang/StringUTF16", "newBytesLength", "(I)I"⟩ : MethodName) jdk_52_method_3_code 1 (some .int) ws (⟨0, 0, 0, 0⟩ : Room) #[(.int (Int32.ofNat n))] h0 (QrmNbl Z n h0 n0) := by
  refine Own.MF.of (own := "java/lang/StringUTF16") (n := 1) rfl rfl pn_50 (fun p e s m below meth c s₁ hml hlk hret hnm P0 => ?_)
  rw [show entryFrame m #[(.int (Int32.ofNat n))] 1 = mkF m 0 #[.val (.int (Int32.ofNat n))] [] from by first | (simp [entryFrame, mkF, argsToLocals, Value.category]; done) | rfl]
  refine Own.iloadN (q := 1) P0 (dc s4 0 rfl) rfl rfl ?_
  refine Own.if_ge (q := 4) (qy := 12) P0 (dc s4 1 rfl) (by decide) rfl (fun _ => ?_) (fun q => absurd q (Own.nneg (by omega)))
  refine Own.iloadN (q := 13) P0 (dc s4 2 rfl) rfl rfl ?_
  refine Own.ldcI (q := 15) (v := (1073741823 : Int32)) P0 (dc s4 3 rfl) (wd hw 250 rfl) rfl ?_
  refine Own.icmp_lt (q := 18) (qy := 55) P0 (dc s4 4 rfl) (by decide) rfl (fun _ => ?_) (fun q => absurd (Own.big20 hn) q)
  refine Own.iloadN (q := 56) P0 (dc s4 5 rfl) rfl rfl ?_
  refine Own.iconst (q := 57) (v := (1 : Int32)) P0 (dc s4 6 rfl) rfl rfl ?_
  refine Own.ishl (q := 58) P0 (dc s4 7 rfl)  rfl ?_
  rw [show ((Int32.ofNat n) <<< ((1 : Int32) &&& 31)) = (Int32.ofNat (2 * n)) from Own.dbl (by omega)]
  refine Own.retI P0 (dc s4 8 rfl) hret hlk (by decide) (by decide) ?_
  exact ⟨rfl, (Fr.nil n0), rfl⟩
theorem pd_0 : parseMethodDescriptor "(I)I" = some ⟨[.int], some .int⟩ := by decide +kernel
theorem sw_0 {Z : State} {a0 : Array Value} (hw : HW a0 Z) : Own.SW Z a0 ⟨"java/lang/StringUTF16", "newBytesLength", "(I)I"⟩ jdk_52_method_3_code 1 (some .int) 1 := ⟨(wd hw 248 rfl), (wd hw 41 rfl), (wd hw 249 rfl), by decide, _, _, pd_0, rfl⟩
theorem s5 : decs jdk_52_method_2_code [(0, .iload_n 0, 1), (1, .invokestatic 11, 3), (4, .newarray .byte, 2), (6, .areturn, 1)] = true := by decide +kernel
theorem pn_49 : plainFor (⟨"java/lang/StringUTF16", "newBytesFor", "(I)[B"⟩ : MethodName) = true := by first | exact plainFor_of_name (by first | (simp [plainName, overriddenIn]; done) | decide +kernel) | decide +kernel
def QrmNbf (Z : State) (n : Nat) (h0 : Heap) (n0 : Nat) (v : Option Value) (h : Heap) (L : List Loc) : Prop := ∃ r k, v = some (.ref r) ∧ Fr n0 L ∧ Ext h0 h ∧ h0.size ≤ r ∧ Own.U16 Z h r k n (List.replicate n 0)
theorem rmNbf (l : Launch) (Z : State) (a0 : Array Value) (hw : HW a0 Z) (ws : List Jvm.Cond) (n : Nat) (h0 : Heap) (n0 : Nat) (Z0 : n0 ≤ h0.size) (hn : n ≤ 20) :
    Own.MF l Z (⟨"java/lang/StringUTF16", "newBytesFor", "(I)[B"⟩ : MethodName) jdk_52_method_2_code 1 (some (.array .byte)) ws (⟨1, 1, 40, 12⟩ : Room) #[(.int (Int32.ofNat n))] h0 (QrmNbf Z n h0 n0) := by
  refine Own.MF.of (own := "java/lang/StringUTF16") (n := 1) rfl rfl pn_49 (fun p e s m below meth c s₁ hml hlk hret hnm P0 => ?_)
  rw [show entryFrame m #[(.int (Int32.ofNat n))] 1 = mkF m 0 #[.val (.int (Int32.ofNat n))] [] from by first | (simp [entryFrame, mkF, argsToLocals, Value.category]; done) | rfl]
  refine Own.iloadN (q := 1) P0 (dc s5 0 rfl) rfl rfl ?_
  refine Own.cS (q := 4) (W := 0) (rest := []) P0 (dc s5 1 rfl) (wd hw 247 rfl) (sw_0 hw) (rmNbl l Z a0 hw [] n h0 n0 Z0 hn) (by decide) (by decide) rfl (hml rfl) rfl rfl (by decide) (by decide) rfl ?_
  rintro v21 T21 h21 L21 ⟨rfl, N21q, e21⟩ P21
  rw [e21] at P21
  have N21 := Fr.app (Fr.nil n0) N21q
  refine Own.newarr (q := 6) (cap := 40) P21 (dc s5 2 rfl) (wd hw 16 rfl) (Own.nneg (by omega)) (by rw [Own.clamp (by omega)]; omega) (by decide) (by decide) (by decide) rfl ?_
  intro T22 h22 a22 k22 ha22 P22 E22 A22
  have V22 : Own.U16 Z h22 a22 k22 n (List.replicate n 0) := ⟨by rw [Own.b16_rep]; exact Arv.pad A22 (pad_rep [] _ _), List.length_replicate .., by omega, Own.ch_rep n⟩
  have E0_1_23 : Ext h0 h22 := E22
  refine Own.retA P22 (dc s5 3 rfl) hret rfl rfl rfl hlk (by decide) (by decide) ?_
  exact ⟨_, _, rfl, N21, E0_1_23, (Nat.le_of_eq ha22.symm), V22⟩
theorem s6 : decs jdk_41_method_11_code [(0, .iload_n 0, 1), (1, .ifCond .lt 8, 3), (4, .iload_n 0, 1), (5, .iload_n 1, 1), (6, .if_icmp .lt 10, 3), (16, .iload_n 0, 1), (17, .ireturn, 1)] = true := by decide +kernel
theorem pn_14 : plainFor (⟨"jdk/internal/util/Preconditions", "checkIndex", "(IILjava/util/function/BiFunction;)I"⟩ : MethodName) = true := by first | exact plainFor_of_name (by first | (simp [plainName, overriddenIn]; done) | decide +kernel) | decide +kernel
def QrmPci (Z : State) (x1 : Int32) (y1 : Int32) (fm : Value) (h0 : Heap) (n0 : Nat) (v : Option Value) (h : Heap) (L : List Loc) : Prop := v = some (.int x1) ∧ Fr n0 L ∧ h = h0
theorem rmPci (l : Launch) (Z : State) (a0 : Array Value) (hw : HW a0 Z) (ws : List Jvm.Cond) (x1 : Int32) (y1 : Int32) (fm : Value) (h0 : Heap) (n0 : Nat) (Z0 : n0 ≤ h0.size) (hfm : fm.isRef = true) (b1 : ¬ x1 < 0) (b2 : x1 < y1) :
    Own.MF l Z (⟨"jdk/internal/util/Preconditions", "checkIndex", "(IILjava/util/function/BiFunction;)I"⟩ : MethodName) jdk_41_method_11_code 3 (some .int) ws (⟨0, 0, 0, 0⟩ : Room) #[(.int x1), (.int y1), fm] h0 (QrmPci Z x1 y1 fm h0 n0) := by
  refine Own.MF.of (own := "jdk/internal/util/Preconditions") (n := 3) rfl rfl pn_14 (fun p e s m below meth c s₁ hml hlk hret hnm P0 => ?_)
  rw [show entryFrame m #[(.int x1), (.int y1), fm] 3 = mkF m 0 #[.val (.int x1), .val (.int y1), .val fm] [] from by first | (simp [entryFrame, mkF, argsToLocals, Value.category]; done) | rfl | (rcases Own.refc hfm with rfl | ⟨_, rfl⟩ <;> rfl)]
  refine Own.iloadN (q := 1) P0 (dc s6 0 rfl) rfl rfl ?_
  refine Own.if_lt (q := 4) (qy := 9) P0 (dc s6 1 rfl) (by decide) rfl (fun q => absurd q b1) (fun _ => ?_)
  refine Own.iloadN (q := 5) P0 (dc s6 2 rfl) rfl rfl ?_
  refine Own.iloadN (q := 6) P0 (dc s6 3 rfl) rfl rfl ?_
  refine Own.icmp_lt (q := 9) (qy := 16) P0 (dc s6 4 rfl) (by decide) rfl (fun _ => ?_) (fun q => absurd b2 q)
  refine Own.iloadN (q := 17) P0 (dc s6 5 rfl) rfl rfl ?_
  refine Own.retI P0 (dc s6 6 rfl) hret hlk (by decide) (by decide) ?_
  exact ⟨rfl, (Fr.nil n0), rfl⟩
theorem pd_1 : parseMethodDescriptor "(IILjava/util/function/BiFunction;)I" = some ⟨[.int, .int, (.object "java/util/function/BiFunction")], some .int⟩ := by decide +kernel
theorem sw_1 {Z : State} {a0 : Array Value} (hw : HW a0 Z) : Own.SW Z a0 ⟨"jdk/internal/util/Preconditions", "checkIndex", "(IILjava/util/function/BiFunction;)I"⟩ jdk_41_method_11_code 3 (some .int) 3 := ⟨(wd hw 69 rfl), (wd hw 67 rfl), (wd hw 70 rfl), by decide, _, _, pd_1, rfl⟩
theorem s7 : decs jdk_42_method_155_code [(0, .iload_n 0, 1), (1, .iload_n 1, 1), (2, .getstatic 1053, 3), (5, .invokestatic 1059, 3), (8, .pop, 1), (9, .return_, 1)] = true := by decide +kernel
theorem pn_13 : plainFor (⟨"java/lang/String", "checkIndex", "(II)V"⟩ : MethodName) = true := by first | exact plainFor_of_name (by first | (simp [plainName, overriddenIn]; done) | decide +kernel) | decide +kernel
def QrmSci (Z : State) (x1 : Int32) (y1 : Int32) (fm : Value) (h0 : Heap) (n0 : Nat) (v : Option Value) (h : Heap) (L : List Loc) : Prop := v = none ∧ Fr n0 L ∧ h = h0
theorem rmSci (l : Launch) (Z : State) (a0 : Array Value) (hw : HW a0 Z) (ws : List Jvm.Cond) (x1 : Int32) (y1 : Int32) (fm : Value) (h0 : Heap) (n0 : Nat) (Z0 : n0 ≤ h0.size) (SF : Own.Fst Z h0 fm) (hfm : fm.isRef = true) (b1 : ¬ x1 < 0) (b2 : x1 < y1) :
    Own.MF l Z (⟨"java/lang/String", "checkIndex", "(II)V"⟩ : MethodName) jdk_42_method_155_code 2 none ws (⟨1, 0, 0, 14⟩ : Room) #[(.int x1), (.int y1)] h0 (QrmSci Z x1 y1 fm h0 n0) := by
  refine Own.MF.of (own := "java/lang/String") (n := 2) rfl rfl pn_13 (fun p e s m below meth c s₁ hml hlk hret hnm P0 => ?_)
  rw [show entryFrame m #[(.int x1), (.int y1)] 2 = mkF m 0 #[.val (.int x1), .val (.int y1)] [] from by first | (simp [entryFrame, mkF, argsToLocals, Value.category]; done) | rfl]
  refine Own.iloadN (q := 1) P0 (dc s7 0 rfl) rfl rfl ?_
  refine Own.iloadN (q := 2) P0 (dc s7 1 rfl) rfl rfl ?_
  refine Own.getstatic (q := 5) P0 (dc s7 2 rfl) (wd hw 66 rfl) SF rfl ?_
  intro T21 P21
  refine Own.cS (q := 8) (W := 0) (rest := []) P21 (dc s7 3 rfl) (wd hw 68 rfl) (sw_1 hw) (rmPci l Z a0 hw [] x1 y1 fm h0 n0 Z0 hfm b1 b2) (by decide) (by decide) rfl (hml rfl) rfl rfl (by decide) (by decide) rfl ?_
  rintro v22 T22 h22 L22 ⟨rfl, N22q, e22⟩ P22
  rw [e22] at P22
  have N22 := Fr.app (Fr.nil n0) N22q
  refine Own.pop (q := 9) P22 (dc s7 4 rfl) rfl rfl ?_
  refine Own.retV P22 (dc s7 5 rfl) hret hlk (by decide) (by decide) ?_
  exact ⟨rfl, N22, rfl⟩
theorem pd_2 : parseMethodDescriptor "([B)I" = some ⟨[(.array .byte)], some .int⟩ := by decide +kernel
theorem sw_2 {Z : State} {a0 : Array Value} (hw : HW a0 Z) : Own.SW Z a0 ⟨"java/lang/StringUTF16", "length", "([B)I"⟩ jdk_52_method_6_code 1 (some .int) 1 := ⟨(wd hw 267 rfl), (wd hw 41 rfl), (wd hw 268 rfl), by decide, _, _, pd_2, rfl⟩
theorem pd_3 : parseMethodDescriptor "(II)V" = some ⟨[.int, .int], none⟩ := by decide +kernel
theorem sw_3 {Z : State} {a0 : Array Value} (hw : HW a0 Z) : Own.SW Z a0 ⟨"java/lang/String", "checkIndex", "(II)V"⟩ jdk_42_method_155_code 2 none 2 := ⟨(wd hw 64 rfl), (wd hw 4 rfl), (wd hw 65 rfl), by decide, _, _, pd_3, rfl⟩
theorem s8 : decs jdk_52_method_91_code [(0, .iload_n 0, 1), (1, .aload_n 1, 1), (2, .invokestatic 48, 3), (5, .invokestatic 414, 3), (8, .return_, 1)] = true := by decide +kernel
theorem pn_54 : plainFor (⟨"java/lang/StringUTF16", "checkIndex", "(I[B)V"⟩ : MethodName) = true := by first | exact plainFor_of_name (by first | (simp [plainName, overriddenIn]; done) | decide +kernel) | decide +kernel
def QrmUci (Z : State) (t1 : Addr) (k1 : ClassId) (N : Nat) (cs : List Int32) (i : Nat) (fm : Value) (h0 : Heap) (n0 : Nat) (v : Option Value) (h : Heap) (L : List Loc) : Prop := v = none ∧ Fr n0 L ∧ h = h0
theorem rmUci (l : Launch) (Z : State) (a0 : Array Value) (hw : HW a0 Z) (ws : List Jvm.Cond) (t1 : Addr) (k1 : ClassId) (N : Nat) (cs : List Int32) (i : Nat) (fm : Value) (h0 : Heap) (n0 : Nat) (Z0 : n0 ≤ h0.size) (SF : Own.Fst Z h0 fm) (hfm : fm.isRef = true) (A : Own.U16 Z h0 t1 k1 N cs) (hiN : i < N) :
    Own.MF l Z (⟨"java/lang/StringUTF16", "checkIndex", "(I[B)V"⟩ : MethodName) jdk_52_method_91_code 2 none ws (⟨2, 0, 0, 27⟩ : Room) #[(.int (Int32.ofNat i)), (.ref t1)] h0 (QrmUci Z t1 k1 N cs i fm h0 n0) := by
  refine Own.MF.of (own := "java/lang/StringUTF16") (n := 2) rfl rfl pn_54 (fun p e s m below meth c s₁ hml hlk hret hnm P0 => ?_)
  rw [show entryFrame m #[(.int (Int32.ofNat i)), (.ref t1)] 2 = mkF m 0 #[.val (.int (Int32.ofNat i)), .val (.ref t1)] [] from by first | (simp [entryFrame, mkF, argsToLocals, Value.category]; done) | rfl]
  refine Own.iloadN (q := 1) P0 (dc s8 0 rfl) rfl rfl ?_
  refine Own.aloadN (q := 2) P0 (dc s8 1 rfl) rfl rfl rfl ?_
  refine Own.cS (q := 5) (W := 1) (rest := [(.int (Int32.ofNat i))]) P0 (dc s8 2 rfl) (wd hw 266 rfl) (sw_2 hw) (rmUl l Z a0 hw [] t1 k1 N cs h0 n0 Z0 A) (by decide) (by decide) rfl (hml rfl) rfl rfl (by decide) (by decide) rfl ?_
  rintro v21 T21 h21 L21 ⟨rfl, N21q, e21⟩ P21
  rw [e21] at P21
  have N21 := Fr.app (Fr.nil n0) N21q
  refine Own.cS (q := 8) (W := 0) (rest := []) P21 (dc s8 3 rfl) (wd hw 269 rfl) (sw_3 hw) (rmSci l Z a0 hw [] (Int32.ofNat i) (Int32.ofNat N) fm h0 n0 Z0 SF hfm (Own.nneg (by have := hiN; have := A.2.2.1; omega)) (Own.ltN (by have := hiN; have := A.2.2.1; omega) (by have := hiN; have := A.2.2.1; omega) hiN)) (by decide) (by decide) rfl (hml rfl) rfl rfl (by decide) (by decide) rfl ?_
  rintro v22 T22 h22 L22 ⟨rfl, N22q, e22⟩ P22
  rw [e22] at P22
  have N22 := Fr.app N21 N22q
  refine Own.retV P22 (dc s8 4 rfl) hret hlk (by decide) (by decide) ?_
  exact ⟨rfl, N22, rfl⟩
theorem pd_4 : parseMethodDescriptor "(I[B)V" = some ⟨[.int, (.array .byte)], none⟩ := by decide +kernel
theorem sw_4 {Z : State} {a0 : Array Value} (hw : HW a0 Z) : Own.SW Z a0 ⟨"java/lang/StringUTF16", "checkIndex", "(I[B)V"⟩ jdk_52_method_91_code 2 none 2 := ⟨(wd hw 264 rfl), (wd hw 41 rfl), (wd hw 265 rfl), by decide, _, _, pd_4, rfl⟩
theorem pd_5 : parseMethodDescriptor "([BI)C" = some ⟨[(.array .byte), .int], some .char⟩ := by decide +kernel
theorem sw_5 {Z : State} {a0 : Array Value} (hw : HW a0 Z) : Own.SW Z a0 ⟨"java/lang/StringUTF16", "getChar", "([BI)C"⟩ jdk_52_method_5_code 2 (some .char) 2 := ⟨(wd hw 258 rfl), (wd hw 41 rfl), (wd hw 259 rfl), by decide, _, _, pd_5, rfl⟩
theorem s9 : decs jdk_52_method_83_code [(0, .iload_n 1, 1), (1, .aload_n 0, 1), (2, .invokestatic 67, 3), (5, .aload_n 0, 1), (6, .iload_n 1, 1), (7, .invokestatic 71, 3), (10, .ireturn, 1)] = true := by decide +kernel
theorem pn_53 : plainFor (⟨"java/lang/StringUTF16", "charAt", "([BI)C"⟩ : MethodName) = true := by first | exact plainFor_of_name (by first | (simp [plainName, overriddenIn]; done) | decide +kernel) | decide +kernel
def QrmUca (Z : State) (t1 : Addr) (k1 : ClassId) (N : Nat) (cs : List Int32) (i : Nat) (fm : Value) (h0 : Heap) (n0 : Nat) (v : Option Value) (h : Heap) (L : List Loc) : Prop := v = some (.int (cs.getD i 0)) ∧ Fr n0 L ∧ h = h0
theorem rmUca (l : Launch) (Z : State) (a0 : Array Value) (hw : HW a0 Z) (ws : List Jvm.Cond) (t1 : Addr) (k1 : ClassId) (N : Nat) (cs : List Int32) (i : Nat) (fm : Value) (h0 : Heap) (n0 : Nat) (Z0 : n0 ≤ h0.size) (SF : Own.Fst Z h0 fm) (hfm : fm.isRef = true) (SA : Own.Ads Z h0) (SH : Own.Hib Z h0) (SL : Own.Lob Z h0) (A : Own.U16 Z h0 t1 k1 N cs) (hiN : i < N) :
    Own.MF l Z (⟨"java/lang/StringUTF16", "charAt", "([BI)C"⟩ : MethodName) jdk_52_method_83_code 2 (some .char) ws (⟨3, 0, 0, 40⟩ : Room) #[(.ref t1), (.int (Int32.ofNat i))] h0 (QrmUca Z t1 k1 N cs i fm h0 n0) := by
  refine Own.MF.of (own := "java/lang/StringUTF16") (n := 2) rfl rfl pn_53 (fun p e s m below meth c s₁ hml hlk hret hnm P0 => ?_)
  rw [show entryFrame m #[(.ref t1), (.int (Int32.ofNat i))] 2 = mkF m 0 #[.val (.ref t1), .val (.int (Int32.ofNat i))] [] from by first | (simp [entryFrame, mkF, argsToLocals, Value.category]; done) | rfl]
  refine Own.iloadN (q := 1) P0 (dc s9 0 rfl) rfl rfl ?_
  refine Own.aloadN (q := 2) P0 (dc s9 1 rfl) rfl rfl rfl ?_
  refine Own.cS (q := 5) (W := 0) (rest := []) P0 (dc s9 2 rfl) (wd hw 263 rfl) (sw_4 hw) (rmUci l Z a0 hw [] t1 k1 N cs i fm h0 n0 Z0 SF hfm A hiN) (by decide) (by decide) rfl (hml rfl) rfl rfl (by decide) (by decide) rfl ?_
  rintro v21 T21 h21 L21 ⟨rfl, N21q, e21⟩ P21
  rw [e21] at P21
  have N21 := Fr.app (Fr.nil n0) N21q
  refine Own.aloadN (q := 6) P21 (dc s9 3 rfl) rfl rfl rfl ?_
  refine Own.iloadN (q := 7) P21 (dc s9 4 rfl) rfl rfl ?_
  refine Own.cS (q := 10) (W := 0) (rest := []) P21 (dc s9 5 rfl) (wd hw 257 rfl) (sw_5 hw) (rmGc l Z a0 hw [] t1 k1 N cs i h0 n0 Z0 SA SH SL A hiN) (by decide) (by decide) rfl (hml rfl) rfl rfl (by decide) (by decide) rfl ?_
  rintro v22 T22 h22 L22 ⟨rfl, N22q, e22⟩ P22
  rw [e22] at P22
  have N22 := Fr.app N21 N22q
  refine Own.retZ P22 (dc s9 6 rfl) hret (by simp) hlk (by decide) (by decide) ?_
  exact ⟨by rw [show nar .char (cs.getD i 0) = cs.getD i 0 from Own.nar16 (Own.ch_getD A.2.2.2 i)], N22, rfl⟩
theorem s10 : decs jdk_42_method_154_code [(0, .getstatic 38, 3), (3, .ifCond .eq 14, 3), (6, .aload_n 0, 1), (7, .getfield 15, 3), (10, .ifCond .ne 7, 3), (17, .iconst 0, 1), (18, .ireturn, 1)] = true := by decide +kernel
theorem pn_11 : plainFor (⟨"java/lang/String", "isLatin1", "()Z"⟩ : MethodName) = true := by first | exact plainFor_of_name (by first | (simp [plainName, overriddenIn]; done) | decide +kernel) | decide +kernel
def QrmSil1 (Z : State) (a1 : Addr) (zc : Int32) (h0 : Heap) (n0 : Nat) (v : Option Value) (h : Heap) (L : List Loc) : Prop := v = some (.int 0) ∧ Fr n0 L ∧ h = h0
theorem rmSil1 (l : Launch) (Z : State) (a0 : Array Value) (hw : HW a0 Z) (ws : List Jvm.Cond) (a1 : Addr) (zc : Int32) (h0 : Heap) (n0 : Nat) (Z0 : n0 ≤ h0.size) (SC : Own.Cst Z h0 zc) (hzc : ¬ zc = 0) (f2 : Fld Z h0 a1 "java/lang/String" "coder" "B" (.int 1)) :
    Own.MF l Z (⟨"java/lang/String", "isLatin1", "()Z"⟩ : MethodName) jdk_42_method_154_code 1 (some .boolean) ws (⟨0, 0, 0, 0⟩ : Room) #[(.ref a1)] h0 (QrmSil1 Z a1 zc h0 n0) := by
  refine Own.MF.of (own := "java/lang/String") (n := 1) rfl rfl pn_11 (fun p e s m below meth c s₁ hml hlk hret hnm P0 => ?_)
  rw [show entryFrame m #[(.ref a1)] 1 = mkF m 0 #[.val (.ref a1)] [] from by first | (simp [entryFrame, mkF, argsToLocals, Value.category]; done) | rfl]
  refine Own.getstatic (q := 3) P0 (dc s10 0 rfl) (wd hw 37 rfl) SC rfl ?_
  intro T21 P21
  refine Own.if_eq (q := 6) (qy := 17) P21 (dc s10 1 rfl) (by decide) rfl (fun q => absurd q hzc) (fun _ => ?_)
  refine Own.aloadN (q := 7) P21 (dc s10 2 rfl) rfl rfl rfl ?_
  refine Own.getfield (q := 10) P21 (dc s10 3 rfl) (wd hw 22 rfl) f2 rfl ?_
  intro T22 P22
  refine Own.if_ne (q := 13) (qy := 17) P22 (dc s10 4 rfl) (by decide) rfl (fun _ => ?_) (fun q => absurd q (by decide))
  refine Own.iconst (q := 18) (v := (0 : Int32)) P22 (dc s10 5 rfl) rfl rfl ?_
  refine Own.retZ P22 (dc s10 6 rfl) hret (by simp) hlk (by decide) (by decide) ?_
  exact ⟨rfl, (Fr.nil n0), rfl⟩
theorem s11 : decs jdk_42_method_152_code [(0, .getstatic 38, 3), (3, .ifCond .eq 10, 3), (6, .aload_n 0, 1), (7, .getfield 15, 3), (10, .goto 4, 3), (14, .ireturn, 1)] = true := by decide +kernel
theorem pn_6 : plainFor (⟨"java/lang/String", "coder", "()B"⟩ : MethodName) = true := by first | exact plainFor_of_name (by first | (simp [plainName, overriddenIn]; done) | decide +kernel) | decide +kernel
def QrmCod1 (Z : State) (a1 : Addr) (zc : Int32) (h0 : Heap) (n0 : Nat) (v : Option Value) (h : Heap) (L : List Loc) : Prop := v = some (.int 1) ∧ Fr n0 L ∧ h = h0
theorem rmCod1 (l : Launch) (Z : State) (a0 : Array Value) (hw : HW a0 Z) (ws : List Jvm.Cond) (a1 : Addr) (zc : Int32) (h0 : Heap) (n0 : Nat) (Z0 : n0 ≤ h0.size) (SC : Own.Cst Z h0 zc) (hzc : ¬ zc = 0) (f2 : Fld Z h0 a1 "java/lang/String" "coder" "B" (.int 1)) :
    Own.MF l Z (⟨"java/lang/String", "coder", "()B"⟩ : MethodName) jdk_42_method_152_code 1 (some .byte) ws (⟨0, 0, 0, 0⟩ : Room) #[(.ref a1)] h0 (QrmCod1 Z a1 zc h0 n0) := by
  refine Own.MF.of (own := "java/lang/String") (n := 1) rfl rfl pn_6 (fun p e s m below meth c s₁ hml hlk hret hnm P0 => ?_)
  rw [show entryFrame m #[(.ref a1)] 1 = mkF m 0 #[.val (.ref a1)] [] from by first | (simp [entryFrame, mkF, argsToLocals, Value.category]; done) | rfl]
  refine Own.getstatic (q := 3) P0 (dc s11 0 rfl) (wd hw 37 rfl) SC rfl ?_
  intro T21 P21
  refine Own.if_eq (q := 6) (qy := 13) P21 (dc s11 1 rfl) (by decide) rfl (fun q => absurd q hzc) (fun _ => ?_)
  refine Own.aloadN (q := 7) P21 (dc s11 2 rfl) rfl rfl rfl ?_
  refine Own.getfield (q := 10) P21 (dc s11 3 rfl) (wd hw 22 rfl) f2 rfl ?_
  intro T22 P22
  refine Own.goto (q := 14) P22 (dc s11 4 rfl) (by decide) ?_
  refine Own.retZ P22 (dc s11 5 rfl) hret (by simp) hlk (by decide) (by decide) ?_
  exact ⟨rfl, (Fr.nil n0), rfl⟩
theorem pd_6 : parseMethodDescriptor "()B" = some ⟨[], some .byte⟩ := by decide +kernel
theorem vw_6 {Z : State} {a0 : Array Value} (hw : HW a0 Z) : Own.VW Z a0 "java/lang/String" ⟨"java/lang/String", "coder", "()B"⟩ ⟨"java/lang/String", "coder", "()B"⟩ jdk_42_method_152_code 1 (some .byte) 0 := ⟨(wd hw 33 rfl), (wd hw 35 rfl), (wd hw 34 rfl), (wd hw 4 rfl), (wd hw 36 rfl), by decide, _, _, pd_6, rfl⟩
theorem s12 : decs jdk_42_method_54_code [(0, .aload_n 0, 1), (1, .getfield 9, 3), (4, .arraylength, 1), (5, .aload_n 0, 1), (6, .invokevirtual 335, 3), (9, .ishr, 1), (10, .ireturn, 1)] = true := by decide +kernel
theorem pn_5 : plainFor (⟨"java/lang/String", "length", "()I"⟩ : MethodName) = true := by first | exact plainFor_of_name (by first | (simp [plainName, overriddenIn]; done) | decide +kernel) | decide +kernel
def QrmLn16 (Z : State) (a1 : Addr) (t1 : Addr) (k1 : ClassId) (cs : List Int32) (zc : Int32) (h0 : Heap) (n0 : Nat) (v : Option Value) (h : Heap) (L : List Loc) : Prop := v = some (.int (Int32.ofNat cs.length)) ∧ Fr n0 L ∧ h = h0
theorem rmLn16 (l : Launch) (Z : State) (a0 : Array Value) (hw : HW a0 Z) (ws : List Jvm.Cond) (a1 : Addr) (t1 : Addr) (k1 : ClassId) (cs : List Int32) (zc : Int32) (h0 : Heap) (n0 : Nat) (Z0 : n0 ≤ h0.size) (SC : Own.Cst Z h0 zc) (hzc : ¬ zc = 0) (E_a1 : Exa Z h0 a1 "java/lang/String") (f1 : Fld Z h0 a1 "java/lang/String" "value" "[B" (.ref t1)) (f2 : Fld Z h0 a1 "java/lang/String" "coder" "B" (.int 1)) (A : Own.U16 Z h0 t1 k1 cs.length cs) :
    Own.MF l Z (⟨"java/lang/String", "length", "()I"⟩ : MethodName) jdk_42_method_54_code 1 (some .int) ws (⟨1, 0, 0, 13⟩ : Room) #[(.ref a1)] h0 (QrmLn16 Z a1 t1 k1 cs zc h0 n0) := by
  refine Own.MF.of (own := "java/lang/String") (n := 1) rfl rfl pn_5 (fun p e s m below meth c s₁ hml hlk hret hnm P0 => ?_)
  rw [show entryFrame m #[(.ref a1)] 1 = mkF m 0 #[.val (.ref a1)] [] from by first | (simp [entryFrame, mkF, argsToLocals, Value.category]; done) | rfl]
  refine Own.aloadN (q := 1) P0 (dc s12 0 rfl) rfl rfl rfl ?_
  refine Own.getfield (q := 4) P0 (dc s12 1 rfl) (wd hw 21 rfl) f1 rfl ?_
  intro T21 P21
  refine Own.arraylength (q := 5) P21 (dc s12 2 rfl) A.1 rfl ?_
  refine Own.aloadN (q := 6) P21 (dc s12 3 rfl) rfl rfl rfl ?_
  refine Own.cV (q := 9) (W := 1) (rest := [(.int (Int32.ofNat (2 * cs.length)))]) P21 (dc s12 4 rfl) (wd hw 32 rfl) (vw_6 hw) (Own.nfs P21 (wd hw 35 rfl)) E_a1 (rmCod1 l Z a0 hw [] a1 zc h0 n0 Z0 SC hzc f2) (by decide) (by decide) rfl (hml rfl) rfl rfl (by decide) (by decide) rfl ?_
  rintro v22 T22 h22 L22 ⟨rfl, N22q, e22⟩ P22
  rw [e22] at P22
  have N22 := Fr.app (Fr.nil n0) N22q
  refine Own.ishr (q := 10) P22 (dc s12 5 rfl)  rfl ?_
  rw [show ((Int32.ofNat (2 * cs.length)) >>> ((1 : Int32) &&& 31)) = (Int32.ofNat cs.length) from Own.hlf (by have := A.2.2.1; omega)]
  refine Own.retI P22 (dc s12 6 rfl) hret hlk (by decide) (by decide) ?_
  exact ⟨rfl, N22, rfl⟩
theorem pd_7 : parseMethodDescriptor "()Z" = some ⟨[], some .boolean⟩ := by decide +kernel
theorem vw_7 {Z : State} {a0 : Array Value} (hw : HW a0 Z) : Own.VW Z a0 "java/lang/String" ⟨"java/lang/String", "isLatin1", "()Z"⟩ ⟨"java/lang/String", "isLatin1", "()Z"⟩ jdk_42_method_154_code 1 (some .boolean) 0 := ⟨(wd hw 55 rfl), (wd hw 57 rfl), (wd hw 56 rfl), (wd hw 4 rfl), (wd hw 58 rfl), by decide, _, _, pd_7, rfl⟩
theorem sw_8 {Z : State} {a0 : Array Value} (hw : HW a0 Z) : Own.SW Z a0 ⟨"java/lang/StringUTF16", "charAt", "([BI)C"⟩ jdk_52_method_83_code 2 (some .char) 2 := ⟨(wd hw 261 rfl), (wd hw 41 rfl), (wd hw 262 rfl), by decide, _, _, pd_5, rfl⟩
theorem s13 : decs jdk_42_method_56_code [(0, .aload_n 0, 1), (1, .invokevirtual 492, 3), (4, .ifCond .eq 12, 3), (16, .aload_n 0, 1), (17, .getfield 9, 3), (20, .iload_n 1, 1), (21, .invokestatic 498, 3), (24, .ireturn, 1)] = true := by decide +kernel
theorem pn_10 : plainFor (⟨"java/lang/String", "charAt", "(I)C"⟩ : MethodName) = true := by first | exact plainFor_of_name (by first | (simp [plainName, overriddenIn]; done) | decide +kernel) | decide +kernel
def QrmCa16 (Z : State) (a1 : Addr) (t1 : Addr) (k1 : ClassId) (cs : List Int32) (i : Nat) (zc : Int32) (fm : Value) (h0 : Heap) (n0 : Nat) (v : Option Value) (h : Heap) (L : List Loc) : Prop := v = some (.int (cs.getD i 0)) ∧ Fr n0 L ∧ h = h0
theorem rmCa16 (l : Launch) (Z : State) (a0 : Array Value) (hw : HW a0 Z) (ws : List Jvm.Cond) (a1 : Addr) (t1 : Addr) (k1 : ClassId) (cs : List Int32) (i : Nat) (zc : Int32) (fm : Value) (h0 : Heap) (n0 : Nat) (Z0 : n0 ≤ h0.size) (SC : Own.Cst Z h0 zc) (hzc : ¬ zc = 0) (SF : Own.Fst Z h0 fm) (hfm : fm.isRef = true) (SA : Own.Ads Z h0) (SH : Own.Hib Z h0) (SL : Own.Lob Z h0) (E_a1 : Exa Z h0 a1 "java/lang/String") (f1 : Fld Z h0 a1 "java/lang/String" "value" "[B" (.ref t1)) (f2 : Fld Z h0 a1 "java/lang/String" "coder" "B" (.int 1)) (A : Own.U16 Z h0 t1 k1 cs.length cs) (hiN : i < cs.length) :
    Own.MF l Z (⟨"java/lang/String", "charAt", "(I)C"⟩ : MethodName) jdk_42_method_56_code 2 (some .char) ws (⟨4, 0, 0, 53⟩ : Room) #[(.ref a1), (.int (Int32.ofNat i))] h0 (QrmCa16 Z a1 t1 k1 cs i zc fm h0 n0) := by
  refine Own.MF.of (own := "java/lang/String") (n := 2) rfl rfl pn_10 (fun p e s m below meth c s₁ hml hlk hret hnm P0 => ?_)
  rw [show entryFrame m #[(.ref a1), (.int (Int32.ofNat i))] 2 = mkF m 0 #[.val (.ref a1), .val (.int (Int32.ofNat i))] [] from by first | (simp [entryFrame, mkF, argsToLocals, Value.category]; done) | rfl]
  refine Own.aloadN (q := 1) P0 (dc s13 0 rfl) rfl rfl rfl ?_
  refine Own.cV (q := 4) (W := 0) (rest := []) P0 (dc s13 1 rfl) (wd hw 54 rfl) (vw_7 hw) (Own.nfs P0 (wd hw 57 rfl)) E_a1 (rmSil1 l Z a0 hw [] a1 zc h0 n0 Z0 SC hzc f2) (by decide) (by decide) rfl (hml rfl) rfl rfl (by decide) (by decide) rfl ?_
  rintro v21 T21 h21 L21 ⟨rfl, N21q, e21⟩ P21
  rw [e21] at P21
  have N21 := Fr.app (Fr.nil n0) N21q
  refine Own.if_eq (q := 7) (qy := 16) P21 (dc s13 2 rfl) (by decide) rfl (fun _ => ?_) (fun q => absurd rfl q)
  refine Own.aloadN (q := 17) P21 (dc s13 3 rfl) rfl rfl rfl ?_
  refine Own.getfield (q := 20) P21 (dc s13 4 rfl) (wd hw 21 rfl) f1 rfl ?_
  intro T22 P22
  refine Own.iloadN (q := 21) P22 (dc s13 5 rfl) rfl rfl ?_
  refine Own.cS (q := 24) (W := 0) (rest := []) P22 (dc s13 6 rfl) (wd hw 260 rfl) (sw_8 hw) (rmUca l Z a0 hw [] t1 k1 cs.length cs i fm h0 n0 Z0 SF hfm SA SH SL A hiN) (by decide) (by decide) rfl (hml rfl) rfl rfl (by decide) (by decide) rfl ?_
  rintro v23 T23 h23 L23 ⟨rfl, N23q, e23⟩ P23
  rw [e23] at P23
  have N23 := Fr.app N21 N23q
  refine Own.retZ P23 (dc s13 7 rfl) hret (by simp) hlk (by decide) (by decide) ?_
  exact ⟨by rw [show nar .char (cs.getD i 0) = cs.getD i 0 from Own.nar16 (Own.ch_getD A.2.2.2 i)], N23, rfl⟩
section TxB
variable {p : Program} {l : Launch} {e : Env} {R : Room} {s : State} {args : Array Value} {below : List Frame} {W : Nat} {Z : State} {a0 : Array Value} {h : Heap} {zc : Int32} {kI n0 : Nat}
theorem lenT (hZ : Z.Warmed39 s.vm) (hw : ∀ d ∈ tables_1, d.before a0 Z = true) {x : Addr} {cs : List Int32} (X : Own.TX Z h x cs) (hz0 : n0 ≤ h.size) (SC : Sta Z h "java/lang/String" "COMPACT_STRINGS" "Z" (.int zc)) (hzc : ¬ zc = 0) (hfr : 2 ≤ R.frames) (hlo : W + 25 ≤ R.locals) :
    Back l R p e below s args (⟨"java/lang/String", "length", "()I"⟩ : MethodName) 3 W (fun A a => a = #[.ref x] ∧ A.U.heap = h ∧ A.cells + 0 ≤ R.cells ∧ A.slots + 0 ≤ R.slots)
      (fun A _ v B => ∃ L, Own.QPure (.int (Int32.ofNat cs.length)) h n0 v B.U.heap L ∧ B.locs = A.locs ++ L ∧ B.cells = A.cells + 0 ∧ B.slots = A.slots + 0) := by
  rcases X with X | ⟨t, k, s1, s2, s3, s4⟩
  · exact Own.lenB hZ (fun d hd => hw d (sub_lenW d hd)) (wd hw 3 rfl) X SC hzc hfr hlo
  · refine Back.mono (Own.mfBack (rmLn16 l Z a0 hw [] x t k cs zc h n0 hz0 SC hzc s1 s2 s3 s4) hZ (wd hw 31 rfl) (wd hw 4 rfl) hfr (by show W + 12 + 13 ≤ _; exact hlo)) (fun _ _ q => q) (fun P a v B _ hq => ?_)
    obtain ⟨L, ⟨q1, q2, q3⟩, r⟩ := hq
    exact ⟨L, ⟨q1, q2, q3⟩, r⟩
theorem chT (hZ : Z.Warmed39 s.vm) (hw : ∀ d ∈ tables_1, d.before a0 Z = true) {x : Addr} {cs : List Int32} {i : Nat} {fm : Value} (X : Own.TX Z h x cs) (hz0 : n0 ≤ h.size) (SC : Sta Z h "java/lang/String" "COMPACT_STRINGS" "Z" (.int zc)) (hzc : ¬ zc = 0) (SF : Sta Z h "jdk/internal/util/Preconditions" "SIOOBE_FORMATTER" "Ljava/util/function/BiFunction;" fm) (hfm : fm.isRef = true) (SA : Sta Z h "java/lang/StringUTF16" "$assertionsDisabled" "Z" (.int 1)) (SH : Sta Z h "java/lang/StringUTF16" "HI_BYTE_SHIFT" "I" (.int 0)) (SL : Sta Z h "java/lang/StringUTF16" "LO_BYTE_SHIFT" "I" (.int 8)) (hi : i < cs.length) (hfr : 5 ≤ R.frames) (hlo : W + 66 ≤ R.locals) :
    Back l R p e below s args (⟨"java/lang/String", "charAt", "(I)C"⟩ : MethodName) 3 W (fun A a => a = #[.ref x, .int (Int32.ofNat i)] ∧ A.U.heap = h ∧ A.cells + 0 ≤ R.cells ∧ A.slots + 0 ≤ R.slots)
      (fun A _ v B => ∃ L, Own.QPure (.int (cs.getD i 0)) h n0 v B.U.heap L ∧ B.locs = A.locs ++ L ∧ B.cells = A.cells + 0 ∧ B.slots = A.slots + 0) := by
  rcases X with X | ⟨t, k, s1, s2, s3, s4⟩
  · exact Own.chB hZ (fun d hd => hw d (sub_chN d hd)) (wd hw 3 rfl) X SC hzc SF hfm hi rfl (by omega) (by omega)
  · refine Back.mono (Own.mfBack (rmCa16 l Z a0 hw [] x t k cs i zc fm h n0 hz0 SC hzc SF hfm SA SH SL s1 s2 s3 s4 hi) hZ (wd hw 53 rfl) (wd hw 4 rfl) hfr (by show W + 13 + 53 ≤ _; exact hlo)) (fun _ _ q => q) (fun P a v B _ hq => ?_)
    obtain ⟨L, ⟨q1, q2, q3⟩, r⟩ := hq
    exact ⟨L, ⟨q1, q2, q3⟩, r⟩
end TxB

theorem s14 : decs jdk_68_method_2_code [(0, .aload_n 0, 1), (1, .invokespecial 3, 3), (4, .getstatic 18, 3), (7, .ifCond .eq 18, 3), (10, .aload_n 0, 1), (11, .iload_n 1, 1), (12, .newarray .byte, 2), (14, .putfield 15, 3), (17, .aload_n 0, 1), (18, .iconst 0, 1), (19, .putfield 22, 3), (22, .goto 16, 3), (38, .return_, 1)] = true := by decide +kernel
theorem pn_17 : plainFor (⟨"java/lang/AbstractStringBuilder", "<init>", "(I)V"⟩ : MethodName) = true := by first | exact plainFor_of_name (by first | (simp [plainName, overriddenIn]; done) | decide +kernel) | decide +kernel
def QrmAI (Z : State) (a1 : Addr) (u1 : Value) (u2 : Value) (N : Nat) (zc : Int32) (h0 : Heap) (n0 : Nat) (v : Option Value) (h : Heap) (L : List Loc) : Prop := v = none ∧ Fr n0 L ∧ Keep h0 h [a1] ∧ ∃ t kb, h0.size ≤ t ∧ Exa Z h a1 "java/lang/StringBuilder" ∧ Own.Bf Z h a1 "value" "[B" (.ref t) ∧ Own.Bf Z h a1 "coder" "B" (.int 0) ∧ Own.Bf Z h a1 "count" "I" (.int (Int32.ofNat ([] : List Int32).length)) ∧ Own.Bf Z h a1 "maybeLatin1" "Z" (.int 0) ∧ Arv Z h t kb .byte (Int32.ofNat N) (((([] : List Int32).map fun c : Int32 => c.toInt8.toInt32).map Value.int) ++ List.replicate (N - ([] : List Int32).length) (Value.int 0)) (.int 0)
theorem rmAI (l : Launch) (Z : State) (a0 : Array Value) (hw : HW a0 Z) (ws : List Jvm.Cond) (a1 : Addr) (u1 : Value) (u2 : Value) (N : Nat) (zc : Int32) (h0 : Heap) (n0 : Nat) (Z0 : n0 ≤ h0.size) (SC : Own.Cst Z h0 zc) (hzc : ¬ zc = 0) (E_a1 : Exa Z h0 a1 "java/lang/StringBuilder") (f1 : Own.Bf Z h0 a1 "value" "[B" u1) (f2 : Own.Bf Z h0 a1 "coder" "B" u2) (f3 : Own.Bf Z h0 a1 "count" "I" (.int 0)) (f4 : Own.Bf Z h0 a1 "maybeLatin1" "Z" (.int 0)) (g_a1 : n0 ≤ a1) (hN : N ≤ 20) :
    Own.MF l Z (⟨"java/lang/AbstractStringBuilder", "<init>", "(I)V"⟩ : MethodName) jdk_68_method_2_code 2 none ws (⟨1, 1, 20, 12⟩ : Room) #[(.ref a1), (.int (Int32.ofNat N))] h0 (QrmAI Z a1 u1 u2 N zc h0 n0) := by
  refine Own.MF.of (own := "java/lang/AbstractStringBuilder") (n := 2) rfl rfl pn_17 (fun p e s m below meth c s₁ hml hlk hret hnm P0 => ?_)
  rw [show entryFrame m #[(.ref a1), (.int (Int32.ofNat N))] 2 = mkF m 0 #[.val (.ref a1), .val (.int (Int32.ofNat N))] [] from by first | (simp [entryFrame, mkF, argsToLocals, Value.category]; done) | rfl]
  refine Own.aloadN (q := 1) P0 (dc s14 0 rfl) rfl rfl rfl ?_
  refine Own.objinit (q := 4) (W := 0) P0 (dc s14 1 rfl) (wd hw 86 rfl) (wd hw 13 rfl) (wd hw 14 rfl) (hml rfl) (by decide) (Own.w0 rfl) (by decide) rfl ?_
  intro T21 P21
  refine Own.getstatic (q := 7) P21 (dc s14 2 rfl) (wd hw 87 rfl) SC rfl ?_
  intro T22 P22
  refine Own.if_eq (q := 10) (qy := 25) P22 (dc s14 3 rfl) (by decide) rfl (fun q => absurd q hzc) (fun _ => ?_)
  refine Own.aloadN (q := 11) P22 (dc s14 4 rfl) rfl rfl rfl ?_
  refine Own.iloadN (q := 12) P22 (dc s14 5 rfl) rfl rfl ?_
  refine Own.newarr (q := 14) (cap := 20) P22 (dc s14 6 rfl) (wd hw 16 rfl) (Own.nneg (by omega)) (by rw [Own.clamp (by omega)]; exact hN) (by decide) (by decide) (by decide) rfl ?_
  intro T23 h23 a23 k23 ha23 P23 E23 A23
  have V23 : Arv Z h23 a23 k23 .byte (Int32.ofNat N) (List.replicate N (.int 0)) (.int 0) := Arv.pad A23 (pad_rep [] _ _)
  have E0_1_24 : Ext h0 h23 := E23
  refine Own.putfield (q := 17) P23 (dc s14 7 rfl) (wd hw 88 rfl) (f1.ext E0_1_24) (E_a1.ext E0_1_24) (Or.inl (wd hw 89 rfl)) (wd hw 75 rfl) (ty := (.array .byte)) (by decide) rfl rfl rfl ?_
  intro T25 h25 lc25 hl25 P25 W25
  have F25_value := Fld.same W25 (f1.ext E0_1_24)
  have F25_coder := (f2.ext E0_1_24).other W25 (Or.inr (slot_ne (Or.inl (wd hw 91 rfl)) (Or.inl (wd hw 89 rfl)) (by decide) (t := .byte) (t' := (.array .byte)) (by decide) (by decide)))
  have F25_count := (f3.ext E0_1_24).other W25 (Or.inr (slot_ne (Or.inl (wd hw 115 rfl)) (Or.inl (wd hw 89 rfl)) (by decide) (t := .int) (t' := (.array .byte)) (by decide) (by decide)))
  have F25_maybeLatin1 := (f4.ext E0_1_24).other W25 (Or.inr (slot_ne (Or.inl (wd hw 295 rfl)) (Or.inl (wd hw 89 rfl)) (by decide) (t := .boolean) (t' := (.array .byte)) (by decide) (by decide)))
  have A25 := (E_a1.ext E0_1_24).wr W25
  have N25 := Own.Fr.one (Fr.nil n0) hl25 g_a1
  refine Own.aloadN (q := 18) P25 (dc s14 8 rfl) rfl rfl rfl ?_
  refine Own.iconst (q := 19) (v := (0 : Int32)) P25 (dc s14 9 rfl) rfl rfl ?_
  refine Own.putfield (q := 22) P25 (dc s14 10 rfl) (wd hw 90 rfl) F25_coder A25 (Or.inl (wd hw 91 rfl)) (wd hw 75 rfl) (ty := .byte) (by decide) rfl rfl rfl ?_
  intro T26 h26 lc26 hl26 P26 W26
  have F26_value := F25_value.other W26 (Or.inr (slot_ne (Or.inl (wd hw 89 rfl)) (Or.inl (wd hw 91 rfl)) (by decide) (t := (.array .byte)) (t' := .byte) (by decide) (by decide)))
  have F26_coder := Fld.same W26 F25_coder
  have F26_count := F25_count.other W26 (Or.inr (slot_ne (Or.inl (wd hw 115 rfl)) (Or.inl (wd hw 91 rfl)) (by decide) (t := .int) (t' := .byte) (by decide) (by decide)))
  have F26_maybeLatin1 := F25_maybeLatin1.other W26 (Or.inr (slot_ne (Or.inl (wd hw 295 rfl)) (Or.inl (wd hw 91 rfl)) (by decide) (t := .boolean) (t' := .byte) (by decide) (by decide)))
  have A26 := A25.wr W26
  have N26 := Own.Fr.one N25 hl26 g_a1
  refine Own.goto (q := 38) P26 (dc s14 11 rfl) (by decide) ?_
  have qf27 := (Arv.keep V23 (Keep.of_wr W25) (ninS (Ne.symm (Exa.neArv (E_a1.ext E23) V23 (wd hw 75 rfl))) nin0))
  have qf28 := (Arv.keep qf27 (Keep.of_wr W26) (ninS (Ne.symm (Exa.neArv A25 qf27 (wd hw 75 rfl))) nin0))
  refine Own.retV P26 (dc s14 12 rfl) hret hlk (by decide) (by decide) ?_
  exact ⟨rfl, N26, (Keep.wr (Keep.wr (Keep.ext (Keep.refl h0 _) E23) W25 (Or.inl (by simp))) W26 (Or.inl (by simp))), a23, _, (Nat.le_of_eq ha23.symm), A26, F26_value, F26_coder, F26_count, F26_maybeLatin1, qf28⟩
theorem pd_8 : parseMethodDescriptor "(I)V" = some ⟨[.int], none⟩ := by decide +kernel
theorem iw_9 {Z : State} {a0 : Array Value} (hw : HW a0 Z) : Own.IW Z a0 ⟨"java/lang/AbstractStringBuilder", "<init>", "(I)V"⟩ jdk_68_method_2_code 2 1 := ⟨rfl, (wd hw 81 rfl), (wd hw 84 rfl), (wd hw 85 rfl), by decide, _, _, pd_8, rfl⟩
theorem s15 : decs jdk_67_method_2_code [(0, .aload_n 0, 1), (1, .iload_n 1, 1), (2, .invokespecial 1, 3), (5, .return_, 1)] = true := by decide +kernel
theorem pn_16 : plainFor (⟨"java/lang/StringBuilder", "<init>", "(I)V"⟩ : MethodName) = true := by first | exact plainFor_of_name (by first | (simp [plainName, overriddenIn]; done) | decide +kernel) | decide +kernel
def QrmSI (Z : State) (a1 : Addr) (u1 : Value) (u2 : Value) (N : Nat) (zc : Int32) (h0 : Heap) (n0 : Nat) (v : Option Value) (h : Heap) (L : List Loc) : Prop := v = none ∧ Fr n0 L ∧ Keep h0 h [a1] ∧ ∃ t kb, h0.size ≤ t ∧ Exa Z h a1 "java/lang/StringBuilder" ∧ Own.Bf Z h a1 "value" "[B" (.ref t) ∧ Own.Bf Z h a1 "coder" "B" (.int 0) ∧ Own.Bf Z h a1 "count" "I" (.int (Int32.ofNat ([] : List Int32).length)) ∧ Own.Bf Z h a1 "maybeLatin1" "Z" (.int 0) ∧ Arv Z h t kb .byte (Int32.ofNat N) (((([] : List Int32).map fun c : Int32 => c.toInt8.toInt32).map Value.int) ++ List.replicate (N - ([] : List Int32).length) (Value.int 0)) (.int 0)
theorem rmSI (l : Launch) (Z : State) (a0 : Array Value) (hw : HW a0 Z) (ws : List Jvm.Cond) (a1 : Addr) (u1 : Value) (u2 : Value) (N : Nat) (zc : Int32) (h0 : Heap) (n0 : Nat) (Z0 : n0 ≤ h0.size) (SC : Own.Cst Z h0 zc) (hzc : ¬ zc = 0) (E_a1 : Exa Z h0 a1 "java/lang/StringBuilder") (f1 : Own.Bf Z h0 a1 "value" "[B" u1) (f2 : Own.Bf Z h0 a1 "coder" "B" u2) (f3 : Own.Bf Z h0 a1 "count" "I" (.int 0)) (f4 : Own.Bf Z h0 a1 "maybeLatin1" "Z" (.int 0)) (g_a1 : n0 ≤ a1) (hN : N ≤ 20) :
    Own.MF l Z (⟨"java/lang/StringBuilder", "<init>", "(I)V"⟩ : MethodName) jdk_67_method_2_code 2 none ws (⟨2, 1, 20, 25⟩ : Room) #[(.ref a1), (.int (Int32.ofNat N))] h0 (QrmSI Z a1 u1 u2 N zc h0 n0) := by
  refine Own.MF.of (own := "java/lang/StringBuilder") (n := 2) rfl rfl pn_16 (fun p e s m below meth c s₁ hml hlk hret hnm P0 => ?_)
  rw [show entryFrame m #[(.ref a1), (.int (Int32.ofNat N))] 2 = mkF m 0 #[.val (.ref a1), .val (.int (Int32.ofNat N))] [] from by first | (simp [entryFrame, mkF, argsToLocals, Value.category]; done) | rfl]
  refine Own.aloadN (q := 1) P0 (dc s15 0 rfl) rfl rfl rfl ?_
  refine Own.iloadN (q := 2) P0 (dc s15 1 rfl) rfl rfl ?_
  refine Own.cI (q := 5) (W := 0) (rest := []) P0 (dc s15 2 rfl) (wd hw 80 rfl) (iw_9 hw) (rmAI l Z a0 hw [] a1 u1 u2 N zc h0 n0 Z0 SC hzc E_a1 f1 f2 f3 f4 g_a1 hN) (by decide) (by decide) rfl (hml rfl) rfl rfl (by decide) (by decide) rfl ?_
  rintro v21 T21 h21 L21 ⟨rfl, N21q, K21, t21, kb21, G21, X21⟩ P21
  have N21 := Fr.app (Fr.nil n0) N21q
  refine Own.retV P21 (dc s15 3 rfl) hret hlk (by decide) (by decide) ?_
  exact ⟨rfl, N21, K21, t21, kb21, G21, X21⟩
theorem s16 : decs jdk_68_method_9_code [(0, .aload_n 0, 1), (1, .getfield 15, 3), (4, .arraylength, 1), (5, .aload_n 0, 1), (6, .getfield 22, 3), (9, .ishr, 1), (10, .istore_n 2, 1), (11, .iload_n 1, 1), (12, .iload_n 2, 1), (13, .isub, 1), (14, .ifCond .le 24, 3), (38, .return_, 1)] = true := by decide +kernel
theorem pn_21 : plainFor (⟨"java/lang/AbstractStringBuilder", "ensureCapacityInternal", "(I)V"⟩ : MethodName) = true := by first | exact plainFor_of_name (by first | (simp [plainName, overriddenIn]; done) | decide +kernel) | decide +kernel
def QrmEn0 (Z : State) (a1 : Addr) (t1 : Addr) (kb : ClassId) (N : Nat) (cs : List Int32) (mm : Nat) (h0 : Heap) (n0 : Nat) (v : Option Value) (h : Heap) (L : List Loc) : Prop := v = none ∧ Fr n0 L ∧ h = h0
theorem rmEn0 (l : Launch) (Z : State) (a0 : Array Value) (hw : HW a0 Z) (ws : List Jvm.Cond) (a1 : Addr) (t1 : Addr) (kb : ClassId) (N : Nat) (cs : List Int32) (mm : Nat) (h0 : Heap) (n0 : Nat) (Z0 : n0 ≤ h0.size) (f1 : Own.Bf Z h0 a1 "value" "[B" (.ref t1)) (f2 : Own.Bf Z h0 a1 "coder" "B" (.int 0)) (f3 : Own.Bf Z h0 a1 "count" "I" (.int (Int32.ofNat cs.length))) (f4 : Own.Bf Z h0 a1 "maybeLatin1" "Z" (.int 0)) (A_t : Arv Z h0 t1 kb .byte (Int32.ofNat N) (((cs.map fun c : Int32 => c.toInt8.toInt32).map Value.int) ++ List.replicate (N - cs.length) (Value.int 0)) (.int 0)) (hN : N ≤ 20) (hm : mm ≤ N) :
    Own.MF l Z (⟨"java/lang/AbstractStringBuilder", "ensureCapacityInternal", "(I)V"⟩ : MethodName) jdk_68_method_9_code 3 none ws (⟨0, 0, 0, 0⟩ : Room) #[(.ref a1), (.int (Int32.ofNat mm))] h0 (QrmEn0 Z a1 t1 kb N cs mm h0 n0) := by
  refine Own.MF.of (own := "java/lang/AbstractStringBuilder") (n := 3) rfl rfl pn_21 (fun p e s m below meth c s₁ hml hlk hret hnm P0 => ?_)
  rw [show entryFrame m #[(.ref a1), (.int (Int32.ofNat mm))] 3 = mkF m 0 #[.val (.ref a1), .val (.int (Int32.ofNat mm)), .unset] [] from by first | (simp [entryFrame, mkF, argsToLocals, Value.category]; done) | rfl]
  refine Own.aloadN (q := 1) P0 (dc s16 0 rfl) rfl rfl rfl ?_
  refine Own.getfield (q := 4) P0 (dc s16 1 rfl) (wd hw 88 rfl) f1 rfl ?_
  intro T21 P21
  refine Own.arraylength (q := 5) P21 (dc s16 2 rfl) A_t rfl ?_
  refine Own.aloadN (q := 6) P21 (dc s16 3 rfl) rfl rfl rfl ?_
  refine Own.getfield (q := 9) P21 (dc s16 4 rfl) (wd hw 90 rfl) f2 rfl ?_
  intro T22 P22
  refine Own.ishr (q := 10) P22 (dc s16 5 rfl)  rfl ?_
  rw [show ((Int32.ofNat N) >>> ((0 : Int32) &&& 31)) = (Int32.ofNat N) from Own.shr0 _]
  refine Own.istoreN (q := 11) (L2 := #[.val (.ref a1), .val (.int (Int32.ofNat mm)), .val (.int (Int32.ofNat N))]) P22 (dc s16 6 rfl) rfl rfl ?_
  refine Own.iloadN (q := 12) P22 (dc s16 7 rfl) rfl rfl ?_
  refine Own.iloadN (q := 13) P22 (dc s16 8 rfl) rfl rfl ?_
  refine Own.isub (q := 14) P22 (dc s16 9 rfl)  rfl ?_
  refine Own.if_le (q := 17) (qy := 38) P22 (dc s16 10 rfl) (by decide) rfl (fun _ => ?_) (fun q => absurd q (Own.roomN hm hN))
  refine Own.retV P22 (dc s16 11 rfl) hret hlk (by decide) (by decide) ?_
  exact ⟨rfl, (Fr.nil n0), rfl⟩
theorem s17 : decs jdk_68_method_68_code [(0, .getstatic 18, 3), (3, .ifCond .eq 14, 3), (6, .aload_n 0, 1), (7, .getfield 22, 3), (10, .ifCond .ne 7, 3), (13, .iconst 1, 1), (14, .goto 4, 3), (18, .ireturn, 1)] = true := by decide +kernel
theorem pn_23 : plainFor (⟨"java/lang/AbstractStringBuilder", "isLatin1", "()Z"⟩ : MethodName) = true := by first | exact plainFor_of_name (by first | (simp [plainName, overriddenIn]; done) | decide +kernel) | decide +kernel
def QrmIl0 (Z : State) (a1 : Addr) (zc : Int32) (h0 : Heap) (n0 : Nat) (v : Option Value) (h : Heap) (L : List Loc) : Prop := v = some (.int 1) ∧ Fr n0 L ∧ h = h0
theorem rmIl0 (l : Launch) (Z : State) (a0 : Array Value) (hw : HW a0 Z) (ws : List Jvm.Cond) (a1 : Addr) (zc : Int32) (h0 : Heap) (n0 : Nat) (Z0 : n0 ≤ h0.size) (SC : Own.Cst Z h0 zc) (hzc : ¬ zc = 0) (f2 : Own.Bf Z h0 a1 "coder" "B" (.int 0)) :
    Own.MF l Z (⟨"java/lang/AbstractStringBuilder", "isLatin1", "()Z"⟩ : MethodName) jdk_68_method_68_code 1 (some .boolean) ws (⟨0, 0, 0, 0⟩ : Room) #[(.ref a1)] h0 (QrmIl0 Z a1 zc h0 n0) := by
  refine Own.MF.of (own := "java/lang/AbstractStringBuilder") (n := 1) rfl rfl pn_23 (fun p e s m below meth c s₁ hml hlk hret hnm P0 => ?_)
  rw [show entryFrame m #[(.ref a1)] 1 = mkF m 0 #[.val (.ref a1)] [] from by first | (simp [entryFrame, mkF, argsToLocals, Value.category]; done) | rfl]
  refine Own.getstatic (q := 3) P0 (dc s17 0 rfl) (wd hw 87 rfl) SC rfl ?_
  intro T21 P21
  refine Own.if_eq (q := 6) (qy := 17) P21 (dc s17 1 rfl) (by decide) rfl (fun q => absurd q hzc) (fun _ => ?_)
  refine Own.aloadN (q := 7) P21 (dc s17 2 rfl) rfl rfl rfl ?_
  refine Own.getfield (q := 10) P21 (dc s17 3 rfl) (wd hw 90 rfl) f2 rfl ?_
  intro T22 P22
  refine Own.if_ne (q := 13) (qy := 17) P22 (dc s17 4 rfl) (by decide) rfl (fun q => absurd rfl q) (fun _ => ?_)
  refine Own.iconst (q := 14) (v := (1 : Int32)) P22 (dc s17 5 rfl) rfl rfl ?_
  refine Own.goto (q := 18) P22 (dc s17 6 rfl) (by decide) ?_
  refine Own.retZ P22 (dc s17 7 rfl) hret (by simp) hlk (by decide) (by decide) ?_
  exact ⟨rfl, (Fr.nil n0), rfl⟩

def QrmEn1 (Z : State) (a1 : Addr) (t1 : Addr) (kb : ClassId) (N : Nat) (cs : List Int32) (mm : Nat) (h0 : Heap) (n0 : Nat) (v : Option Value) (h : Heap) (L : List Loc) : Prop := v = none ∧ Fr n0 L ∧ h = h0
theorem rmEn1 (l : Launch) (Z : State) (a0 : Array Value) (hw : HW a0 Z) (ws : List Jvm.Cond) (a1 : Addr) (t1 : Addr) (kb : ClassId) (N : Nat) (cs : List Int32) (mm : Nat) (h0 : Heap) (n0 : Nat) (Z0 : n0 ≤ h0.size) (f1 : Own.Bf Z h0 a1 "value" "[B" (.ref t1)) (f2 : Own.Bf Z h0 a1 "coder" "B" (.int 1)) (f3 : Own.Bf Z h0 a1 "count" "I" (.int (Int32.ofNat cs.length))) (f4 : Own.Bf Z h0 a1 "maybeLatin1" "Z" (.int 0)) (A_t : Own.U16 Z h0 t1 kb N (cs ++ List.replicate (N - cs.length) (0 : Int32))) (hN : N ≤ 20) (hm : mm ≤ N) :
    Own.MF l Z (⟨"java/lang/AbstractStringBuilder", "ensureCapacityInternal", "(I)V"⟩ : MethodName) jdk_68_method_9_code 3 none ws (⟨0, 0, 0, 0⟩ : Room) #[(.ref a1), (.int (Int32.ofNat mm))] h0 (QrmEn1 Z a1 t1 kb N cs mm h0 n0) := by
  refine Own.MF.of (own := "java/lang/AbstractStringBuilder") (n := 3) rfl rfl pn_21 (fun p e s m below meth c s₁ hml hlk hret hnm P0 => ?_)
  rw [show entryFrame m #[(.ref a1), (.int (Int32.ofNat mm))] 3 = mkF m 0 #[.val (.ref a1), .val (.int (Int32.ofNat mm)), .unset] [] from by first | (simp [entryFrame, mkF, argsToLocals, Value.category]; done) | rfl]
  refine Own.aloadN (q := 1) P0 (dc s16 0 rfl) rfl rfl rfl ?_
  refine Own.getfield (q := 4) P0 (dc s16 1 rfl) (wd hw 88 rfl) f1 rfl ?_
  intro T21 P21
  refine Own.arraylength (q := 5) P21 (dc s16 2 rfl) A_t.1 rfl ?_
  refine Own.aloadN (q := 6) P21 (dc s16 3 rfl) rfl rfl rfl ?_
  refine Own.getfield (q := 9) P21 (dc s16 4 rfl) (wd hw 90 rfl) f2 rfl ?_
  intro T22 P22
  refine Own.ishr (q := 10) P22 (dc s16 5 rfl)  rfl ?_
  rw [show ((Int32.ofNat (2 * N)) >>> ((1 : Int32) &&& 31)) = (Int32.ofNat N) from Own.hlf (by omega)]
  refine Own.istoreN (q := 11) (L2 := #[.val (.ref a1), .val (.int (Int32.ofNat mm)), .val (.int (Int32.ofNat N))]) P22 (dc s16 6 rfl) rfl rfl ?_
  refine Own.iloadN (q := 12) P22 (dc s16 7 rfl) rfl rfl ?_
  refine Own.iloadN (q := 13) P22 (dc s16 8 rfl) rfl rfl ?_
  refine Own.isub (q := 14) P22 (dc s16 9 rfl)  rfl ?_
  refine Own.if_le (q := 17) (qy := 38) P22 (dc s16 10 rfl) (by decide) rfl (fun _ => ?_) (fun q => absurd q (Own.roomN hm hN))
  refine Own.retV P22 (dc s16 11 rfl) hret hlk (by decide) (by decide) ?_
  exact ⟨rfl, (Fr.nil n0), rfl⟩
theorem s18 : decs jdk_68_method_68_code [(17, .iconst 0, 1)] = true := by decide +kernel
def QrmIl1 (Z : State) (a1 : Addr) (zc : Int32) (h0 : Heap) (n0 : Nat) (v : Option Value) (h : Heap) (L : List Loc) : Prop := v = some (.int 0) ∧ Fr n0 L ∧ h = h0
theorem rmIl1 (l : Launch) (Z : State) (a0 : Array Value) (hw : HW a0 Z) (ws : List Jvm.Cond) (a1 : Addr) (zc : Int32) (h0 : Heap) (n0 : Nat) (Z0 : n0 ≤ h0.size) (SC : Own.Cst Z h0 zc) (hzc : ¬ zc = 0) (f2 : Own.Bf Z h0 a1 "coder" "B" (.int 1)) :
    Own.MF l Z (⟨"java/lang/AbstractStringBuilder", "isLatin1", "()Z"⟩ : MethodName) jdk_68_method_68_code 1 (some .boolean) ws (⟨0, 0, 0, 0⟩ : Room) #[(.ref a1)] h0 (QrmIl1 Z a1 zc h0 n0) := by
  refine Own.MF.of (own := "java/lang/AbstractStringBuilder") (n := 1) rfl rfl pn_23 (fun p e s m below meth c s₁ hml hlk hret hnm P0 => ?_)
  rw [show entryFrame m #[(.ref a1)] 1 = mkF m 0 #[.val (.ref a1)] [] from by first | (simp [entryFrame, mkF, argsToLocals, Value.category]; done) | rfl]
  refine Own.getstatic (q := 3) P0 (dc s17 0 rfl) (wd hw 87 rfl) SC rfl ?_
  intro T21 P21
  refine Own.if_eq (q := 6) (qy := 17) P21 (dc s17 1 rfl) (by decide) rfl (fun q => absurd q hzc) (fun _ => ?_)
  refine Own.aloadN (q := 7) P21 (dc s17 2 rfl) rfl rfl rfl ?_
  refine Own.getfield (q := 10) P21 (dc s17 3 rfl) (wd hw 90 rfl) f2 rfl ?_
  intro T22 P22
  refine Own.if_ne (q := 13) (qy := 17) P22 (dc s17 4 rfl) (by decide) rfl (fun _ => ?_) (fun q => absurd q (by decide))
  refine Own.iconst (q := 18) (v := (0 : Int32)) P22 (dc s18 0 rfl) rfl rfl ?_
  refine Own.retZ P22 (dc s17 7 rfl) hret (by simp) hlk (by decide) (by decide) ?_
  exact ⟨rfl, (Fr.nil n0), rfl⟩
theorem s19 : decs jdk_41_method_13_code [(0, .iload_n 2, 1), (1, .iload_n 0, 1), (2, .ior, 1), (3, .iload_n 1, 1), (4, .ior, 1), (5, .ifCond .lt 10, 3), (8, .iload_n 1, 1), (9, .iload_n 2, 1), (10, .iload_n 0, 1), (11, .isub, 1), (12, .if_icmp .le 11, 3), (23, .iload_n 0, 1), (24, .ireturn, 1)] = true := by decide +kernel
theorem pn_61 : plainFor (⟨"jdk/internal/util/Preconditions", "checkFromIndexSize", "(IIILjava/util/function/BiFunction;)I"⟩ : MethodName) = true := by first | exact plainFor_of_name (by first | (simp [plainName, overriddenIn]; done) | decide +kernel) | decide +kernel
def QrmCfs (Z : State) (oo : Nat) (cc : Nat) (nn : Nat) (fm : Value) (h0 : Heap) (n0 : Nat) (v : Option Value) (h : Heap) (L : List Loc) : Prop := v = some (.int (Int32.ofNat oo)) ∧ Fr n0 L ∧ h = h0
theorem rmCfs (l : Launch) (Z : State) (a0 : Array Value) (hw : HW a0 Z) (ws : List Jvm.Cond) (oo : Nat) (cc : Nat) (nn : Nat) (fm : Value) (h0 : Heap) (n0 : Nat) (Z0 : n0 ≤ h0.size) (hfm : fm.isRef = true) (hoc : oo + cc ≤ nn) (hn4 : nn ≤ 4000) :
    Own.MF l Z (⟨"jdk/internal/util/Preconditions", "checkFromIndexSize", "(IIILjava/util/function/BiFunction;)I"⟩ : MethodName) jdk_41_method_13_code 4 (some .int) ws (⟨0, 0, 0, 0⟩ : Room) #[(.int (Int32.ofNat oo)), (.int (Int32.ofNat cc)), (.int (Int32.ofNat nn)), fm] h0 (QrmCfs Z oo cc nn fm h0 n0) := by
  refine Own.MF.of (own := "jdk/internal/util/Preconditions") (n := 4) rfl rfl pn_61 (fun p e s m below meth c s₁ hml hlk hret hnm P0 => ?_)
  rw [show entryFrame m #[(.int (Int32.ofNat oo)), (.int (Int32.ofNat cc)), (.int (Int32.ofNat nn)), fm] 4 = mkF m 0 #[.val (.int (Int32.ofNat oo)), .val (.int (Int32.ofNat cc)), .val (.int (Int32.ofNat nn)), .val fm] [] from by first | (simp [entryFrame, mkF, argsToLocals, Value.category]; done) | rfl | (rcases Own.refc hfm with rfl | ⟨_, rfl⟩ <;> rfl)]
  refine Own.iloadN (q := 1) P0 (dc s19 0 rfl) rfl rfl ?_
  refine Own.iloadN (q := 2) P0 (dc s19 1 rfl) rfl rfl ?_
  refine Own.ior (q := 3) P0 (dc s19 2 rfl)  rfl ?_
  refine Own.iloadN (q := 4) P0 (dc s19 3 rfl) rfl rfl ?_
  refine Own.ior (q := 5) P0 (dc s19 4 rfl)  rfl ?_
  refine Own.if_lt (q := 8) (qy := 15) P0 (dc s19 5 rfl) (by decide) rfl (fun q => absurd q (Own.or3 (by have := hoc; have := hn4; omega) (by have := hoc; have := hn4; omega) (by have := hoc; have := hn4; omega))) (fun _ => ?_)
  refine Own.iloadN (q := 9) P0 (dc s19 6 rfl) rfl rfl ?_
  refine Own.iloadN (q := 10) P0 (dc s19 7 rfl) rfl rfl ?_
  refine Own.iloadN (q := 11) P0 (dc s19 8 rfl) rfl rfl ?_
  refine Own.isub (q := 12) P0 (dc s19 9 rfl)  rfl ?_
  refine Own.icmp_le (q := 15) (qy := 23) P0 (dc s19 10 rfl) (by decide) rfl (fun _ => ?_) (fun q => absurd q (Own.sub_ge hoc hn4))
  refine Own.iloadN (q := 24) P0 (dc s19 11 rfl) rfl rfl ?_
  refine Own.retI P0 (dc s19 12 rfl) hret hlk (by decide) (by decide) ?_
  exact ⟨rfl, (Fr.nil n0), rfl⟩
theorem pd_9 : parseMethodDescriptor "(IIILjava/util/function/BiFunction;)I" = some ⟨[.int, .int, .int, (.object "java/util/function/BiFunction")], some .int⟩ := by decide +kernel
theorem sw_10 {Z : State} {a0 : Array Value} (hw : HW a0 Z) : Own.SW Z a0 ⟨"jdk/internal/util/Preconditions", "checkFromIndexSize", "(IIILjava/util/function/BiFunction;)I"⟩ jdk_41_method_13_code 4 (some .int) 4 := ⟨(wd hw 289 rfl), (wd hw 67 rfl), (wd hw 290 rfl), by decide, _, _, pd_9, rfl⟩
theorem s20 : decs jdk_42_method_157_code [(0, .iload_n 0, 1), (1, .iload_n 1, 1), (2, .iload_n 2, 1), (3, .getstatic 1053, 3), (6, .invokestatic 1065, 3), (9, .ireturn, 1)] = true := by decide +kernel
theorem pn_60 : plainFor (⟨"java/lang/String", "checkBoundsOffCount", "(III)I"⟩ : MethodName) = true := by first | exact plainFor_of_name (by first | (simp [plainName, overriddenIn]; done) | decide +kernel) | decide +kernel
def QrmCbo (Z : State) (oo : Nat) (cc : Nat) (nn : Nat) (fm : Value) (h0 : Heap) (n0 : Nat) (v : Option Value) (h : Heap) (L : List Loc) : Prop := v = some (.int (Int32.ofNat oo)) ∧ Fr n0 L ∧ h = h0
theorem rmCbo (l : Launch) (Z : State) (a0 : Array Value) (hw : HW a0 Z) (ws : List Jvm.Cond) (oo : Nat) (cc : Nat) (nn : Nat) (fm : Value) (h0 : Heap) (n0 : Nat) (Z0 : n0 ≤ h0.size) (SF : Own.Fst Z h0 fm) (hfm : fm.isRef = true) (hoc : oo + cc ≤ nn) (hn4 : nn ≤ 4000) :
    Own.MF l Z (⟨"java/lang/String", "checkBoundsOffCount", "(III)I"⟩ : MethodName) jdk_42_method_157_code 3 (some .int) ws (⟨1, 0, 0, 15⟩ : Room) #[(.int (Int32.ofNat oo)), (.int (Int32.ofNat cc)), (.int (Int32.ofNat nn))] h0 (QrmCbo Z oo cc nn fm h0 n0) := by
  refine Own.MF.of (own := "java/lang/String") (n := 3) rfl rfl pn_60 (fun p e s m below meth c s₁ hml hlk hret hnm P0 => ?_)
  rw [show entryFrame m #[(.int (Int32.ofNat oo)), (.int (Int32.ofNat cc)), (.int (Int32.ofNat nn))] 3 = mkF m 0 #[.val (.int (Int32.ofNat oo)), .val (.int (Int32.ofNat cc)), .val (.int (Int32.ofNat nn))] [] from by first | (simp [entryFrame, mkF, argsToLocals, Value.category]; done) | rfl]
  refine Own.iloadN (q := 1) P0 (dc s20 0 rfl) rfl rfl ?_
  refine Own.iloadN (q := 2) P0 (dc s20 1 rfl) rfl rfl ?_
  refine Own.iloadN (q := 3) P0 (dc s20 2 rfl) rfl rfl ?_
  refine Own.getstatic (q := 6) P0 (dc s20 3 rfl) (wd hw 66 rfl) SF rfl ?_
  intro T21 P21
  refine Own.cS (q := 9) (W := 0) (rest := []) P21 (dc s20 4 rfl) (wd hw 288 rfl) (sw_10 hw) (rmCfs l Z a0 hw [] oo cc nn fm h0 n0 Z0 hfm hoc hn4) (by decide) (by decide) rfl (hml rfl) rfl rfl (by decide) (by decide) rfl ?_
  rintro v22 T22 h22 L22 ⟨rfl, N22q, e22⟩ P22
  rw [e22] at P22
  have N22 := Fr.app (Fr.nil n0) N22q
  refine Own.retI P22 (dc s20 5 rfl) hret hlk (by decide) (by decide) ?_
  exact ⟨rfl, N22, rfl⟩
theorem pd_10 : parseMethodDescriptor "(III)I" = some ⟨[.int, .int, .int], some .int⟩ := by decide +kernel
theorem sw_11 {Z : State} {a0 : Array Value} (hw : HW a0 Z) : Own.SW Z a0 ⟨"java/lang/String", "checkBoundsOffCount", "(III)I"⟩ jdk_42_method_157_code 3 (some .int) 3 := ⟨(wd hw 286 rfl), (wd hw 4 rfl), (wd hw 287 rfl), by decide, _, _, pd_10, rfl⟩
theorem s21 : decs jdk_52_method_94_code [(0, .iload_n 0, 1), (1, .iload_n 1, 1), (2, .aload_n 2, 1), (3, .invokestatic 48, 3), (6, .invokestatic 419, 3), (9, .pop, 1), (10, .return_, 1)] = true := by decide +kernel
theorem pn_59 : plainFor (⟨"java/lang/StringUTF16", "checkBoundsOffCount", "(II[B)V"⟩ : MethodName) = true := by first | exact plainFor_of_name (by first | (simp [plainName, overriddenIn]; done) | decide +kernel) | decide +kernel
def QrmUbo (Z : State) (t1 : Addr) (k1 : ClassId) (N : Nat) (us : List Int32) (oo : Nat) (cc : Nat) (fm : Value) (h0 : Heap) (n0 : Nat) (v : Option Value) (h : Heap) (L : List Loc) : Prop := v = none ∧ Fr n0 L ∧ h = h0
theorem rmUbo (l : Launch) (Z : State) (a0 : Array Value) (hw : HW a0 Z) (ws : List Jvm.Cond) (t1 : Addr) (k1 : ClassId) (N : Nat) (us : List Int32) (oo : Nat) (cc : Nat) (fm : Value) (h0 : Heap) (n0 : Nat) (Z0 : n0 ≤ h0.size) (SF : Own.Fst Z h0 fm) (hfm : fm.isRef = true) (A : Own.U16 Z h0 t1 k1 N us) (hoc : oo + cc ≤ N) :
    Own.MF l Z (⟨"java/lang/StringUTF16", "checkBoundsOffCount", "(II[B)V"⟩ : MethodName) jdk_52_method_94_code 3 none ws (⟨2, 0, 0, 29⟩ : Room) #[(.int (Int32.ofNat oo)), (.int (Int32.ofNat cc)), (.ref t1)] h0 (QrmUbo Z t1 k1 N us oo cc fm h0 n0) := by
  refine Own.MF.of (own := "java/lang/StringUTF16") (n := 3) rfl rfl pn_59 (fun p e s m below meth c s₁ hml hlk hret hnm P0 => ?_)
  rw [show entryFrame m #[(.int (Int32.ofNat oo)), (.int (Int32.ofNat cc)), (.ref t1)] 3 = mkF m 0 #[.val (.int (Int32.ofNat oo)), .val (.int (Int32.ofNat cc)), .val (.ref t1)] [] from by first | (simp [entryFrame, mkF, argsToLocals, Value.category]; done) | rfl]
  refine Own.iloadN (q := 1) P0 (dc s21 0 rfl) rfl rfl ?_
  refine Own.iloadN (q := 2) P0 (dc s21 1 rfl) rfl rfl ?_
  refine Own.aloadN (q := 3) P0 (dc s21 2 rfl) rfl rfl rfl ?_
  refine Own.cS (q := 6) (W := 2) (rest := [(.int (Int32.ofNat cc)), (.int (Int32.ofNat oo))]) P0 (dc s21 3 rfl) (wd hw 266 rfl) (sw_2 hw) (rmUl l Z a0 hw [] t1 k1 N us h0 n0 Z0 A) (by decide) (by decide) rfl (hml rfl) rfl rfl (by decide) (by decide) rfl ?_
  rintro v21 T21 h21 L21 ⟨rfl, N21q, e21⟩ P21
  rw [e21] at P21
  have N21 := Fr.app (Fr.nil n0) N21q
  refine Own.cS (q := 9) (W := 0) (rest := []) P21 (dc s21 4 rfl) (wd hw 285 rfl) (sw_11 hw) (rmCbo l Z a0 hw [] oo cc N fm h0 n0 Z0 SF hfm hoc (Nat.le_trans A.2.2.1 (by decide))) (by decide) (by decide) rfl (hml rfl) rfl rfl (by decide) (by decide) rfl ?_
  rintro v22 T22 h22 L22 ⟨rfl, N22q, e22⟩ P22
  rw [e22] at P22
  have N22 := Fr.app N21 N22q
  refine Own.pop (q := 10) P22 (dc s21 5 rfl) rfl rfl ?_
  refine Own.retV P22 (dc s21 6 rfl) hret hlk (by decide) (by decide) ?_
  exact ⟨rfl, N22, rfl⟩
theorem pd_11 : parseMethodDescriptor "(II[B)V" = some ⟨[.int, .int, (.array .byte)], none⟩ := by decide +kernel
theorem sw_12 {Z : State} {a0 : Array Value} (hw : HW a0 Z) : Own.SW Z a0 ⟨"java/lang/StringUTF16", "checkBoundsOffCount", "(II[B)V"⟩ jdk_52_method_94_code 3 none 3 := ⟨(wd hw 283 rfl), (wd hw 41 rfl), (wd hw 284 rfl), by decide, _, _, pd_11, rfl⟩
theorem pd_12 : parseMethodDescriptor "([BII)V" = some ⟨[(.array .byte), .int, .int], none⟩ := by decide +kernel
theorem sw_13 {Z : State} {a0 : Array Value} (hw : HW a0 Z) : Own.SW Z a0 ⟨"java/lang/StringUTF16", "putChar", "([BII)V"⟩ jdk_52_method_4_code 3 none 3 := ⟨(wd hw 252 rfl), (wd hw 41 rfl), (wd hw 253 rfl), by decide, _, _, pd_12, rfl⟩
theorem s22 : decs jdk_52_method_86_code [(0, .iload_n 3, 1), (1, .iload 4, 2), (3, .aload_n 2, 1), (4, .invokestatic 173, 3), (7, .iconst 0, 1), (8, .istore 5, 2), (10, .iload 5, 2), (12, .iload 4, 2), (14, .if_icmp .ge 27, 3), (17, .aload_n 2, 1), (18, .iload_n 3, 1), (19, .iinc 3 1, 3), (22, .aload_n 0, 1), (23, .iload_n 1, 1), (24, .iinc 1 1, 3), (27, .baload, 1), (28, .sipush 255, 3), (31, .iand, 1), (32, .invokestatic 111, 3), (35, .iinc 5 1, 3), (38, .goto (-28), 3), (41, .return_, 1)] = true := by decide +kernel
theorem pn_58 : plainFor (⟨"java/lang/StringUTF16", "inflate", "([BI[BII)V"⟩ : MethodName) = true := by first | exact plainFor_of_name (by first | (simp [plainName, overriddenIn]; done) | decide +kernel) | decide +kernel
def QrmUi (Z : State) (t1 : Addr) (k1 : ClassId) (z : Nat) (vs : List Value) (t2 : Addr) (k2 : ClassId) (N : Nat) (us : List Int32) (jj : Nat) (ds : List Int32) (fm : Value) (h0 : Heap) (n0 : Nat) (v : Option Value) (h : Heap) (L : List Loc) : Prop := v = none ∧ Fr n0 L ∧ Keep h0 h [t2] ∧ Own.U16 Z h t2 k2 N (Own.putL us jj ds)
theorem rmUi (l : Launch) (Z : State) (a0 : Array Value) (hw : HW a0 Z) (ws : List Jvm.Cond) (t1 : Addr) (k1 : ClassId) (z : Nat) (vs : List Value) (t2 : Addr) (k2 : ClassId) (N : Nat) (us : List Int32) (jj : Nat) (ds : List Int32) (fm : Value) (h0 : Heap) (n0 : Nat) (Z0 : n0 ≤ h0.size) (SF : Own.Fst Z h0 fm) (hfm : fm.isRef = true) (SA : Own.Ads Z h0) (SH : Own.Hib Z h0) (SL : Own.Lob Z h0) (S1 : Arv Z h0 t1 k1 .byte (Int32.ofNat z) vs (.int 0)) (hsrc : ∀ i, i < ds.length → vs.getD i (.int 0) = .int (ds.getD i 0).toInt8.toInt32) (hz : ds.length ≤ z ∧ z ≤ 100) (A : Own.U16 Z h0 t2 k2 N us) (hjN : jj + ds.length ≤ N) (hne : t1 ≠ t2) (hp : ∀ c ∈ ds, ¬ c < 0 ∧ ¬ (255 : Int32) < c) (g_t2 : n0 ≤ t2) :
    Own.MF l Z (⟨"java/lang/StringUTF16", "inflate", "([BI[BII)V"⟩ : MethodName) jdk_52_method_86_code 6 none ws (⟨3, 0, 0, 44⟩ : Room) #[(.ref t1), (.int (0 : Int32)), (.ref t2), (.int (Int32.ofNat jj)), (.int (Int32.ofNat ds.length))] h0 (QrmUi Z t1 k1 z vs t2 k2 N us jj ds fm h0 n0) := by
  refine Own.MF.of (own := "java/lang/StringUTF16") (n := 6) rfl rfl pn_58 (fun p e s m below meth c s₁ hml hlk hret hnm P0 => ?_)
  rw [show entryFrame m #[(.ref t1), (.int (0 : Int32)), (.ref t2), (.int (Int32.ofNat jj)), (.int (Int32.ofNat ds.length))] 6 = mkF m 0 #[.val (.ref t1), .val (.int (0 : Int32)), .val (.ref t2), .val (.int (Int32.ofNat jj)), .val (.int (Int32.ofNat ds.length)), .unset] [] from by first | (simp [entryFrame, mkF, argsToLocals, Value.category]; done) | rfl]
  refine Own.iloadN (q := 1) P0 (dc s22 0 rfl) rfl rfl ?_
  refine Own.iload (q := 3) P0 (dc s22 1 rfl) rfl rfl ?_
  refine Own.aloadN (q := 4) P0 (dc s22 2 rfl) rfl rfl rfl ?_
  refine Own.cS (q := 7) (W := 0) (rest := []) P0 (dc s22 3 rfl) (wd hw 282 rfl) (sw_12 hw) (rmUbo l Z a0 hw [] t2 k2 N us jj ds.length fm h0 n0 Z0 SF hfm A hjN) (by decide) (by decide) rfl (hml rfl) rfl rfl (by decide) (by decide) rfl ?_
  rintro v21 T21 h21 L21 ⟨rfl, N21q, e21⟩ P21
  rw [e21] at P21
  have N21 := Fr.app (Fr.nil n0) N21q
  refine Own.iconst (q := 8) (v := (0 : Int32)) P21 (dc s22 4 rfl) rfl rfl ?_
  refine Own.istore (q := 10) (L2 := #[.val (.ref t1), .val (.int (0 : Int32)), .val (.ref t2), .val (.int (Int32.ofNat jj)), .val (.int (Int32.ofNat ds.length)), .val (.int (0 : Int32))]) P21 (dc s22 5 rfl) rfl rfl ?_
  have loop : ∀ (kk i : Nat), ds.length ≤ i + kk → i ≤ ds.length → ∀ (T22 : State) (lc22 : List Loc) (hL22 : Heap), Own.Wk Z "java/lang/StringUTF16" jdk_52_method_86_code hL22 p l e (⟨3, 0, 0, 44⟩ : Room) s m #[(.ref t1), (.int (0 : Int32)), (.ref t2), (.int (Int32.ofNat jj)), (.int (Int32.ofNat ds.length))] below meth c T22 lc22 0 0 → Fr n0 lc22 → Keep h0 hL22 [t2] → Arv Z hL22 t1 k1 .byte (Int32.ofNat z) vs (.int 0) → Own.U16 Z hL22 t2 k2 N (Own.putL us jj (ds.take i)) → Own.Ads Z hL22 → Own.Hib Z hL22 → Own.Lob Z hL22 → Own.Goes p.tables e below (Own.KE (QrmUi Z t1 k1 z vs t2 k2 N us jj ds fm h0 n0) s (⟨3, 0, 0, 44⟩ : Room).cells (⟨3, 0, 0, 44⟩ : Room).slots) (T22.setTop (mkF m 10 #[.val (.ref t1), .val (.int (Int32.ofNat i)), .val (.ref t2), .val (.int (Int32.ofNat (jj + i))), .val (.int (Int32.ofNat ds.length)), .val (.int (Int32.ofNat i))] [])) := by
    intro kk
    induction kk with
    | zero =>
      intro i hk hi T22 lc22 hL22  P22 N22 KL Ls Lu La Lh Ll
      refine Own.iload (q := 12) P22 (dc s22 6 rfl) rfl rfl ?_
      refine Own.iload (q := 14) P22 (dc s22 7 rfl) rfl rfl ?_
      refine Own.icmp_ge (q := 17) (qy := 41) P22 (dc s22 8 rfl) (by decide) rfl (fun _ => ?_) (fun q => absurd q (by rw [Own.ofNat_lt (by have := hjN; have := A.2.2.1; omega) (by have := hjN; have := A.2.2.1; omega)]; omega))
      refine Own.retV P22 (dc s22 21 rfl) hret hlk (by decide) (by decide) ?_
      exact ⟨rfl, N22, (Keep.trans (Keep.refl h0 _) KL (allS (Or.inl (by simp)) all0)), by rw [← List.take_of_length_le (show ds.length ≤ i by first | omega | exact Nat.le_of_not_lt (fun z => q14 (Own.ltN (by have := hjN; have := A.2.2.1; omega) (by have := hjN; have := A.2.2.1; omega) z)))]; exact Lu⟩
    | succ kk ih =>
      intro i hk hi T22 lc22 hL22  P22 N22 KL Ls Lu La Lh Ll
      refine Own.iload (q := 12) P22 (dc s22 6 rfl) rfl rfl ?_
      refine Own.iload (q := 14) P22 (dc s22 7 rfl) rfl rfl ?_
      refine Own.icmp_ge (q := 17) (qy := 41) P22 (dc s22 8 rfl) (by decide) rfl (fun q14 => ?_) (fun q14 => ?_)
      · refine Own.retV P22 (dc s22 21 rfl) hret hlk (by decide) (by decide) ?_
        exact ⟨rfl, N22, (Keep.trans (Keep.refl h0 _) KL (allS (Or.inl (by simp)) all0)), by rw [← List.take_of_length_le (show ds.length ≤ i by first | omega | exact Nat.le_of_not_lt (fun z => q14 (Own.ltN (by have := hjN; have := A.2.2.1; omega) (by have := hjN; have := A.2.2.1; omega) z)))]; exact Lu⟩
      · have hi2 : i < ds.length := (Own.ofNat_lt (by have := hjN; have := A.2.2.1; omega) (by have := hjN; have := A.2.2.1; omega)).mp q14
        refine Own.aloadN (q := 18) P22 (dc s22 9 rfl) rfl rfl rfl ?_
        refine Own.iloadN (q := 19) P22 (dc s22 10 rfl) rfl rfl ?_
        refine Own.iinc (q := 22) (v := (1 : Int32)) (L2 := #[.val (.ref t1), .val (.int (Int32.ofNat i)), .val (.ref t2), .val (.int ((Int32.ofNat (jj + i)) + (1 : Int32))), .val (.int (Int32.ofNat ds.length)), .val (.int (Int32.ofNat i))]) P22 (dc s22 11 rfl) rfl rfl rfl rfl ?_
        rw [show (Int32.ofNat (jj + i) + (1 : Int32)) = Int32.ofNat (jj + (i + 1)) from (Int32.ofNat_add (jj + i) 1).symm]
        refine Own.aloadN (q := 23) P22 (dc s22 12 rfl) rfl rfl rfl ?_
        refine Own.iloadN (q := 24) P22 (dc s22 13 rfl) rfl rfl ?_
        refine Own.iinc (q := 27) (v := (1 : Int32)) (L2 := #[.val (.ref t1), .val (.int ((Int32.ofNat i) + (1 : Int32))), .val (.ref t2), .val (.int (Int32.ofNat (jj + (i + 1)))), .val (.int (Int32.ofNat ds.length)), .val (.int (Int32.ofNat i))]) P22 (dc s22 14 rfl) rfl rfl rfl rfl ?_
        rw [show (Int32.ofNat i + (1 : Int32)) = Int32.ofNat (i + 1) from (Int32.ofNat_add i 1).symm]
        refine Own.baload (q := 28) (v := .int (ds.getD i 0).toInt8.toInt32) P22 (dc s22 15 rfl) Ls (Own.nneg (by have := hjN; have := A.2.2.1; have := hi2; have := hz; omega)) (Own.ltN (by have := hjN; have := A.2.2.1; have := hi2; have := hz; omega) (by have := hjN; have := A.2.2.1; have := hi2; have := hz; omega) (by have := hjN; have := A.2.2.1; have := hi2; have := hz; omega)) (by rw [Own.clamp (by have := hjN; have := A.2.2.1; have := hi2; have := hz; omega)]; exact hsrc i hi2) rfl ?_
        refine Own.sipush (q := 31) (v := (255 : Int32)) P22 (dc s22 16 rfl) rfl rfl ?_
        refine Own.iand (q := 32) P22 (dc s22 17 rfl)  rfl ?_
        rw [show ((ds.getD i 0).toInt8.toInt32 &&& (255 : Int32)) = (ds.getD i 0) from Own.and255 (Own.rng_getD hp i)]
        have Z1_23 : n0 ≤ hL22.size := Nat.le_trans Z0 KL.1
        refine Own.cS (q := 35) (W := 0) (rest := []) P22 (dc s22 18 rfl) (wd hw 251 rfl) (sw_13 hw) (rmPc l Z a0 hw [] t2 k2 N (Own.putL us jj (ds.take i)) (jj + i) (ds.getD i 0) hL22 n0 Z1_23 La Lh Ll Lu (by have := hjN; have := A.2.2.1; have := hi2; have := hz; omega) (Own.Ch.up (Own.rng_getD hp i)) g_t2) (by decide) (by decide) rfl (hml rfl) rfl rfl (by decide) (by decide) rfl ?_
        rintro v24 T24 h24 L24 ⟨rfl, N24q, K24, U24⟩ P24
        have N24 := Fr.app N22 N24q
        rw [Own.putL_set (by rw [A.2.1]; exact hjN) hi2] at U24
        refine Own.iinc (q := 38) (v := (1 : Int32)) (L2 := #[.val (.ref t1), .val (.int (Int32.ofNat (i + 1))), .val (.ref t2), .val (.int (Int32.ofNat (jj + (i + 1)))), .val (.int (Int32.ofNat ds.length)), .val (.int ((Int32.ofNat i) + (1 : Int32)))]) P24 (dc s22 19 rfl) rfl rfl rfl rfl ?_
        rw [show (Int32.ofNat i + (1 : Int32)) = Int32.ofNat (i + 1) from (Int32.ofNat_add i 1).symm]
        refine Own.goto (q := 10) P24 (dc s22 20 rfl) (by decide) ?_
        have qf25 := (Arv.keep Ls K24 (ninS hne nin0))
        have qf26 := (Own.Sta_kpA La K24 Lu.1)
        have qf27 := (Own.Sta_kpA Lh K24 Lu.1)
        have qf28 := (Own.Sta_kpA Ll K24 Lu.1)
        exact ih (i + 1) (by omega) (by omega) _ _ _  P24 N24 (Keep.trans (Keep.trans (Keep.refl h0 _) KL (allS (Or.inl (by simp)) all0)) K24 (allS (Or.inl (by simp)) all0)) qf25 U24 qf26 qf27 qf28
  exact loop ds.length 0 (Nat.le_of_eq (Nat.zero_add _).symm) (Nat.zero_le _) _ _ _ P21 N21 (Keep.refl h0 _) S1 (by rw [List.take_zero, Own.putL_nil]; exact A) SA SH SL
theorem pd_13 : parseMethodDescriptor "([BI[BII)V" = some ⟨[(.array .byte), .int, (.array .byte), .int, .int], none⟩ := by decide +kernel
theorem sw_14 {Z : State} {a0 : Array Value} (hw : HW a0 Z) : Own.SW Z a0 ⟨"java/lang/StringUTF16", "inflate", "([BI[BII)V"⟩ jdk_52_method_86_code 6 none 5 := ⟨(wd hw 280 rfl), (wd hw 41 rfl), (wd hw 281 rfl), by decide, _, _, pd_13, rfl⟩
theorem s23 : decs jdk_43_method_50_code [(0, .aload_n 0, 1), (1, .iload_n 1, 1), (2, .aload_n 2, 1), (3, .iload_n 3, 1), (4, .iload 4, 2), (6, .invokestatic 240, 3), (9, .return_, 1)] = true := by decide +kernel
theorem pn_57 : plainFor (⟨"java/lang/StringLatin1", "inflate", "([BI[BII)V"⟩ : MethodName) = true := by first | exact plainFor_of_name (by first | (simp [plainName, overriddenIn]; done) | decide +kernel) | decide +kernel
def QrmLi (Z : State) (t1 : Addr) (k1 : ClassId) (z : Nat) (vs : List Value) (t2 : Addr) (k2 : ClassId) (N : Nat) (us : List Int32) (jj : Nat) (ds : List Int32) (fm : Value) (h0 : Heap) (n0 : Nat) (v : Option Value) (h : Heap) (L : List Loc) : Prop := v = none ∧ Fr n0 L ∧ Keep h0 h [t2] ∧ Own.U16 Z h t2 k2 N (Own.putL us jj ds)
theorem rmLi (l : Launch) (Z : State) (a0 : Array Value) (hw : HW a0 Z) (ws : List Jvm.Cond) (t1 : Addr) (k1 : ClassId) (z : Nat) (vs : List Value) (t2 : Addr) (k2 : ClassId) (N : Nat) (us : List Int32) (jj : Nat) (ds : List Int32) (fm : Value) (h0 : Heap) (n0 : Nat) (Z0 : n0 ≤ h0.size) (SF : Own.Fst Z h0 fm) (hfm : fm.isRef = true) (SA : Own.Ads Z h0) (SH : Own.Hib Z h0) (SL : Own.Lob Z h0) (S1 : Arv Z h0 t1 k1 .byte (Int32.ofNat z) vs (.int 0)) (hsrc : ∀ i, i < ds.length → vs.getD i (.int 0) = .int (ds.getD i 0).toInt8.toInt32) (hz : ds.length ≤ z ∧ z ≤ 100) (A : Own.U16 Z h0 t2 k2 N us) (hjN : jj + ds.length ≤ N) (hne : t1 ≠ t2) (hp : ∀ c ∈ ds, ¬ c < 0 ∧ ¬ (255 : Int32) < c) (g_t2 : n0 ≤ t2) :
    Own.MF l Z (⟨"java/lang/StringLatin1", "inflate", "([BI[BII)V"⟩ : MethodName) jdk_43_method_50_code 5 none ws (⟨4, 0, 0, 61⟩ : Room) #[(.ref t1), (.int (0 : Int32)), (.ref t2), (.int (Int32.ofNat jj)), (.int (Int32.ofNat ds.length))] h0 (QrmLi Z t1 k1 z vs t2 k2 N us jj ds fm h0 n0) := by
  refine Own.MF.of (own := "java/lang/StringLatin1") (n := 5) rfl rfl pn_57 (fun p e s m below meth c s₁ hml hlk hret hnm P0 => ?_)
  rw [show entryFrame m #[(.ref t1), (.int (0 : Int32)), (.ref t2), (.int (Int32.ofNat jj)), (.int (Int32.ofNat ds.length))] 5 = mkF m 0 #[.val (.ref t1), .val (.int (0 : Int32)), .val (.ref t2), .val (.int (Int32.ofNat jj)), .val (.int (Int32.ofNat ds.length))] [] from by first | (simp [entryFrame, mkF, argsToLocals, Value.category]; done) | rfl]
  refine Own.aloadN (q := 1) P0 (dc s23 0 rfl) rfl rfl rfl ?_
  refine Own.iloadN (q := 2) P0 (dc s23 1 rfl) rfl rfl ?_
  refine Own.aloadN (q := 3) P0 (dc s23 2 rfl) rfl rfl rfl ?_
  refine Own.iloadN (q := 4) P0 (dc s23 3 rfl) rfl rfl ?_
  refine Own.iload (q := 6) P0 (dc s23 4 rfl) rfl rfl ?_
  refine Own.cS (q := 9) (W := 0) (rest := []) P0 (dc s23 5 rfl) (wd hw 279 rfl) (sw_14 hw) (rmUi l Z a0 hw [] t1 k1 z vs t2 k2 N us jj ds fm h0 n0 Z0 SF hfm SA SH SL S1 hsrc hz A hjN hne hp g_t2) (by decide) (by decide) rfl (hml rfl) rfl rfl (by decide) (by decide) rfl ?_
  rintro v21 T21 h21 L21 ⟨rfl, N21q, K21, U21⟩ P21
  have N21 := Fr.app (Fr.nil n0) N21q
  refine Own.retV P21 (dc s23 6 rfl) hret hlk (by decide) (by decide) ?_
  exact ⟨rfl, N21, K21, U21⟩
theorem vw_15 {Z : State} {a0 : Array Value} (hw : HW a0 Z) : Own.VW Z a0 "java/lang/StringBuilder" ⟨"java/lang/AbstractStringBuilder", "isLatin1", "()Z"⟩ ⟨"java/lang/AbstractStringBuilder", "isLatin1", "()Z"⟩ jdk_68_method_68_code 1 (some .boolean) 0 := ⟨(wd hw 128 rfl), (wd hw 130 rfl), (wd hw 129 rfl), (wd hw 84 rfl), (wd hw 131 rfl), by decide, _, _, pd_7, rfl⟩
theorem pd_14 : parseMethodDescriptor "(I)[B" = some ⟨[.int], some (.array .byte)⟩ := by decide +kernel
theorem sw_16 {Z : State} {a0 : Array Value} (hw : HW a0 Z) : Own.SW Z a0 ⟨"java/lang/StringUTF16", "newBytesFor", "(I)[B"⟩ jdk_52_method_2_code 1 (some (.array .byte)) 1 := ⟨(wd hw 245 rfl), (wd hw 41 rfl), (wd hw 246 rfl), by decide, _, _, pd_14, rfl⟩
theorem sw_17 {Z : State} {a0 : Array Value} (hw : HW a0 Z) : Own.SW Z a0 ⟨"java/lang/StringLatin1", "inflate", "([BI[BII)V"⟩ jdk_43_method_50_code 5 none 5 := ⟨(wd hw 277 rfl), (wd hw 61 rfl), (wd hw 278 rfl), by decide, _, _, pd_13, rfl⟩
theorem s24 : decs jdk_68_method_11_code [(0, .aload_n 0, 1), (1, .invokevirtual 83, 3), (4, .ifCond .ne 4, 3), (8, .aload_n 0, 1), (9, .getfield 15, 3), (12, .arraylength, 1), (13, .invokestatic 26, 3), (16, .astore_n 1, 1), (17, .aload_n 0, 1), (18, .getfield 15, 3), (21, .iconst 0, 1), (22, .aload_n 1, 1), (23, .iconst 0, 1), (24, .aload_n 0, 1), (25, .getfield 79, 3), (28, .invokestatic 125, 3), (31, .aload_n 0, 1), (32, .aload_n 1, 1), (33, .putfield 15, 3), (36, .aload_n 0, 1), (37, .iconst 1, 1), (38, .putfield 22, 3), (41, .return_, 1)] = true := by decide +kernel
theorem pn_56 : plainFor (⟨"java/lang/AbstractStringBuilder", "inflate", "()V"⟩ : MethodName) = true := by first | exact plainFor_of_name (by first | (simp [plainName, overriddenIn]; done) | decide +kernel) | decide +kernel
def QrmInfl (Z : State) (a1 : Addr) (t1 : Addr) (kb : ClassId) (N : Nat) (cs : List Int32) (zc : Int32) (fm : Value) (h0 : Heap) (n0 : Nat) (v : Option Value) (h : Heap) (L : List Loc) : Prop := v = none ∧ Fr n0 L ∧ Keep h0 h [a1] ∧ ∃ t k, h0.size ≤ t ∧ Exa Z h a1 "java/lang/StringBuilder" ∧ Own.Bf Z h a1 "value" "[B" (.ref t) ∧ Own.Bf Z h a1 "coder" "B" (.int 1) ∧ Own.Bf Z h a1 "count" "I" (.int (Int32.ofNat cs.length)) ∧ Own.Bf Z h a1 "maybeLatin1" "Z" (.int 0) ∧ Own.U16 Z h t k N (cs ++ List.replicate (N - cs.length) (0 : Int32))
theorem rmInfl (l : Launch) (Z : State) (a0 : Array Value) (hw : HW a0 Z) (ws : List Jvm.Cond) (a1 : Addr) (t1 : Addr) (kb : ClassId) (N : Nat) (cs : List Int32) (zc : Int32) (fm : Value) (h0 : Heap) (n0 : Nat) (Z0 : n0 ≤ h0.size) (SC : Own.Cst Z h0 zc) (hzc : ¬ zc = 0) (SF : Own.Fst Z h0 fm) (hfm : fm.isRef = true) (SA : Own.Ads Z h0) (SH : Own.Hib Z h0) (SL : Own.Lob Z h0) (E_a1 : Exa Z h0 a1 "java/lang/StringBuilder") (f1 : Own.Bf Z h0 a1 "value" "[B" (.ref t1)) (f2 : Own.Bf Z h0 a1 "coder" "B" (.int 0)) (f3 : Own.Bf Z h0 a1 "count" "I" (.int (Int32.ofNat cs.length))) (f4 : Own.Bf Z h0 a1 "maybeLatin1" "Z" (.int 0)) (A_t : Arv Z h0 t1 kb .byte (Int32.ofNat N) (((cs.map fun c : Int32 => c.toInt8.toInt32).map Value.int) ++ List.replicate (N - cs.length) (Value.int 0)) (.int 0)) (hN : N ≤ 20) (hcN : cs.length ≤ N) (hp : ∀ c ∈ cs, ¬ c < 0 ∧ ¬ (255 : Int32) < c) (g_a1 : n0 ≤ a1) :
    Own.MF l Z (⟨"java/lang/AbstractStringBuilder", "inflate", "()V"⟩ : MethodName) jdk_68_method_11_code 2 none ws (⟨5, 1, 40, 77⟩ : Room) #[(.ref a1)] h0 (QrmInfl Z a1 t1 kb N cs zc fm h0 n0) := by
  refine Own.MF.of (own := "java/lang/AbstractStringBuilder") (n := 2) rfl rfl pn_56 (fun p e s m below meth c s₁ hml hlk hret hnm P0 => ?_)
  rw [show entryFrame m #[(.ref a1)] 2 = mkF m 0 #[.val (.ref a1), .unset] [] from by first | (simp [entryFrame, mkF, argsToLocals, Value.category]; done) | rfl]
  refine Own.aloadN (q := 1) P0 (dc s24 0 rfl) rfl rfl rfl ?_
  refine Own.cV (q := 4) (W := 0) (rest := []) P0 (dc s24 1 rfl) (wd hw 127 rfl) (vw_15 hw) (Own.nfs P0 (wd hw 130 rfl)) E_a1 (rmIl0 l Z a0 hw [] a1 zc h0 n0 Z0 SC hzc f2) (by decide) (by decide) rfl (hml rfl) rfl rfl (by decide) (by decide) rfl ?_
  rintro v21 T21 h21 L21 ⟨rfl, N21q, e21⟩ P21
  rw [e21] at P21
  have N21 := Fr.app (Fr.nil n0) N21q
  refine Own.if_ne (q := 7) (qy := 8) P21 (dc s24 2 rfl) (by decide) rfl (fun _ => ?_) (fun q => absurd q (by decide))
  refine Own.aloadN (q := 9) P21 (dc s24 3 rfl) rfl rfl rfl ?_
  refine Own.getfield (q := 12) P21 (dc s24 4 rfl) (wd hw 88 rfl) f1 rfl ?_
  intro T22 P22
  refine Own.arraylength (q := 13) P22 (dc s24 5 rfl) A_t rfl ?_
  refine Own.cS (q := 16) (W := 0) (rest := []) P22 (dc s24 6 rfl) (wd hw 275 rfl) (sw_16 hw) (rmNbf l Z a0 hw [] N h0 n0 Z0 hN) (by decide) (by decide) rfl (hml rfl) rfl rfl (by decide) (by decide) rfl ?_
  rintro v23 T23 h23 L23 ⟨r23, k23, rfl, N23q, E23, gr23, U23⟩ P23
  have N23 := Fr.app N21 N23q
  refine Own.astoreN (q := 17) (L2 := #[.val (.ref a1), .val (.ref r23)]) P23 (dc s24 7 rfl) rfl rfl rfl ?_
  refine Own.aloadN (q := 18) P23 (dc s24 8 rfl) rfl rfl rfl ?_
  have E0_1_24 : Ext h0 h23 := E23
  refine Own.getfield (q := 21) P23 (dc s24 9 rfl) (wd hw 88 rfl) (f1.ext E0_1_24) rfl ?_
  intro T25 P25
  refine Own.iconst (q := 22) (v := (0 : Int32)) P25 (dc s24 10 rfl) rfl rfl ?_
  refine Own.aloadN (q := 23) P25 (dc s24 11 rfl) rfl rfl rfl ?_
  refine Own.iconst (q := 24) (v := (0 : Int32)) P25 (dc s24 12 rfl) rfl rfl ?_
  refine Own.aloadN (q := 25) P25 (dc s24 13 rfl) rfl rfl rfl ?_
  refine Own.getfield (q := 28) P25 (dc s24 14 rfl) (wd hw 114 rfl) (f3.ext E0_1_24) rfl ?_
  intro T26 P26
  refine Own.cS (q := 31) (W := 0) (rest := []) P26 (dc s24 15 rfl) (wd hw 276 rfl) (sw_17 hw) (rmLi l Z a0 hw [] t1 kb N (((cs.map fun c : Int32 => c.toInt8.toInt32).map Value.int) ++ List.replicate (N - cs.length) (Value.int 0)) r23 k23 N (List.replicate N 0) 0 cs fm h23 n0 (Nat.le_trans Z0 E0_1_24.1) (SF.ext E0_1_24) hfm (SA.ext E0_1_24) (SH.ext E0_1_24) (SL.ext E0_1_24) (A_t.ext E0_1_24) (fun i hi => Own.vd_get hi) ⟨hcN, by omega⟩ U23 (by rw [Nat.zero_add]; exact hcN) (Nat.ne_of_lt (Nat.lt_of_lt_of_le A_t.lt gr23)) hp (Nat.le_trans Z0 gr23)) (by decide) (by decide) rfl (hml rfl) rfl rfl (by decide) (by decide) rfl ?_
  rintro v27 T27 h27 L27 ⟨rfl, N27q, K27, U27⟩ P27
  have N27 := Fr.app N23 N27q
  rw [Own.putL_rep hcN] at U27
  refine Own.aloadN (q := 32) P27 (dc s24 16 rfl) rfl rfl rfl ?_
  refine Own.aloadN (q := 33) P27 (dc s24 17 rfl) rfl rfl rfl ?_
  have E0_2_28 : Ext h0 h27 := (Own.Ext.kp E0_1_24 K27 (allS gr23 all0))
  refine Own.putfield (q := 36) P27 (dc s24 18 rfl) (wd hw 88 rfl) (f1.ext E0_2_28) (E_a1.ext E0_2_28) (Or.inl (wd hw 89 rfl)) (wd hw 75 rfl) (ty := (.array .byte)) (by decide) rfl rfl rfl ?_
  intro T29 h29 lc29 hl29 P29 W29
  have F29_value := Fld.same W29 (f1.ext E0_2_28)
  have F29_coder := (f2.ext E0_2_28).other W29 (Or.inr (slot_ne (Or.inl (wd hw 91 rfl)) (Or.inl (wd hw 89 rfl)) (by decide) (t := .byte) (t' := (.array .byte)) (by decide) (by decide)))
  have F29_count := (f3.ext E0_2_28).other W29 (Or.inr (slot_ne (Or.inl (wd hw 115 rfl)) (Or.inl (wd hw 89 rfl)) (by decide) (t := .int) (t' := (.array .byte)) (by decide) (by decide)))
  have F29_maybeLatin1 := (f4.ext E0_2_28).other W29 (Or.inr (slot_ne (Or.inl (wd hw 295 rfl)) (Or.inl (wd hw 89 rfl)) (by decide) (t := .boolean) (t' := (.array .byte)) (by decide) (by decide)))
  have A29 := (E_a1.ext E0_2_28).wr W29
  have N29 := Own.Fr.one N27 hl29 g_a1
  refine Own.aloadN (q := 37) P29 (dc s24 19 rfl) rfl rfl rfl ?_
  refine Own.iconst (q := 38) (v := (1 : Int32)) P29 (dc s24 20 rfl) rfl rfl ?_
  refine Own.putfield (q := 41) P29 (dc s24 21 rfl) (wd hw 90 rfl) F29_coder A29 (Or.inl (wd hw 91 rfl)) (wd hw 75 rfl) (ty := .byte) (by decide) rfl rfl rfl ?_
  intro T30 h30 lc30 hl30 P30 W30
  have F30_value := F29_value.other W30 (Or.inr (slot_ne (Or.inl (wd hw 89 rfl)) (Or.inl (wd hw 91 rfl)) (by decide) (t := (.array .byte)) (t' := .byte) (by decide) (by decide)))
  have F30_coder := Fld.same W30 F29_coder
  have F30_count := F29_count.other W30 (Or.inr (slot_ne (Or.inl (wd hw 115 rfl)) (Or.inl (wd hw 91 rfl)) (by decide) (t := .int) (t' := .byte) (by decide) (by decide)))
  have F30_maybeLatin1 := F29_maybeLatin1.other W30 (Or.inr (slot_ne (Or.inl (wd hw 295 rfl)) (Or.inl (wd hw 91 rfl)) (by decide) (t := .boolean) (t' := .byte) (by decide) (by decide)))
  have A30 := A29.wr W30
  have N30 := Own.Fr.one N29 hl30 g_a1
  have qf31 := (Arv.keep U27.1 (Keep.of_wr W29) (ninS (Ne.symm (Exa.neArv ((E_a1.ext E23).keep K27) U27.1 (wd hw 75 rfl))) nin0))
  have qf32 := (Arv.keep qf31 (Keep.of_wr W30) (ninS (Ne.symm (Exa.neArv A29 qf31 (wd hw 75 rfl))) nin0))
  refine Own.retV P30 (dc s24 22 rfl) hret hlk (by decide) (by decide) ?_
  exact ⟨rfl, N30, (Keep.wr (Keep.wr (Keep.trans (Keep.ext (Keep.refl h0 _) E23) K27 (allS (Or.inr gr23) all0)) W29 (Or.inl (by simp))) W30 (Or.inl (by simp))), r23, _, gr23, A30, F30_value, F30_coder, F30_count, F30_maybeLatin1, qf32, U27.2⟩
theorem s25 : decs jdk_68_method_11_code [(7, .return_, 1)] = true := by decide +kernel
def QrmInfl1 (Z : State) (a1 : Addr) (zc : Int32) (h0 : Heap) (n0 : Nat) (v : Option Value) (h : Heap) (L : List Loc) : Prop := v = none ∧ Fr n0 L ∧ h = h0
theorem rmInfl1 (l : Launch) (Z : State) (a0 : Array Value) (hw : HW a0 Z) (ws : List Jvm.Cond) (a1 : Addr) (zc : Int32) (h0 : Heap) (n0 : Nat) (Z0 : n0 ≤ h0.size) (SC : Own.Cst Z h0 zc) (hzc : ¬ zc = 0) (E_a1 : Exa Z h0 a1 "java/lang/StringBuilder") (f2 : Own.Bf Z h0 a1 "coder" "B" (.int 1)) :
    Own.MF l Z (⟨"java/lang/AbstractStringBuilder", "inflate", "()V"⟩ : MethodName) jdk_68_method_11_code 2 none ws (⟨1, 0, 0, 12⟩ : Room) #[(.ref a1)] h0 (QrmInfl1 Z a1 zc h0 n0) := by
  refine Own.MF.of (own := "java/lang/AbstractStringBuilder") (n := 2) rfl rfl pn_56 (fun p e s m below meth c s₁ hml hlk hret hnm P0 => ?_)
  rw [show entryFrame m #[(.ref a1)] 2 = mkF m 0 #[.val (.ref a1), .unset] [] from by first | (simp [entryFrame, mkF, argsToLocals, Value.category]; done) | rfl]
  refine Own.aloadN (q := 1) P0 (dc s24 0 rfl) rfl rfl rfl ?_
  refine Own.cV (q := 4) (W := 0) (rest := []) P0 (dc s24 1 rfl) (wd hw 127 rfl) (vw_15 hw) (Own.nfs P0 (wd hw 130 rfl)) E_a1 (rmIl1 l Z a0 hw [] a1 zc h0 n0 Z0 SC hzc f2) (by decide) (by decide) rfl (hml rfl) rfl rfl (by decide) (by decide) rfl ?_
  rintro v21 T21 h21 L21 ⟨rfl, N21q, e21⟩ P21
  rw [e21] at P21
  have N21 := Fr.app (Fr.nil n0) N21q
  refine Own.if_ne (q := 7) (qy := 8) P21 (dc s24 2 rfl) (by decide) rfl (fun q => absurd rfl q) (fun _ => ?_)
  refine Own.retV P21 (dc s25 0 rfl) hret hlk (by decide) (by decide) ?_
  exact ⟨rfl, N21, rfl⟩
theorem s26 : decs jdk_43_method_3_code [(0, .iload_n 0, 1), (1, .sipush 255, 3), (4, .if_icmp .gt 7, 3), (7, .iconst 1, 1), (8, .goto 4, 3), (12, .ireturn, 1)] = true := by decide +kernel
theorem pn_33 : plainFor (⟨"java/lang/StringLatin1", "canEncode", "(C)Z"⟩ : MethodName) = true := by first | exact plainFor_of_name (by first | (simp [plainName, overriddenIn]; done) | decide +kernel) | decide +kernel
def QrmCan1 (Z : State) (c1 : Int32) (h0 : Heap) (n0 : Nat) (v : Option Value) (h : Heap) (L : List Loc) : Prop := v = some (.int 1) ∧ Fr n0 L ∧ h = h0
theorem rmCan1 (l : Launch) (Z : State) (a0 : Array Value) (hw : HW a0 Z) (ws : List Jvm.Cond) (c1 : Int32) (h0 : Heap) (n0 : Nat) (Z0 : n0 ≤ h0.size) (hr : ¬ (255 : Int32) < c1) :
    Own.MF l Z (⟨"java/lang/StringLatin1", "canEncode", "(C)Z"⟩ : MethodName) jdk_43_method_3_code 1 (some .boolean) ws (⟨0, 0, 0, 0⟩ : Room) #[(.int c1)] h0 (QrmCan1 Z c1 h0 n0) := by
  refine Own.MF.of (own := "java/lang/StringLatin1") (n := 1) rfl rfl pn_33 (fun p e s m below meth c s₁ hml hlk hret hnm P0 => ?_)
  rw [show entryFrame m #[(.int c1)] 1 = mkF m 0 #[.val (.int c1)] [] from by first | (simp [entryFrame, mkF, argsToLocals, Value.category]; done) | rfl]
  refine Own.iloadN (q := 1) P0 (dc s26 0 rfl) rfl rfl ?_
  refine Own.sipush (q := 4) (v := (255 : Int32)) P0 (dc s26 1 rfl) rfl rfl ?_
  refine Own.icmp_gt (q := 7) (qy := 11) P0 (dc s26 2 rfl) (by decide) rfl (fun q => absurd q hr) (fun _ => ?_)
  refine Own.iconst (q := 8) (v := (1 : Int32)) P0 (dc s26 3 rfl) rfl rfl ?_
  refine Own.goto (q := 12) P0 (dc s26 4 rfl) (by decide) ?_
  refine Own.retZ P0 (dc s26 5 rfl) hret (by simp) hlk (by decide) (by decide) ?_
  exact ⟨rfl, (Fr.nil n0), rfl⟩
theorem s27 : decs jdk_43_method_3_code [(11, .iconst 0, 1)] = true := by decide +kernel
def QrmCan0 (Z : State) (c1 : Int32) (h0 : Heap) (n0 : Nat) (v : Option Value) (h : Heap) (L : List Loc) : Prop := v = some (.int 0) ∧ Fr n0 L ∧ h = h0
theorem rmCan0 (l : Launch) (Z : State) (a0 : Array Value) (hw : HW a0 Z) (ws : List Jvm.Cond) (c1 : Int32) (h0 : Heap) (n0 : Nat) (Z0 : n0 ≤ h0.size) (hr : (255 : Int32) < c1) :
    Own.MF l Z (⟨"java/lang/StringLatin1", "canEncode", "(C)Z"⟩ : MethodName) jdk_43_method_3_code 1 (some .boolean) ws (⟨0, 0, 0, 0⟩ : Room) #[(.int c1)] h0 (QrmCan0 Z c1 h0 n0) := by
  refine Own.MF.of (own := "java/lang/StringLatin1") (n := 1) rfl rfl pn_33 (fun p e s m below meth c s₁ hml hlk hret hnm P0 => ?_)
  rw [show entryFrame m #[(.int c1)] 1 = mkF m 0 #[.val (.int c1)] [] from by first | (simp [entryFrame, mkF, argsToLocals, Value.category]; done) | rfl]
  refine Own.iloadN (q := 1) P0 (dc s26 0 rfl) rfl rfl ?_
  refine Own.sipush (q := 4) (v := (255 : Int32)) P0 (dc s26 1 rfl) rfl rfl ?_
  refine Own.icmp_gt (q := 7) (qy := 11) P0 (dc s26 2 rfl) (by decide) rfl (fun _ => ?_) (fun q => absurd hr q)
  refine Own.iconst (q := 12) (v := (0 : Int32)) P0 (dc s27 0 rfl) rfl rfl ?_
  refine Own.retZ P0 (dc s26 5 rfl) hret (by simp) hlk (by decide) (by decide) ?_
  exact ⟨rfl, (Fr.nil n0), rfl⟩
theorem s28 : decs jdk_52_method_71_code [(0, .iload_n 1, 1), (1, .aload_n 0, 1), (2, .invokestatic 67, 3), (5, .aload_n 0, 1), (6, .iload_n 1, 1), (7, .iload_n 2, 1), (8, .invokestatic 111, 3), (11, .return_, 1)] = true := by decide +kernel
theorem pn_62 : plainFor (⟨"java/lang/StringUTF16", "putCharSB", "([BII)V"⟩ : MethodName) = true := by first | exact plainFor_of_name (by first | (simp [plainName, overriddenIn]; done) | decide +kernel) | decide +kernel
def QrmPsb (Z : State) (t1 : Addr) (k1 : ClassId) (N : Nat) (cs : List Int32) (i : Nat) (c1 : Int32) (fm : Value) (h0 : Heap) (n0 : Nat) (v : Option Value) (h : Heap) (L : List Loc) : Prop := v = none ∧ Fr n0 L ∧ Keep h0 h [t1] ∧ Own.U16 Z h t1 k1 N (cs.set i c1)
theorem rmPsb (l : Launch) (Z : State) (a0 : Array Value) (hw : HW a0 Z) (ws : List Jvm.Cond) (t1 : Addr) (k1 : ClassId) (N : Nat) (cs : List Int32) (i : Nat) (c1 : Int32) (fm : Value) (h0 : Heap) (n0 : Nat) (Z0 : n0 ≤ h0.size) (SF : Own.Fst Z h0 fm) (hfm : fm.isRef = true) (SA : Own.Ads Z h0) (SH : Own.Hib Z h0) (SL : Own.Lob Z h0) (A : Own.U16 Z h0 t1 k1 N cs) (hiN : i < N) (hc : Own.Ch c1) (g_t1 : n0 ≤ t1) :
    Own.MF l Z (⟨"java/lang/StringUTF16", "putCharSB", "([BII)V"⟩ : MethodName) jdk_52_method_71_code 3 none ws (⟨3, 0, 0, 40⟩ : Room) #[(.ref t1), (.int (Int32.ofNat i)), (.int c1)] h0 (QrmPsb Z t1 k1 N cs i c1 fm h0 n0) := by
  refine Own.MF.of (own := "java/lang/StringUTF16") (n := 3) rfl rfl pn_62 (fun p e s m below meth c s₁ hml hlk hret hnm P0 => ?_)
  rw [show entryFrame m #[(.ref t1), (.int (Int32.ofNat i)), (.int c1)] 3 = mkF m 0 #[.val (.ref t1), .val (.int (Int32.ofNat i)), .val (.int c1)] [] from by first | (simp [entryFrame, mkF, argsToLocals, Value.category]; done) | rfl]
  refine Own.iloadN (q := 1) P0 (dc s28 0 rfl) rfl rfl ?_
  refine Own.aloadN (q := 2) P0 (dc s28 1 rfl) rfl rfl rfl ?_
  refine Own.cS (q := 5) (W := 0) (rest := []) P0 (dc s28 2 rfl) (wd hw 263 rfl) (sw_4 hw) (rmUci l Z a0 hw [] t1 k1 N cs i fm h0 n0 Z0 SF hfm A hiN) (by decide) (by decide) rfl (hml rfl) rfl rfl (by decide) (by decide) rfl ?_
  rintro v21 T21 h21 L21 ⟨rfl, N21q, e21⟩ P21
  rw [e21] at P21
  have N21 := Fr.app (Fr.nil n0) N21q
  refine Own.aloadN (q := 6) P21 (dc s28 3 rfl) rfl rfl rfl ?_
  refine Own.iloadN (q := 7) P21 (dc s28 4 rfl) rfl rfl ?_
  refine Own.iloadN (q := 8) P21 (dc s28 5 rfl) rfl rfl ?_
  refine Own.cS (q := 11) (W := 0) (rest := []) P21 (dc s28 6 rfl) (wd hw 251 rfl) (sw_13 hw) (rmPc l Z a0 hw [] t1 k1 N cs i c1 h0 n0 Z0 SA SH SL A hiN hc g_t1) (by decide) (by decide) rfl (hml rfl) rfl rfl (by decide) (by decide) rfl ?_
  rintro v22 T22 h22 L22 ⟨rfl, N22q, K22, U22⟩ P22
  have N22 := Fr.app N21 N22q
  refine Own.retV P22 (dc s28 7 rfl) hret hlk (by decide) (by decide) ?_
  exact ⟨rfl, N22, K22, U22⟩
theorem vw_18 {Z : State} {a0 : Array Value} (hw : HW a0 Z) : Own.VW Z a0 "java/lang/StringBuilder" ⟨"java/lang/AbstractStringBuilder", "ensureCapacityInternal", "(I)V"⟩ ⟨"java/lang/AbstractStringBuilder", "ensureCapacityInternal", "(I)V"⟩ jdk_68_method_9_code 3 none 1 := ⟨(Own.declOf (wd hw 117 rfl) (wd hw 120 rfl)), (wd hw 119 rfl), (wd hw 117 rfl), (wd hw 84 rfl), (wd hw 120 rfl), by decide, _, _, pd_8, rfl⟩
theorem pd_15 : parseMethodDescriptor "(C)Z" = some ⟨[.char], some .boolean⟩ := by decide +kernel
theorem sw_19 {Z : State} {a0 : Array Value} (hw : HW a0 Z) : Own.SW Z a0 ⟨"java/lang/StringLatin1", "canEncode", "(C)Z"⟩ jdk_43_method_3_code 1 (some .boolean) 1 := ⟨(wd hw 184 rfl), (wd hw 61 rfl), (wd hw 185 rfl), by decide, _, _, pd_15, rfl⟩
theorem s29 : decs jdk_68_method_31_code [(0, .aload_n 0, 1), (1, .aload_n 0, 1), (2, .getfield 79, 3), (5, .iconst 1, 1), (6, .iadd, 1), (7, .invokevirtual 100, 3), (10, .aload_n 0, 1), (11, .invokevirtual 83, 3), (14, .ifCond .eq 31, 3), (17, .iload_n 1, 1), (18, .invokestatic 191, 3), (21, .ifCond .eq 24, 3), (24, .aload_n 0, 1), (25, .getfield 15, 3), (28, .aload_n 0, 1), (29, .dup, 1), (30, .getfield 79, 3), (33, .dup_x1, 1), (34, .iconst 1, 1), (35, .iadd, 1), (36, .putfield 79, 3), (39, .iload_n 1, 1), (40, .i2b, 1), (41, .bastore, 1), (42, .goto 33, 3), (75, .aload_n 0, 1), (76, .areturn, 1)] = true := by decide +kernel
theorem pn_32 : plainFor (⟨"java/lang/AbstractStringBuilder", "append", "(C)Ljava/lang/AbstractStringBuilder;"⟩ : MethodName) = true := by first | exact plainFor_of_name (by first | (simp [plainName, overriddenIn]; done) | decide +kernel) | decide +kernel
def QrmAc0 (Z : State) (a1 : Addr) (t1 : Addr) (kb : ClassId) (N : Nat) (cs : List Int32) (c1 : Int32) (zc : Int32) (fm : Value) (h0 : Heap) (n0 : Nat) (v : Option Value) (h : Heap) (L : List Loc) : Prop := v = some (.ref a1) ∧ Fr n0 L ∧ Keep h0 h [a1, t1] ∧ Exa Z h a1 "java/lang/StringBuilder" ∧ Own.Bf Z h a1 "value" "[B" (.ref t1) ∧ Own.Bf Z h a1 "coder" "B" (.int 0) ∧ Own.Bf Z h a1 "count" "I" (.int (Int32.ofNat (cs ++ [c1]).length)) ∧ Own.Bf Z h a1 "maybeLatin1" "Z" (.int 0) ∧ Arv Z h t1 kb .byte (Int32.ofNat N) ((((cs ++ [c1]).map fun c : Int32 => c.toInt8.toInt32).map Value.int) ++ List.replicate (N - (cs ++ [c1]).length) (Value.int 0)) (.int 0)
theorem rmAc0 (l : Launch) (Z : State) (a0 : Array Value) (hw : HW a0 Z) (ws : List Jvm.Cond) (a1 : Addr) (t1 : Addr) (kb : ClassId) (N : Nat) (cs : List Int32) (c1 : Int32) (zc : Int32) (fm : Value) (h0 : Heap) (n0 : Nat) (Z0 : n0 ≤ h0.size) (SC : Own.Cst Z h0 zc) (hzc : ¬ zc = 0) (SF : Own.Fst Z h0 fm) (hfm : fm.isRef = true) (SA : Own.Ads Z h0) (SH : Own.Hib Z h0) (SL : Own.Lob Z h0) (E_a1 : Exa Z h0 a1 "java/lang/StringBuilder") (f1 : Own.Bf Z h0 a1 "value" "[B" (.ref t1)) (f2 : Own.Bf Z h0 a1 "coder" "B" (.int 0)) (f3 : Own.Bf Z h0 a1 "count" "I" (.int (Int32.ofNat cs.length))) (f4 : Own.Bf Z h0 a1 "maybeLatin1" "Z" (.int 0)) (A_t : Arv Z h0 t1 kb .byte (Int32.ofNat N) (((cs.map fun c : Int32 => c.toInt8.toInt32).map Value.int) ++ List.replicate (N - cs.length) (Value.int 0)) (.int 0)) (hN : N ≤ 20) (hcN : cs.length ≤ N) (hp : ∀ c ∈ cs, ¬ c < 0 ∧ ¬ (255 : Int32) < c) (hlt : cs.length < N) (hc : ¬ c1 < 0 ∧ ¬ (255 : Int32) < c1) (g_a1 : n0 ≤ a1) (g_t1 : n0 ≤ t1) :
    Own.MF l Z (⟨"java/lang/AbstractStringBuilder", "append", "(C)Ljava/lang/AbstractStringBuilder;"⟩ : MethodName) jdk_68_method_31_code 2 (some (.object "java/lang/AbstractStringBuilder")) ws (⟨1, 0, 0, 16⟩ : Room) #[(.ref a1), (.int c1)] h0 (QrmAc0 Z a1 t1 kb N cs c1 zc fm h0 n0) := by
  refine Own.MF.of (own := "java/lang/AbstractStringBuilder") (n := 2) rfl rfl pn_32 (fun p e s m below meth c s₁ hml hlk hret hnm P0 => ?_)
  rw [show entryFrame m #[(.ref a1), (.int c1)] 2 = mkF m 0 #[.val (.ref a1), .val (.int c1)] [] from by first | (simp [entryFrame, mkF, argsToLocals, Value.category]; done) | rfl]
  refine Own.aloadN (q := 1) P0 (dc s29 0 rfl) rfl rfl rfl ?_
  refine Own.aloadN (q := 2) P0 (dc s29 1 rfl) rfl rfl rfl ?_
  refine Own.getfield (q := 5) P0 (dc s29 2 rfl) (wd hw 114 rfl) f3 rfl ?_
  intro T21 P21
  refine Own.iconst (q := 6) (v := (1 : Int32)) P21 (dc s29 3 rfl) rfl rfl ?_
  refine Own.iadd (q := 7) P21 (dc s29 4 rfl)  rfl ?_
  rw [show ((Int32.ofNat cs.length) + (1 : Int32)) = (Int32.ofNat (cs.length + 1)) from (Int32.ofNat_add cs.length 1).symm]
  refine Own.cV (q := 10) (W := 0) (rest := []) P21 (dc s29 5 rfl) (wd hw 116 rfl) (vw_18 hw) (Own.nfs P21 (wd hw 119 rfl)) E_a1 (rmEn0 l Z a0 hw [] a1 t1 kb N cs (cs.length + 1) h0 n0 Z0 f1 f2 f3 f4 A_t hN hlt) (by decide) (by decide) rfl (hml rfl) rfl rfl (by decide) (by decide) rfl ?_
  rintro v22 T22 h22 L22 ⟨rfl, N22q, e22⟩ P22
  rw [e22] at P22
  have N22 := Fr.app (Fr.nil n0) N22q
  refine Own.aloadN (q := 11) P22 (dc s29 6 rfl) rfl rfl rfl ?_
  refine Own.cV (q := 14) (W := 0) (rest := []) P22 (dc s29 7 rfl) (wd hw 127 rfl) (vw_15 hw) (Own.nfs P22 (wd hw 130 rfl)) E_a1 (rmIl0 l Z a0 hw [] a1 zc h0 n0 Z0 SC hzc f2) (by decide) (by decide) rfl (hml rfl) rfl rfl (by decide) (by decide) rfl ?_
  rintro v23 T23 h23 L23 ⟨rfl, N23q, e23⟩ P23
  rw [e23] at P23
  have N23 := Fr.app N22 N23q
  refine Own.if_eq (q := 17) (qy := 45) P23 (dc s29 8 rfl) (by decide) rfl (fun q => absurd q (by decide)) (fun _ => ?_)
  refine Own.iloadN (q := 18) P23 (dc s29 9 rfl) rfl rfl ?_
  refine Own.cS (q := 21) (W := 0) (rest := []) P23 (dc s29 10 rfl) (wd hw 183 rfl) (sw_19 hw) (rmCan1 l Z a0 hw [] c1 h0 n0 Z0 hc.2) (by decide) (by decide) rfl (hml rfl) rfl rfl (by decide) (by decide) rfl ?_
  rintro v24 T24 h24 L24 ⟨rfl, N24q, e24⟩ P24
  rw [e24] at P24
  have N24 := Fr.app N23 N24q
  refine Own.if_eq (q := 24) (qy := 45) P24 (dc s29 11 rfl) (by decide) rfl (fun q => absurd q (by decide)) (fun _ => ?_)
  refine Own.aloadN (q := 25) P24 (dc s29 12 rfl) rfl rfl rfl ?_
  refine Own.getfield (q := 28) P24 (dc s29 13 rfl) (wd hw 88 rfl) f1 rfl ?_
  intro T25 P25
  refine Own.aloadN (q := 29) P25 (dc s29 14 rfl) rfl rfl rfl ?_
  refine Own.dup (q := 30) P25 (dc s29 15 rfl) rfl rfl ?_
  refine Own.getfield (q := 33) P25 (dc s29 16 rfl) (wd hw 114 rfl) f3 rfl ?_
  intro T26 P26
  refine Own.dupX1 (q := 34) P26 (dc s29 17 rfl) rfl rfl rfl ?_
  refine Own.iconst (q := 35) (v := (1 : Int32)) P26 (dc s29 18 rfl) rfl rfl ?_
  refine Own.iadd (q := 36) P26 (dc s29 19 rfl)  rfl ?_
  refine Own.putfield (q := 39) P26 (dc s29 20 rfl) (wd hw 114 rfl) f3 E_a1 (Or.inl (wd hw 115 rfl)) (wd hw 75 rfl) (ty := .int) (by decide) rfl rfl rfl ?_
  intro T27 h27 lc27 hl27 P27 W27
  have F27_value := f1.other W27 (Or.inr (slot_ne (Or.inl (wd hw 89 rfl)) (Or.inl (wd hw 115 rfl)) (by decide) (t := (.array .byte)) (t' := .int) (by decide) (by decide)))
  have F27_coder := f2.other W27 (Or.inr (slot_ne (Or.inl (wd hw 91 rfl)) (Or.inl (wd hw 115 rfl)) (by decide) (t := .byte) (t' := .int) (by decide) (by decide)))
  have F27_count := Fld.same W27 f3
  have F27_maybeLatin1 := f4.other W27 (Or.inr (slot_ne (Or.inl (wd hw 295 rfl)) (Or.inl (wd hw 115 rfl)) (by decide) (t := .boolean) (t' := .int) (by decide) (by decide)))
  have A27 := E_a1.wr W27
  have N27 := Own.Fr.one N24 hl27 g_a1
  refine Own.iloadN (q := 40) P27 (dc s29 21 rfl) rfl rfl ?_
  refine Own.i2b (q := 41) P27 (dc s29 22 rfl)  rfl ?_
  have qf28 := (Arv.keep A_t (Keep.of_wr W27) (ninS (Ne.symm (Exa.neArv E_a1 A_t (wd hw 75 rfl))) nin0))
  refine Own.bastore (q := 42) (i := cs.length) (x2 := c1.toInt8.toInt32) P27 (dc s29 23 rfl) qf28 (Own.nneg (by have := hlt; have := hN; omega)) (Own.ltN (by have := hlt; have := hN; omega) (by have := hlt; have := hN; omega) hlt) (Own.nar_b _) (Own.fits_b _) (Own.clamp (by have := hlt; have := hN; omega)) (by simp; omega) rfl ?_
  intro T29 h29 lc29 hl29 P29 W29 A29
  rw [Own.vd_setN hlt] at A29
  have N29 := Own.Fr.one N27 hl29 g_t1
  refine Own.goto (q := 75) P29 (dc s29 24 rfl) (by decide) ?_
  refine Own.aloadN (q := 76) P29 (dc s29 25 rfl) rfl rfl rfl ?_
  have qf30 := (Fld.keep F27_value (Keep.of_wr W29) (ninS (Exa.neArv A27 qf28 (wd hw 75 rfl)) nin0))
  have qf31 := (Fld.keep F27_coder (Keep.of_wr W29) (ninS (Exa.neArv A27 qf28 (wd hw 75 rfl)) nin0))
  have qf32 := (Fld.keep F27_count (Keep.of_wr W29) (ninS (Exa.neArv A27 qf28 (wd hw 75 rfl)) nin0))
  have qf33 := (Fld.keep F27_maybeLatin1 (Keep.of_wr W29) (ninS (Exa.neArv A27 qf28 (wd hw 75 rfl)) nin0))
  refine Own.retA P29 (dc s29 26 rfl) hret rfl rfl rfl hlk (by decide) (by decide) ?_
  exact ⟨rfl, N29, (Keep.wr (Keep.wr (Keep.refl h0 _) W27 (Or.inl (by simp))) W29 (Or.inl (by simp))), (A27.wr W29), qf30, qf31, by rw [Own.len1]; exact qf32, qf33, A29⟩
theorem pd_16 : parseMethodDescriptor "(C)Ljava/lang/AbstractStringBuilder;" = some ⟨[.char], some (.object "java/lang/AbstractStringBuilder")⟩ := by decide +kernel
theorem s30 : decs jdk_67_method_14_code [(0, .aload_n 0, 1), (1, .iload_n 1, 1), (2, .invokespecial 50, 3), (5, .pop, 1), (6, .aload_n 0, 1), (7, .areturn, 1)] = true := by decide +kernel
theorem pn_31 : plainFor (⟨"java/lang/StringBuilder", "append", "(C)Ljava/lang/StringBuilder;"⟩ : MethodName) = true := by first | exact plainFor_of_name (by first | (simp [plainName, overriddenIn]; done) | decide +kernel) | decide +kernel
def QrmSc0 (Z : State) (a1 : Addr) (t1 : Addr) (kb : ClassId) (N : Nat) (cs : List Int32) (c1 : Int32) (zc : Int32) (fm : Value) (h0 : Heap) (n0 : Nat) (v : Option Value) (h : Heap) (L : List Loc) : Prop := v = some (.ref a1) ∧ Fr n0 L ∧ Keep h0 h [a1, t1] ∧ Exa Z h a1 "java/lang/StringBuilder" ∧ Own.Bf Z h a1 "value" "[B" (.ref t1) ∧ Own.Bf Z h a1 "coder" "B" (.int 0) ∧ Own.Bf Z h a1 "count" "I" (.int (Int32.ofNat (cs ++ [c1]).length)) ∧ Own.Bf Z h a1 "maybeLatin1" "Z" (.int 0) ∧ Arv Z h t1 kb .byte (Int32.ofNat N) ((((cs ++ [c1]).map fun c : Int32 => c.toInt8.toInt32).map Value.int) ++ List.replicate (N - (cs ++ [c1]).length) (Value.int 0)) (.int 0)
theorem rmSc0 (l : Launch) (Z : State) (a0 : Array Value) (hw : HW a0 Z) (ws : List Jvm.Cond) (a1 : Addr) (t1 : Addr) (kb : ClassId) (N : Nat) (cs : List Int32) (c1 : Int32) (zc : Int32) (fm : Value) (h0 : Heap) (n0 : Nat) (Z0 : n0 ≤ h0.size) (SC : Own.Cst Z h0 zc) (hzc : ¬ zc = 0) (SF : Own.Fst Z h0 fm) (hfm : fm.isRef = true) (SA : Own.Ads Z h0) (SH : Own.Hib Z h0) (SL : Own.Lob Z h0) (E_a1 : Exa Z h0 a1 "java/lang/StringBuilder") (f1 : Own.Bf Z h0 a1 "value" "[B" (.ref t1)) (f2 : Own.Bf Z h0 a1 "coder" "B" (.int 0)) (f3 : Own.Bf Z h0 a1 "count" "I" (.int (Int32.ofNat cs.length))) (f4 : Own.Bf Z h0 a1 "maybeLatin1" "Z" (.int 0)) (A_t : Arv Z h0 t1 kb .byte (Int32.ofNat N) (((cs.map fun c : Int32 => c.toInt8.toInt32).map Value.int) ++ List.replicate (N - cs.length) (Value.int 0)) (.int 0)) (hN : N ≤ 20) (hcN : cs.length ≤ N) (hp : ∀ c ∈ cs, ¬ c < 0 ∧ ¬ (255 : Int32) < c) (hlt : cs.length < N) (hc : ¬ c1 < 0 ∧ ¬ (255 : Int32) < c1) (g_a1 : n0 ≤ a1) (g_t1 : n0 ≤ t1) :
    Own.MF l Z (⟨"java/lang/StringBuilder", "append", "(C)Ljava/lang/StringBuilder;"⟩ : MethodName) jdk_67_method_14_code 2 (some (.object "java/lang/StringBuilder")) ws (⟨7, 1, 40, 107⟩ : Room) #[(.ref a1), (.int c1)] h0 (QrmSc0 Z a1 t1 kb N cs c1 zc fm h0 n0) := by
  refine Own.MF.of (own := "java/lang/StringBuilder") (n := 2) rfl rfl pn_31 (fun p e s m below meth c s₁ hml hlk hret hnm P0 => ?_)
  rw [show entryFrame m #[(.ref a1), (.int c1)] 2 = mkF m 0 #[.val (.ref a1), .val (.int c1)] [] from by first | (simp [entryFrame, mkF, argsToLocals, Value.category]; done) | rfl]
  refine Own.aloadN (q := 1) P0 (dc s30 0 rfl) rfl rfl rfl ?_
  refine Own.iloadN (q := 2) P0 (dc s30 1 rfl) rfl rfl ?_
  refine Own.invSuper (q := 5) (W := 0) (y := (⟨"java/lang/AbstractStringBuilder", "append", "(C)Ljava/lang/AbstractStringBuilder;"⟩ : MethodName)) (a := a1) (argsL := [(.int c1)]) (rest := []) P0 (dc s30 2 rfl) (by decide) (wd hw 179 rfl) (Own.sameOwn (y := (⟨"java/lang/AbstractStringBuilder", "append", "(C)Ljava/lang/AbstractStringBuilder;"⟩ : MethodName)) (wd hw 180 rfl) (wd hw 200 rfl) (wd hw 201 rfl) rfl (by decide)) (wd hw 180 rfl) (wd hw 99 rfl) (wd hw 182 rfl) (Own.mfBack (W := 0) (rmAc0 l Z a0 hw [] a1 t1 kb N cs c1 zc fm h0 n0 Z0 SC hzc SF hfm SA SH SL E_a1 f1 f2 f3 f4 A_t hN hcN hp hlt hc g_a1 g_t1) P0.2.2.2.1 (wd hw 182 rfl) (wd hw 84 rfl) (by decide) (by decide)) E_a1 rfl rfl (hml rfl) (lenOf pd_16 rfl) (Own.w0 rfl) (by decide) (by decide) rfl ?_
  rintro v21 T21 h21 L21 ⟨rfl, N21q, K21, X21⟩ P21
  have N21 := Fr.app (Fr.nil n0) N21q
  refine Own.pop (q := 6) P21 (dc s30 3 rfl) rfl rfl ?_
  refine Own.aloadN (q := 7) P21 (dc s30 4 rfl) rfl rfl rfl ?_
  refine Own.retA P21 (dc s30 5 rfl) hret rfl rfl rfl hlk (by decide) (by decide) ?_
  exact ⟨rfl, N21, K21, X21⟩
theorem pd_17 : parseMethodDescriptor "()V" = some ⟨[], none⟩ := by decide +kernel
theorem vw_20 {Z : State} {a0 : Array Value} (hw : HW a0 Z) : Own.VW Z a0 "java/lang/StringBuilder" ⟨"java/lang/AbstractStringBuilder", "inflate", "()V"⟩ ⟨"java/lang/AbstractStringBuilder", "inflate", "()V"⟩ jdk_68_method_11_code 2 none 0 := ⟨(Own.declOf (wd hw 271 rfl) (wd hw 274 rfl)), (wd hw 273 rfl), (wd hw 271 rfl), (wd hw 84 rfl), (wd hw 274 rfl), by decide, _, _, pd_17, rfl⟩
theorem sw_21 {Z : State} {a0 : Array Value} (hw : HW a0 Z) : Own.SW Z a0 ⟨"java/lang/StringUTF16", "putCharSB", "([BII)V"⟩ jdk_52_method_71_code 3 none 3 := ⟨(wd hw 292 rfl), (wd hw 41 rfl), (wd hw 293 rfl), by decide, _, _, pd_12, rfl⟩
theorem s31 : decs jdk_68_method_31_code [(45, .aload_n 0, 1), (46, .invokevirtual 83, 3), (49, .ifCond .eq 7, 3), (52, .aload_n 0, 1), (53, .invokevirtual 195, 3), (56, .aload_n 0, 1), (57, .getfield 15, 3), (60, .aload_n 0, 1), (61, .dup, 1), (62, .getfield 79, 3), (65, .dup_x1, 1), (66, .iconst 1, 1), (67, .iadd, 1), (68, .putfield 79, 3), (71, .iload_n 1, 1), (72, .invokestatic 197, 3)] = true := by decide +kernel
def QrmAc2 (Z : State) (a1 : Addr) (t1 : Addr) (kb : ClassId) (N : Nat) (cs : List Int32) (c1 : Int32) (zc : Int32) (fm : Value) (h0 : Heap) (n0 : Nat) (v : Option Value) (h : Heap) (L : List Loc) : Prop := v = some (.ref a1) ∧ Fr n0 L ∧ Keep h0 h [a1] ∧ ∃ t k, h0.size ≤ t ∧ Exa Z h a1 "java/lang/StringBuilder" ∧ Own.Bf Z h a1 "value" "[B" (.ref t) ∧ Own.Bf Z h a1 "coder" "B" (.int 1) ∧ Own.Bf Z h a1 "count" "I" (.int (Int32.ofNat (cs ++ [c1]).length)) ∧ Own.Bf Z h a1 "maybeLatin1" "Z" (.int 0) ∧ Own.U16 Z h t k N ((cs ++ [c1]) ++ List.replicate (N - (cs ++ [c1]).length) (0 : Int32))
theorem rmAc2 (l : Launch) (Z : State) (a0 : Array Value) (hw : HW a0 Z) (ws : List Jvm.Cond) (a1 : Addr) (t1 : Addr) (kb : ClassId) (N : Nat) (cs : List Int32) (c1 : Int32) (zc : Int32) (fm : Value) (h0 : Heap) (n0 : Nat) (Z0 : n0 ≤ h0.size) (SC : Own.Cst Z h0 zc) (hzc : ¬ zc = 0) (SF : Own.Fst Z h0 fm) (hfm : fm.isRef = true) (SA : Own.Ads Z h0) (SH : Own.Hib Z h0) (SL : Own.Lob Z h0) (E_a1 : Exa Z h0 a1 "java/lang/StringBuilder") (f1 : Own.Bf Z h0 a1 "value" "[B" (.ref t1)) (f2 : Own.Bf Z h0 a1 "coder" "B" (.int 0)) (f3 : Own.Bf Z h0 a1 "count" "I" (.int (Int32.ofNat cs.length))) (f4 : Own.Bf Z h0 a1 "maybeLatin1" "Z" (.int 0)) (A_t : Arv Z h0 t1 kb .byte (Int32.ofNat N) (((cs.map fun c : Int32 => c.toInt8.toInt32).map Value.int) ++ List.replicate (N - cs.length) (Value.int 0)) (.int 0)) (hN : N ≤ 20) (hcN : cs.length ≤ N) (hp : ∀ c ∈ cs, ¬ c < 0 ∧ ¬ (255 : Int32) < c) (hlt : cs.length < N) (hc : Own.Ch c1 ∧ (255 : Int32) < c1) (g_a1 : n0 ≤ a1) (g_t1 : n0 ≤ t1) :
    Own.MF l Z (⟨"java/lang/AbstractStringBuilder", "append", "(C)Ljava/lang/AbstractStringBuilder;"⟩ : MethodName) jdk_68_method_31_code 2 (some (.object "java/lang/AbstractStringBuilder")) ws (⟨6, 1, 40, 94⟩ : Room) #[(.ref a1), (.int c1)] h0 (QrmAc2 Z a1 t1 kb N cs c1 zc fm h0 n0) := by
  refine Own.MF.of (own := "java/lang/AbstractStringBuilder") (n := 2) rfl rfl pn_32 (fun p e s m below meth c s₁ hml hlk hret hnm P0 => ?_)
  rw [show entryFrame m #[(.ref a1), (.int c1)] 2 = mkF m 0 #[.val (.ref a1), .val (.int c1)] [] from by first | (simp [entryFrame, mkF, argsToLocals, Value.category]; done) | rfl]
  refine Own.aloadN (q := 1) P0 (dc s29 0 rfl) rfl rfl rfl ?_
  refine Own.aloadN (q := 2) P0 (dc s29 1 rfl) rfl rfl rfl ?_
  refine Own.getfield (q := 5) P0 (dc s29 2 rfl) (wd hw 114 rfl) f3 rfl ?_
  intro T21 P21
  refine Own.iconst (q := 6) (v := (1 : Int32)) P21 (dc s29 3 rfl) rfl rfl ?_
  refine Own.iadd (q := 7) P21 (dc s29 4 rfl)  rfl ?_
  rw [show ((Int32.ofNat cs.length) + (1 : Int32)) = (Int32.ofNat (cs.length + 1)) from (Int32.ofNat_add cs.length 1).symm]
  refine Own.cV (q := 10) (W := 0) (rest := []) P21 (dc s29 5 rfl) (wd hw 116 rfl) (vw_18 hw) (Own.nfs P21 (wd hw 119 rfl)) E_a1 (rmEn0 l Z a0 hw [] a1 t1 kb N cs (cs.length + 1) h0 n0 Z0 f1 f2 f3 f4 A_t hN hlt) (by decide) (by decide) rfl (hml rfl) rfl rfl (by decide) (by decide) rfl ?_
  rintro v22 T22 h22 L22 ⟨rfl, N22q, e22⟩ P22
  rw [e22] at P22
  have N22 := Fr.app (Fr.nil n0) N22q
  refine Own.aloadN (q := 11) P22 (dc s29 6 rfl) rfl rfl rfl ?_
  refine Own.cV (q := 14) (W := 0) (rest := []) P22 (dc s29 7 rfl) (wd hw 127 rfl) (vw_15 hw) (Own.nfs P22 (wd hw 130 rfl)) E_a1 (rmIl0 l Z a0 hw [] a1 zc h0 n0 Z0 SC hzc f2) (by decide) (by decide) rfl (hml rfl) rfl rfl (by decide) (by decide) rfl ?_
  rintro v23 T23 h23 L23 ⟨rfl, N23q, e23⟩ P23
  rw [e23] at P23
  have N23 := Fr.app N22 N23q
  refine Own.if_eq (q := 17) (qy := 45) P23 (dc s29 8 rfl) (by decide) rfl (fun q => absurd q (by decide)) (fun _ => ?_)
  refine Own.iloadN (q := 18) P23 (dc s29 9 rfl) rfl rfl ?_
  refine Own.cS (q := 21) (W := 0) (rest := []) P23 (dc s29 10 rfl) (wd hw 183 rfl) (sw_19 hw) (rmCan0 l Z a0 hw [] c1 h0 n0 Z0 hc.2) (by decide) (by decide) rfl (hml rfl) rfl rfl (by decide) (by decide) rfl ?_
  rintro v24 T24 h24 L24 ⟨rfl, N24q, e24⟩ P24
  rw [e24] at P24
  have N24 := Fr.app N23 N24q
  refine Own.if_eq (q := 24) (qy := 45) P24 (dc s29 11 rfl) (by decide) rfl (fun _ => ?_) (fun q => absurd rfl q)
  refine Own.aloadN (q := 46) P24 (dc s31 0 rfl) rfl rfl rfl ?_
  refine Own.cV (q := 49) (W := 0) (rest := []) P24 (dc s31 1 rfl) (wd hw 127 rfl) (vw_15 hw) (Own.nfs P24 (wd hw 130 rfl)) E_a1 (rmIl0 l Z a0 hw [] a1 zc h0 n0 Z0 SC hzc f2) (by decide) (by decide) rfl (hml rfl) rfl rfl (by decide) (by decide) rfl ?_
  rintro v25 T25 h25 L25 ⟨rfl, N25q, e25⟩ P25
  rw [e25] at P25
  have N25 := Fr.app N24 N25q
  refine Own.if_eq (q := 52) (qy := 56) P25 (dc s31 2 rfl) (by decide) rfl (fun q => absurd q (by decide)) (fun _ => ?_)
  refine Own.aloadN (q := 53) P25 (dc s31 3 rfl) rfl rfl rfl ?_
  refine Own.cV (q := 56) (W := 0) (rest := []) P25 (dc s31 4 rfl) (wd hw 270 rfl) (vw_20 hw) (Own.nfs P25 (wd hw 273 rfl)) E_a1 (rmInfl l Z a0 hw [] a1 t1 kb N cs zc fm h0 n0 Z0 SC hzc SF hfm SA SH SL E_a1 f1 f2 f3 f4 A_t hN hcN hp g_a1) (by decide) (by decide) rfl (hml rfl) rfl rfl (by decide) (by decide) rfl ?_
  rintro v26 T26 h26 L26 ⟨rfl, N26q, K26, t26, k26, gt26, X26, V26, C26, n26, m26, U26⟩ P26
  have N26 := Fr.app N25 N26q
  refine Own.aloadN (q := 57) P26 (dc s31 5 rfl) rfl rfl rfl ?_
  refine Own.getfield (q := 60) P26 (dc s31 6 rfl) (wd hw 88 rfl) V26 rfl ?_
  intro T27 P27
  refine Own.aloadN (q := 61) P27 (dc s31 7 rfl) rfl rfl rfl ?_
  refine Own.dup (q := 62) P27 (dc s31 8 rfl) rfl rfl ?_
  refine Own.getfield (q := 65) P27 (dc s31 9 rfl) (wd hw 114 rfl) n26 rfl ?_
  intro T28 P28
  refine Own.dupX1 (q := 66) P28 (dc s31 10 rfl) rfl rfl rfl ?_
  refine Own.iconst (q := 67) (v := (1 : Int32)) P28 (dc s31 11 rfl) rfl rfl ?_
  refine Own.iadd (q := 68) P28 (dc s31 12 rfl)  rfl ?_
  refine Own.putfield (q := 71) P28 (dc s31 13 rfl) (wd hw 114 rfl) n26 X26 (Or.inl (wd hw 115 rfl)) (wd hw 75 rfl) (ty := .int) (by decide) rfl rfl rfl ?_
  intro T29 h29 lc29 hl29 P29 W29
  have F29_value := V26.other W29 (Or.inr (slot_ne (Or.inl (wd hw 89 rfl)) (Or.inl (wd hw 115 rfl)) (by decide) (t := (.array .byte)) (t' := .int) (by decide) (by decide)))
  have F29_coder := C26.other W29 (Or.inr (slot_ne (Or.inl (wd hw 91 rfl)) (Or.inl (wd hw 115 rfl)) (by decide) (t := .byte) (t' := .int) (by decide) (by decide)))
  have F29_count := Fld.same W29 n26
  have F29_maybeLatin1 := m26.other W29 (Or.inr (slot_ne (Or.inl (wd hw 295 rfl)) (Or.inl (wd hw 115 rfl)) (by decide) (t := .boolean) (t' := .int) (by decide) (by decide)))
  have A29 := X26.wr W29
  have N29 := Own.Fr.one N26 hl29 g_a1
  refine Own.iloadN (q := 72) P29 (dc s31 14 rfl) rfl rfl ?_
  have qf30 := (Arv.keep U26.1 (Keep.of_wr W29) (ninS (Ne.symm (Exa.neArv X26 U26.1 (wd hw 75 rfl))) nin0))
  have qf31 := (Own.Sta_kp1 SF K26 E_a1)
  have qf32 := (Sta.wr W29 qf31)
  have qf33 := (Own.Sta_kp1 SA K26 E_a1)
  have qf34 := (Sta.wr W29 qf33)
  have qf35 := (Own.Sta_kp1 SH K26 E_a1)
  have qf36 := (Sta.wr W29 qf35)
  have qf37 := (Own.Sta_kp1 SL K26 E_a1)
  have qf38 := (Sta.wr W29 qf37)
  have Z1_39 : n0 ≤ h26.size := Nat.le_trans Z0 K26.1
  have Z2_40 : n0 ≤ h29.size := by rw [W29.size]; exact Z1_39
  refine Own.cS (q := 75) (W := 0) (rest := []) P29 (dc s31 15 rfl) (wd hw 291 rfl) (sw_21 hw) (rmPsb l Z a0 hw [] t26 k26 N (cs ++ List.replicate (N - cs.length) (0 : Int32)) cs.length c1 fm h29 n0 Z2_40 qf32 hfm qf34 qf36 qf38 ⟨qf30, U26.2⟩ hlt hc.1 (Nat.le_trans Z0 gt26)) (by decide) (by decide) rfl (hml rfl) rfl rfl (by decide) (by decide) rfl ?_
  rintro v41 T41 h41 L41 ⟨rfl, N41q, K41, U41⟩ P41
  have N41 := Fr.app N29 N41q
  rw [Own.vu_set hlt] at U41
  refine Own.aloadN (q := 76) P41 (dc s29 25 rfl) rfl rfl rfl ?_
  have qf42 := (Fld.keep F29_value K41 (ninS (Exa.neArv A29 qf30 (wd hw 75 rfl)) nin0))
  have qf43 := (Fld.keep F29_coder K41 (ninS (Exa.neArv A29 qf30 (wd hw 75 rfl)) nin0))
  have qf44 := (Fld.keep F29_count K41 (ninS (Exa.neArv A29 qf30 (wd hw 75 rfl)) nin0))
  have qf45 := (Fld.keep F29_maybeLatin1 K41 (ninS (Exa.neArv A29 qf30 (wd hw 75 rfl)) nin0))
  refine Own.retA P41 (dc s29 26 rfl) hret rfl rfl rfl hlk (by decide) (by decide) ?_
  exact ⟨rfl, N41, (Keep.trans (Keep.wr (Keep.trans (Keep.refl h0 _) K26 (allS (Or.inl (by simp)) all0)) W29 (Or.inl (by simp))) K41 (allS (Or.inr gt26) all0)), t26, _, gt26, (A29.keep K41), qf42, qf43, by rw [Own.len1]; exact qf44, qf45, U41.1, U41.2⟩

def QrmSc2 (Z : State) (a1 : Addr) (t1 : Addr) (kb : ClassId) (N : Nat) (cs : List Int32) (c1 : Int32) (zc : Int32) (fm : Value) (h0 : Heap) (n0 : Nat) (v : Option Value) (h : Heap) (L : List Loc) : Prop := v = some (.ref a1) ∧ Fr n0 L ∧ Keep h0 h [a1] ∧ ∃ t k, h0.size ≤ t ∧ Exa Z h a1 "java/lang/StringBuilder" ∧ Own.Bf Z h a1 "value" "[B" (.ref t) ∧ Own.Bf Z h a1 "coder" "B" (.int 1) ∧ Own.Bf Z h a1 "count" "I" (.int (Int32.ofNat (cs ++ [c1]).length)) ∧ Own.Bf Z h a1 "maybeLatin1" "Z" (.int 0) ∧ Own.U16 Z h t k N ((cs ++ [c1]) ++ List.replicate (N - (cs ++ [c1]).length) (0 : Int32))
theorem rmSc2 (l : Launch) (Z : State) (a0 : Array Value) (hw : HW a0 Z) (ws : List Jvm.Cond) (a1 : Addr) (t1 : Addr) (kb : ClassId) (N : Nat) (cs : List Int32) (c1 : Int32) (zc : Int32) (fm : Value) (h0 : Heap) (n0 : Nat) (Z0 : n0 ≤ h0.size) (SC : Own.Cst Z h0 zc) (hzc : ¬ zc = 0) (SF : Own.Fst Z h0 fm) (hfm : fm.isRef = true) (SA : Own.Ads Z h0) (SH : Own.Hib Z h0) (SL : Own.Lob Z h0) (E_a1 : Exa Z h0 a1 "java/lang/StringBuilder") (f1 : Own.Bf Z h0 a1 "value" "[B" (.ref t1)) (f2 : Own.Bf Z h0 a1 "coder" "B" (.int 0)) (f3 : Own.Bf Z h0 a1 "count" "I" (.int (Int32.ofNat cs.length))) (f4 : Own.Bf Z h0 a1 "maybeLatin1" "Z" (.int 0)) (A_t : Arv Z h0 t1 kb .byte (Int32.ofNat N) (((cs.map fun c : Int32 => c.toInt8.toInt32).map Value.int) ++ List.replicate (N - cs.length) (Value.int 0)) (.int 0)) (hN : N ≤ 20) (hcN : cs.length ≤ N) (hp : ∀ c ∈ cs, ¬ c < 0 ∧ ¬ (255 : Int32) < c) (hlt : cs.length < N) (hc : Own.Ch c1 ∧ (255 : Int32) < c1) (g_a1 : n0 ≤ a1) (g_t1 : n0 ≤ t1) :
    Own.MF l Z (⟨"java/lang/StringBuilder", "append", "(C)Ljava/lang/StringBuilder;"⟩ : MethodName) jdk_67_method_14_code 2 (some (.object "java/lang/StringBuilder")) ws (⟨7, 1, 40, 107⟩ : Room) #[(.ref a1), (.int c1)] h0 (QrmSc2 Z a1 t1 kb N cs c1 zc fm h0 n0) := by
  refine Own.MF.of (own := "java/lang/StringBuilder") (n := 2) rfl rfl pn_31 (fun p e s m below meth c s₁ hml hlk hret hnm P0 => ?_)
  rw [show entryFrame m #[(.ref a1), (.int c1)] 2 = mkF m 0 #[.val (.ref a1), .val (.int c1)] [] from by first | (simp [entryFrame, mkF, argsToLocals, Value.category]; done) | rfl]
  refine Own.aloadN (q := 1) P0 (dc s30 0 rfl) rfl rfl rfl ?_
  refine Own.iloadN (q := 2) P0 (dc s30 1 rfl) rfl rfl ?_
  refine Own.invSuper (q := 5) (W := 0) (y := (⟨"java/lang/AbstractStringBuilder", "append", "(C)Ljava/lang/AbstractStringBuilder;"⟩ : MethodName)) (a := a1) (argsL := [(.int c1)]) (rest := []) P0 (dc s30 2 rfl) (by decide) (wd hw 179 rfl) (Own.sameOwn (y := (⟨"java/lang/AbstractStringBuilder", "append", "(C)Ljava/lang/AbstractStringBuilder;"⟩ : MethodName)) (wd hw 180 rfl) (wd hw 200 rfl) (wd hw 201 rfl) rfl (by decide)) (wd hw 180 rfl) (wd hw 99 rfl) (wd hw 182 rfl) (Own.mfBack (W := 0) (rmAc2 l Z a0 hw [] a1 t1 kb N cs c1 zc fm h0 n0 Z0 SC hzc SF hfm SA SH SL E_a1 f1 f2 f3 f4 A_t hN hcN hp hlt hc g_a1 g_t1) P0.2.2.2.1 (wd hw 182 rfl) (wd hw 84 rfl) (by decide) (by decide)) E_a1 rfl rfl (hml rfl) (lenOf pd_16 rfl) (Own.w0 rfl) (by decide) (by decide) rfl ?_
  rintro v21 T21 h21 L21 ⟨rfl, N21q, K21, X21⟩ P21
  have N21 := Fr.app (Fr.nil n0) N21q
  refine Own.pop (q := 6) P21 (dc s30 3 rfl) rfl rfl ?_
  refine Own.aloadN (q := 7) P21 (dc s30 4 rfl) rfl rfl rfl ?_
  refine Own.retA P21 (dc s30 5 rfl) hret rfl rfl rfl hlk (by decide) (by decide) ?_
  exact ⟨rfl, N21, K21, X21⟩

def QrmAc1 (Z : State) (a1 : Addr) (t1 : Addr) (kb : ClassId) (N : Nat) (cs : List Int32) (c1 : Int32) (zc : Int32) (fm : Value) (h0 : Heap) (n0 : Nat) (v : Option Value) (h : Heap) (L : List Loc) : Prop := v = some (.ref a1) ∧ Fr n0 L ∧ Keep h0 h [a1, t1] ∧ Exa Z h a1 "java/lang/StringBuilder" ∧ Own.Bf Z h a1 "value" "[B" (.ref t1) ∧ Own.Bf Z h a1 "coder" "B" (.int 1) ∧ Own.Bf Z h a1 "count" "I" (.int (Int32.ofNat (cs ++ [c1]).length)) ∧ Own.Bf Z h a1 "maybeLatin1" "Z" (.int 0) ∧ Own.U16 Z h t1 kb N ((cs ++ [c1]) ++ List.replicate (N - (cs ++ [c1]).length) (0 : Int32))
theorem rmAc1 (l : Launch) (Z : State) (a0 : Array Value) (hw : HW a0 Z) (ws : List Jvm.Cond) (a1 : Addr) (t1 : Addr) (kb : ClassId) (N : Nat) (cs : List Int32) (c1 : Int32) (zc : Int32) (fm : Value) (h0 : Heap) (n0 : Nat) (Z0 : n0 ≤ h0.size) (SC : Own.Cst Z h0 zc) (hzc : ¬ zc = 0) (SF : Own.Fst Z h0 fm) (hfm : fm.isRef = true) (SA : Own.Ads Z h0) (SH : Own.Hib Z h0) (SL : Own.Lob Z h0) (E_a1 : Exa Z h0 a1 "java/lang/StringBuilder") (f1 : Own.Bf Z h0 a1 "value" "[B" (.ref t1)) (f2 : Own.Bf Z h0 a1 "coder" "B" (.int 1)) (f3 : Own.Bf Z h0 a1 "count" "I" (.int (Int32.ofNat cs.length))) (f4 : Own.Bf Z h0 a1 "maybeLatin1" "Z" (.int 0)) (A_t : Own.U16 Z h0 t1 kb N (cs ++ List.replicate (N - cs.length) (0 : Int32))) (hN : N ≤ 20) (hcN : cs.length ≤ N) (hlt : cs.length < N) (hc : Own.Ch c1) (g_a1 : n0 ≤ a1) (g_t1 : n0 ≤ t1) :
    Own.MF l Z (⟨"java/lang/AbstractStringBuilder", "append", "(C)Ljava/lang/AbstractStringBuilder;"⟩ : MethodName) jdk_68_method_31_code 2 (some (.object "java/lang/AbstractStringBuilder")) ws (⟨4, 0, 0, 60⟩ : Room) #[(.ref a1), (.int c1)] h0 (QrmAc1 Z a1 t1 kb N cs c1 zc fm h0 n0) := by
  refine Own.MF.of (own := "java/lang/AbstractStringBuilder") (n := 2) rfl rfl pn_32 (fun p e s m below meth c s₁ hml hlk hret hnm P0 => ?_)
  rw [show entryFrame m #[(.ref a1), (.int c1)] 2 = mkF m 0 #[.val (.ref a1), .val (.int c1)] [] from by first | (simp [entryFrame, mkF, argsToLocals, Value.category]; done) | rfl]
  refine Own.aloadN (q := 1) P0 (dc s29 0 rfl) rfl rfl rfl ?_
  refine Own.aloadN (q := 2) P0 (dc s29 1 rfl) rfl rfl rfl ?_
  refine Own.getfield (q := 5) P0 (dc s29 2 rfl) (wd hw 114 rfl) f3 rfl ?_
  intro T21 P21
  refine Own.iconst (q := 6) (v := (1 : Int32)) P21 (dc s29 3 rfl) rfl rfl ?_
  refine Own.iadd (q := 7) P21 (dc s29 4 rfl)  rfl ?_
  rw [show ((Int32.ofNat cs.length) + (1 : Int32)) = (Int32.ofNat (cs.length + 1)) from (Int32.ofNat_add cs.length 1).symm]
  refine Own.cV (q := 10) (W := 0) (rest := []) P21 (dc s29 5 rfl) (wd hw 116 rfl) (vw_18 hw) (Own.nfs P21 (wd hw 119 rfl)) E_a1 (rmEn1 l Z a0 hw [] a1 t1 kb N cs (cs.length + 1) h0 n0 Z0 f1 f2 f3 f4 A_t hN hlt) (by decide) (by decide) rfl (hml rfl) rfl rfl (by decide) (by decide) rfl ?_
  rintro v22 T22 h22 L22 ⟨rfl, N22q, e22⟩ P22
  rw [e22] at P22
  have N22 := Fr.app (Fr.nil n0) N22q
  refine Own.aloadN (q := 11) P22 (dc s29 6 rfl) rfl rfl rfl ?_
  refine Own.cV (q := 14) (W := 0) (rest := []) P22 (dc s29 7 rfl) (wd hw 127 rfl) (vw_15 hw) (Own.nfs P22 (wd hw 130 rfl)) E_a1 (rmIl1 l Z a0 hw [] a1 zc h0 n0 Z0 SC hzc f2) (by decide) (by decide) rfl (hml rfl) rfl rfl (by decide) (by decide) rfl ?_
  rintro v23 T23 h23 L23 ⟨rfl, N23q, e23⟩ P23
  rw [e23] at P23
  have N23 := Fr.app N22 N23q
  refine Own.if_eq (q := 17) (qy := 45) P23 (dc s29 8 rfl) (by decide) rfl (fun _ => ?_) (fun q => absurd rfl q)
  refine Own.aloadN (q := 46) P23 (dc s31 0 rfl) rfl rfl rfl ?_
  refine Own.cV (q := 49) (W := 0) (rest := []) P23 (dc s31 1 rfl) (wd hw 127 rfl) (vw_15 hw) (Own.nfs P23 (wd hw 130 rfl)) E_a1 (rmIl1 l Z a0 hw [] a1 zc h0 n0 Z0 SC hzc f2) (by decide) (by decide) rfl (hml rfl) rfl rfl (by decide) (by decide) rfl ?_
  rintro v24 T24 h24 L24 ⟨rfl, N24q, e24⟩ P24
  rw [e24] at P24
  have N24 := Fr.app N23 N24q
  refine Own.if_eq (q := 52) (qy := 56) P24 (dc s31 2 rfl) (by decide) rfl (fun _ => ?_) (fun q => absurd rfl q)
  refine Own.aloadN (q := 57) P24 (dc s31 5 rfl) rfl rfl rfl ?_
  refine Own.getfield (q := 60) P24 (dc s31 6 rfl) (wd hw 88 rfl) f1 rfl ?_
  intro T25 P25
  refine Own.aloadN (q := 61) P25 (dc s31 7 rfl) rfl rfl rfl ?_
  refine Own.dup (q := 62) P25 (dc s31 8 rfl) rfl rfl ?_
  refine Own.getfield (q := 65) P25 (dc s31 9 rfl) (wd hw 114 rfl) f3 rfl ?_
  intro T26 P26
  refine Own.dupX1 (q := 66) P26 (dc s31 10 rfl) rfl rfl rfl ?_
  refine Own.iconst (q := 67) (v := (1 : Int32)) P26 (dc s31 11 rfl) rfl rfl ?_
  refine Own.iadd (q := 68) P26 (dc s31 12 rfl)  rfl ?_
  refine Own.putfield (q := 71) P26 (dc s31 13 rfl) (wd hw 114 rfl) f3 E_a1 (Or.inl (wd hw 115 rfl)) (wd hw 75 rfl) (ty := .int) (by decide) rfl rfl rfl ?_
  intro T27 h27 lc27 hl27 P27 W27
  have F27_value := f1.other W27 (Or.inr (slot_ne (Or.inl (wd hw 89 rfl)) (Or.inl (wd hw 115 rfl)) (by decide) (t := (.array .byte)) (t' := .int) (by decide) (by decide)))
  have F27_coder := f2.other W27 (Or.inr (slot_ne (Or.inl (wd hw 91 rfl)) (Or.inl (wd hw 115 rfl)) (by decide) (t := .byte) (t' := .int) (by decide) (by decide)))
  have F27_count := Fld.same W27 f3
  have F27_maybeLatin1 := f4.other W27 (Or.inr (slot_ne (Or.inl (wd hw 295 rfl)) (Or.inl (wd hw 115 rfl)) (by decide) (t := .boolean) (t' := .int) (by decide) (by decide)))
  have A27 := E_a1.wr W27
  have N27 := Own.Fr.one N24 hl27 g_a1
  refine Own.iloadN (q := 72) P27 (dc s31 14 rfl) rfl rfl ?_
  have qf28 := (Arv.keep A_t.1 (Keep.of_wr W27) (ninS (Ne.symm (Exa.neArv E_a1 A_t.1 (wd hw 75 rfl))) nin0))
  have qf29 := (Sta.wr W27 SF)
  have qf30 := (Sta.wr W27 SA)
  have qf31 := (Sta.wr W27 SH)
  have qf32 := (Sta.wr W27 SL)
  have Z1_33 : n0 ≤ h27.size := by rw [W27.size]; exact Z0
  refine Own.cS (q := 75) (W := 0) (rest := []) P27 (dc s31 15 rfl) (wd hw 291 rfl) (sw_21 hw) (rmPsb l Z a0 hw [] t1 kb N (cs ++ List.replicate (N - cs.length) (0 : Int32)) cs.length c1 fm h27 n0 Z1_33 qf29 hfm qf30 qf31 qf32 ⟨qf28, A_t.2⟩ hlt hc g_t1) (by decide) (by decide) rfl (hml rfl) rfl rfl (by decide) (by decide) rfl ?_
  rintro v34 T34 h34 L34 ⟨rfl, N34q, K34, U34⟩ P34
  have N34 := Fr.app N27 N34q
  rw [Own.vu_set hlt] at U34
  refine Own.aloadN (q := 76) P34 (dc s29 25 rfl) rfl rfl rfl ?_
  have qf35 := (Fld.keep F27_value K34 (ninS (Exa.neArv A27 qf28 (wd hw 75 rfl)) nin0))
  have qf36 := (Fld.keep F27_coder K34 (ninS (Exa.neArv A27 qf28 (wd hw 75 rfl)) nin0))
  have qf37 := (Fld.keep F27_count K34 (ninS (Exa.neArv A27 qf28 (wd hw 75 rfl)) nin0))
  have qf38 := (Fld.keep F27_maybeLatin1 K34 (ninS (Exa.neArv A27 qf28 (wd hw 75 rfl)) nin0))
  refine Own.retA P34 (dc s29 26 rfl) hret rfl rfl rfl hlk (by decide) (by decide) ?_
  exact ⟨rfl, N34, (Keep.trans (Keep.wr (Keep.refl h0 _) W27 (Or.inl (by simp))) K34 (allS (Or.inl (by simp)) all0)), (A27.keep K34), qf35, qf36, by rw [Own.len1]; exact qf37, qf38, U34.1, U34.2⟩

def QrmSc1 (Z : State) (a1 : Addr) (t1 : Addr) (kb : ClassId) (N : Nat) (cs : List Int32) (c1 : Int32) (zc : Int32) (fm : Value) (h0 : Heap) (n0 : Nat) (v : Option Value) (h : Heap) (L : List Loc) : Prop := v = some (.ref a1) ∧ Fr n0 L ∧ Keep h0 h [a1, t1] ∧ Exa Z h a1 "java/lang/StringBuilder" ∧ Own.Bf Z h a1 "value" "[B" (.ref t1) ∧ Own.Bf Z h a1 "coder" "B" (.int 1) ∧ Own.Bf Z h a1 "count" "I" (.int (Int32.ofNat (cs ++ [c1]).length)) ∧ Own.Bf Z h a1 "maybeLatin1" "Z" (.int 0) ∧ Own.U16 Z h t1 kb N ((cs ++ [c1]) ++ List.replicate (N - (cs ++ [c1]).length) (0 : Int32))
theorem rmSc1 (l : Launch) (Z : State) (a0 : Array Value) (hw : HW a0 Z) (ws : List Jvm.Cond) (a1 : Addr) (t1 : Addr) (kb : ClassId) (N : Nat) (cs : List Int32) (c1 : Int32) (zc : Int32) (fm : Value) (h0 : Heap) (n0 : Nat) (Z0 : n0 ≤ h0.size) (SC : Own.Cst Z h0 zc) (hzc : ¬ zc = 0) (SF : Own.Fst Z h0 fm) (hfm : fm.isRef = true) (SA : Own.Ads Z h0) (SH : Own.Hib Z h0) (SL : Own.Lob Z h0) (E_a1 : Exa Z h0 a1 "java/lang/StringBuilder") (f1 : Own.Bf Z h0 a1 "value" "[B" (.ref t1)) (f2 : Own.Bf Z h0 a1 "coder" "B" (.int 1)) (f3 : Own.Bf Z h0 a1 "count" "I" (.int (Int32.ofNat cs.length))) (f4 : Own.Bf Z h0 a1 "maybeLatin1" "Z" (.int 0)) (A_t : Own.U16 Z h0 t1 kb N (cs ++ List.replicate (N - cs.length) (0 : Int32))) (hN : N ≤ 20) (hcN : cs.length ≤ N) (hlt : cs.length < N) (hc : Own.Ch c1) (g_a1 : n0 ≤ a1) (g_t1 : n0 ≤ t1) :
    Own.MF l Z (⟨"java/lang/StringBuilder", "append", "(C)Ljava/lang/StringBuilder;"⟩ : MethodName) jdk_67_method_14_code 2 (some (.object "java/lang/StringBuilder")) ws (⟨7, 1, 40, 107⟩ : Room) #[(.ref a1), (.int c1)] h0 (QrmSc1 Z a1 t1 kb N cs c1 zc fm h0 n0) := by
  refine Own.MF.of (own := "java/lang/StringBuilder") (n := 2) rfl rfl pn_31 (fun p e s m below meth c s₁ hml hlk hret hnm P0 => ?_)
  rw [show entryFrame m #[(.ref a1), (.int c1)] 2 = mkF m 0 #[.val (.ref a1), .val (.int c1)] [] from by first | (simp [entryFrame, mkF, argsToLocals, Value.category]; done) | rfl]
  refine Own.aloadN (q := 1) P0 (dc s30 0 rfl) rfl rfl rfl ?_
  refine Own.iloadN (q := 2) P0 (dc s30 1 rfl) rfl rfl ?_
  refine Own.invSuper (q := 5) (W := 0) (y := (⟨"java/lang/AbstractStringBuilder", "append", "(C)Ljava/lang/AbstractStringBuilder;"⟩ : MethodName)) (a := a1) (argsL := [(.int c1)]) (rest := []) P0 (dc s30 2 rfl) (by decide) (wd hw 179 rfl) (Own.sameOwn (y := (⟨"java/lang/AbstractStringBuilder", "append", "(C)Ljava/lang/AbstractStringBuilder;"⟩ : MethodName)) (wd hw 180 rfl) (wd hw 200 rfl) (wd hw 201 rfl) rfl (by decide)) (wd hw 180 rfl) (wd hw 99 rfl) (wd hw 182 rfl) (Own.mfBack (W := 0) (rmAc1 l Z a0 hw [] a1 t1 kb N cs c1 zc fm h0 n0 Z0 SC hzc SF hfm SA SH SL E_a1 f1 f2 f3 f4 A_t hN hcN hlt hc g_a1 g_t1) P0.2.2.2.1 (wd hw 182 rfl) (wd hw 84 rfl) (by decide) (by decide)) E_a1 rfl rfl (hml rfl) (lenOf pd_16 rfl) (Own.w0 rfl) (by decide) (by decide) rfl ?_
  rintro v21 T21 h21 L21 ⟨rfl, N21q, K21, X21⟩ P21
  have N21 := Fr.app (Fr.nil n0) N21q
  refine Own.pop (q := 6) P21 (dc s30 3 rfl) rfl rfl ?_
  refine Own.aloadN (q := 7) P21 (dc s30 4 rfl) rfl rfl rfl ?_
  refine Own.retA P21 (dc s30 5 rfl) hret rfl rfl rfl hlk (by decide) (by decide) ?_
  exact ⟨rfl, N21, K21, X21⟩

def QrmCod (Z : State) (a1 : Addr) (zc : Int32) (h0 : Heap) (n0 : Nat) (v : Option Value) (h : Heap) (L : List Loc) : Prop := v = some (.int 0) ∧ Fr n0 L ∧ h = h0
theorem rmCod (l : Launch) (Z : State) (a0 : Array Value) (hw : HW a0 Z) (ws : List Jvm.Cond) (a1 : Addr) (zc : Int32) (h0 : Heap) (n0 : Nat) (Z0 : n0 ≤ h0.size) (SC : Own.Cst Z h0 zc) (hzc : ¬ zc = 0) (f1 : Fld Z h0 a1 "java/lang/String" "coder" "B" (.int 0)) :
    Own.MF l Z (⟨"java/lang/String", "coder", "()B"⟩ : MethodName) jdk_42_method_152_code 1 (some .byte) ws (⟨0, 0, 0, 0⟩ : Room) #[(.ref a1)] h0 (QrmCod Z a1 zc h0 n0) := by
  refine Own.MF.of (own := "java/lang/String") (n := 1) rfl rfl pn_6 (fun p e s m below meth c s₁ hml hlk hret hnm P0 => ?_)
  rw [show entryFrame m #[(.ref a1)] 1 = mkF m 0 #[.val (.ref a1)] [] from by first | (simp [entryFrame, mkF, argsToLocals, Value.category]; done) | rfl]
  refine Own.getstatic (q := 3) P0 (dc s11 0 rfl) (wd hw 37 rfl) SC rfl ?_
  intro T21 P21
  refine Own.if_eq (q := 6) (qy := 13) P21 (dc s11 1 rfl) (by decide) rfl (fun q => absurd q hzc) (fun _ => ?_)
  refine Own.aloadN (q := 7) P21 (dc s11 2 rfl) rfl rfl rfl ?_
  refine Own.getfield (q := 10) P21 (dc s11 3 rfl) (wd hw 22 rfl) f1 rfl ?_
  intro T22 P22
  refine Own.goto (q := 14) P22 (dc s11 4 rfl) (by decide) ?_
  refine Own.retZ P22 (dc s11 5 rfl) hret (by simp) hlk (by decide) (by decide) ?_
  exact ⟨rfl, (Fr.nil n0), rfl⟩
theorem s32 : decs jdk_42_method_147_code [(0, .aload_n 0, 1), (1, .invokevirtual 335, 3), (4, .iload_n 3, 1), (5, .if_icmp .ne 23, 3), (8, .aload_n 0, 1), (9, .getfield 9, 3), (12, .iconst 0, 1), (13, .aload_n 1, 1), (14, .iload_n 2, 1), (15, .iload_n 3, 1), (16, .ishl, 1), (17, .aload_n 0, 1), (18, .getfield 9, 3), (21, .arraylength, 1), (22, .invokestatic 212, 3), (25, .goto 18, 3), (43, .return_, 1)] = true := by decide +kernel
theorem pn_29 : plainFor (⟨"java/lang/String", "getBytes", "([BIB)V"⟩ : MethodName) = true := by first | exact plainFor_of_name (by first | (simp [plainName, overriddenIn]; done) | decide +kernel) | decide +kernel
def QrmGb0 (Z : State) (a1 : Addr) (t1 : Addr) (kb : ClassId) (N : Nat) (vd : List Value) (ds : List Int32) (pos : Nat) (zc : Int32) (fm : Value) (h0 : Heap) (n0 : Nat) (v : Option Value) (h : Heap) (L : List Loc) : Prop := v = none ∧ Fr n0 L ∧ Keep h0 h [t1] ∧ Arv Z h t1 kb .byte (Int32.ofNat N) (vd.take pos ++ ((ds.map fun c : Int32 => c.toInt8.toInt32).map Value.int) ++ vd.drop (pos + ds.length)) (.int 0)
theorem rmGb0 (l : Launch) (Z : State) (a0 : Array Value) (hw : HW a0 Z) (ws : List Jvm.Cond) (a1 : Addr) (t1 : Addr) (kb : ClassId) (N : Nat) (vd : List Value) (ds : List Int32) (pos : Nat) (zc : Int32) (fm : Value) (h0 : Heap) (n0 : Nat) (Z0 : n0 ≤ h0.size) (SC : Own.Cst Z h0 zc) (hzc : ¬ zc = 0) (SF : Own.Fst Z h0 fm) (hfm : fm.isRef = true) (SA : Own.Ads Z h0) (SH : Own.Hib Z h0) (SL : Own.Lob Z h0) (S1 : Own.Str Z h0 a1 ds) (A_t : Arv Z h0 t1 kb .byte (Int32.ofNat N) vd (.int 0)) (hpos : pos + ds.length ≤ N) (hN : N ≤ 20) (hN16 : 16 ≤ N) (hd4 : ds.length ≤ 4) (g_t1 : n0 ≤ t1) (hvl : vd.length = N) :
    Own.MF l Z (⟨"java/lang/String", "getBytes", "([BIB)V"⟩ : MethodName) jdk_42_method_147_code 4 none ws (⟨1, 0, 0, 18⟩ : Room) #[(.ref a1), (.ref t1), (.int (Int32.ofNat pos)), (.int (0 : Int32))] h0 (QrmGb0 Z a1 t1 kb N vd ds pos zc fm h0 n0) := by
  refine Own.MF.of (own := "java/lang/String") (n := 4) rfl rfl pn_29 (fun p e s m below meth c s₁ hml hlk hret hnm P0 => ?_)
  rw [show entryFrame m #[(.ref a1), (.ref t1), (.int (Int32.ofNat pos)), (.int (0 : Int32))] 4 = mkF m 0 #[.val (.ref a1), .val (.ref t1), .val (.int (Int32.ofNat pos)), .val (.int (0 : Int32))] [] from by first | (simp [entryFrame, mkF, argsToLocals, Value.category]; done) | rfl]
  refine Own.aloadN (q := 1) P0 (dc s32 0 rfl) rfl rfl rfl ?_
  obtain ⟨⟨t21, kb21, y21a, y21v, y21c, y21b⟩, -, -⟩ := id S1
  refine Own.cV (q := 4) (W := 0) (rest := []) P0 (dc s32 1 rfl) (wd hw 32 rfl) (vw_6 hw) (Own.nfs P0 (wd hw 35 rfl)) S1.exa (rmCod l Z a0 hw [] a1 zc h0 n0 Z0 SC hzc y21c) (by decide) (by decide) rfl (hml rfl) rfl rfl (by decide) (by decide) rfl ?_
  rintro v22 T22 h22 L22 ⟨rfl, N22q, e22⟩ P22
  rw [e22] at P22
  have N22 := Fr.app (Fr.nil n0) N22q
  refine Own.iloadN (q := 5) P22 (dc s32 2 rfl) rfl rfl ?_
  refine Own.icmp_ne (q := 8) (qy := 28) P22 (dc s32 3 rfl) (by decide) rfl (fun q => absurd rfl q) (fun _ => ?_)
  refine Own.aloadN (q := 9) P22 (dc s32 4 rfl) rfl rfl rfl ?_
  refine Own.getfield (q := 12) P22 (dc s32 5 rfl) (wd hw 21 rfl) y21v rfl ?_
  intro T23 P23
  refine Own.iconst (q := 13) (v := (0 : Int32)) P23 (dc s32 6 rfl) rfl rfl ?_
  refine Own.aloadN (q := 14) P23 (dc s32 7 rfl) rfl rfl rfl ?_
  refine Own.iloadN (q := 15) P23 (dc s32 8 rfl) rfl rfl ?_
  refine Own.iloadN (q := 16) P23 (dc s32 9 rfl) rfl rfl ?_
  refine Own.ishl (q := 17) P23 (dc s32 10 rfl)  rfl ?_
  rw [show ((Int32.ofNat pos) <<< ((0 : Int32) &&& 31)) = (Int32.ofNat pos) from Own.shl0 _]
  refine Own.aloadN (q := 18) P23 (dc s32 11 rfl) rfl rfl rfl ?_
  refine Own.getfield (q := 21) P23 (dc s32 12 rfl) (wd hw 21 rfl) y21v rfl ?_
  intro T24 P24
  refine Own.arraylength (q := 22) P24 (dc s32 13 rfl) y21b rfl ?_
  refine Own.copyA (q := 25) (W := 0) (n0 := n0) (d := pos) (j := ds.length) (us := ((ds.map fun c : Int32 => c.toInt8.toInt32).map Value.int)) P24 N22 (dc s32 14 rfl) (wd hw 169 rfl) (wd hw 141 rfl) (wd hw 139 rfl) (wd hw 140 rfl) y21b A_t rfl (by decide) (Own.nneg (by have := hpos; have := hN; omega)) (Own.nneg (by have := hpos; have := hN; omega)) (by decide) (Own.clamp (by have := hpos; have := hN; omega)) (Own.clamp (by have := hpos; have := hN; omega)) (by rw [Own.clamp (by have := hpos; have := hN; omega)]; exact Nat.le_refl _) (by rw [Own.clamp (by omega)]; exact hpos) (Own.range_get2 ds) (by rw [hvl]; exact hpos) g_t1 (hml rfl) (by decide) (Own.w0 rfl) (by decide) rfl ?_
  intro T25 h25 L25 N25 P25 K25 A25
  refine Own.goto (q := 43) P25 (dc s32 15 rfl) (by decide) ?_
  refine Own.retV P25 (dc s32 16 rfl) hret hlk (by decide) (by decide) ?_
  exact ⟨rfl, N25, (Keep.trans (Keep.refl h0 _) K25 (allS (Or.inl (by simp)) all0)), A25⟩
theorem s33 : decs jdk_68_method_71_code [(0, .getstatic 18, 3), (3, .ifCond .eq 18, 3), (6, .aload_n 0, 1), (7, .getfield 22, 3), (10, .aload_n 1, 1), (11, .invokevirtual 40, 3), (14, .if_icmp .eq 7, 3), (21, .return_, 1)] = true := by decide +kernel
theorem pn_28 : plainFor (⟨"java/lang/AbstractStringBuilder", "inflateIfNeededFor", "(Ljava/lang/String;)V"⟩ : MethodName) = true := by first | exact plainFor_of_name (by first | (simp [plainName, overriddenIn]; done) | decide +kernel) | decide +kernel
def QrmIn0 (Z : State) (a1 : Addr) (a2 : Addr) (ds : List Int32) (zc : Int32) (h0 : Heap) (n0 : Nat) (v : Option Value) (h : Heap) (L : List Loc) : Prop := v = none ∧ Fr n0 L ∧ h = h0
theorem rmIn0 (l : Launch) (Z : State) (a0 : Array Value) (hw : HW a0 Z) (ws : List Jvm.Cond) (a1 : Addr) (a2 : Addr) (ds : List Int32) (zc : Int32) (h0 : Heap) (n0 : Nat) (Z0 : n0 ≤ h0.size) (SC : Own.Cst Z h0 zc) (hzc : ¬ zc = 0) (E_a1 : Exa Z h0 a1 "java/lang/StringBuilder") (f2 : Own.Bf Z h0 a1 "coder" "B" (.int 0)) (S2 : Own.Str Z h0 a2 ds) :
    Own.MF l Z (⟨"java/lang/AbstractStringBuilder", "inflateIfNeededFor", "(Ljava/lang/String;)V"⟩ : MethodName) jdk_68_method_71_code 2 none ws (⟨1, 0, 0, 13⟩ : Room) #[(.ref a1), (.ref a2)] h0 (QrmIn0 Z a1 a2 ds zc h0 n0) := by
  refine Own.MF.of (own := "java/lang/AbstractStringBuilder") (n := 2) rfl rfl pn_28 (fun p e s m below meth c s₁ hml hlk hret hnm P0 => ?_)
  rw [show entryFrame m #[(.ref a1), (.ref a2)] 2 = mkF m 0 #[.val (.ref a1), .val (.ref a2)] [] from by first | (simp [entryFrame, mkF, argsToLocals, Value.category]; done) | rfl]
  refine Own.getstatic (q := 3) P0 (dc s33 0 rfl) (wd hw 87 rfl) SC rfl ?_
  intro T21 P21
  refine Own.if_eq (q := 6) (qy := 21) P21 (dc s33 1 rfl) (by decide) rfl (fun q => absurd q hzc) (fun _ => ?_)
  refine Own.aloadN (q := 7) P21 (dc s33 2 rfl) rfl rfl rfl ?_
  refine Own.getfield (q := 10) P21 (dc s33 3 rfl) (wd hw 90 rfl) f2 rfl ?_
  intro T22 P22
  refine Own.aloadN (q := 11) P22 (dc s33 4 rfl) rfl rfl rfl ?_
  obtain ⟨⟨t23, kb23, y23a, y23v, y23c, y23b⟩, -, -⟩ := id S2
  refine Own.cV (q := 14) (W := 1) (rest := [(.int (0 : Int32))]) P22 (dc s33 5 rfl) (wd hw 163 rfl) (vw_6 hw) (Own.nfs P22 (wd hw 35 rfl)) S2.exa (rmCod l Z a0 hw [] a2 zc h0 n0 Z0 SC hzc y23c) (by decide) (by decide) rfl (hml rfl) rfl rfl (by decide) (by decide) rfl ?_
  rintro v24 T24 h24 L24 ⟨rfl, N24q, e24⟩ P24
  rw [e24] at P24
  have N24 := Fr.app (Fr.nil n0) N24q
  refine Own.icmp_eq (q := 17) (qy := 21) P24 (dc s33 6 rfl) (by decide) rfl (fun _ => ?_) (fun q => absurd rfl q)
  refine Own.retV P24 (dc s33 7 rfl) hret hlk (by decide) (by decide) ?_
  exact ⟨rfl, N24, rfl⟩
theorem pd_18 : parseMethodDescriptor "(Ljava/lang/String;)V" = some ⟨[(.object "java/lang/String")], none⟩ := by decide +kernel
theorem vw_22 {Z : State} {a0 : Array Value} (hw : HW a0 Z) : Own.VW Z a0 "java/lang/StringBuilder" ⟨"java/lang/AbstractStringBuilder", "inflateIfNeededFor", "(Ljava/lang/String;)V"⟩ ⟨"java/lang/AbstractStringBuilder", "inflateIfNeededFor", "(Ljava/lang/String;)V"⟩ jdk_68_method_71_code 2 none 1 := ⟨(Own.declOf (wd hw 159 rfl) (wd hw 162 rfl)), (wd hw 161 rfl), (wd hw 159 rfl), (wd hw 84 rfl), (wd hw 162 rfl), by decide, _, _, pd_18, rfl⟩
theorem pd_19 : parseMethodDescriptor "([BIB)V" = some ⟨[(.array .byte), .int, .byte], none⟩ := by decide +kernel
theorem vw_23 {Z : State} {a0 : Array Value} (hw : HW a0 Z) : Own.VW Z a0 "java/lang/String" ⟨"java/lang/String", "getBytes", "([BIB)V"⟩ ⟨"java/lang/String", "getBytes", "([BIB)V"⟩ jdk_42_method_147_code 4 none 3 := ⟨(wd hw 165 rfl), (wd hw 167 rfl), (wd hw 166 rfl), (wd hw 4 rfl), (wd hw 168 rfl), by decide, _, _, pd_19, rfl⟩
theorem s34 : decs jdk_68_method_73_code [(0, .aload_n 0, 1), (1, .aload_n 2, 1), (2, .invokevirtual 397, 3), (5, .aload_n 2, 1), (6, .aload_n 0, 1), (7, .getfield 15, 3), (10, .iload_n 1, 1), (11, .aload_n 0, 1), (12, .getfield 22, 3), (15, .invokevirtual 399, 3), (18, .return_, 1)] = true := by decide +kernel
theorem pn_27 : plainFor (⟨"java/lang/AbstractStringBuilder", "putStringAt", "(ILjava/lang/String;)V"⟩ : MethodName) = true := by first | exact plainFor_of_name (by first | (simp [plainName, overriddenIn]; done) | decide +kernel) | decide +kernel
def QrmPu0 (Z : State) (a1 : Addr) (t1 : Addr) (kb : ClassId) (N : Nat) (vd : List Value) (a2 : Addr) (ds : List Int32) (pos : Nat) (zc : Int32) (fm : Value) (h0 : Heap) (n0 : Nat) (v : Option Value) (h : Heap) (L : List Loc) : Prop := v = none ∧ Fr n0 L ∧ Keep h0 h [t1] ∧ Arv Z h t1 kb .byte (Int32.ofNat N) (vd.take pos ++ ((ds.map fun c : Int32 => c.toInt8.toInt32).map Value.int) ++ vd.drop (pos + ds.length)) (.int 0)
theorem rmPu0 (l : Launch) (Z : State) (a0 : Array Value) (hw : HW a0 Z) (ws : List Jvm.Cond) (a1 : Addr) (t1 : Addr) (kb : ClassId) (N : Nat) (vd : List Value) (a2 : Addr) (ds : List Int32) (pos : Nat) (zc : Int32) (fm : Value) (h0 : Heap) (n0 : Nat) (Z0 : n0 ≤ h0.size) (SC : Own.Cst Z h0 zc) (hzc : ¬ zc = 0) (SF : Own.Fst Z h0 fm) (hfm : fm.isRef = true) (SA : Own.Ads Z h0) (SH : Own.Hib Z h0) (SL : Own.Lob Z h0) (E_a1 : Exa Z h0 a1 "java/lang/StringBuilder") (f1 : Own.Bf Z h0 a1 "value" "[B" (.ref t1)) (f2 : Own.Bf Z h0 a1 "coder" "B" (.int 0)) (S2 : Own.Str Z h0 a2 ds) (A_t : Arv Z h0 t1 kb .byte (Int32.ofNat N) vd (.int 0)) (hpos : pos + ds.length ≤ N) (hN : N ≤ 20) (hN16 : 16 ≤ N) (hd4 : ds.length ≤ 4) (g_t1 : n0 ≤ t1) (hvl : vd.length = N) :
    Own.MF l Z (⟨"java/lang/AbstractStringBuilder", "putStringAt", "(ILjava/lang/String;)V"⟩ : MethodName) jdk_68_method_73_code 3 none ws (⟨2, 0, 0, 33⟩ : Room) #[(.ref a1), (.int (Int32.ofNat pos)), (.ref a2)] h0 (QrmPu0 Z a1 t1 kb N vd a2 ds pos zc fm h0 n0) := by
  refine Own.MF.of (own := "java/lang/AbstractStringBuilder") (n := 3) rfl rfl pn_27 (fun p e s m below meth c s₁ hml hlk hret hnm P0 => ?_)
  rw [show entryFrame m #[(.ref a1), (.int (Int32.ofNat pos)), (.ref a2)] 3 = mkF m 0 #[.val (.ref a1), .val (.int (Int32.ofNat pos)), .val (.ref a2)] [] from by first | (simp [entryFrame, mkF, argsToLocals, Value.category]; done) | rfl]
  refine Own.aloadN (q := 1) P0 (dc s34 0 rfl) rfl rfl rfl ?_
  refine Own.aloadN (q := 2) P0 (dc s34 1 rfl) rfl rfl rfl ?_
  refine Own.cV (q := 5) (W := 0) (rest := []) P0 (dc s34 2 rfl) (wd hw 158 rfl) (vw_22 hw) (Own.nfs P0 (wd hw 161 rfl)) E_a1 (rmIn0 l Z a0 hw [] a1 a2 ds zc h0 n0 Z0 SC hzc E_a1 f2 S2) (by decide) (by decide) rfl (hml rfl) rfl rfl (by decide) (by decide) rfl ?_
  rintro v21 T21 h21 L21 ⟨rfl, N21q, e21⟩ P21
  rw [e21] at P21
  have N21 := Fr.app (Fr.nil n0) N21q
  refine Own.aloadN (q := 6) P21 (dc s34 3 rfl) rfl rfl rfl ?_
  refine Own.aloadN (q := 7) P21 (dc s34 4 rfl) rfl rfl rfl ?_
  refine Own.getfield (q := 10) P21 (dc s34 5 rfl) (wd hw 88 rfl) f1 rfl ?_
  intro T22 P22
  refine Own.iloadN (q := 11) P22 (dc s34 6 rfl) rfl rfl ?_
  refine Own.aloadN (q := 12) P22 (dc s34 7 rfl) rfl rfl rfl ?_
  refine Own.getfield (q := 15) P22 (dc s34 8 rfl) (wd hw 90 rfl) f2 rfl ?_
  intro T23 P23
  refine Own.cV (q := 18) (W := 0) (rest := []) P23 (dc s34 9 rfl) (wd hw 164 rfl) (vw_23 hw) (Own.nfs P23 (wd hw 167 rfl)) S2.exa (rmGb0 l Z a0 hw [] a2 t1 kb N vd ds pos zc fm h0 n0 Z0 SC hzc SF hfm SA SH SL S2 A_t hpos hN hN16 hd4 g_t1 hvl) (by decide) (by decide) rfl (hml rfl) rfl rfl (by decide) (by decide) rfl ?_
  rintro v24 T24 h24 L24 ⟨rfl, N24q, K24, A24⟩ P24
  have N24 := Fr.app N21 N24q
  refine Own.retV P24 (dc s34 10 rfl) hret hlk (by decide) (by decide) ?_
  exact ⟨rfl, N24, K24, A24⟩
theorem pd_20 : parseMethodDescriptor "()I" = some ⟨[], some .int⟩ := by decide +kernel
theorem vw_24 {Z : State} {a0 : Array Value} (hw : HW a0 Z) : Own.VW Z a0 "java/lang/String" ⟨"java/lang/String", "length", "()I"⟩ ⟨"java/lang/String", "length", "()I"⟩ jdk_42_method_54_code 1 (some .int) 0 := ⟨(wd hw 28 rfl), (wd hw 30 rfl), (wd hw 29 rfl), (wd hw 4 rfl), (wd hw 31 rfl), by decide, _, _, pd_20, rfl⟩
theorem pd_21 : parseMethodDescriptor "(ILjava/lang/String;)V" = some ⟨[.int, (.object "java/lang/String")], none⟩ := by decide +kernel
theorem vw_25 {Z : State} {a0 : Array Value} (hw : HW a0 Z) : Own.VW Z a0 "java/lang/StringBuilder" ⟨"java/lang/AbstractStringBuilder", "putStringAt", "(ILjava/lang/String;)V"⟩ ⟨"java/lang/AbstractStringBuilder", "putStringAt", "(ILjava/lang/String;)V"⟩ jdk_68_method_73_code 3 none 2 := ⟨(Own.declOf (wd hw 154 rfl) (wd hw 157 rfl)), (wd hw 156 rfl), (wd hw 154 rfl), (wd hw 84 rfl), (wd hw 157 rfl), by decide, _, _, pd_21, rfl⟩
theorem s35 : decs jdk_68_method_22_code [(0, .aload_n 1, 1), (1, .ifnonnull 8, 3), (9, .aload_n 1, 1), (10, .invokevirtual 32, 3), (13, .istore_n 2, 1), (14, .aload_n 0, 1), (15, .aload_n 0, 1), (16, .getfield 79, 3), (19, .iload_n 2, 1), (20, .iadd, 1), (21, .invokevirtual 100, 3), (24, .aload_n 0, 1), (25, .aload_n 0, 1), (26, .getfield 79, 3), (29, .aload_n 1, 1), (30, .invokevirtual 208, 3), (33, .aload_n 0, 1), (34, .dup, 1), (35, .getfield 79, 3), (38, .iload_n 2, 1), (39, .iadd, 1), (40, .putfield 79, 3), (43, .aload_n 0, 1), (44, .areturn, 1)] = true := by decide +kernel
theorem pn_26 : plainFor (⟨"java/lang/AbstractStringBuilder", "append", "(Ljava/lang/String;)Ljava/lang/AbstractStringBuilder;"⟩ : MethodName) = true := by first | exact plainFor_of_name (by first | (simp [plainName, overriddenIn]; done) | decide +kernel) | decide +kernel
def QrmAs0 (Z : State) (a1 : Addr) (t1 : Addr) (kb : ClassId) (N : Nat) (cs : List Int32) (a2 : Addr) (ds : List Int32) (zc : Int32) (fm : Value) (h0 : Heap) (n0 : Nat) (v : Option Value) (h : Heap) (L : List Loc) : Prop := v = some (.ref a1) ∧ Fr n0 L ∧ Keep h0 h [a1, t1] ∧ Exa Z h a1 "java/lang/StringBuilder" ∧ Own.Bf Z h a1 "value" "[B" (.ref t1) ∧ Own.Bf Z h a1 "coder" "B" (.int 0) ∧ Own.Bf Z h a1 "count" "I" (.int (Int32.ofNat (cs ++ ds).length)) ∧ Own.Bf Z h a1 "maybeLatin1" "Z" (.int 0) ∧ Arv Z h t1 kb .byte (Int32.ofNat N) ((((cs ++ ds).map fun c : Int32 => c.toInt8.toInt32).map Value.int) ++ List.replicate (N - (cs ++ ds).length) (Value.int 0)) (.int 0)
theorem rmAs0 (l : Launch) (Z : State) (a0 : Array Value) (hw : HW a0 Z) (ws : List Jvm.Cond) (a1 : Addr) (t1 : Addr) (kb : ClassId) (N : Nat) (cs : List Int32) (a2 : Addr) (ds : List Int32) (zc : Int32) (fm : Value) (h0 : Heap) (n0 : Nat) (Z0 : n0 ≤ h0.size) (SC : Own.Cst Z h0 zc) (hzc : ¬ zc = 0) (SF : Own.Fst Z h0 fm) (hfm : fm.isRef = true) (SA : Own.Ads Z h0) (SH : Own.Hib Z h0) (SL : Own.Lob Z h0) (E_a1 : Exa Z h0 a1 "java/lang/StringBuilder") (f1 : Own.Bf Z h0 a1 "value" "[B" (.ref t1)) (f2 : Own.Bf Z h0 a1 "coder" "B" (.int 0)) (f3 : Own.Bf Z h0 a1 "count" "I" (.int (Int32.ofNat cs.length))) (f4 : Own.Bf Z h0 a1 "maybeLatin1" "Z" (.int 0)) (A_t : Arv Z h0 t1 kb .byte (Int32.ofNat N) (((cs.map fun c : Int32 => c.toInt8.toInt32).map Value.int) ++ List.replicate (N - cs.length) (Value.int 0)) (.int 0)) (hN : N ≤ 20) (hcN : cs.length ≤ N) (hp : ∀ c ∈ cs, ¬ c < 0 ∧ ¬ (255 : Int32) < c) (S2 : Own.Str Z h0 a2 ds) (hsz : cs.length + ds.length ≤ N) (hN16 : 16 ≤ N) (hd4 : ds.length ≤ 4) (g_a1 : n0 ≤ a1) (g_t1 : n0 ≤ t1) :
    Own.MF l Z (⟨"java/lang/AbstractStringBuilder", "append", "(Ljava/lang/String;)Ljava/lang/AbstractStringBuilder;"⟩ : MethodName) jdk_68_method_22_code 3 (some (.object "java/lang/AbstractStringBuilder")) ws (⟨3, 0, 0, 48⟩ : Room) #[(.ref a1), (.ref a2)] h0 (QrmAs0 Z a1 t1 kb N cs a2 ds zc fm h0 n0) := by
  refine Own.MF.of (own := "java/lang/AbstractStringBuilder") (n := 3) rfl rfl pn_26 (fun p e s m below meth c s₁ hml hlk hret hnm P0 => ?_)
  rw [show entryFrame m #[(.ref a1), (.ref a2)] 3 = mkF m 0 #[.val (.ref a1), .val (.ref a2), .unset] [] from by first | (simp [entryFrame, mkF, argsToLocals, Value.category]; done) | rfl]
  refine Own.aloadN (q := 1) P0 (dc s35 0 rfl) rfl rfl rfl ?_
  refine Own.nonnullY (q := 9) P0 (dc s35 1 rfl) (by decide) ?_
  refine Own.aloadN (q := 10) P0 (dc s35 2 rfl) rfl rfl rfl ?_
  refine Own.cW (q := 13) (W := 0) (rest := []) P0 (dc s35 3 rfl) (wd hw 152 rfl) (vw_24 hw) (Own.nfs P0 (wd hw 30 rfl)) S2.exa (Own.lenB (W := 0) (n0 := n0) P0.2.2.2.1 (fun d hd => hw d (sub_lenW d hd)) (wd hw 3 rfl) S2 SC hzc (by decide) (by decide)) rfl (hml rfl) rfl rfl (by decide) (by decide) rfl ?_
  rintro v21 T21 h21 L21 ⟨rfl, N21q, e21⟩ P21
  rw [e21] at P21
  have N21 := Fr.app (Fr.nil n0) N21q
  refine Own.istoreN (q := 14) (L2 := #[.val (.ref a1), .val (.ref a2), .val (.int (Int32.ofNat (ds : List Int32).length))]) P21 (dc s35 4 rfl) rfl rfl ?_
  refine Own.aloadN (q := 15) P21 (dc s35 5 rfl) rfl rfl rfl ?_
  refine Own.aloadN (q := 16) P21 (dc s35 6 rfl) rfl rfl rfl ?_
  refine Own.getfield (q := 19) P21 (dc s35 7 rfl) (wd hw 114 rfl) f3 rfl ?_
  intro T22 P22
  refine Own.iloadN (q := 20) P22 (dc s35 8 rfl) rfl rfl ?_
  refine Own.iadd (q := 21) P22 (dc s35 9 rfl)  rfl ?_
  rw [show ((Int32.ofNat cs.length) + (Int32.ofNat (ds : List Int32).length)) = (Int32.ofNat (cs.length + ds.length)) from (Int32.ofNat_add cs.length ds.length).symm]
  refine Own.cV (q := 24) (W := 0) (rest := []) P22 (dc s35 10 rfl) (wd hw 116 rfl) (vw_18 hw) (Own.nfs P22 (wd hw 119 rfl)) E_a1 (rmEn0 l Z a0 hw [] a1 t1 kb N cs (cs.length + ds.length) h0 n0 Z0 f1 f2 f3 f4 A_t hN hsz) (by decide) (by decide) rfl (hml rfl) rfl rfl (by decide) (by decide) rfl ?_
  rintro v23 T23 h23 L23 ⟨rfl, N23q, e23⟩ P23
  rw [e23] at P23
  have N23 := Fr.app N21 N23q
  refine Own.aloadN (q := 25) P23 (dc s35 11 rfl) rfl rfl rfl ?_
  refine Own.aloadN (q := 26) P23 (dc s35 12 rfl) rfl rfl rfl ?_
  refine Own.getfield (q := 29) P23 (dc s35 13 rfl) (wd hw 114 rfl) f3 rfl ?_
  intro T24 P24
  refine Own.aloadN (q := 30) P24 (dc s35 14 rfl) rfl rfl rfl ?_
  refine Own.cV (q := 33) (W := 0) (rest := []) P24 (dc s35 15 rfl) (wd hw 153 rfl) (vw_25 hw) (Own.nfs P24 (wd hw 156 rfl)) E_a1 (rmPu0 l Z a0 hw [] a1 t1 kb N (((cs.map fun c : Int32 => c.toInt8.toInt32).map Value.int) ++ List.replicate (N - cs.length) (Value.int 0)) a2 ds cs.length zc fm h0 n0 Z0 SC hzc SF hfm SA SH SL E_a1 f1 f2 S2 A_t hsz hN hN16 hd4 g_t1 (Own.vdN_len hcN)) (by decide) (by decide) rfl (hml rfl) rfl rfl (by decide) (by decide) rfl ?_
  rintro v25 T25 h25 L25 ⟨rfl, N25q, K25, A25⟩ P25
  have N25 := Fr.app N23 N25q
  rw [Own.put_listN] at A25
  refine Own.aloadN (q := 34) P25 (dc s35 16 rfl) rfl rfl rfl ?_
  refine Own.dup (q := 35) P25 (dc s35 17 rfl) rfl rfl ?_
  have qf26 := (Fld.keep f3 K25 (ninS (Exa.neArv E_a1 A_t (wd hw 75 rfl)) nin0))
  refine Own.getfield (q := 38) P25 (dc s35 18 rfl) (wd hw 114 rfl) qf26 rfl ?_
  intro T27 P27
  refine Own.iloadN (q := 39) P27 (dc s35 19 rfl) rfl rfl ?_
  refine Own.iadd (q := 40) P27 (dc s35 20 rfl)  rfl ?_
  have qf28 := (Fld.keep f1 K25 (ninS (Exa.neArv E_a1 A_t (wd hw 75 rfl)) nin0))
  have qf29 := (Fld.keep f2 K25 (ninS (Exa.neArv E_a1 A_t (wd hw 75 rfl)) nin0))
  have qf30 := (Fld.keep f4 K25 (ninS (Exa.neArv E_a1 A_t (wd hw 75 rfl)) nin0))
  refine Own.putfield (q := 43) P27 (dc s35 21 rfl) (wd hw 114 rfl) qf26 (E_a1.keep K25) (Or.inl (wd hw 115 rfl)) (wd hw 75 rfl) (ty := .int) (by decide) rfl rfl rfl ?_
  intro T31 h31 lc31 hl31 P31 W31
  have F31_value := qf28.other W31 (Or.inr (slot_ne (Or.inl (wd hw 89 rfl)) (Or.inl (wd hw 115 rfl)) (by decide) (t := (.array .byte)) (t' := .int) (by decide) (by decide)))
  have F31_coder := qf29.other W31 (Or.inr (slot_ne (Or.inl (wd hw 91 rfl)) (Or.inl (wd hw 115 rfl)) (by decide) (t := .byte) (t' := .int) (by decide) (by decide)))
  have F31_count := Fld.same W31 qf26
  have F31_maybeLatin1 := qf30.other W31 (Or.inr (slot_ne (Or.inl (wd hw 295 rfl)) (Or.inl (wd hw 115 rfl)) (by decide) (t := .boolean) (t' := .int) (by decide) (by decide)))
  have A31 := (E_a1.keep K25).wr W31
  have N31 := Own.Fr.one N25 hl31 g_a1
  refine Own.aloadN (q := 44) P31 (dc s35 22 rfl) rfl rfl rfl ?_
  have qf32 := (Arv.keep A25 (Keep.of_wr W31) (ninS (Ne.symm (Exa.neArv (E_a1.keep K25) A25 (wd hw 75 rfl))) nin0))
  refine Own.retA P31 (dc s35 23 rfl) hret rfl rfl rfl hlk (by decide) (by decide) ?_
  exact ⟨rfl, N31, (Keep.wr (Keep.trans (Keep.refl h0 _) K25 (allS (Or.inl (by simp)) all0)) W31 (Or.inl (by simp))), A31, F31_value, F31_coder, by rw [List.length_append, Int32.ofNat_add]; exact F31_count, F31_maybeLatin1, qf32⟩
theorem pd_22 : parseMethodDescriptor "(Ljava/lang/String;)Ljava/lang/AbstractStringBuilder;" = some ⟨[(.object "java/lang/String")], some (.object "java/lang/AbstractStringBuilder")⟩ := by decide +kernel
theorem s36 : decs jdk_67_method_7_code [(0, .aload_n 0, 1), (1, .aload_n 1, 1), (2, .invokespecial 29, 3), (5, .pop, 1), (6, .aload_n 0, 1), (7, .areturn, 1)] = true := by decide +kernel
theorem pn_25 : plainFor (⟨"java/lang/StringBuilder", "append", "(Ljava/lang/String;)Ljava/lang/StringBuilder;"⟩ : MethodName) = true := by first | exact plainFor_of_name (by first | (simp [plainName, overriddenIn]; done) | decide +kernel) | decide +kernel
def QrmSs0 (Z : State) (a1 : Addr) (t1 : Addr) (kb : ClassId) (N : Nat) (cs : List Int32) (a2 : Addr) (ds : List Int32) (zc : Int32) (fm : Value) (h0 : Heap) (n0 : Nat) (v : Option Value) (h : Heap) (L : List Loc) : Prop := v = some (.ref a1) ∧ Fr n0 L ∧ Keep h0 h [a1, t1] ∧ Exa Z h a1 "java/lang/StringBuilder" ∧ Own.Bf Z h a1 "value" "[B" (.ref t1) ∧ Own.Bf Z h a1 "coder" "B" (.int 0) ∧ Own.Bf Z h a1 "count" "I" (.int (Int32.ofNat (cs ++ ds).length)) ∧ Own.Bf Z h a1 "maybeLatin1" "Z" (.int 0) ∧ Arv Z h t1 kb .byte (Int32.ofNat N) ((((cs ++ ds).map fun c : Int32 => c.toInt8.toInt32).map Value.int) ++ List.replicate (N - (cs ++ ds).length) (Value.int 0)) (.int 0)
theorem rmSs0 (l : Launch) (Z : State) (a0 : Array Value) (hw : HW a0 Z) (ws : List Jvm.Cond) (a1 : Addr) (t1 : Addr) (kb : ClassId) (N : Nat) (cs : List Int32) (a2 : Addr) (ds : List Int32) (zc : Int32) (fm : Value) (h0 : Heap) (n0 : Nat) (Z0 : n0 ≤ h0.size) (SC : Own.Cst Z h0 zc) (hzc : ¬ zc = 0) (SF : Own.Fst Z h0 fm) (hfm : fm.isRef = true) (SA : Own.Ads Z h0) (SH : Own.Hib Z h0) (SL : Own.Lob Z h0) (E_a1 : Exa Z h0 a1 "java/lang/StringBuilder") (f1 : Own.Bf Z h0 a1 "value" "[B" (.ref t1)) (f2 : Own.Bf Z h0 a1 "coder" "B" (.int 0)) (f3 : Own.Bf Z h0 a1 "count" "I" (.int (Int32.ofNat cs.length))) (f4 : Own.Bf Z h0 a1 "maybeLatin1" "Z" (.int 0)) (A_t : Arv Z h0 t1 kb .byte (Int32.ofNat N) (((cs.map fun c : Int32 => c.toInt8.toInt32).map Value.int) ++ List.replicate (N - cs.length) (Value.int 0)) (.int 0)) (hN : N ≤ 20) (hcN : cs.length ≤ N) (hp : ∀ c ∈ cs, ¬ c < 0 ∧ ¬ (255 : Int32) < c) (S2 : Own.Str Z h0 a2 ds) (hsz : cs.length + ds.length ≤ N) (hN16 : 16 ≤ N) (hd4 : ds.length ≤ 4) (g_a1 : n0 ≤ a1) (g_t1 : n0 ≤ t1) :
    Own.MF l Z (⟨"java/lang/StringBuilder", "append", "(Ljava/lang/String;)Ljava/lang/StringBuilder;"⟩ : MethodName) jdk_67_method_7_code 2 (some (.object "java/lang/StringBuilder")) ws (⟨8, 0, 0, 121⟩ : Room) #[(.ref a1), (.ref a2)] h0 (QrmSs0 Z a1 t1 kb N cs a2 ds zc fm h0 n0) := by
  refine Own.MF.of (own := "java/lang/StringBuilder") (n := 2) rfl rfl pn_25 (fun p e s m below meth c s₁ hml hlk hret hnm P0 => ?_)
  rw [show entryFrame m #[(.ref a1), (.ref a2)] 2 = mkF m 0 #[.val (.ref a1), .val (.ref a2)] [] from by first | (simp [entryFrame, mkF, argsToLocals, Value.category]; done) | rfl]
  refine Own.aloadN (q := 1) P0 (dc s36 0 rfl) rfl rfl rfl ?_
  refine Own.aloadN (q := 2) P0 (dc s36 1 rfl) rfl rfl rfl ?_
  refine Own.invSuper (q := 5) (W := 0) (y := (⟨"java/lang/AbstractStringBuilder", "append", "(Ljava/lang/String;)Ljava/lang/AbstractStringBuilder;"⟩ : MethodName)) (a := a1) (argsL := [(.ref a2)]) (rest := []) P0 (dc s36 2 rfl) (by decide) (wd hw 148 rfl) (Own.sameOwn (y := (⟨"java/lang/AbstractStringBuilder", "append", "(Ljava/lang/String;)Ljava/lang/AbstractStringBuilder;"⟩ : MethodName)) (wd hw 149 rfl) (wd hw 200 rfl) (wd hw 201 rfl) rfl (by decide)) (wd hw 149 rfl) (wd hw 99 rfl) (wd hw 151 rfl) (Own.mfBack (W := 0) (rmAs0 l Z a0 hw [] a1 t1 kb N cs a2 ds zc fm h0 n0 Z0 SC hzc SF hfm SA SH SL E_a1 f1 f2 f3 f4 A_t hN hcN hp S2 hsz hN16 hd4 g_a1 g_t1) P0.2.2.2.1 (wd hw 151 rfl) (wd hw 84 rfl) (by decide) (by decide)) E_a1 rfl rfl (hml rfl) (lenOf pd_22 rfl) (Own.w0 rfl) (by decide) (by decide) rfl ?_
  rintro v21 T21 h21 L21 ⟨rfl, N21q, K21, X21⟩ P21
  have N21 := Fr.app (Fr.nil n0) N21q
  refine Own.pop (q := 6) P21 (dc s36 3 rfl) rfl rfl ?_
  refine Own.aloadN (q := 7) P21 (dc s36 4 rfl) rfl rfl rfl ?_
  refine Own.retA P21 (dc s36 5 rfl) hret rfl rfl rfl hlk (by decide) (by decide) ?_
  exact ⟨rfl, N21, K21, X21⟩
theorem s37 : decs jdk_42_method_147_code [(28, .aload_n 0, 1), (29, .getfield 9, 3), (32, .iconst 0, 1), (33, .aload_n 1, 1), (34, .iload_n 2, 1), (35, .aload_n 0, 1), (36, .getfield 9, 3), (39, .arraylength, 1), (40, .invokestatic 106, 3)] = true := by decide +kernel
def QrmGb1 (Z : State) (a1 : Addr) (t1 : Addr) (kb : ClassId) (N : Nat) (us : List Int32) (ds : List Int32) (pos : Nat) (zc : Int32) (fm : Value) (h0 : Heap) (n0 : Nat) (v : Option Value) (h : Heap) (L : List Loc) : Prop := v = none ∧ Fr n0 L ∧ Keep h0 h [t1] ∧ Own.U16 Z h t1 kb N (Own.putL us pos ds)
theorem rmGb1 (l : Launch) (Z : State) (a0 : Array Value) (hw : HW a0 Z) (ws : List Jvm.Cond) (a1 : Addr) (t1 : Addr) (kb : ClassId) (N : Nat) (us : List Int32) (ds : List Int32) (pos : Nat) (zc : Int32) (fm : Value) (h0 : Heap) (n0 : Nat) (Z0 : n0 ≤ h0.size) (SC : Own.Cst Z h0 zc) (hzc : ¬ zc = 0) (SF : Own.Fst Z h0 fm) (hfm : fm.isRef = true) (SA : Own.Ads Z h0) (SH : Own.Hib Z h0) (SL : Own.Lob Z h0) (S1 : Own.Str Z h0 a1 ds) (A_t : Own.U16 Z h0 t1 kb N us) (hpos : pos + ds.length ≤ N) (hN : N ≤ 20) (hN16 : 16 ≤ N) (hd4 : ds.length ≤ 4) (g_t1 : n0 ≤ t1) :
    Own.MF l Z (⟨"java/lang/String", "getBytes", "([BIB)V"⟩ : MethodName) jdk_42_method_147_code 4 none ws (⟨5, 0, 0, 77⟩ : Room) #[(.ref a1), (.ref t1), (.int (Int32.ofNat pos)), (.int (1 : Int32))] h0 (QrmGb1 Z a1 t1 kb N us ds pos zc fm h0 n0) := by
  refine Own.MF.of (own := "java/lang/String") (n := 4) rfl rfl pn_29 (fun p e s m below meth c s₁ hml hlk hret hnm P0 => ?_)
  rw [show entryFrame m #[(.ref a1), (.ref t1), (.int (Int32.ofNat pos)), (.int (1 : Int32))] 4 = mkF m 0 #[.val (.ref a1), .val (.ref t1), .val (.int (Int32.ofNat pos)), .val (.int (1 : Int32))] [] from by first | (simp [entryFrame, mkF, argsToLocals, Value.category]; done) | rfl]
  refine Own.aloadN (q := 1) P0 (dc s32 0 rfl) rfl rfl rfl ?_
  obtain ⟨⟨t21, kb21, y21a, y21v, y21c, y21b⟩, -, -⟩ := id S1
  refine Own.cV (q := 4) (W := 0) (rest := []) P0 (dc s32 1 rfl) (wd hw 32 rfl) (vw_6 hw) (Own.nfs P0 (wd hw 35 rfl)) S1.exa (rmCod l Z a0 hw [] a1 zc h0 n0 Z0 SC hzc y21c) (by decide) (by decide) rfl (hml rfl) rfl rfl (by decide) (by decide) rfl ?_
  rintro v22 T22 h22 L22 ⟨rfl, N22q, e22⟩ P22
  rw [e22] at P22
  have N22 := Fr.app (Fr.nil n0) N22q
  refine Own.iloadN (q := 5) P22 (dc s32 2 rfl) rfl rfl ?_
  refine Own.icmp_ne (q := 8) (qy := 28) P22 (dc s32 3 rfl) (by decide) rfl (fun _ => ?_) (fun q => absurd q (by decide))
  refine Own.aloadN (q := 29) P22 (dc s37 0 rfl) rfl rfl rfl ?_
  refine Own.getfield (q := 32) P22 (dc s37 1 rfl) (wd hw 21 rfl) y21v rfl ?_
  intro T23 P23
  refine Own.iconst (q := 33) (v := (0 : Int32)) P23 (dc s37 2 rfl) rfl rfl ?_
  refine Own.aloadN (q := 34) P23 (dc s37 3 rfl) rfl rfl rfl ?_
  refine Own.iloadN (q := 35) P23 (dc s37 4 rfl) rfl rfl ?_
  refine Own.aloadN (q := 36) P23 (dc s37 5 rfl) rfl rfl rfl ?_
  refine Own.getfield (q := 39) P23 (dc s37 6 rfl) (wd hw 21 rfl) y21v rfl ?_
  intro T24 P24
  refine Own.arraylength (q := 40) P24 (dc s37 7 rfl) y21b rfl ?_
  refine Own.cS (q := 43) (W := 0) (rest := []) P24 (dc s37 8 rfl) (wd hw 298 rfl) (sw_17 hw) (rmLi l Z a0 hw [] t21 kb21 ds.length ((ds.map fun c : Int32 => c.toInt8.toInt32).map Value.int) t1 kb N us pos ds fm h0 n0 Z0 SF hfm SA SH SL y21b (fun i hi => Own.by_get ds i) ⟨Nat.le_refl _, by omega⟩ A_t hpos (Own.arvNe y21b A_t.1 (by omega) (by omega) (by omega)) S1.2.1 g_t1) (by decide) (by decide) rfl (hml rfl) rfl rfl (by decide) (by decide) rfl ?_
  rintro v25 T25 h25 L25 ⟨rfl, N25q, K25, U25⟩ P25
  have N25 := Fr.app N22 N25q
  refine Own.retV P25 (dc s32 16 rfl) hret hlk (by decide) (by decide) ?_
  exact ⟨rfl, N25, K25, U25⟩
theorem s38 : decs jdk_68_method_71_code [(17, .aload_n 0, 1), (18, .invokevirtual 195, 3)] = true := by decide +kernel
def QrmIn1 (Z : State) (a1 : Addr) (a2 : Addr) (ds : List Int32) (zc : Int32) (h0 : Heap) (n0 : Nat) (v : Option Value) (h : Heap) (L : List Loc) : Prop := v = none ∧ Fr n0 L ∧ h = h0
theorem rmIn1 (l : Launch) (Z : State) (a0 : Array Value) (hw : HW a0 Z) (ws : List Jvm.Cond) (a1 : Addr) (a2 : Addr) (ds : List Int32) (zc : Int32) (h0 : Heap) (n0 : Nat) (Z0 : n0 ≤ h0.size) (SC : Own.Cst Z h0 zc) (hzc : ¬ zc = 0) (E_a1 : Exa Z h0 a1 "java/lang/StringBuilder") (f2 : Own.Bf Z h0 a1 "coder" "B" (.int 1)) (S2 : Own.Str Z h0 a2 ds) :
    Own.MF l Z (⟨"java/lang/AbstractStringBuilder", "inflateIfNeededFor", "(Ljava/lang/String;)V"⟩ : MethodName) jdk_68_method_71_code 2 none ws (⟨2, 0, 0, 25⟩ : Room) #[(.ref a1), (.ref a2)] h0 (QrmIn1 Z a1 a2 ds zc h0 n0) := by
  refine Own.MF.of (own := "java/lang/AbstractStringBuilder") (n := 2) rfl rfl pn_28 (fun p e s m below meth c s₁ hml hlk hret hnm P0 => ?_)
  rw [show entryFrame m #[(.ref a1), (.ref a2)] 2 = mkF m 0 #[.val (.ref a1), .val (.ref a2)] [] from by first | (simp [entryFrame, mkF, argsToLocals, Value.category]; done) | rfl]
  refine Own.getstatic (q := 3) P0 (dc s33 0 rfl) (wd hw 87 rfl) SC rfl ?_
  intro T21 P21
  refine Own.if_eq (q := 6) (qy := 21) P21 (dc s33 1 rfl) (by decide) rfl (fun q => absurd q hzc) (fun _ => ?_)
  refine Own.aloadN (q := 7) P21 (dc s33 2 rfl) rfl rfl rfl ?_
  refine Own.getfield (q := 10) P21 (dc s33 3 rfl) (wd hw 90 rfl) f2 rfl ?_
  intro T22 P22
  refine Own.aloadN (q := 11) P22 (dc s33 4 rfl) rfl rfl rfl ?_
  obtain ⟨⟨t23, kb23, y23a, y23v, y23c, y23b⟩, -, -⟩ := id S2
  refine Own.cV (q := 14) (W := 1) (rest := [(.int (1 : Int32))]) P22 (dc s33 5 rfl) (wd hw 163 rfl) (vw_6 hw) (Own.nfs P22 (wd hw 35 rfl)) S2.exa (rmCod l Z a0 hw [] a2 zc h0 n0 Z0 SC hzc y23c) (by decide) (by decide) rfl (hml rfl) rfl rfl (by decide) (by decide) rfl ?_
  rintro v24 T24 h24 L24 ⟨rfl, N24q, e24⟩ P24
  rw [e24] at P24
  have N24 := Fr.app (Fr.nil n0) N24q
  refine Own.icmp_eq (q := 17) (qy := 21) P24 (dc s33 6 rfl) (by decide) rfl (fun q => absurd q (by decide)) (fun _ => ?_)
  refine Own.aloadN (q := 18) P24 (dc s38 0 rfl) rfl rfl rfl ?_
  refine Own.cV (q := 21) (W := 0) (rest := []) P24 (dc s38 1 rfl) (wd hw 270 rfl) (vw_20 hw) (Own.nfs P24 (wd hw 273 rfl)) E_a1 (rmInfl1 l Z a0 hw [] a1 zc h0 n0 Z0 SC hzc E_a1 f2) (by decide) (by decide) rfl (hml rfl) rfl rfl (by decide) (by decide) rfl ?_
  rintro v25 T25 h25 L25 ⟨rfl, N25q, e25⟩ P25
  rw [e25] at P25
  have N25 := Fr.app N24 N25q
  refine Own.retV P25 (dc s33 7 rfl) hret hlk (by decide) (by decide) ?_
  exact ⟨rfl, N25, rfl⟩

def QrmPu1 (Z : State) (a1 : Addr) (t1 : Addr) (kb : ClassId) (N : Nat) (us : List Int32) (a2 : Addr) (ds : List Int32) (pos : Nat) (zc : Int32) (fm : Value) (h0 : Heap) (n0 : Nat) (v : Option Value) (h : Heap) (L : List Loc) : Prop := v = none ∧ Fr n0 L ∧ Keep h0 h [t1] ∧ Own.U16 Z h t1 kb N (Own.putL us pos ds)
theorem rmPu1 (l : Launch) (Z : State) (a0 : Array Value) (hw : HW a0 Z) (ws : List Jvm.Cond) (a1 : Addr) (t1 : Addr) (kb : ClassId) (N : Nat) (us : List Int32) (a2 : Addr) (ds : List Int32) (pos : Nat) (zc : Int32) (fm : Value) (h0 : Heap) (n0 : Nat) (Z0 : n0 ≤ h0.size) (SC : Own.Cst Z h0 zc) (hzc : ¬ zc = 0) (SF : Own.Fst Z h0 fm) (hfm : fm.isRef = true) (SA : Own.Ads Z h0) (SH : Own.Hib Z h0) (SL : Own.Lob Z h0) (E_a1 : Exa Z h0 a1 "java/lang/StringBuilder") (f1 : Own.Bf Z h0 a1 "value" "[B" (.ref t1)) (f2 : Own.Bf Z h0 a1 "coder" "B" (.int 1)) (S2 : Own.Str Z h0 a2 ds) (A_t : Own.U16 Z h0 t1 kb N us) (hpos : pos + ds.length ≤ N) (hN : N ≤ 20) (hN16 : 16 ≤ N) (hd4 : ds.length ≤ 4) (g_t1 : n0 ≤ t1) :
    Own.MF l Z (⟨"java/lang/AbstractStringBuilder", "putStringAt", "(ILjava/lang/String;)V"⟩ : MethodName) jdk_68_method_73_code 3 none ws (⟨6, 0, 0, 92⟩ : Room) #[(.ref a1), (.int (Int32.ofNat pos)), (.ref a2)] h0 (QrmPu1 Z a1 t1 kb N us a2 ds pos zc fm h0 n0) := by
  refine Own.MF.of (own := "java/lang/AbstractStringBuilder") (n := 3) rfl rfl pn_27 (fun p e s m below meth c s₁ hml hlk hret hnm P0 => ?_)
  rw [show entryFrame m #[(.ref a1), (.int (Int32.ofNat pos)), (.ref a2)] 3 = mkF m 0 #[.val (.ref a1), .val (.int (Int32.ofNat pos)), .val (.ref a2)] [] from by first | (simp [entryFrame, mkF, argsToLocals, Value.category]; done) | rfl]
  refine Own.aloadN (q := 1) P0 (dc s34 0 rfl) rfl rfl rfl ?_
  refine Own.aloadN (q := 2) P0 (dc s34 1 rfl) rfl rfl rfl ?_
  refine Own.cV (q := 5) (W := 0) (rest := []) P0 (dc s34 2 rfl) (wd hw 158 rfl) (vw_22 hw) (Own.nfs P0 (wd hw 161 rfl)) E_a1 (rmIn1 l Z a0 hw [] a1 a2 ds zc h0 n0 Z0 SC hzc E_a1 f2 S2) (by decide) (by decide) rfl (hml rfl) rfl rfl (by decide) (by decide) rfl ?_
  rintro v21 T21 h21 L21 ⟨rfl, N21q, e21⟩ P21
  rw [e21] at P21
  have N21 := Fr.app (Fr.nil n0) N21q
  refine Own.aloadN (q := 6) P21 (dc s34 3 rfl) rfl rfl rfl ?_
  refine Own.aloadN (q := 7) P21 (dc s34 4 rfl) rfl rfl rfl ?_
  refine Own.getfield (q := 10) P21 (dc s34 5 rfl) (wd hw 88 rfl) f1 rfl ?_
  intro T22 P22
  refine Own.iloadN (q := 11) P22 (dc s34 6 rfl) rfl rfl ?_
  refine Own.aloadN (q := 12) P22 (dc s34 7 rfl) rfl rfl rfl ?_
  refine Own.getfield (q := 15) P22 (dc s34 8 rfl) (wd hw 90 rfl) f2 rfl ?_
  intro T23 P23
  refine Own.cV (q := 18) (W := 0) (rest := []) P23 (dc s34 9 rfl) (wd hw 164 rfl) (vw_23 hw) (Own.nfs P23 (wd hw 167 rfl)) S2.exa (rmGb1 l Z a0 hw [] a2 t1 kb N us ds pos zc fm h0 n0 Z0 SC hzc SF hfm SA SH SL S2 A_t hpos hN hN16 hd4 g_t1) (by decide) (by decide) rfl (hml rfl) rfl rfl (by decide) (by decide) rfl ?_
  rintro v24 T24 h24 L24 ⟨rfl, N24q, K24, A24⟩ P24
  have N24 := Fr.app N21 N24q
  refine Own.retV P24 (dc s34 10 rfl) hret hlk (by decide) (by decide) ?_
  exact ⟨rfl, N24, K24, A24⟩

def QrmAs1 (Z : State) (a1 : Addr) (t1 : Addr) (kb : ClassId) (N : Nat) (cs : List Int32) (a2 : Addr) (ds : List Int32) (zc : Int32) (fm : Value) (h0 : Heap) (n0 : Nat) (v : Option Value) (h : Heap) (L : List Loc) : Prop := v = some (.ref a1) ∧ Fr n0 L ∧ Keep h0 h [a1, t1] ∧ Exa Z h a1 "java/lang/StringBuilder" ∧ Own.Bf Z h a1 "value" "[B" (.ref t1) ∧ Own.Bf Z h a1 "coder" "B" (.int 1) ∧ Own.Bf Z h a1 "count" "I" (.int (Int32.ofNat (cs ++ ds).length)) ∧ Own.Bf Z h a1 "maybeLatin1" "Z" (.int 0) ∧ Own.U16 Z h t1 kb N ((cs ++ ds) ++ List.replicate (N - (cs ++ ds).length) (0 : Int32))
theorem rmAs1 (l : Launch) (Z : State) (a0 : Array Value) (hw : HW a0 Z) (ws : List Jvm.Cond) (a1 : Addr) (t1 : Addr) (kb : ClassId) (N : Nat) (cs : List Int32) (a2 : Addr) (ds : List Int32) (zc : Int32) (fm : Value) (h0 : Heap) (n0 : Nat) (Z0 : n0 ≤ h0.size) (SC : Own.Cst Z h0 zc) (hzc : ¬ zc = 0) (SF : Own.Fst Z h0 fm) (hfm : fm.isRef = true) (SA : Own.Ads Z h0) (SH : Own.Hib Z h0) (SL : Own.Lob Z h0) (E_a1 : Exa Z h0 a1 "java/lang/StringBuilder") (f1 : Own.Bf Z h0 a1 "value" "[B" (.ref t1)) (f2 : Own.Bf Z h0 a1 "coder" "B" (.int 1)) (f3 : Own.Bf Z h0 a1 "count" "I" (.int (Int32.ofNat cs.length))) (f4 : Own.Bf Z h0 a1 "maybeLatin1" "Z" (.int 0)) (A_t : Own.U16 Z h0 t1 kb N (cs ++ List.replicate (N - cs.length) (0 : Int32))) (hN : N ≤ 20) (hcN : cs.length ≤ N) (S2 : Own.Str Z h0 a2 ds) (hsz : cs.length + ds.length ≤ N) (hN16 : 16 ≤ N) (hd4 : ds.length ≤ 4) (g_a1 : n0 ≤ a1) (g_t1 : n0 ≤ t1) :
    Own.MF l Z (⟨"java/lang/AbstractStringBuilder", "append", "(Ljava/lang/String;)Ljava/lang/AbstractStringBuilder;"⟩ : MethodName) jdk_68_method_22_code 3 (some (.object "java/lang/AbstractStringBuilder")) ws (⟨7, 0, 0, 107⟩ : Room) #[(.ref a1), (.ref a2)] h0 (QrmAs1 Z a1 t1 kb N cs a2 ds zc fm h0 n0) := by
  refine Own.MF.of (own := "java/lang/AbstractStringBuilder") (n := 3) rfl rfl pn_26 (fun p e s m below meth c s₁ hml hlk hret hnm P0 => ?_)
  rw [show entryFrame m #[(.ref a1), (.ref a2)] 3 = mkF m 0 #[.val (.ref a1), .val (.ref a2), .unset] [] from by first | (simp [entryFrame, mkF, argsToLocals, Value.category]; done) | rfl]
  refine Own.aloadN (q := 1) P0 (dc s35 0 rfl) rfl rfl rfl ?_
  refine Own.nonnullY (q := 9) P0 (dc s35 1 rfl) (by decide) ?_
  refine Own.aloadN (q := 10) P0 (dc s35 2 rfl) rfl rfl rfl ?_
  refine Own.cW (q := 13) (W := 0) (rest := []) P0 (dc s35 3 rfl) (wd hw 152 rfl) (vw_24 hw) (Own.nfs P0 (wd hw 30 rfl)) S2.exa (Own.lenB (W := 0) (n0 := n0) P0.2.2.2.1 (fun d hd => hw d (sub_lenW d hd)) (wd hw 3 rfl) S2 SC hzc (by decide) (by decide)) rfl (hml rfl) rfl rfl (by decide) (by decide) rfl ?_
  rintro v21 T21 h21 L21 ⟨rfl, N21q, e21⟩ P21
  rw [e21] at P21
  have N21 := Fr.app (Fr.nil n0) N21q
  refine Own.istoreN (q := 14) (L2 := #[.val (.ref a1), .val (.ref a2), .val (.int (Int32.ofNat (ds : List Int32).length))]) P21 (dc s35 4 rfl) rfl rfl ?_
  refine Own.aloadN (q := 15) P21 (dc s35 5 rfl) rfl rfl rfl ?_
  refine Own.aloadN (q := 16) P21 (dc s35 6 rfl) rfl rfl rfl ?_
  refine Own.getfield (q := 19) P21 (dc s35 7 rfl) (wd hw 114 rfl) f3 rfl ?_
  intro T22 P22
  refine Own.iloadN (q := 20) P22 (dc s35 8 rfl) rfl rfl ?_
  refine Own.iadd (q := 21) P22 (dc s35 9 rfl)  rfl ?_
  rw [show ((Int32.ofNat cs.length) + (Int32.ofNat (ds : List Int32).length)) = (Int32.ofNat (cs.length + ds.length)) from (Int32.ofNat_add cs.length ds.length).symm]
  refine Own.cV (q := 24) (W := 0) (rest := []) P22 (dc s35 10 rfl) (wd hw 116 rfl) (vw_18 hw) (Own.nfs P22 (wd hw 119 rfl)) E_a1 (rmEn1 l Z a0 hw [] a1 t1 kb N cs (cs.length + ds.length) h0 n0 Z0 f1 f2 f3 f4 A_t hN hsz) (by decide) (by decide) rfl (hml rfl) rfl rfl (by decide) (by decide) rfl ?_
  rintro v23 T23 h23 L23 ⟨rfl, N23q, e23⟩ P23
  rw [e23] at P23
  have N23 := Fr.app N21 N23q
  refine Own.aloadN (q := 25) P23 (dc s35 11 rfl) rfl rfl rfl ?_
  refine Own.aloadN (q := 26) P23 (dc s35 12 rfl) rfl rfl rfl ?_
  refine Own.getfield (q := 29) P23 (dc s35 13 rfl) (wd hw 114 rfl) f3 rfl ?_
  intro T24 P24
  refine Own.aloadN (q := 30) P24 (dc s35 14 rfl) rfl rfl rfl ?_
  refine Own.cV (q := 33) (W := 0) (rest := []) P24 (dc s35 15 rfl) (wd hw 153 rfl) (vw_25 hw) (Own.nfs P24 (wd hw 156 rfl)) E_a1 (rmPu1 l Z a0 hw [] a1 t1 kb N (cs ++ List.replicate (N - cs.length) (0 : Int32)) a2 ds cs.length zc fm h0 n0 Z0 SC hzc SF hfm SA SH SL E_a1 f1 f2 S2 A_t hsz hN hN16 hd4 g_t1) (by decide) (by decide) rfl (hml rfl) rfl rfl (by decide) (by decide) rfl ?_
  rintro v25 T25 h25 L25 ⟨rfl, N25q, K25, A25⟩ P25
  have N25 := Fr.app N23 N25q
  rw [Own.putL_app] at A25
  refine Own.aloadN (q := 34) P25 (dc s35 16 rfl) rfl rfl rfl ?_
  refine Own.dup (q := 35) P25 (dc s35 17 rfl) rfl rfl ?_
  have qf26 := (Fld.keep f3 K25 (ninS (Exa.neArv E_a1 A_t.1 (wd hw 75 rfl)) nin0))
  refine Own.getfield (q := 38) P25 (dc s35 18 rfl) (wd hw 114 rfl) qf26 rfl ?_
  intro T27 P27
  refine Own.iloadN (q := 39) P27 (dc s35 19 rfl) rfl rfl ?_
  refine Own.iadd (q := 40) P27 (dc s35 20 rfl)  rfl ?_
  have qf28 := (Fld.keep f1 K25 (ninS (Exa.neArv E_a1 A_t.1 (wd hw 75 rfl)) nin0))
  have qf29 := (Fld.keep f2 K25 (ninS (Exa.neArv E_a1 A_t.1 (wd hw 75 rfl)) nin0))
  have qf30 := (Fld.keep f4 K25 (ninS (Exa.neArv E_a1 A_t.1 (wd hw 75 rfl)) nin0))
  refine Own.putfield (q := 43) P27 (dc s35 21 rfl) (wd hw 114 rfl) qf26 (E_a1.keep K25) (Or.inl (wd hw 115 rfl)) (wd hw 75 rfl) (ty := .int) (by decide) rfl rfl rfl ?_
  intro T31 h31 lc31 hl31 P31 W31
  have F31_value := qf28.other W31 (Or.inr (slot_ne (Or.inl (wd hw 89 rfl)) (Or.inl (wd hw 115 rfl)) (by decide) (t := (.array .byte)) (t' := .int) (by decide) (by decide)))
  have F31_coder := qf29.other W31 (Or.inr (slot_ne (Or.inl (wd hw 91 rfl)) (Or.inl (wd hw 115 rfl)) (by decide) (t := .byte) (t' := .int) (by decide) (by decide)))
  have F31_count := Fld.same W31 qf26
  have F31_maybeLatin1 := qf30.other W31 (Or.inr (slot_ne (Or.inl (wd hw 295 rfl)) (Or.inl (wd hw 115 rfl)) (by decide) (t := .boolean) (t' := .int) (by decide) (by decide)))
  have A31 := (E_a1.keep K25).wr W31
  have N31 := Own.Fr.one N25 hl31 g_a1
  refine Own.aloadN (q := 44) P31 (dc s35 22 rfl) rfl rfl rfl ?_
  have qf32 := (Arv.keep A25.1 (Keep.of_wr W31) (ninS (Ne.symm (Exa.neArv (E_a1.keep K25) A25.1 (wd hw 75 rfl))) nin0))
  refine Own.retA P31 (dc s35 23 rfl) hret rfl rfl rfl hlk (by decide) (by decide) ?_
  exact ⟨rfl, N31, (Keep.wr (Keep.trans (Keep.refl h0 _) K25 (allS (Or.inl (by simp)) all0)) W31 (Or.inl (by simp))), A31, F31_value, F31_coder, by rw [List.length_append, Int32.ofNat_add]; exact F31_count, F31_maybeLatin1, qf32, A25.2⟩

def QrmSs1 (Z : State) (a1 : Addr) (t1 : Addr) (kb : ClassId) (N : Nat) (cs : List Int32) (a2 : Addr) (ds : List Int32) (zc : Int32) (fm : Value) (h0 : Heap) (n0 : Nat) (v : Option Value) (h : Heap) (L : List Loc) : Prop := v = some (.ref a1) ∧ Fr n0 L ∧ Keep h0 h [a1, t1] ∧ Exa Z h a1 "java/lang/StringBuilder" ∧ Own.Bf Z h a1 "value" "[B" (.ref t1) ∧ Own.Bf Z h a1 "coder" "B" (.int 1) ∧ Own.Bf Z h a1 "count" "I" (.int (Int32.ofNat (cs ++ ds).length)) ∧ Own.Bf Z h a1 "maybeLatin1" "Z" (.int 0) ∧ Own.U16 Z h t1 kb N ((cs ++ ds) ++ List.replicate (N - (cs ++ ds).length) (0 : Int32))
theorem rmSs1 (l : Launch) (Z : State) (a0 : Array Value) (hw : HW a0 Z) (ws : List Jvm.Cond) (a1 : Addr) (t1 : Addr) (kb : ClassId) (N : Nat) (cs : List Int32) (a2 : Addr) (ds : List Int32) (zc : Int32) (fm : Value) (h0 : Heap) (n0 : Nat) (Z0 : n0 ≤ h0.size) (SC : Own.Cst Z h0 zc) (hzc : ¬ zc = 0) (SF : Own.Fst Z h0 fm) (hfm : fm.isRef = true) (SA : Own.Ads Z h0) (SH : Own.Hib Z h0) (SL : Own.Lob Z h0) (E_a1 : Exa Z h0 a1 "java/lang/StringBuilder") (f1 : Own.Bf Z h0 a1 "value" "[B" (.ref t1)) (f2 : Own.Bf Z h0 a1 "coder" "B" (.int 1)) (f3 : Own.Bf Z h0 a1 "count" "I" (.int (Int32.ofNat cs.length))) (f4 : Own.Bf Z h0 a1 "maybeLatin1" "Z" (.int 0)) (A_t : Own.U16 Z h0 t1 kb N (cs ++ List.replicate (N - cs.length) (0 : Int32))) (hN : N ≤ 20) (hcN : cs.length ≤ N) (S2 : Own.Str Z h0 a2 ds) (hsz : cs.length + ds.length ≤ N) (hN16 : 16 ≤ N) (hd4 : ds.length ≤ 4) (g_a1 : n0 ≤ a1) (g_t1 : n0 ≤ t1) :
    Own.MF l Z (⟨"java/lang/StringBuilder", "append", "(Ljava/lang/String;)Ljava/lang/StringBuilder;"⟩ : MethodName) jdk_67_method_7_code 2 (some (.object "java/lang/StringBuilder")) ws (⟨8, 0, 0, 121⟩ : Room) #[(.ref a1), (.ref a2)] h0 (QrmSs1 Z a1 t1 kb N cs a2 ds zc fm h0 n0) := by
  refine Own.MF.of (own := "java/lang/StringBuilder") (n := 2) rfl rfl pn_25 (fun p e s m below meth c s₁ hml hlk hret hnm P0 => ?_)
  rw [show entryFrame m #[(.ref a1), (.ref a2)] 2 = mkF m 0 #[.val (.ref a1), .val (.ref a2)] [] from by first | (simp [entryFrame, mkF, argsToLocals, Value.category]; done) | rfl]
  refine Own.aloadN (q := 1) P0 (dc s36 0 rfl) rfl rfl rfl ?_
  refine Own.aloadN (q := 2) P0 (dc s36 1 rfl) rfl rfl rfl ?_
  refine Own.invSuper (q := 5) (W := 0) (y := (⟨"java/lang/AbstractStringBuilder", "append", "(Ljava/lang/String;)Ljava/lang/AbstractStringBuilder;"⟩ : MethodName)) (a := a1) (argsL := [(.ref a2)]) (rest := []) P0 (dc s36 2 rfl) (by decide) (wd hw 148 rfl) (Own.sameOwn (y := (⟨"java/lang/AbstractStringBuilder", "append", "(Ljava/lang/String;)Ljava/lang/AbstractStringBuilder;"⟩ : MethodName)) (wd hw 149 rfl) (wd hw 200 rfl) (wd hw 201 rfl) rfl (by decide)) (wd hw 149 rfl) (wd hw 99 rfl) (wd hw 151 rfl) (Own.mfBack (W := 0) (rmAs1 l Z a0 hw [] a1 t1 kb N cs a2 ds zc fm h0 n0 Z0 SC hzc SF hfm SA SH SL E_a1 f1 f2 f3 f4 A_t hN hcN S2 hsz hN16 hd4 g_a1 g_t1) P0.2.2.2.1 (wd hw 151 rfl) (wd hw 84 rfl) (by decide) (by decide)) E_a1 rfl rfl (hml rfl) (lenOf pd_22 rfl) (Own.w0 rfl) (by decide) (by decide) rfl ?_
  rintro v21 T21 h21 L21 ⟨rfl, N21q, K21, X21⟩ P21
  have N21 := Fr.app (Fr.nil n0) N21q
  refine Own.pop (q := 6) P21 (dc s36 3 rfl) rfl rfl ?_
  refine Own.aloadN (q := 7) P21 (dc s36 4 rfl) rfl rfl rfl ?_
  refine Own.retA P21 (dc s36 5 rfl) hret rfl rfl rfl hlk (by decide) (by decide) ?_
  exact ⟨rfl, N21, K21, X21⟩

def QrmLn0 (Z : State) (a1 : Addr) (cs : List Int32) (zc : Int32) (h0 : Heap) (n0 : Nat) (v : Option Value) (h : Heap) (L : List Loc) : Prop := v = some (.int (Int32.ofNat cs.length)) ∧ Fr n0 L ∧ h = h0
theorem rmLn0 (l : Launch) (Z : State) (a0 : Array Value) (hw : HW a0 Z) (ws : List Jvm.Cond) (a1 : Addr) (cs : List Int32) (zc : Int32) (h0 : Heap) (n0 : Nat) (Z0 : n0 ≤ h0.size) (SC : Own.Cst Z h0 zc) (hzc : ¬ zc = 0) (S1 : Own.Str Z h0 a1 cs) :
    Own.MF l Z (⟨"java/lang/String", "length", "()I"⟩ : MethodName) jdk_42_method_54_code 1 (some .int) ws (⟨1, 0, 0, 13⟩ : Room) #[(.ref a1)] h0 (QrmLn0 Z a1 cs zc h0 n0) := by
  refine Own.MF.of (own := "java/lang/String") (n := 1) rfl rfl pn_5 (fun p e s m below meth c s₁ hml hlk hret hnm P0 => ?_)
  rw [show entryFrame m #[(.ref a1)] 1 = mkF m 0 #[.val (.ref a1)] [] from by first | (simp [entryFrame, mkF, argsToLocals, Value.category]; done) | rfl]
  refine Own.aloadN (q := 1) P0 (dc s12 0 rfl) rfl rfl rfl ?_
  obtain ⟨⟨t21, kb21, y21a, y21v, y21c, y21b⟩, -, -⟩ := id S1
  refine Own.getfield (q := 4) P0 (dc s12 1 rfl) (wd hw 21 rfl) y21v rfl ?_
  intro T22 P22
  refine Own.arraylength (q := 5) P22 (dc s12 2 rfl) y21b rfl ?_
  refine Own.aloadN (q := 6) P22 (dc s12 3 rfl) rfl rfl rfl ?_
  refine Own.cV (q := 9) (W := 1) (rest := [(.int (Int32.ofNat (cs : List Int32).length))]) P22 (dc s12 4 rfl) (wd hw 32 rfl) (vw_6 hw) (Own.nfs P22 (wd hw 35 rfl)) S1.exa (rmCod l Z a0 hw [] a1 zc h0 n0 Z0 SC hzc y21c) (by decide) (by decide) rfl (hml rfl) rfl rfl (by decide) (by decide) rfl ?_
  rintro v23 T23 h23 L23 ⟨rfl, N23q, e23⟩ P23
  rw [e23] at P23
  have N23 := Fr.app (Fr.nil n0) N23q
  refine Own.ishr (q := 10) P23 (dc s12 5 rfl)  rfl ?_
  rw [show ((Int32.ofNat (cs : List Int32).length) >>> ((0 : Int32) &&& 31)) = (Int32.ofNat cs.length) from Own.shr0 _]
  refine Own.retI P23 (dc s12 6 rfl) hret hlk (by decide) (by decide) ?_
  exact ⟨rfl, N23, rfl⟩
section TxF
variable {p : Program} {l : Launch} {e : Env} {R : Room} {s : State} {args : Array Value} {below : List Frame} {W : Nat} {Z : State} {a0 : Array Value} {h : Heap} {zc : Int32} {n0 : Nat}
theorem lenF (hZ : Z.Warmed39 s.vm) (hw : ∀ d ∈ tables_1, d.before a0 Z = true) {x : Addr} {cs : List Int32} (X : Own.TX Z h x cs) (hz0 : n0 ≤ h.size) (SC : Sta Z h "java/lang/String" "COMPACT_STRINGS" "Z" (.int zc)) (hzc : ¬ zc = 0) (hfr : 2 ≤ R.frames) (hlo : W + 25 ≤ R.locals) :
    Back l R p e below s args (⟨"java/lang/String", "length", "()I"⟩ : MethodName) 5 W (fun A a => a = #[.ref x] ∧ A.U.heap = h ∧ A.cells + 0 ≤ R.cells ∧ A.slots + 0 ≤ R.slots)
      (fun A _ v B => ∃ L, Own.QPure (.int (Int32.ofNat cs.length)) h n0 v B.U.heap L ∧ B.locs = A.locs ++ L ∧ B.cells = A.cells + 0 ∧ B.slots = A.slots + 0) := by
  rcases X with X | ⟨t, k, s1, s2, s3, s4⟩
  · refine Back.mono (Own.mfBack (rmLn0 l Z a0 hw [] x cs zc h n0 hz0 SC hzc X) hZ (wd hw 31 rfl) (wd hw 4 rfl) hfr (by show W + 12 + 13 ≤ _; exact hlo)) (fun _ _ q => q) (fun P a v B _ hq => ?_)
    obtain ⟨L, ⟨q1, q2, q3⟩, r⟩ := hq
    exact ⟨L, ⟨q1, q2, q3⟩, r⟩
  · refine Back.mono (Own.mfBack (rmLn16 l Z a0 hw [] x t k cs zc h n0 hz0 SC hzc s1 s2 s3 s4) hZ (wd hw 31 rfl) (wd hw 4 rfl) hfr (by show W + 12 + 13 ≤ _; exact hlo)) (fun _ _ q => q) (fun P a v B _ hq => ?_)
    obtain ⟨L, ⟨q1, q2, q3⟩, r⟩ := hq
    exact ⟨L, ⟨q1, q2, q3⟩, r⟩
end TxF

theorem s39 : decs jdk_42_method_153_code [(0, .aload_n 0, 1), (1, .getfield 9, 3), (4, .areturn, 1)] = true := by decide +kernel
theorem pn_24 : plainFor (⟨"java/lang/String", "value", "()[B"⟩ : MethodName) = true := by first | exact plainFor_of_name (by first | (simp [plainName, overriddenIn]; done) | decide +kernel) | decide +kernel
def QrmSv (Z : State) (a1 : Addr) (t1 : Addr) (h0 : Heap) (n0 : Nat) (v : Option Value) (h : Heap) (L : List Loc) : Prop := v = some (.ref t1) ∧ Fr n0 L ∧ h = h0
theorem rmSv (l : Launch) (Z : State) (a0 : Array Value) (hw : HW a0 Z) (ws : List Jvm.Cond) (a1 : Addr) (t1 : Addr) (h0 : Heap) (n0 : Nat) (Z0 : n0 ≤ h0.size) (f1 : Fld Z h0 a1 "java/lang/String" "value" "[B" (.ref t1)) :
    Own.MF l Z (⟨"java/lang/String", "value", "()[B"⟩ : MethodName) jdk_42_method_153_code 1 (some (.array .byte)) ws (⟨0, 0, 0, 0⟩ : Room) #[(.ref a1)] h0 (QrmSv Z a1 t1 h0 n0) := by
  refine Own.MF.of (own := "java/lang/String") (n := 1) rfl rfl pn_24 (fun p e s m below meth c s₁ hml hlk hret hnm P0 => ?_)
  rw [show entryFrame m #[(.ref a1)] 1 = mkF m 0 #[.val (.ref a1)] [] from by first | (simp [entryFrame, mkF, argsToLocals, Value.category]; done) | rfl]
  refine Own.aloadN (q := 1) P0 (dc s39 0 rfl) rfl rfl rfl ?_
  refine Own.getfield (q := 4) P0 (dc s39 1 rfl) (wd hw 21 rfl) f1 rfl ?_
  intro T21 P21
  refine Own.retA P21 (dc s39 2 rfl) hret rfl rfl rfl hlk (by decide) (by decide) ?_
  exact ⟨rfl, (Fr.nil n0), rfl⟩
theorem s40 : decs jdk_42_method_154_code [(13, .iconst 1, 1), (14, .goto 4, 3)] = true := by decide +kernel
def QrmSil0 (Z : State) (a1 : Addr) (zc : Int32) (h0 : Heap) (n0 : Nat) (v : Option Value) (h : Heap) (L : List Loc) : Prop := v = some (.int 1) ∧ Fr n0 L ∧ h = h0
theorem rmSil0 (l : Launch) (Z : State) (a0 : Array Value) (hw : HW a0 Z) (ws : List Jvm.Cond) (a1 : Addr) (zc : Int32) (h0 : Heap) (n0 : Nat) (Z0 : n0 ≤ h0.size) (SC : Own.Cst Z h0 zc) (hzc : ¬ zc = 0) (f2 : Fld Z h0 a1 "java/lang/String" "coder" "B" (.int 0)) :
    Own.MF l Z (⟨"java/lang/String", "isLatin1", "()Z"⟩ : MethodName) jdk_42_method_154_code 1 (some .boolean) ws (⟨0, 0, 0, 0⟩ : Room) #[(.ref a1)] h0 (QrmSil0 Z a1 zc h0 n0) := by
  refine Own.MF.of (own := "java/lang/String") (n := 1) rfl rfl pn_11 (fun p e s m below meth c s₁ hml hlk hret hnm P0 => ?_)
  rw [show entryFrame m #[(.ref a1)] 1 = mkF m 0 #[.val (.ref a1)] [] from by first | (simp [entryFrame, mkF, argsToLocals, Value.category]; done) | rfl]
  refine Own.getstatic (q := 3) P0 (dc s10 0 rfl) (wd hw 37 rfl) SC rfl ?_
  intro T21 P21
  refine Own.if_eq (q := 6) (qy := 17) P21 (dc s10 1 rfl) (by decide) rfl (fun q => absurd q hzc) (fun _ => ?_)
  refine Own.aloadN (q := 7) P21 (dc s10 2 rfl) rfl rfl rfl ?_
  refine Own.getfield (q := 10) P21 (dc s10 3 rfl) (wd hw 22 rfl) f2 rfl ?_
  intro T22 P22
  refine Own.if_ne (q := 13) (qy := 17) P22 (dc s10 4 rfl) (by decide) rfl (fun q => absurd rfl q) (fun _ => ?_)
  refine Own.iconst (q := 14) (v := (1 : Int32)) P22 (dc s40 0 rfl) rfl rfl ?_
  refine Own.goto (q := 18) P22 (dc s40 1 rfl) (by decide) ?_
  refine Own.retZ P22 (dc s10 6 rfl) hret (by simp) hlk (by decide) (by decide) ?_
  exact ⟨rfl, (Fr.nil n0), rfl⟩
theorem pd_23 : parseMethodDescriptor "()[B" = some ⟨[], some (.array .byte)⟩ := by decide +kernel
theorem vw_26 {Z : State} {a0 : Array Value} (hw : HW a0 Z) : Own.VW Z a0 "java/lang/String" ⟨"java/lang/String", "value", "()[B"⟩ ⟨"java/lang/String", "value", "()[B"⟩ jdk_42_method_153_code 1 (some (.array .byte)) 0 := ⟨(wd hw 134 rfl), (wd hw 136 rfl), (wd hw 135 rfl), (wd hw 4 rfl), (wd hw 137 rfl), by decide, _, _, pd_23, rfl⟩
theorem s41 : decs jdk_68_method_75_code [(0, .aload_n 0, 1), (1, .invokevirtual 83, 3), (4, .ifCond .eq 141, 3), (7, .aload_n 1, 1), (8, .invokevirtual 400, 3), (11, .ifCond .eq 25, 3), (14, .aload_n 1, 1), (15, .invokevirtual 401, 3), (18, .iload_n 2, 1), (19, .aload_n 0, 1), (20, .getfield 15, 3), (23, .aload_n 0, 1), (24, .getfield 79, 3), (27, .iload_n 3, 1), (28, .iload_n 2, 1), (29, .isub, 1), (30, .invokestatic 309, 3), (33, .goto 161, 3), (194, .aload_n 0, 1), (195, .dup, 1), (196, .getfield 79, 3), (199, .iload_n 3, 1), (200, .iload_n 2, 1), (201, .isub, 1), (202, .iadd, 1), (203, .putfield 79, 3), (206, .return_, 1)] = true := by decide +kernel
theorem pn_22 : plainFor (⟨"java/lang/AbstractStringBuilder", "appendChars", "(Ljava/lang/String;II)V"⟩ : MethodName) = true := by first | exact plainFor_of_name (by first | (simp [plainName, overriddenIn]; done) | decide +kernel) | decide +kernel
def QrmAp0 (Z : State) (a1 : Addr) (t1 : Addr) (kb : ClassId) (N : Nat) (a2 : Addr) (cs : List Int32) (e1 : Nat) (zc : Int32) (fm : Value) (h0 : Heap) (n0 : Nat) (v : Option Value) (h : Heap) (L : List Loc) : Prop := v = none ∧ Fr n0 L ∧ Keep h0 h [a1, t1] ∧ Exa Z h a1 "java/lang/StringBuilder" ∧ Own.Bf Z h a1 "value" "[B" (.ref t1) ∧ Own.Bf Z h a1 "coder" "B" (.int 0) ∧ Own.Bf Z h a1 "count" "I" (.int (Int32.ofNat (cs.take e1).length)) ∧ Own.Bf Z h a1 "maybeLatin1" "Z" (.int 0) ∧ Arv Z h t1 kb .byte (Int32.ofNat N) ((((cs.take e1).map fun c : Int32 => c.toInt8.toInt32).map Value.int) ++ List.replicate (N - (cs.take e1).length) (Value.int 0)) (.int 0)
theorem rmAp0 (l : Launch) (Z : State) (a0 : Array Value) (hw : HW a0 Z) (ws : List Jvm.Cond) (a1 : Addr) (t1 : Addr) (kb : ClassId) (N : Nat) (a2 : Addr) (cs : List Int32) (e1 : Nat) (zc : Int32) (fm : Value) (h0 : Heap) (n0 : Nat) (Z0 : n0 ≤ h0.size) (SC : Own.Cst Z h0 zc) (hzc : ¬ zc = 0) (E_a1 : Exa Z h0 a1 "java/lang/StringBuilder") (f1 : Own.Bf Z h0 a1 "value" "[B" (.ref t1)) (f2 : Own.Bf Z h0 a1 "coder" "B" (.int 0)) (f3 : Own.Bf Z h0 a1 "count" "I" (.int (Int32.ofNat ([] : List Int32).length))) (f4 : Own.Bf Z h0 a1 "maybeLatin1" "Z" (.int 0)) (A_t : Arv Z h0 t1 kb .byte (Int32.ofNat N) (((([] : List Int32).map fun c : Int32 => c.toInt8.toInt32).map Value.int) ++ List.replicate (N - ([] : List Int32).length) (Value.int 0)) (.int 0)) (hN : N ≤ 20) (hN16 : 16 ≤ N) (S2 : Own.Str Z h0 a2 cs) (he : e1 ≤ cs.length) (hcl : cs.length ≤ 3) (g_a1 : n0 ≤ a1) (g_t1 : n0 ≤ t1) :
    Own.MF l Z (⟨"java/lang/AbstractStringBuilder", "appendChars", "(Ljava/lang/String;II)V"⟩ : MethodName) jdk_68_method_75_code 8 none ws (⟨1, 0, 0, 18⟩ : Room) #[(.ref a1), (.ref a2), (.int (0 : Int32)), (.int (Int32.ofNat e1))] h0 (QrmAp0 Z a1 t1 kb N a2 cs e1 zc fm h0 n0) := by
  refine Own.MF.of (own := "java/lang/AbstractStringBuilder") (n := 8) rfl rfl pn_22 (fun p e s m below meth c s₁ hml hlk hret hnm P0 => ?_)
  rw [show entryFrame m #[(.ref a1), (.ref a2), (.int (0 : Int32)), (.int (Int32.ofNat e1))] 8 = mkF m 0 #[.val (.ref a1), .val (.ref a2), .val (.int (0 : Int32)), .val (.int (Int32.ofNat e1)), .unset, .unset, .unset, .unset] [] from by first | (simp [entryFrame, mkF, argsToLocals, Value.category]; done) | rfl]
  refine Own.aloadN (q := 1) P0 (dc s41 0 rfl) rfl rfl rfl ?_
  refine Own.cV (q := 4) (W := 0) (rest := []) P0 (dc s41 1 rfl) (wd hw 127 rfl) (vw_15 hw) (Own.nfs P0 (wd hw 130 rfl)) E_a1 (rmIl0 l Z a0 hw [] a1 zc h0 n0 Z0 SC hzc f2) (by decide) (by decide) rfl (hml rfl) rfl rfl (by decide) (by decide) rfl ?_
  rintro v21 T21 h21 L21 ⟨rfl, N21q, e21⟩ P21
  rw [e21] at P21
  have N21 := Fr.app (Fr.nil n0) N21q
  refine Own.if_eq (q := 7) (qy := 145) P21 (dc s41 2 rfl) (by decide) rfl (fun q => absurd q (by decide)) (fun _ => ?_)
  refine Own.aloadN (q := 8) P21 (dc s41 3 rfl) rfl rfl rfl ?_
  obtain ⟨⟨t22, kb22, y22a, y22v, y22c, y22b⟩, -, -⟩ := id S2
  refine Own.cV (q := 11) (W := 0) (rest := []) P21 (dc s41 4 rfl) (wd hw 132 rfl) (vw_7 hw) (Own.nfs P21 (wd hw 57 rfl)) S2.exa (rmSil0 l Z a0 hw [] a2 zc h0 n0 Z0 SC hzc y22c) (by decide) (by decide) rfl (hml rfl) rfl rfl (by decide) (by decide) rfl ?_
  rintro v23 T23 h23 L23 ⟨rfl, N23q, e23⟩ P23
  rw [e23] at P23
  have N23 := Fr.app N21 N23q
  refine Own.if_eq (q := 14) (qy := 36) P23 (dc s41 5 rfl) (by decide) rfl (fun q => absurd q (by decide)) (fun _ => ?_)
  refine Own.aloadN (q := 15) P23 (dc s41 6 rfl) rfl rfl rfl ?_
  refine Own.cV (q := 18) (W := 0) (rest := []) P23 (dc s41 7 rfl) (wd hw 133 rfl) (vw_26 hw) (Own.nfs P23 (wd hw 136 rfl)) S2.exa (rmSv l Z a0 hw [] a2 t22 h0 n0 Z0 y22v) (by decide) (by decide) rfl (hml rfl) rfl rfl (by decide) (by decide) rfl ?_
  rintro v24 T24 h24 L24 ⟨rfl, N24q, e24⟩ P24
  rw [e24] at P24
  have N24 := Fr.app N23 N24q
  refine Own.iloadN (q := 19) P24 (dc s41 8 rfl) rfl rfl ?_
  refine Own.aloadN (q := 20) P24 (dc s41 9 rfl) rfl rfl rfl ?_
  refine Own.getfield (q := 23) P24 (dc s41 10 rfl) (wd hw 88 rfl) f1 rfl ?_
  intro T25 P25
  refine Own.aloadN (q := 24) P25 (dc s41 11 rfl) rfl rfl rfl ?_
  refine Own.getfield (q := 27) P25 (dc s41 12 rfl) (wd hw 114 rfl) f3 rfl ?_
  intro T26 P26
  refine Own.iloadN (q := 28) P26 (dc s41 13 rfl) rfl rfl ?_
  refine Own.iloadN (q := 29) P26 (dc s41 14 rfl) rfl rfl ?_
  refine Own.isub (q := 30) P26 (dc s41 15 rfl)  rfl ?_
  rw [show ((Int32.ofNat e1) - (0 : Int32)) = (Int32.ofNat e1) from Int32.sub_zero _]
  refine Own.copyA (q := 33) (W := 0) (n0 := n0) (d := 0) (j := e1) (us := (((cs.map fun c : Int32 => c.toInt8.toInt32).map Value.int).take e1)) P26 N24 (dc s41 16 rfl) (wd hw 138 rfl) (wd hw 141 rfl) (wd hw 139 rfl) (wd hw 140 rfl) y22b A_t rfl (by decide) (by decide) (Own.nneg (by have := he; have := hcl; have := hN; have := hN16; omega)) (by decide) (by decide) (Own.clamp (by have := he; have := hcl; have := hN; have := hN16; omega)) (by rw [Own.clamp (by have := he; have := hcl; have := hN; have := hN16; omega)]; exact he) (by rw [Own.clamp (by have := he; have := hcl; have := hN; have := hN16; omega)]; have := he; have := hcl; have := hN; have := hN16; omega) (Own.range_take _ (by simp; exact he)) (by simp; have := he; have := hcl; have := hN; have := hN16; omega) g_t1 (hml rfl) (by decide) (Own.w0 rfl) (by decide) rfl ?_
  intro T27 h27 L27 N27 P27 K27 A27
  rw [Own.ap_list cs N e1 he] at A27
  refine Own.goto (q := 194) P27 (dc s41 17 rfl) (by decide) ?_
  refine Own.aloadN (q := 195) P27 (dc s41 18 rfl) rfl rfl rfl ?_
  refine Own.dup (q := 196) P27 (dc s41 19 rfl) rfl rfl ?_
  have qf28 := (Fld.keep f3 K27 (ninS (Exa.neArv E_a1 A_t (wd hw 75 rfl)) nin0))
  refine Own.getfield (q := 199) P27 (dc s41 20 rfl) (wd hw 114 rfl) qf28 rfl ?_
  intro T29 P29
  refine Own.iloadN (q := 200) P29 (dc s41 21 rfl) rfl rfl ?_
  refine Own.iloadN (q := 201) P29 (dc s41 22 rfl) rfl rfl ?_
  refine Own.isub (q := 202) P29 (dc s41 23 rfl)  rfl ?_
  rw [show ((Int32.ofNat e1) - (0 : Int32)) = (Int32.ofNat e1) from Int32.sub_zero _]
  refine Own.iadd (q := 203) P29 (dc s41 24 rfl)  rfl ?_
  rw [show ((Int32.ofNat ([] : List Int32).length) + (Int32.ofNat e1)) = (Int32.ofNat e1) from Int32.zero_add _]
  have qf30 := (Fld.keep f1 K27 (ninS (Exa.neArv E_a1 A_t (wd hw 75 rfl)) nin0))
  have qf31 := (Fld.keep f2 K27 (ninS (Exa.neArv E_a1 A_t (wd hw 75 rfl)) nin0))
  have qf32 := (Fld.keep f4 K27 (ninS (Exa.neArv E_a1 A_t (wd hw 75 rfl)) nin0))
  refine Own.putfield (q := 206) P29 (dc s41 25 rfl) (wd hw 114 rfl) qf28 (E_a1.keep K27) (Or.inl (wd hw 115 rfl)) (wd hw 75 rfl) (ty := .int) (by decide) rfl rfl rfl ?_
  intro T33 h33 lc33 hl33 P33 W33
  have F33_value := qf30.other W33 (Or.inr (slot_ne (Or.inl (wd hw 89 rfl)) (Or.inl (wd hw 115 rfl)) (by decide) (t := (.array .byte)) (t' := .int) (by decide) (by decide)))
  have F33_coder := qf31.other W33 (Or.inr (slot_ne (Or.inl (wd hw 91 rfl)) (Or.inl (wd hw 115 rfl)) (by decide) (t := .byte) (t' := .int) (by decide) (by decide)))
  have F33_count := Fld.same W33 qf28
  have F33_maybeLatin1 := qf32.other W33 (Or.inr (slot_ne (Or.inl (wd hw 295 rfl)) (Or.inl (wd hw 115 rfl)) (by decide) (t := .boolean) (t' := .int) (by decide) (by decide)))
  have A33 := (E_a1.keep K27).wr W33
  have N33 := Own.Fr.one N27 hl33 g_a1
  have qf34 := (Arv.keep A27 (Keep.of_wr W33) (ninS (Ne.symm (Exa.neArv (E_a1.keep K27) A27 (wd hw 75 rfl))) nin0))
  refine Own.retV P33 (dc s41 26 rfl) hret hlk (by decide) (by decide) ?_
  exact ⟨rfl, N33, (Keep.wr (Keep.trans (Keep.refl h0 _) K27 (allS (Or.inl (by simp)) all0)) W33 (Or.inl (by simp))), A33, F33_value, F33_coder, by rw [Own.take_len he]; exact F33_count, F33_maybeLatin1, qf34⟩
theorem pd_24 : parseMethodDescriptor "(I)C" = some ⟨[.int], some .char⟩ := by decide +kernel
theorem vw_27 {Z : State} {a0 : Array Value} (hw : HW a0 Z) : Own.VW Z a0 "java/lang/String" ⟨"java/lang/String", "charAt", "(I)C"⟩ ⟨"java/lang/String", "charAt", "(I)C"⟩ jdk_42_method_56_code 2 (some .char) 1 := ⟨(wd hw 50 rfl), (wd hw 52 rfl), (wd hw 51 rfl), (wd hw 4 rfl), (wd hw 53 rfl), by decide, _, _, pd_24, rfl⟩
theorem s42 : decs jdk_68_method_75_code [(36, .aload_n 0, 1), (37, .getfield 15, 3), (40, .astore 4, 2), (42, .iload_n 2, 1), (43, .istore 5, 2), (45, .aload_n 0, 1), (46, .getfield 79, 3), (49, .istore 6, 2), (51, .iload 5, 2), (53, .iload_n 3, 1), (54, .if_icmp .ge 88, 3), (57, .aload_n 1, 1), (58, .iload 5, 2), (60, .invokevirtual 404, 3), (63, .istore 7, 2), (65, .iload 7, 2), (67, .invokestatic 191, 3), (70, .ifCond .eq 17, 3), (73, .aload 4, 2), (75, .iload 6, 2), (77, .iinc 6 1, 3), (80, .iload 7, 2), (82, .i2b, 1), (83, .bastore, 1), (84, .goto 52, 3), (87, .aload_n 0, 1), (88, .iload 6, 2), (90, .putfield 79, 3), (93, .aload_n 0, 1), (94, .invokevirtual 195, 3), (97, .aload_n 1, 1), (98, .invokevirtual 401, 3), (101, .iload 5, 2), (103, .iconst 1, 1), (104, .ishl, 1), (105, .aload_n 0, 1), (106, .getfield 15, 3), (109, .iload 6, 2), (111, .iconst 1, 1), (112, .ishl, 1), (113, .iload_n 3, 1), (114, .iload 5, 2), (116, .isub, 1), (117, .iconst 1, 1), (118, .ishl, 1), (119, .invokestatic 309, 3), (122, .aload_n 0, 1), (123, .dup, 1), (124, .getfield 79, 3), (127, .iload_n 3, 1), (128, .iload 5, 2), (130, .isub, 1), (131, .iadd, 1), (132, .putfield 79, 3), (135, .return_, 1), (136, .iinc 5 1, 3), (139, .goto (-88), 3), (142, .goto 52, 3)] = true := by decide +kernel
def QrmAp1 (Z : State) (a1 : Addr) (t1 : Addr) (kb : ClassId) (N : Nat) (a2 : Addr) (t2 : Addr) (k2 : ClassId) (cs : List Int32) (e1 : Nat) (zc : Int32) (fm : Value) (h0 : Heap) (n0 : Nat) (v : Option Value) (h : Heap) (L : List Loc) : Prop := v = none ∧ Fr n0 L ∧ Keep h0 h [a1, t1] ∧ ((Exa Z h a1 "java/lang/StringBuilder" ∧ Own.Bf Z h a1 "value" "[B" (.ref t1) ∧ Own.Bf Z h a1 "coder" "B" (.int 0) ∧ Own.Bf Z h a1 "count" "I" (.int (Int32.ofNat (cs.take e1).length)) ∧ Own.Bf Z h a1 "maybeLatin1" "Z" (.int 0) ∧ Arv Z h t1 kb .byte (Int32.ofNat N) ((((cs.take e1).map fun c : Int32 => c.toInt8.toInt32).map Value.int) ++ List.replicate (N - (cs.take e1).length) (Value.int 0)) (.int 0) ∧ ∀ c ∈ cs.take e1, ¬ c < 0 ∧ ¬ (255 : Int32) < c) ∨ ∃ t k, h0.size ≤ t ∧ Exa Z h a1 "java/lang/StringBuilder" ∧ Own.Bf Z h a1 "value" "[B" (.ref t) ∧ Own.Bf Z h a1 "coder" "B" (.int 1) ∧ Own.Bf Z h a1 "count" "I" (.int (Int32.ofNat (cs.take e1).length)) ∧ Own.Bf Z h a1 "maybeLatin1" "Z" (.int 0) ∧ Own.U16 Z h t k N ((cs.take e1) ++ List.replicate (N - (cs.take e1).length) (0 : Int32)))
theorem rmAp1 (l : Launch) (Z : State) (a0 : Array Value) (hw : HW a0 Z) (ws : List Jvm.Cond) (a1 : Addr) (t1 : Addr) (kb : ClassId) (N : Nat) (a2 : Addr) (t2 : Addr) (k2 : ClassId) (cs : List Int32) (e1 : Nat) (zc : Int32) (fm : Value) (h0 : Heap) (n0 : Nat) (Z0 : n0 ≤ h0.size) (SC : Own.Cst Z h0 zc) (hzc : ¬ zc = 0) (SF : Own.Fst Z h0 fm) (hfm : fm.isRef = true) (SA : Own.Ads Z h0) (SH : Own.Hib Z h0) (SL : Own.Lob Z h0) (E_a1 : Exa Z h0 a1 "java/lang/StringBuilder") (f1 : Own.Bf Z h0 a1 "value" "[B" (.ref t1)) (f2 : Own.Bf Z h0 a1 "coder" "B" (.int 0)) (f3 : Own.Bf Z h0 a1 "count" "I" (.int (Int32.ofNat ([] : List Int32).length))) (f4 : Own.Bf Z h0 a1 "maybeLatin1" "Z" (.int 0)) (A_t : Arv Z h0 t1 kb .byte (Int32.ofNat N) (((([] : List Int32).map fun c : Int32 => c.toInt8.toInt32).map Value.int) ++ List.replicate (N - ([] : List Int32).length) (Value.int 0)) (.int 0)) (E_a2 : Exa Z h0 a2 "java/lang/String") (v2 : Fld Z h0 a2 "java/lang/String" "value" "[B" (.ref t2)) (c2 : Fld Z h0 a2 "java/lang/String" "coder" "B" (.int 1)) (A2 : Own.U16 Z h0 t2 k2 cs.length cs) (hN : N ≤ 20) (hN16 : 16 ≤ N) (he : e1 ≤ cs.length) (hcl : cs.length ≤ 3) (g_a1 : n0 ≤ a1) (g_t1 : n0 ≤ t1) :
    Own.MF l Z (⟨"java/lang/AbstractStringBuilder", "appendChars", "(Ljava/lang/String;II)V"⟩ : MethodName) jdk_68_method_75_code 8 none ws (⟨6, 1, 40, 92⟩ : Room) #[(.ref a1), (.ref a2), (.int (0 : Int32)), (.int (Int32.ofNat e1))] h0 (QrmAp1 Z a1 t1 kb N a2 t2 k2 cs e1 zc fm h0 n0) := by
  refine Own.MF.of (own := "java/lang/AbstractStringBuilder") (n := 8) rfl rfl pn_22 (fun p e s m below meth c s₁ hml hlk hret hnm P0 => ?_)
  rw [show entryFrame m #[(.ref a1), (.ref a2), (.int (0 : Int32)), (.int (Int32.ofNat e1))] 8 = mkF m 0 #[.val (.ref a1), .val (.ref a2), .val (.int (0 : Int32)), .val (.int (Int32.ofNat e1)), .unset, .unset, .unset, .unset] [] from by first | (simp [entryFrame, mkF, argsToLocals, Value.category]; done) | rfl]
  refine Own.aloadN (q := 1) P0 (dc s41 0 rfl) rfl rfl rfl ?_
  refine Own.cV (q := 4) (W := 0) (rest := []) P0 (dc s41 1 rfl) (wd hw 127 rfl) (vw_15 hw) (Own.nfs P0 (wd hw 130 rfl)) E_a1 (rmIl0 l Z a0 hw [] a1 zc h0 n0 Z0 SC hzc f2) (by decide) (by decide) rfl (hml rfl) rfl rfl (by decide) (by decide) rfl ?_
  rintro v21 T21 h21 L21 ⟨rfl, N21q, e21⟩ P21
  rw [e21] at P21
  have N21 := Fr.app (Fr.nil n0) N21q
  refine Own.if_eq (q := 7) (qy := 145) P21 (dc s41 2 rfl) (by decide) rfl (fun q => absurd q (by decide)) (fun _ => ?_)
  refine Own.aloadN (q := 8) P21 (dc s41 3 rfl) rfl rfl rfl ?_
  refine Own.cV (q := 11) (W := 0) (rest := []) P21 (dc s41 4 rfl) (wd hw 132 rfl) (vw_7 hw) (Own.nfs P21 (wd hw 57 rfl)) E_a2 (rmSil1 l Z a0 hw [] a2 zc h0 n0 Z0 SC hzc c2) (by decide) (by decide) rfl (hml rfl) rfl rfl (by decide) (by decide) rfl ?_
  rintro v22 T22 h22 L22 ⟨rfl, N22q, e22⟩ P22
  rw [e22] at P22
  have N22 := Fr.app N21 N22q
  refine Own.if_eq (q := 14) (qy := 36) P22 (dc s41 5 rfl) (by decide) rfl (fun _ => ?_) (fun q => absurd rfl q)
  refine Own.aloadN (q := 37) P22 (dc s42 0 rfl) rfl rfl rfl ?_
  refine Own.getfield (q := 40) P22 (dc s42 1 rfl) (wd hw 88 rfl) f1 rfl ?_
  intro T23 P23
  refine Own.astore (q := 42) (L2 := #[.val (.ref a1), .val (.ref a2), .val (.int (0 : Int32)), .val (.int (Int32.ofNat e1)), .val (.ref t1), .unset, .unset, .unset]) P23 (dc s42 2 rfl) rfl rfl rfl ?_
  refine Own.iloadN (q := 43) P23 (dc s42 3 rfl) rfl rfl ?_
  refine Own.istore (q := 45) (L2 := #[.val (.ref a1), .val (.ref a2), .val (.int (0 : Int32)), .val (.int (Int32.ofNat e1)), .val (.ref t1), .val (.int (0 : Int32)), .unset, .unset]) P23 (dc s42 4 rfl) rfl rfl ?_
  refine Own.aloadN (q := 46) P23 (dc s42 5 rfl) rfl rfl rfl ?_
  refine Own.getfield (q := 49) P23 (dc s42 6 rfl) (wd hw 114 rfl) f3 rfl ?_
  intro T24 P24
  refine Own.istore (q := 51) (L2 := #[.val (.ref a1), .val (.ref a2), .val (.int (0 : Int32)), .val (.int (Int32.ofNat e1)), .val (.ref t1), .val (.int (0 : Int32)), .val (.int (Int32.ofNat ([] : List Int32).length)), .unset]) P24 (dc s42 7 rfl) rfl rfl ?_
  have loop : ∀ (kk i : Nat), e1 ≤ i + kk → i ≤ e1 → ∀ (T25 : State) (lc25 : List Loc) (hL25 : Heap) (sl7 : Slot), Own.Wk Z "java/lang/AbstractStringBuilder" jdk_68_method_75_code hL25 p l e (⟨6, 1, 40, 92⟩ : Room) s m #[(.ref a1), (.ref a2), (.int (0 : Int32)), (.int (Int32.ofNat e1))] below meth c T25 lc25 0 0 → Fr n0 lc25 → Keep h0 hL25 [t1] → Exa Z hL25 a1 "java/lang/StringBuilder" → Own.Bf Z hL25 a1 "value" "[B" (.ref t1) → Own.Bf Z hL25 a1 "coder" "B" (.int 0) → Own.Bf Z hL25 a1 "count" "I" (.int (Int32.ofNat ([] : List Int32).length)) → Own.Bf Z hL25 a1 "maybeLatin1" "Z" (.int 0) → Arv Z hL25 t1 kb .byte (Int32.ofNat N) ((((cs.take i).map fun c : Int32 => c.toInt8.toInt32).map Value.int) ++ List.replicate (N - (cs.take i).length) (Value.int 0)) (.int 0) → (∀ c ∈ cs.take i, ¬ c < 0 ∧ ¬ (255 : Int32) < c) → (sl7 = .unset ∨ ∃ x, sl7 = .val (.int x)) → Exa Z hL25 a2 "java/lang/String" → Fld Z hL25 a2 "java/lang/String" "value" "[B" (.ref t2) → Fld Z hL25 a2 "java/lang/String" "coder" "B" (.int 1) → Own.U16 Z hL25 t2 k2 cs.length cs → Own.Cst Z hL25 zc → Own.Fst Z hL25 fm → Own.Ads Z hL25 → Own.Hib Z hL25 → Own.Lob Z hL25 → Own.Goes p.tables e below (Own.KE (QrmAp1 Z a1 t1 kb N a2 t2 k2 cs e1 zc fm h0 n0) s (⟨6, 1, 40, 92⟩ : Room).cells (⟨6, 1, 40, 92⟩ : Room).slots) (T25.setTop (mkF m 51 #[.val (.ref a1), .val (.ref a2), .val (.int (0 : Int32)), .val (.int (Int32.ofNat e1)), .val (.ref t1), .val (.int (Int32.ofNat i)), .val (.int (Int32.ofNat i)), sl7] [])) := by
    intro kk
    induction kk with
    | zero =>
      intro i hk hi T25 lc25 hL25 sl7 P25 N25 KL Le L1 L2 L3 L4 Lt Lp hs7 Ls Lv Lw Lu Lc Lf La Lh Ll
      have ht21 : t2 ≠ t1 := Own.arvNe Lu.1 Lt (by have := he; have := hcl; have := hN; have := hN16; omega) (by have := he; have := hcl; have := hN; have := hN16; omega) (by have := he; have := hcl; have := hN; have := hN16; omega)
      refine Own.iload (q := 53) P25 (dc s42 8 rfl) rfl rfl ?_
      refine Own.iloadN (q := 54) P25 (dc s42 9 rfl) rfl rfl ?_
      refine Own.icmp_ge (q := 57) (qy := 142) P25 (dc s42 10 rfl) (by decide) rfl (fun _ => ?_) (fun q => absurd q (by rw [Own.ofNat_lt (by have := he; have := hcl; have := hN; have := hN16; omega) (by have := he; have := hcl; have := hN; have := hN16; omega)]; omega))
      refine Own.goto (q := 194) P25 (dc s42 57 rfl) (by decide) ?_
      refine Own.aloadN (q := 195) P25 (dc s41 18 rfl) rfl rfl rfl ?_
      refine Own.dup (q := 196) P25 (dc s41 19 rfl) rfl rfl ?_
      refine Own.getfield (q := 199) P25 (dc s41 20 rfl) (wd hw 114 rfl) L3 rfl ?_
      intro T26 P26
      refine Own.iloadN (q := 200) P26 (dc s41 21 rfl) rfl rfl ?_
      refine Own.iloadN (q := 201) P26 (dc s41 22 rfl) rfl rfl ?_
      refine Own.isub (q := 202) P26 (dc s41 23 rfl)  rfl ?_
      rw [show ((Int32.ofNat e1) - (0 : Int32)) = (Int32.ofNat e1) from Int32.sub_zero _]
      refine Own.iadd (q := 203) P26 (dc s41 24 rfl)  rfl ?_
      rw [show ((Int32.ofNat ([] : List Int32).length) + (Int32.ofNat e1)) = (Int32.ofNat e1) from Int32.zero_add _]
      refine Own.putfield (q := 206) P26 (dc s41 25 rfl) (wd hw 114 rfl) L3 Le (Or.inl (wd hw 115 rfl)) (wd hw 75 rfl) (ty := .int) (by decide) rfl rfl rfl ?_
      intro T27 h27 lc27 hl27 P27 W27
      have F27_value := L1.other W27 (Or.inr (slot_ne (Or.inl (wd hw 89 rfl)) (Or.inl (wd hw 115 rfl)) (by decide) (t := (.array .byte)) (t' := .int) (by decide) (by decide)))
      have F27_coder := L2.other W27 (Or.inr (slot_ne (Or.inl (wd hw 91 rfl)) (Or.inl (wd hw 115 rfl)) (by decide) (t := .byte) (t' := .int) (by decide) (by decide)))
      have F27_count := Fld.same W27 L3
      have F27_maybeLatin1 := L4.other W27 (Or.inr (slot_ne (Or.inl (wd hw 295 rfl)) (Or.inl (wd hw 115 rfl)) (by decide) (t := .boolean) (t' := .int) (by decide) (by decide)))
      have A27 := Le.wr W27
      have N27 := Own.Fr.one N25 hl27 g_a1
      have qf28 := (Arv.keep Lt (Keep.of_wr W27) (ninS (Ne.symm (Exa.neArv Le Lt (wd hw 75 rfl))) nin0))
      refine Own.retV P27 (dc s41 26 rfl) hret hlk (by decide) (by decide) ?_
      exact ⟨rfl, N27, (Keep.wr (Keep.trans (Keep.refl h0 _) KL (allS (Or.inl (by simp)) all0)) W27 (Or.inl (by simp))), Or.inl ⟨A27, F27_value, F27_coder, by rw [Own.take_len he]; exact F27_count, F27_maybeLatin1, by rw [show e1 = i by omega]; exact qf28, by rw [show e1 = i by omega]; exact Lp⟩⟩
    | succ kk ih =>
      intro i hk hi T25 lc25 hL25 sl7 P25 N25 KL Le L1 L2 L3 L4 Lt Lp hs7 Ls Lv Lw Lu Lc Lf La Lh Ll
      have ht21 : t2 ≠ t1 := Own.arvNe Lu.1 Lt (by have := he; have := hcl; have := hN; have := hN16; omega) (by have := he; have := hcl; have := hN; have := hN16; omega) (by have := he; have := hcl; have := hN; have := hN16; omega)
      refine Own.iload (q := 53) P25 (dc s42 8 rfl) rfl rfl ?_
      refine Own.iloadN (q := 54) P25 (dc s42 9 rfl) rfl rfl ?_
      refine Own.icmp_ge (q := 57) (qy := 142) P25 (dc s42 10 rfl) (by decide) rfl (fun q54 => ?_) (fun q54 => ?_)
      · refine Own.goto (q := 194) P25 (dc s42 57 rfl) (by decide) ?_
        refine Own.aloadN (q := 195) P25 (dc s41 18 rfl) rfl rfl rfl ?_
        refine Own.dup (q := 196) P25 (dc s41 19 rfl) rfl rfl ?_
        refine Own.getfield (q := 199) P25 (dc s41 20 rfl) (wd hw 114 rfl) L3 rfl ?_
        intro T29 P29
        refine Own.iloadN (q := 200) P29 (dc s41 21 rfl) rfl rfl ?_
        refine Own.iloadN (q := 201) P29 (dc s41 22 rfl) rfl rfl ?_
        refine Own.isub (q := 202) P29 (dc s41 23 rfl)  rfl ?_
        rw [show ((Int32.ofNat e1) - (0 : Int32)) = (Int32.ofNat e1) from Int32.sub_zero _]
        refine Own.iadd (q := 203) P29 (dc s41 24 rfl)  rfl ?_
        rw [show ((Int32.ofNat ([] : List Int32).length) + (Int32.ofNat e1)) = (Int32.ofNat e1) from Int32.zero_add _]
        refine Own.putfield (q := 206) P29 (dc s41 25 rfl) (wd hw 114 rfl) L3 Le (Or.inl (wd hw 115 rfl)) (wd hw 75 rfl) (ty := .int) (by decide) rfl rfl rfl ?_
        intro T30 h30 lc30 hl30 P30 W30
        have F30_value := L1.other W30 (Or.inr (slot_ne (Or.inl (wd hw 89 rfl)) (Or.inl (wd hw 115 rfl)) (by decide) (t := (.array .byte)) (t' := .int) (by decide) (by decide)))
        have F30_coder := L2.other W30 (Or.inr (slot_ne (Or.inl (wd hw 91 rfl)) (Or.inl (wd hw 115 rfl)) (by decide) (t := .byte) (t' := .int) (by decide) (by decide)))
        have F30_count := Fld.same W30 L3
        have F30_maybeLatin1 := L4.other W30 (Or.inr (slot_ne (Or.inl (wd hw 295 rfl)) (Or.inl (wd hw 115 rfl)) (by decide) (t := .boolean) (t' := .int) (by decide) (by decide)))
        have A30 := Le.wr W30
        have N30 := Own.Fr.one N25 hl30 g_a1
        have qf31 := (Arv.keep Lt (Keep.of_wr W30) (ninS (Ne.symm (Exa.neArv Le Lt (wd hw 75 rfl))) nin0))
        refine Own.retV P30 (dc s41 26 rfl) hret hlk (by decide) (by decide) ?_
        exact ⟨rfl, N30, (Keep.wr (Keep.trans (Keep.refl h0 _) KL (allS (Or.inl (by simp)) all0)) W30 (Or.inl (by simp))), Or.inl ⟨A30, F30_value, F30_coder, by rw [Own.take_len he]; exact F30_count, F30_maybeLatin1, by rw [show e1 = i from Nat.le_antisymm (Nat.le_of_not_lt (fun z => q54 (Own.ltN (by have := he; have := hcl; have := hN; have := hN16; omega) (by have := he; have := hcl; have := hN; have := hN16; omega) z))) hi]; exact qf31, by rw [show e1 = i from Nat.le_antisymm (Nat.le_of_not_lt (fun z => q54 (Own.ltN (by have := he; have := hcl; have := hN; have := hN16; omega) (by have := he; have := hcl; have := hN; have := hN16; omega) z))) hi]; exact Lp⟩⟩
      · have hi2 : i < e1 := (Own.ofNat_lt (by have := he; have := hcl; have := hN; have := hN16; omega) (by have := he; have := hcl; have := hN; have := hN16; omega)).mp q54
        refine Own.aloadN (q := 58) P25 (dc s42 11 rfl) rfl rfl rfl ?_
        refine Own.iload (q := 60) P25 (dc s42 12 rfl) rfl rfl ?_
        have Z1_32 : n0 ≤ hL25.size := Nat.le_trans Z0 KL.1
        refine Own.cV (q := 63) (W := 0) (rest := []) P25 (dc s42 13 rfl) (wd hw 297 rfl) (vw_27 hw) (Own.nfs P25 (wd hw 52 rfl)) Ls (rmCa16 l Z a0 hw [] a2 t2 k2 cs i zc fm hL25 n0 Z1_32 Lc hzc Lf hfm La Lh Ll Ls Lv Lw Lu (by have := he; have := hcl; have := hN; have := hN16; have := hi2; omega)) (by decide) (by decide) rfl (hml rfl) rfl rfl (by decide) (by decide) rfl ?_
        rintro v33 T33 h33 L33 ⟨rfl, N33q, e33⟩ P33
        rw [e33] at P33
        have N33 := Fr.app N25 N33q
        refine Own.istore (q := 65) (L2 := #[.val (.ref a1), .val (.ref a2), .val (.int (0 : Int32)), .val (.int (Int32.ofNat e1)), .val (.ref t1), .val (.int (Int32.ofNat i)), .val (.int (Int32.ofNat i)), .val (.int (cs.getD i 0))]) P33 (dc s42 14 rfl) (by rcases hs7 with rfl | ⟨_, rfl⟩ <;> rfl) rfl ?_
        have hch := Own.ch_getD Lu.2.2.2 i
        rcases Classical.em ((255 : Int32) < cs.getD i 0) with hb | hb
        · skip
          refine Own.iload (q := 67) P33 (dc s42 15 rfl) rfl rfl ?_
          refine Own.cS (q := 70) (W := 0) (rest := []) P33 (dc s42 16 rfl) (wd hw 183 rfl) (sw_19 hw) (rmCan0 l Z a0 hw [] (cs.getD i 0) hL25 n0 Z1_32 hb) (by decide) (by decide) rfl (hml rfl) rfl rfl (by decide) (by decide) rfl ?_
          rintro v34 T34 h34 L34 ⟨rfl, N34q, e34⟩ P34
          rw [e34] at P34
          have N34 := Fr.app N33 N34q
          refine Own.if_eq (q := 73) (qy := 87) P34 (dc s42 17 rfl) (by decide) rfl (fun _ => ?_) (fun q => absurd rfl q)
          refine Own.aloadN (q := 88) P34 (dc s42 25 rfl) rfl rfl rfl ?_
          refine Own.iload (q := 90) P34 (dc s42 26 rfl) rfl rfl ?_
          refine Own.putfield (q := 93) P34 (dc s42 27 rfl) (wd hw 114 rfl) L3 Le (Or.inl (wd hw 115 rfl)) (wd hw 75 rfl) (ty := .int) (by decide) rfl rfl rfl ?_
          intro T35 h35 lc35 hl35 P35 W35
          have F35_value := L1.other W35 (Or.inr (slot_ne (Or.inl (wd hw 89 rfl)) (Or.inl (wd hw 115 rfl)) (by decide) (t := (.array .byte)) (t' := .int) (by decide) (by decide)))
          have F35_coder := L2.other W35 (Or.inr (slot_ne (Or.inl (wd hw 91 rfl)) (Or.inl (wd hw 115 rfl)) (by decide) (t := .byte) (t' := .int) (by decide) (by decide)))
          have F35_count := Fld.same W35 L3
          have F35_maybeLatin1 := L4.other W35 (Or.inr (slot_ne (Or.inl (wd hw 295 rfl)) (Or.inl (wd hw 115 rfl)) (by decide) (t := .boolean) (t' := .int) (by decide) (by decide)))
          have A35 := Le.wr W35
          have N35 := Own.Fr.one N34 hl35 g_a1
          refine Own.aloadN (q := 94) P35 (dc s42 28 rfl) rfl rfl rfl ?_
          have fc : Own.Bf Z h35 a1 "count" "I" (.int (Int32.ofNat (cs.take i).length)) := by rw [Own.take_len (by have := he; have := hcl; have := hN; have := hN16; have := hi2; omega)]; exact F35_count
          have qf36 := (Sta.wr W35 Lc)
          have qf37 := (Sta.wr W35 Lf)
          have qf38 := (Sta.wr W35 La)
          have qf39 := (Sta.wr W35 Lh)
          have qf40 := (Sta.wr W35 Ll)
          have qf41 := (Arv.keep Lt (Keep.of_wr W35) (ninS (Ne.symm (Exa.neArv Le Lt (wd hw 75 rfl))) nin0))
          have Z2_42 : n0 ≤ h35.size := by rw [W35.size]; exact Z1_32
          refine Own.cV (q := 97) (W := 0) (rest := []) P35 (dc s42 29 rfl) (wd hw 270 rfl) (vw_20 hw) (Own.nfs P35 (wd hw 273 rfl)) A35 (rmInfl l Z a0 hw [] a1 t1 kb N (cs.take i) zc fm h35 n0 Z2_42 qf36 hzc qf37 hfm qf38 qf39 qf40 A35 F35_value F35_coder fc F35_maybeLatin1 qf41 hN (by rw [Own.take_len (by have := he; have := hcl; have := hN; have := hN16; have := hi2; omega)]; have := he; have := hcl; have := hN; have := hN16; have := hi2; omega) Lp g_a1) (by decide) (by decide) rfl (hml rfl) rfl rfl (by decide) (by decide) rfl ?_
          rintro v43 T43 h43 L43 ⟨rfl, N43q, K43, t43, k43, gt43, X43, V43, C43, n43, m43, U43⟩ P43
          have N43 := Fr.app N35 N43q
          rw [Own.take_len (by have := he; have := hcl; have := hN; have := hN16; have := hi2; omega)] at n43
          refine Own.aloadN (q := 98) P43 (dc s42 30 rfl) rfl rfl rfl ?_
          have qf44 := (Fld.keep Lv (Keep.of_wr W35) (ninS (Exa.ne Ls Le (by decide)) nin0))
          have qf45 := (Fld.keep qf44 K43 (ninS (Exa.ne (Ls.wr W35) A35 (by decide)) nin0))
          have Z3_46 : n0 ≤ h43.size := Nat.le_trans Z2_42 K43.1
          refine Own.cV (q := 101) (W := 0) (rest := []) P43 (dc s42 31 rfl) (wd hw 133 rfl) (vw_26 hw) (Own.nfs P43 (wd hw 136 rfl)) ((Ls.wr W35).keep K43) (rmSv l Z a0 hw [] a2 t2 h43 n0 Z3_46 qf45) (by decide) (by decide) rfl (hml rfl) rfl rfl (by decide) (by decide) rfl ?_
          rintro v47 T47 h47 L47 ⟨rfl, N47q, e47⟩ P47
          rw [e47] at P47
          have N47 := Fr.app N43 N47q
          refine Own.iload (q := 103) P47 (dc s42 32 rfl) rfl rfl ?_
          refine Own.iconst (q := 104) (v := (1 : Int32)) P47 (dc s42 33 rfl) rfl rfl ?_
          refine Own.ishl (q := 105) P47 (dc s42 34 rfl)  rfl ?_
          rw [show ((Int32.ofNat i) <<< ((1 : Int32) &&& 31)) = (Int32.ofNat (2 * i)) from Own.dbl (by have := he; have := hcl; have := hN; have := hN16; have := hi2; omega)]
          refine Own.aloadN (q := 106) P47 (dc s42 35 rfl) rfl rfl rfl ?_
          refine Own.getfield (q := 109) P47 (dc s42 36 rfl) (wd hw 88 rfl) V43 rfl ?_
          intro T48 P48
          refine Own.iload (q := 111) P48 (dc s42 37 rfl) rfl rfl ?_
          refine Own.iconst (q := 112) (v := (1 : Int32)) P48 (dc s42 38 rfl) rfl rfl ?_
          refine Own.ishl (q := 113) P48 (dc s42 39 rfl)  rfl ?_
          rw [show ((Int32.ofNat i) <<< ((1 : Int32) &&& 31)) = (Int32.ofNat (2 * i)) from Own.dbl (by have := he; have := hcl; have := hN; have := hN16; have := hi2; omega)]
          refine Own.iloadN (q := 114) P48 (dc s42 40 rfl) rfl rfl ?_
          refine Own.iload (q := 116) P48 (dc s42 41 rfl) rfl rfl ?_
          refine Own.isub (q := 117) P48 (dc s42 42 rfl)  rfl ?_
          rw [show ((Int32.ofNat e1) - (Int32.ofNat i)) = (Int32.ofNat (e1 - i)) from Own.subE (by have := he; have := hcl; have := hN; have := hN16; have := hi2; omega)]
          refine Own.iconst (q := 118) (v := (1 : Int32)) P48 (dc s42 43 rfl) rfl rfl ?_
          refine Own.ishl (q := 119) P48 (dc s42 44 rfl)  rfl ?_
          rw [show ((Int32.ofNat (e1 - i)) <<< ((1 : Int32) &&& 31)) = (Int32.ofNat (2 * (e1 - i))) from Own.dbl (by have := he; have := hcl; have := hN; have := hN16; have := hi2; omega)]
          have qf49 := (Arv.keep Lu.1 (Keep.of_wr W35) (ninS (Ne.symm (Exa.neArv Le Lu.1 (wd hw 75 rfl))) nin0))
          have qf50 := (Arv.keep qf49 K43 (ninS (Ne.symm (Exa.neArv A35 qf49 (wd hw 75 rfl))) nin0))
          refine Own.copyB (q := 122) (W := 0) (n0 := n0) (sp0 := 2 * i) (d := 2 * i) (j := 2 * (e1 - i)) (us := ((Own.b16 cs).drop (2 * i)).take (2 * (e1 - i))) P48 N47 (dc s42 45 rfl) (wd hw 138 rfl) (wd hw 141 rfl) (wd hw 139 rfl) (wd hw 140 rfl) qf50 U43.1 rfl (Own.nneg (by have := he; have := hcl; have := hN; have := hN16; have := hi2; omega)) (Own.nneg (by have := he; have := hcl; have := hN; have := hN16; have := hi2; omega)) (Own.nneg (by have := he; have := hcl; have := hN; have := hN16; have := hi2; omega)) (Own.clamp (by have := he; have := hcl; have := hN; have := hN16; have := hi2; omega)) (Own.clamp (by have := he; have := hcl; have := hN; have := hN16; have := hi2; omega)) (Own.clamp (by have := he; have := hcl; have := hN; have := hN16; have := hi2; omega)) (by rw [Own.clamp (by have := he; have := hcl; have := hN; have := hN16; have := hi2; omega)]; have := he; have := hcl; have := hN; have := hN16; have := hi2; omega) (by rw [Own.clamp (by have := he; have := hcl; have := hN; have := hN16; have := hi2; omega)]; have := he; have := hcl; have := hN; have := hN16; have := hi2; omega) (Own.range_drop _ (Own.b16_len cs) (by have := he; have := hcl; have := hN; have := hN16; have := hi2; omega)) (by rw [Own.b16_len, U43.2.1]; have := he; have := hcl; have := hN; have := hN16; have := hi2; omega) (Nat.le_trans Z2_42 gt43) (hml rfl) (by decide) (Own.w0 rfl) (by decide) rfl ?_
          intro T51 h51 L51 N51 P51 K51 A51
          rw [Own.ap16_list (N := N) (Nat.le_of_lt hi2) he] at A51
          refine Own.aloadN (q := 123) P51 (dc s42 46 rfl) rfl rfl rfl ?_
          refine Own.dup (q := 124) P51 (dc s42 47 rfl) rfl rfl ?_
          have qf52 := (Fld.keep n43 K51 (ninS (Exa.neArv X43 U43.1 (wd hw 75 rfl)) nin0))
          refine Own.getfield (q := 127) P51 (dc s42 48 rfl) (wd hw 114 rfl) qf52 rfl ?_
          intro T53 P53
          refine Own.iloadN (q := 128) P53 (dc s42 49 rfl) rfl rfl ?_
          refine Own.iload (q := 130) P53 (dc s42 50 rfl) rfl rfl ?_
          refine Own.isub (q := 131) P53 (dc s42 51 rfl)  rfl ?_
          rw [show ((Int32.ofNat e1) - (Int32.ofNat i)) = (Int32.ofNat (e1 - i)) from Own.subE (by have := he; have := hcl; have := hN; have := hN16; have := hi2; omega)]
          refine Own.iadd (q := 132) P53 (dc s42 52 rfl)  rfl ?_
          rw [show ((Int32.ofNat i) + (Int32.ofNat (e1 - i))) = (Int32.ofNat e1) from Own.addE (by have := he; have := hcl; have := hN; have := hN16; have := hi2; omega)]
          have qf54 := (Fld.keep V43 K51 (ninS (Exa.neArv X43 U43.1 (wd hw 75 rfl)) nin0))
          have qf55 := (Fld.keep C43 K51 (ninS (Exa.neArv X43 U43.1 (wd hw 75 rfl)) nin0))
          have qf56 := (Fld.keep m43 K51 (ninS (Exa.neArv X43 U43.1 (wd hw 75 rfl)) nin0))
          refine Own.putfield (q := 135) P53 (dc s42 53 rfl) (wd hw 114 rfl) qf52 (X43.keep K51) (Or.inl (wd hw 115 rfl)) (wd hw 75 rfl) (ty := .int) (by decide) rfl rfl rfl ?_
          intro T57 h57 lc57 hl57 P57 W57
          have F57_value := qf54.other W57 (Or.inr (slot_ne (Or.inl (wd hw 89 rfl)) (Or.inl (wd hw 115 rfl)) (by decide) (t := (.array .byte)) (t' := .int) (by decide) (by decide)))
          have F57_coder := qf55.other W57 (Or.inr (slot_ne (Or.inl (wd hw 91 rfl)) (Or.inl (wd hw 115 rfl)) (by decide) (t := .byte) (t' := .int) (by decide) (by decide)))
          have F57_count := Fld.same W57 qf52
          have F57_maybeLatin1 := qf56.other W57 (Or.inr (slot_ne (Or.inl (wd hw 295 rfl)) (Or.inl (wd hw 115 rfl)) (by decide) (t := .boolean) (t' := .int) (by decide) (by decide)))
          have A57 := (X43.keep K51).wr W57
          have N57 := Own.Fr.one N51 hl57 g_a1
          have sz0_1_58 : h0.size ≤ hL25.size := Nat.le_trans (Nat.le_refl _) KL.1
          have sz0_2_59 : h0.size ≤ h35.size := by rw [W35.size]; exact sz0_1_58
          have qf60 := (Arv.keep A51 (Keep.of_wr W57) (ninS (Ne.symm (Exa.neArv (X43.keep K51) A51 (wd hw 75 rfl))) nin0))
          refine Own.retV P57 (dc s42 54 rfl) hret hlk (by decide) (by decide) ?_
          exact ⟨rfl, N57, (Keep.wr (Keep.trans (Keep.trans (Keep.wr (Keep.trans (Keep.refl h0 _) KL (allS (Or.inl (by simp)) all0)) W35 (Or.inl (by simp))) K43 (allS (Or.inl (by simp)) all0)) K51 (allS (Or.inr (Nat.le_trans sz0_2_59 gt43)) all0)) W57 (Or.inl (by simp))), Or.inr ⟨t43, _, (Nat.le_trans sz0_2_59 gt43), A57, F57_value, F57_coder, by rw [Own.take_len he]; exact F57_count, F57_maybeLatin1, qf60, Own.vuN_len (by rw [Own.take_len he]; have := he; have := hcl; have := hN; have := hN16; omega), by omega, Own.ch_vu (fun c q => Lu.2.2.2 c (List.mem_of_mem_take q))⟩⟩
        · skip
          refine Own.iload (q := 67) P33 (dc s42 15 rfl) rfl rfl ?_
          refine Own.cS (q := 70) (W := 0) (rest := []) P33 (dc s42 16 rfl) (wd hw 183 rfl) (sw_19 hw) (rmCan1 l Z a0 hw [] (cs.getD i 0) hL25 n0 Z1_32 hb) (by decide) (by decide) rfl (hml rfl) rfl rfl (by decide) (by decide) rfl ?_
          rintro v61 T61 h61 L61 ⟨rfl, N61q, e61⟩ P61
          rw [e61] at P61
          have N61 := Fr.app N33 N61q
          refine Own.if_eq (q := 73) (qy := 87) P61 (dc s42 17 rfl) (by decide) rfl (fun q => absurd q (by decide)) (fun _ => ?_)
          refine Own.aload (q := 75) P61 (dc s42 18 rfl) rfl rfl rfl ?_
          refine Own.iload (q := 77) P61 (dc s42 19 rfl) rfl rfl ?_
          refine Own.iinc (q := 80) (v := (1 : Int32)) (L2 := #[.val (.ref a1), .val (.ref a2), .val (.int (0 : Int32)), .val (.int (Int32.ofNat e1)), .val (.ref t1), .val (.int (Int32.ofNat i)), .val (.int ((Int32.ofNat i) + (1 : Int32))), .val (.int (cs.getD i 0))]) P61 (dc s42 20 rfl) rfl rfl rfl rfl ?_
          rw [show (Int32.ofNat i + (1 : Int32)) = Int32.ofNat (i + 1) from (Int32.ofNat_add i 1).symm]
          refine Own.iload (q := 82) P61 (dc s42 21 rfl) rfl rfl ?_
          refine Own.i2b (q := 83) P61 (dc s42 22 rfl)  rfl ?_
          refine Own.bastore (q := 84) (i := (cs.take i).length) (x2 := (cs.getD i 0).toInt8.toInt32) P61 (dc s42 23 rfl) Lt (Own.nneg (by have := he; have := hcl; have := hN; have := hN16; have := hi2; omega)) (Own.ltN (by have := he; have := hcl; have := hN; have := hN16; have := hi2; omega) (by have := he; have := hcl; have := hN; have := hN16; have := hi2; omega) (by have := he; have := hcl; have := hN; have := hN16; have := hi2; omega)) (Own.nar_b _) (Own.fits_b _) (by rw [Own.clamp (by have := he; have := hcl; have := hN; have := hN16; have := hi2; omega), Own.take_len (by have := he; have := hcl; have := hN; have := hN16; have := hi2; omega)]) (by simp; omega) rfl ?_
          intro T62 h62 lc62 hl62 P62 W62 A62
          rw [Own.vd_setN (by rw [Own.take_len (by have := he; have := hcl; have := hN; have := hN16; have := hi2; omega)]; have := he; have := hcl; have := hN; have := hN16; have := hi2; omega), Own.take_snoc (by have := he; have := hcl; have := hN; have := hN16; have := hi2; omega)] at A62
          have N62 := Own.Fr.one N61 hl62 g_t1
          refine Own.goto (q := 136) P62 (dc s42 24 rfl) (by decide) ?_
          refine Own.iinc (q := 139) (v := (1 : Int32)) (L2 := #[.val (.ref a1), .val (.ref a2), .val (.int (0 : Int32)), .val (.int (Int32.ofNat e1)), .val (.ref t1), .val (.int ((Int32.ofNat i) + (1 : Int32))), .val (.int (Int32.ofNat (i + 1))), .val (.int (cs.getD i 0))]) P62 (dc s42 55 rfl) rfl rfl rfl rfl ?_
          rw [show (Int32.ofNat i + (1 : Int32)) = Int32.ofNat (i + 1) from (Int32.ofNat_add i 1).symm]
          refine Own.goto (q := 51) P62 (dc s42 56 rfl) (by decide) ?_
          have qf63 := (Fld.keep L1 (Keep.of_wr W62) (ninS (Exa.neArv Le Lt (wd hw 75 rfl)) nin0))
          have qf64 := (Fld.keep L2 (Keep.of_wr W62) (ninS (Exa.neArv Le Lt (wd hw 75 rfl)) nin0))
          have qf65 := (Fld.keep L3 (Keep.of_wr W62) (ninS (Exa.neArv Le Lt (wd hw 75 rfl)) nin0))
          have qf66 := (Fld.keep L4 (Keep.of_wr W62) (ninS (Exa.neArv Le Lt (wd hw 75 rfl)) nin0))
          have qf67 := (Fld.keep Lv (Keep.of_wr W62) (ninS (Exa.neArv Ls Lt (wd hw 3 rfl)) nin0))
          have qf68 := (Fld.keep Lw (Keep.of_wr W62) (ninS (Exa.neArv Ls Lt (wd hw 3 rfl)) nin0))
          have qf69 := (Arv.keep Lu.1 (Keep.of_wr W62) (ninS ht21 nin0))
          have qf70 := (Sta.wr W62 Lc)
          have qf71 := (Sta.wr W62 Lf)
          have qf72 := (Sta.wr W62 La)
          have qf73 := (Sta.wr W62 Lh)
          have qf74 := (Sta.wr W62 Ll)
          exact ih (i + 1) (by omega) hi2 _ _ _ _ P62 N62 (Keep.wr (Keep.trans (Keep.refl h0 _) KL (allS (Or.inl (by simp)) all0)) W62 (Or.inl (by simp))) (Le.wr W62) qf63 qf64 qf65 qf66 A62 (Own.rng_take Lp (by have := he; have := hcl; have := hN; have := hN16; have := hi2; omega) ⟨hch.1, hb⟩) (Or.inr ⟨_, rfl⟩) (Ls.wr W62) qf67 qf68 ⟨qf69, Lu.2⟩ qf70 qf71 qf72 qf73 qf74
  exact loop e1 0 (Nat.le_of_eq (Nat.zero_add _).symm) (Nat.zero_le _) _ _ _ _ P24 N22 (Keep.refl h0 _) E_a1 f1 f2 f3 f4 (by rw [List.take_zero]; exact A_t) (fun c q => by rw [List.take_zero] at q; nomatch q) (Or.inl rfl) E_a2 v2 c2 A2 SC SF SA SH SL
theorem s43 : decs jdk_41_method_12_code [(0, .iload_n 0, 1), (1, .ifCond .lt 13, 3), (4, .iload_n 0, 1), (5, .iload_n 1, 1), (6, .if_icmp .gt 8, 3), (9, .iload_n 1, 1), (10, .iload_n 2, 1), (11, .if_icmp .le 11, 3), (22, .iload_n 0, 1), (23, .ireturn, 1)] = true := by decide +kernel
theorem pn_20 : plainFor (⟨"jdk/internal/util/Preconditions", "checkFromToIndex", "(IIILjava/util/function/BiFunction;)I"⟩ : MethodName) = true := by first | exact plainFor_of_name (by first | (simp [plainName, overriddenIn]; done) | decide +kernel) | decide +kernel
def QrmCft (Z : State) (x1 : Int32) (y1 : Int32) (z1 : Int32) (fm : Value) (h0 : Heap) (n0 : Nat) (v : Option Value) (h : Heap) (L : List Loc) : Prop := v = some (.int x1) ∧ Fr n0 L ∧ h = h0
theorem rmCft (l : Launch) (Z : State) (a0 : Array Value) (hw : HW a0 Z) (ws : List Jvm.Cond) (x1 : Int32) (y1 : Int32) (z1 : Int32) (fm : Value) (h0 : Heap) (n0 : Nat) (Z0 : n0 ≤ h0.size) (hfm : fm.isRef = true) (b1 : ¬ x1 < 0) (b2 : ¬ y1 < x1) (b3 : ¬ z1 < y1) :
    Own.MF l Z (⟨"jdk/internal/util/Preconditions", "checkFromToIndex", "(IIILjava/util/function/BiFunction;)I"⟩ : MethodName) jdk_41_method_12_code 4 (some .int) ws (⟨0, 0, 0, 0⟩ : Room) #[(.int x1), (.int y1), (.int z1), fm] h0 (QrmCft Z x1 y1 z1 fm h0 n0) := by
  refine Own.MF.of (own := "jdk/internal/util/Preconditions") (n := 4) rfl rfl pn_20 (fun p e s m below meth c s₁ hml hlk hret hnm P0 => ?_)
  rw [show entryFrame m #[(.int x1), (.int y1), (.int z1), fm] 4 = mkF m 0 #[.val (.int x1), .val (.int y1), .val (.int z1), .val fm] [] from by first | (simp [entryFrame, mkF, argsToLocals, Value.category]; done) | rfl | (rcases Own.refc hfm with rfl | ⟨_, rfl⟩ <;> rfl)]
  refine Own.iloadN (q := 1) P0 (dc s43 0 rfl) rfl rfl ?_
  refine Own.if_lt (q := 4) (qy := 14) P0 (dc s43 1 rfl) (by decide) rfl (fun q => absurd q b1) (fun _ => ?_)
  refine Own.iloadN (q := 5) P0 (dc s43 2 rfl) rfl rfl ?_
  refine Own.iloadN (q := 6) P0 (dc s43 3 rfl) rfl rfl ?_
  refine Own.icmp_gt (q := 9) (qy := 14) P0 (dc s43 4 rfl) (by decide) rfl (fun q => absurd q b2) (fun _ => ?_)
  refine Own.iloadN (q := 10) P0 (dc s43 5 rfl) rfl rfl ?_
  refine Own.iloadN (q := 11) P0 (dc s43 6 rfl) rfl rfl ?_
  refine Own.icmp_le (q := 14) (qy := 22) P0 (dc s43 7 rfl) (by decide) rfl (fun _ => ?_) (fun q => absurd q b3)
  refine Own.iloadN (q := 23) P0 (dc s43 8 rfl) rfl rfl ?_
  refine Own.retI P0 (dc s43 9 rfl) hret hlk (by decide) (by decide) ?_
  exact ⟨rfl, (Fr.nil n0), rfl⟩
theorem sw_28 {Z : State} {a0 : Array Value} (hw : HW a0 Z) : Own.SW Z a0 ⟨"jdk/internal/util/Preconditions", "checkFromToIndex", "(IIILjava/util/function/BiFunction;)I"⟩ jdk_41_method_12_code 4 (some .int) 4 := ⟨(wd hw 112 rfl), (wd hw 67 rfl), (wd hw 113 rfl), by decide, _, _, pd_9, rfl⟩
theorem pd_25 : parseMethodDescriptor "(Ljava/lang/String;II)V" = some ⟨[(.object "java/lang/String"), .int, .int], none⟩ := by decide +kernel
theorem vw_29 {Z : State} {a0 : Array Value} (hw : HW a0 Z) : Own.VW Z a0 "java/lang/StringBuilder" ⟨"java/lang/AbstractStringBuilder", "appendChars", "(Ljava/lang/String;II)V"⟩ ⟨"java/lang/AbstractStringBuilder", "appendChars", "(Ljava/lang/String;II)V"⟩ jdk_68_method_75_code 8 none 3 := ⟨(Own.declOf (wd hw 123 rfl) (wd hw 126 rfl)), (wd hw 125 rfl), (wd hw 123 rfl), (wd hw 84 rfl), (wd hw 126 rfl), by decide, _, _, pd_25, rfl⟩
theorem s44 : decs jdk_68_method_27_code [(0, .aload_n 1, 1), (1, .ifnonnull 6, 3), (7, .iload_n 2, 1), (8, .iload_n 3, 1), (9, .aload_n 1, 1), (10, .invokeinterface 47 1, 5), (15, .getstatic 183, 3), (18, .invokestatic 161, 3), (21, .pop, 1), (22, .iload_n 3, 1), (23, .iload_n 2, 1), (24, .isub, 1), (25, .istore 4, 2), (27, .aload_n 0, 1), (28, .aload_n 0, 1), (29, .getfield 79, 3), (32, .iload 4, 2), (34, .iadd, 1), (35, .invokevirtual 100, 3), (38, .aload_n 1, 1), (39, .instanceof 1, 3), (42, .ifCond .eq 16, 3), (45, .aload_n 0, 1), (46, .aload_n 1, 1), (47, .checkcast 1, 3), (50, .iload_n 2, 1), (51, .iload_n 3, 1), (52, .invokevirtual 232, 3), (55, .goto 10, 3), (65, .aload_n 0, 1), (66, .areturn, 1)] = true := by decide +kernel
theorem pn_19 : plainFor (⟨"java/lang/AbstractStringBuilder", "append", "(Ljava/lang/CharSequence;II)Ljava/lang/AbstractStringBuilder;"⟩ : MethodName) = true := by first | exact plainFor_of_name (by first | (simp [plainName, overriddenIn]; done) | decide +kernel) | decide +kernel
def QrmAq (Z : State) (a1 : Addr) (t1 : Addr) (kb : ClassId) (N : Nat) (a2 : Addr) (cs : List Int32) (e1 : Nat) (zc : Int32) (fm : Value) (fi : Value) (h0 : Heap) (n0 : Nat) (v : Option Value) (h : Heap) (L : List Loc) : Prop := v = some (.ref a1) ∧ Fr n0 L ∧ Keep h0 h [a1, t1] ∧ ((Exa Z h a1 "java/lang/StringBuilder" ∧ Own.Bf Z h a1 "value" "[B" (.ref t1) ∧ Own.Bf Z h a1 "coder" "B" (.int 0) ∧ Own.Bf Z h a1 "count" "I" (.int (Int32.ofNat (cs.take e1).length)) ∧ Own.Bf Z h a1 "maybeLatin1" "Z" (.int 0) ∧ Arv Z h t1 kb .byte (Int32.ofNat N) ((((cs.take e1).map fun c : Int32 => c.toInt8.toInt32).map Value.int) ++ List.replicate (N - (cs.take e1).length) (Value.int 0)) (.int 0) ∧ ∀ c ∈ (cs.take e1), ¬ c < 0 ∧ ¬ (255 : Int32) < c) ∨ ∃ t k, h0.size ≤ t ∧ Exa Z h a1 "java/lang/StringBuilder" ∧ Own.Bf Z h a1 "value" "[B" (.ref t) ∧ Own.Bf Z h a1 "coder" "B" (.int 1) ∧ Own.Bf Z h a1 "count" "I" (.int (Int32.ofNat (cs.take e1).length)) ∧ Own.Bf Z h a1 "maybeLatin1" "Z" (.int 0) ∧ Own.U16 Z h t k N ((cs.take e1) ++ List.replicate (N - (cs.take e1).length) (0 : Int32)))
theorem rmAq (l : Launch) (Z : State) (a0 : Array Value) (hw : HW a0 Z) (ws : List Jvm.Cond) (a1 : Addr) (t1 : Addr) (kb : ClassId) (N : Nat) (a2 : Addr) (cs : List Int32) (e1 : Nat) (zc : Int32) (fm : Value) (fi : Value) (h0 : Heap) (n0 : Nat) (Z0 : n0 ≤ h0.size) (SC : Own.Cst Z h0 zc) (hzc : ¬ zc = 0) (SF : Own.Fst Z h0 fm) (hfm : fm.isRef = true) (SA : Own.Ads Z h0) (SH : Own.Hib Z h0) (SL : Own.Lob Z h0) (SI : Sta Z h0 "jdk/internal/util/Preconditions" "IOOBE_FORMATTER" "Ljava/util/function/BiFunction;" fi) (hfi : fi.isRef = true) (E_a1 : Exa Z h0 a1 "java/lang/StringBuilder") (f1 : Own.Bf Z h0 a1 "value" "[B" (.ref t1)) (f2 : Own.Bf Z h0 a1 "coder" "B" (.int 0)) (f3 : Own.Bf Z h0 a1 "count" "I" (.int (Int32.ofNat ([] : List Int32).length))) (f4 : Own.Bf Z h0 a1 "maybeLatin1" "Z" (.int 0)) (A_t : Arv Z h0 t1 kb .byte (Int32.ofNat N) (((([] : List Int32).map fun c : Int32 => c.toInt8.toInt32).map Value.int) ++ List.replicate (N - ([] : List Int32).length) (Value.int 0)) (.int 0)) (hN : N ≤ 20) (hN16 : 16 ≤ N) (X2 : Own.TX Z h0 a2 cs) (he : e1 ≤ cs.length) (hcl : cs.length ≤ 3) (g_a1 : n0 ≤ a1) (g_t1 : n0 ≤ t1) :
    Own.MF l Z (⟨"java/lang/AbstractStringBuilder", "append", "(Ljava/lang/CharSequence;II)Ljava/lang/AbstractStringBuilder;"⟩ : MethodName) jdk_68_method_27_code 5 (some (.object "java/lang/AbstractStringBuilder")) ws (⟨7, 1, 40, 111⟩ : Room) #[(.ref a1), (.ref a2), (.int (0 : Int32)), (.int (Int32.ofNat e1))] h0 (QrmAq Z a1 t1 kb N a2 cs e1 zc fm fi h0 n0) := by
  refine Own.MF.of (own := "java/lang/AbstractStringBuilder") (n := 5) rfl rfl pn_19 (fun p e s m below meth c s₁ hml hlk hret hnm P0 => ?_)
  rw [show entryFrame m #[(.ref a1), (.ref a2), (.int (0 : Int32)), (.int (Int32.ofNat e1))] 5 = mkF m 0 #[.val (.ref a1), .val (.ref a2), .val (.int (0 : Int32)), .val (.int (Int32.ofNat e1)), .unset] [] from by first | (simp [entryFrame, mkF, argsToLocals, Value.category]; done) | rfl]
  refine Own.aloadN (q := 1) P0 (dc s44 0 rfl) rfl rfl rfl ?_
  refine Own.nonnullY (q := 7) P0 (dc s44 1 rfl) (by decide) ?_
  refine Own.iloadN (q := 8) P0 (dc s44 2 rfl) rfl rfl ?_
  refine Own.iloadN (q := 9) P0 (dc s44 3 rfl) rfl rfl ?_
  refine Own.aloadN (q := 10) P0 (dc s44 4 rfl) rfl rfl rfl ?_
  refine Own.invFace (q := 15) (W := 2) (y := (⟨"java/lang/CharSequence", "length", "()I"⟩ : MethodName)) (a := a2) (argsL := []) (rest := [(.int (Int32.ofNat e1)), (.int (0 : Int32))]) P0 (dc s44 5 rfl) (wd hw 102 rfl) (wd hw 103 rfl) (mvT P0.2.2.2.1 (wd hw 104 rfl)) (wd hw 105 rfl) (wd hw 29 rfl) (wd hw 106 rfl) (wd hw 107 rfl) (wd hw 108 rfl) (by decide) (lenF (W := 2) (n0 := n0) P0.2.2.2.1 hw X2 Z0 SC hzc (by decide) (by decide)) X2.exa rfl rfl (hml rfl) (lenOf (show parseMethodDescriptor "()I" = some ⟨[], some .int⟩ from by decide +kernel) rfl) (Own.w0 rfl) (by decide) (by decide) rfl ?_
  rintro v21 T21 h21 L21 ⟨rfl, N21q, e21⟩ P21
  rw [e21] at P21
  have N21 := Fr.app (Fr.nil n0) N21q
  refine Own.getstatic (q := 18) P21 (dc s44 6 rfl) (wd hw 109 rfl) SI rfl ?_
  intro T22 P22
  refine Own.cS (q := 21) (W := 0) (rest := []) P22 (dc s44 7 rfl) (wd hw 111 rfl) (sw_28 hw) (rmCft l Z a0 hw [] (0 : Int32) (Int32.ofNat e1) (Int32.ofNat cs.length) fi h0 n0 Z0 hfi (by decide) (Own.nneg (by have := he; have := hcl; have := hN; have := hN16; omega)) (by rw [Own.ofNat_lt (by have := he; have := hcl; have := hN; have := hN16; omega) (by have := he; have := hcl; have := hN; have := hN16; omega)]; have := he; have := hcl; have := hN; have := hN16; omega)) (by decide) (by decide) rfl (hml rfl) rfl rfl (by decide) (by decide) rfl ?_
  rintro v23 T23 h23 L23 ⟨rfl, N23q, e23⟩ P23
  rw [e23] at P23
  have N23 := Fr.app N21 N23q
  refine Own.pop (q := 22) P23 (dc s44 8 rfl) rfl rfl ?_
  refine Own.iloadN (q := 23) P23 (dc s44 9 rfl) rfl rfl ?_
  refine Own.iloadN (q := 24) P23 (dc s44 10 rfl) rfl rfl ?_
  refine Own.isub (q := 25) P23 (dc s44 11 rfl)  rfl ?_
  rw [show ((Int32.ofNat e1) - (0 : Int32)) = (Int32.ofNat e1) from Int32.sub_zero _]
  refine Own.istore (q := 27) (L2 := #[.val (.ref a1), .val (.ref a2), .val (.int (0 : Int32)), .val (.int (Int32.ofNat e1)), .val (.int (Int32.ofNat e1))]) P23 (dc s44 12 rfl) rfl rfl ?_
  refine Own.aloadN (q := 28) P23 (dc s44 13 rfl) rfl rfl rfl ?_
  refine Own.aloadN (q := 29) P23 (dc s44 14 rfl) rfl rfl rfl ?_
  refine Own.getfield (q := 32) P23 (dc s44 15 rfl) (wd hw 114 rfl) f3 rfl ?_
  intro T24 P24
  refine Own.iload (q := 34) P24 (dc s44 16 rfl) rfl rfl ?_
  refine Own.iadd (q := 35) P24 (dc s44 17 rfl)  rfl ?_
  rw [show ((Int32.ofNat ([] : List Int32).length) + (Int32.ofNat e1)) = (Int32.ofNat e1) from Int32.zero_add _]
  refine Own.cV (q := 38) (W := 0) (rest := []) P24 (dc s44 18 rfl) (wd hw 116 rfl) (vw_18 hw) (Own.nfs P24 (wd hw 119 rfl)) E_a1 (rmEn0 l Z a0 hw [] a1 t1 kb N ([] : List Int32) e1 h0 n0 Z0 f1 f2 f3 f4 A_t hN (by have := he; have := hcl; have := hN; have := hN16; omega)) (by decide) (by decide) rfl (hml rfl) rfl rfl (by decide) (by decide) rfl ?_
  rintro v25 T25 h25 L25 ⟨rfl, N25q, e25⟩ P25
  rw [e25] at P25
  have N25 := Fr.app N23 N25q
  refine Own.aloadN (q := 39) P25 (dc s44 19 rfl) rfl rfl rfl ?_
  refine Own.instOf (q := 42) P25 (dc s44 20 rfl) (wd hw 121 rfl) (Ins.self X2.exa) rfl ?_
  intro T26 P26
  refine Own.if_eq (q := 45) (qy := 58) P26 (dc s44 21 rfl) (by decide) rfl (fun q => absurd q (by decide)) (fun _ => ?_)
  refine Own.aloadN (q := 46) P26 (dc s44 22 rfl) rfl rfl rfl ?_
  refine Own.aloadN (q := 47) P26 (dc s44 23 rfl) rfl rfl rfl ?_
  refine Own.castTo (q := 50) P26 (dc s44 24 rfl) (wd hw 121 rfl) (Ins.self X2.exa) rfl ?_
  intro T27 P27
  refine Own.iloadN (q := 51) P27 (dc s44 25 rfl) rfl rfl ?_
  refine Own.iloadN (q := 52) P27 (dc s44 26 rfl) rfl rfl ?_
  rcases X2 with X2 | ⟨t2, k2, q1, q2, q3, q4⟩
  · skip
    refine Own.cV (q := 55) (W := 0) (rest := []) P27 (dc s44 27 rfl) (wd hw 122 rfl) (vw_29 hw) (Own.nfs P27 (wd hw 125 rfl)) E_a1 (rmAp0 l Z a0 hw [] a1 t1 kb N a2 cs e1 zc fm h0 n0 Z0 SC hzc E_a1 f1 f2 f3 f4 A_t hN hN16 X2 he hcl g_a1 g_t1) (by decide) (by decide) rfl (hml rfl) rfl rfl (by decide) (by decide) rfl ?_
    rintro v28 T28 h28 L28 ⟨rfl, N28q, K28, X28a, X28b, X28c, X28d, X28e, X28f⟩ P28
    have N28 := Fr.app N25 N28q
    refine Own.goto (q := 65) P28 (dc s44 28 rfl) (by decide) ?_
    refine Own.aloadN (q := 66) P28 (dc s44 29 rfl) rfl rfl rfl ?_
    refine Own.retA P28 (dc s44 30 rfl) hret rfl rfl rfl hlk (by decide) (by decide) ?_
    exact ⟨rfl, N28, K28, Or.inl ⟨X28a, X28b, X28c, X28d, X28e, X28f, fun c q => X2.2.1 c (List.mem_of_mem_take q)⟩⟩
  · skip
    refine Own.cV (q := 55) (W := 0) (rest := []) P27 (dc s44 27 rfl) (wd hw 122 rfl) (vw_29 hw) (Own.nfs P27 (wd hw 125 rfl)) E_a1 (rmAp1 l Z a0 hw [] a1 t1 kb N a2 t2 k2 cs e1 zc fm h0 n0 Z0 SC hzc SF hfm SA SH SL E_a1 f1 f2 f3 f4 A_t q1 q2 q3 q4 hN hN16 he hcl g_a1 g_t1) (by decide) (by decide) rfl (hml rfl) rfl rfl (by decide) (by decide) rfl ?_
    rintro v29 T29 h29 L29 ⟨rfl, N29q, K29, X29⟩ P29
    have N29 := Fr.app N25 N29q
    refine Own.goto (q := 65) P29 (dc s44 28 rfl) (by decide) ?_
    refine Own.aloadN (q := 66) P29 (dc s44 29 rfl) rfl rfl rfl ?_
    refine Own.retA P29 (dc s44 30 rfl) hret rfl rfl rfl hlk (by decide) (by decide) ?_
    exact ⟨rfl, N29, K29, X29⟩
theorem pd_26 : parseMethodDescriptor "(Ljava/lang/CharSequence;II)Ljava/lang/AbstractStringBuilder;" = some ⟨[(.object "java/lang/CharSequence"), .int, .int], some (.object "java/lang/AbstractStringBuilder")⟩ := by decide +kernel
theorem s45 : decs jdk_67_method_10_code [(0, .aload_n 0, 1), (1, .aload_n 1, 1), (2, .iload_n 2, 1), (3, .iload_n 3, 1), (4, .invokespecial 38, 3), (7, .pop, 1), (8, .aload_n 0, 1), (9, .areturn, 1)] = true := by decide +kernel
theorem pn_18 : plainFor (⟨"java/lang/StringBuilder", "append", "(Ljava/lang/CharSequence;II)Ljava/lang/StringBuilder;"⟩ : MethodName) = true := by first | exact plainFor_of_name (by first | (simp [plainName, overriddenIn]; done) | decide +kernel) | decide +kernel
def QrmSq (Z : State) (a1 : Addr) (t1 : Addr) (kb : ClassId) (N : Nat) (a2 : Addr) (cs : List Int32) (e1 : Nat) (zc : Int32) (fm : Value) (fi : Value) (h0 : Heap) (n0 : Nat) (v : Option Value) (h : Heap) (L : List Loc) : Prop := v = some (.ref a1) ∧ Fr n0 L ∧ Keep h0 h [a1, t1] ∧ ((Exa Z h a1 "java/lang/StringBuilder" ∧ Own.Bf Z h a1 "value" "[B" (.ref t1) ∧ Own.Bf Z h a1 "coder" "B" (.int 0) ∧ Own.Bf Z h a1 "count" "I" (.int (Int32.ofNat (cs.take e1).length)) ∧ Own.Bf Z h a1 "maybeLatin1" "Z" (.int 0) ∧ Arv Z h t1 kb .byte (Int32.ofNat N) ((((cs.take e1).map fun c : Int32 => c.toInt8.toInt32).map Value.int) ++ List.replicate (N - (cs.take e1).length) (Value.int 0)) (.int 0) ∧ ∀ c ∈ (cs.take e1), ¬ c < 0 ∧ ¬ (255 : Int32) < c) ∨ ∃ t k, h0.size ≤ t ∧ Exa Z h a1 "java/lang/StringBuilder" ∧ Own.Bf Z h a1 "value" "[B" (.ref t) ∧ Own.Bf Z h a1 "coder" "B" (.int 1) ∧ Own.Bf Z h a1 "count" "I" (.int (Int32.ofNat (cs.take e1).length)) ∧ Own.Bf Z h a1 "maybeLatin1" "Z" (.int 0) ∧ Own.U16 Z h t k N ((cs.take e1) ++ List.replicate (N - (cs.take e1).length) (0 : Int32)))
theorem rmSq (l : Launch) (Z : State) (a0 : Array Value) (hw : HW a0 Z) (ws : List Jvm.Cond) (a1 : Addr) (t1 : Addr) (kb : ClassId) (N : Nat) (a2 : Addr) (cs : List Int32) (e1 : Nat) (zc : Int32) (fm : Value) (fi : Value) (h0 : Heap) (n0 : Nat) (Z0 : n0 ≤ h0.size) (SC : Own.Cst Z h0 zc) (hzc : ¬ zc = 0) (SF : Own.Fst Z h0 fm) (hfm : fm.isRef = true) (SA : Own.Ads Z h0) (SH : Own.Hib Z h0) (SL : Own.Lob Z h0) (SI : Sta Z h0 "jdk/internal/util/Preconditions" "IOOBE_FORMATTER" "Ljava/util/function/BiFunction;" fi) (hfi : fi.isRef = true) (E_a1 : Exa Z h0 a1 "java/lang/StringBuilder") (f1 : Own.Bf Z h0 a1 "value" "[B" (.ref t1)) (f2 : Own.Bf Z h0 a1 "coder" "B" (.int 0)) (f3 : Own.Bf Z h0 a1 "count" "I" (.int (Int32.ofNat ([] : List Int32).length))) (f4 : Own.Bf Z h0 a1 "maybeLatin1" "Z" (.int 0)) (A_t : Arv Z h0 t1 kb .byte (Int32.ofNat N) (((([] : List Int32).map fun c : Int32 => c.toInt8.toInt32).map Value.int) ++ List.replicate (N - ([] : List Int32).length) (Value.int 0)) (.int 0)) (hN : N ≤ 20) (hN16 : 16 ≤ N) (X2 : Own.TX Z h0 a2 cs) (he : e1 ≤ cs.length) (hcl : cs.length ≤ 3) (g_a1 : n0 ≤ a1) (g_t1 : n0 ≤ t1) :
    Own.MF l Z (⟨"java/lang/StringBuilder", "append", "(Ljava/lang/CharSequence;II)Ljava/lang/StringBuilder;"⟩ : MethodName) jdk_67_method_10_code 4 (some (.object "java/lang/StringBuilder")) ws (⟨8, 1, 40, 127⟩ : Room) #[(.ref a1), (.ref a2), (.int (0 : Int32)), (.int (Int32.ofNat e1))] h0 (QrmSq Z a1 t1 kb N a2 cs e1 zc fm fi h0 n0) := by
  refine Own.MF.of (own := "java/lang/StringBuilder") (n := 4) rfl rfl pn_18 (fun p e s m below meth c s₁ hml hlk hret hnm P0 => ?_)
  rw [show entryFrame m #[(.ref a1), (.ref a2), (.int (0 : Int32)), (.int (Int32.ofNat e1))] 4 = mkF m 0 #[.val (.ref a1), .val (.ref a2), .val (.int (0 : Int32)), .val (.int (Int32.ofNat e1))] [] from by first | (simp [entryFrame, mkF, argsToLocals, Value.category]; done) | rfl]
  refine Own.aloadN (q := 1) P0 (dc s45 0 rfl) rfl rfl rfl ?_
  refine Own.aloadN (q := 2) P0 (dc s45 1 rfl) rfl rfl rfl ?_
  refine Own.iloadN (q := 3) P0 (dc s45 2 rfl) rfl rfl ?_
  refine Own.iloadN (q := 4) P0 (dc s45 3 rfl) rfl rfl ?_
  refine Own.invSuper (q := 7) (W := 0) (y := (⟨"java/lang/AbstractStringBuilder", "append", "(Ljava/lang/CharSequence;II)Ljava/lang/AbstractStringBuilder;"⟩ : MethodName)) (a := a1) (argsL := [(.ref a2), (.int (0 : Int32)), (.int (Int32.ofNat e1))]) (rest := []) P0 (dc s45 4 rfl) (by decide) (wd hw 97 rfl) (Own.sameOwn (y := (⟨"java/lang/AbstractStringBuilder", "append", "(Ljava/lang/CharSequence;II)Ljava/lang/AbstractStringBuilder;"⟩ : MethodName)) (wd hw 98 rfl) (wd hw 200 rfl) (wd hw 201 rfl) rfl (by decide)) (wd hw 98 rfl) (wd hw 99 rfl) (wd hw 101 rfl) (Own.mfBack (W := 0) (rmAq l Z a0 hw [] a1 t1 kb N a2 cs e1 zc fm fi h0 n0 Z0 SC hzc SF hfm SA SH SL SI hfi E_a1 f1 f2 f3 f4 A_t hN hN16 X2 he hcl g_a1 g_t1) P0.2.2.2.1 (wd hw 101 rfl) (wd hw 84 rfl) (by decide) (by decide)) E_a1 rfl rfl (hml rfl) (lenOf pd_26 rfl) (Own.w0 rfl) (by decide) (by decide) rfl ?_
  rintro v21 T21 h21 L21 ⟨rfl, N21q, K21, X21⟩ P21
  have N21 := Fr.app (Fr.nil n0) N21q
  refine Own.pop (q := 8) P21 (dc s45 5 rfl) rfl rfl ?_
  refine Own.aloadN (q := 9) P21 (dc s45 6 rfl) rfl rfl rfl ?_
  refine Own.retA P21 (dc s45 7 rfl) hret rfl rfl rfl hlk (by decide) (by decide) ?_
  exact ⟨rfl, N21, K21, X21⟩
theorem s46 : decs jdk_68_method_64_code [(0, .aload_n 0, 1), (1, .getfield 15, 3), (4, .areturn, 1)] = true := by decide +kernel
theorem pn_37 : plainFor (⟨"java/lang/AbstractStringBuilder", "getValue", "()[B"⟩ : MethodName) = true := by first | exact plainFor_of_name (by first | (simp [plainName, overriddenIn]; done) | decide +kernel) | decide +kernel
def QrmGv (Z : State) (a1 : Addr) (t1 : Addr) (h0 : Heap) (n0 : Nat) (v : Option Value) (h : Heap) (L : List Loc) : Prop := v = some (.ref t1) ∧ Fr n0 L ∧ h = h0
theorem rmGv (l : Launch) (Z : State) (a0 : Array Value) (hw : HW a0 Z) (ws : List Jvm.Cond) (a1 : Addr) (t1 : Addr) (h0 : Heap) (n0 : Nat) (Z0 : n0 ≤ h0.size) (f1 : Own.Bf Z h0 a1 "value" "[B" (.ref t1)) :
    Own.MF l Z (⟨"java/lang/AbstractStringBuilder", "getValue", "()[B"⟩ : MethodName) jdk_68_method_64_code 1 (some (.array .byte)) ws (⟨0, 0, 0, 0⟩ : Room) #[(.ref a1)] h0 (QrmGv Z a1 t1 h0 n0) := by
  refine Own.MF.of (own := "java/lang/AbstractStringBuilder") (n := 1) rfl rfl pn_37 (fun p e s m below meth c s₁ hml hlk hret hnm P0 => ?_)
  rw [show entryFrame m #[(.ref a1)] 1 = mkF m 0 #[.val (.ref a1)] [] from by first | (simp [entryFrame, mkF, argsToLocals, Value.category]; done) | rfl]
  refine Own.aloadN (q := 1) P0 (dc s46 0 rfl) rfl rfl rfl ?_
  refine Own.getfield (q := 4) P0 (dc s46 1 rfl) (wd hw 88 rfl) f1 rfl ?_
  intro T21 P21
  refine Own.retA P21 (dc s46 2 rfl) hret rfl rfl rfl hlk (by decide) (by decide) ?_
  exact ⟨rfl, (Fr.nil n0), rfl⟩
theorem s47 : decs jdk_68_method_6_code [(0, .aload_n 0, 1), (1, .getfield 79, 3), (4, .ireturn, 1)] = true := by decide +kernel
theorem pn_39 : plainFor (⟨"java/lang/AbstractStringBuilder", "length", "()I"⟩ : MethodName) = true := by first | exact plainFor_of_name (by first | (simp [plainName, overriddenIn]; done) | decide +kernel) | decide +kernel
def QrmLn (Z : State) (a1 : Addr) (n1 : Int32) (h0 : Heap) (n0 : Nat) (v : Option Value) (h : Heap) (L : List Loc) : Prop := v = some (.int n1) ∧ Fr n0 L ∧ h = h0
theorem rmLn (l : Launch) (Z : State) (a0 : Array Value) (hw : HW a0 Z) (ws : List Jvm.Cond) (a1 : Addr) (n1 : Int32) (h0 : Heap) (n0 : Nat) (Z0 : n0 ≤ h0.size) (f3 : Own.Bf Z h0 a1 "count" "I" (.int n1)) :
    Own.MF l Z (⟨"java/lang/AbstractStringBuilder", "length", "()I"⟩ : MethodName) jdk_68_method_6_code 1 (some .int) ws (⟨0, 0, 0, 0⟩ : Room) #[(.ref a1)] h0 (QrmLn Z a1 n1 h0 n0) := by
  refine Own.MF.of (own := "java/lang/AbstractStringBuilder") (n := 1) rfl rfl pn_39 (fun p e s m below meth c s₁ hml hlk hret hnm P0 => ?_)
  rw [show entryFrame m #[(.ref a1)] 1 = mkF m 0 #[.val (.ref a1)] [] from by first | (simp [entryFrame, mkF, argsToLocals, Value.category]; done) | rfl]
  refine Own.aloadN (q := 1) P0 (dc s47 0 rfl) rfl rfl rfl ?_
  refine Own.getfield (q := 4) P0 (dc s47 1 rfl) (wd hw 114 rfl) f3 rfl ?_
  intro T21 P21
  refine Own.retI P21 (dc s47 2 rfl) hret hlk (by decide) (by decide) ?_
  exact ⟨rfl, (Fr.nil n0), rfl⟩
theorem s48 : decs jdk_29_method_69_code [(0, .iload_n 0, 1), (1, .iload_n 1, 1), (2, .if_icmp .gt 7, 3), (5, .iload_n 0, 1), (6, .goto 4, 3), (9, .iload_n 1, 1), (10, .ireturn, 1)] = true := by decide +kernel
theorem pn_43 : plainFor (⟨"java/lang/Math", "min", "(II)I"⟩ : MethodName) = true := by first | exact plainFor_of_name (by first | (simp [plainName, overriddenIn]; done) | decide +kernel) | decide +kernel
def QrmMin (Z : State) (x1 : Int32) (y1 : Int32) (h0 : Heap) (n0 : Nat) (v : Option Value) (h : Heap) (L : List Loc) : Prop := v = some (.int (if y1 < x1 then y1 else x1)) ∧ Fr n0 L ∧ h = h0
theorem rmMin (l : Launch) (Z : State) (a0 : Array Value) (hw : HW a0 Z) (ws : List Jvm.Cond) (x1 : Int32) (y1 : Int32) (h0 : Heap) (n0 : Nat) (Z0 : n0 ≤ h0.size)  :
    Own.MF l Z (⟨"java/lang/Math", "min", "(II)I"⟩ : MethodName) jdk_29_method_69_code 2 (some .int) ws (⟨0, 0, 0, 0⟩ : Room) #[(.int x1), (.int y1)] h0 (QrmMin Z x1 y1 h0 n0) := by
  refine Own.MF.of (own := "java/lang/Math") (n := 2) rfl rfl pn_43 (fun p e s m below meth c s₁ hml hlk hret hnm P0 => ?_)
  rw [show entryFrame m #[(.int x1), (.int y1)] 2 = mkF m 0 #[.val (.int x1), .val (.int y1)] [] from by first | (simp [entryFrame, mkF, argsToLocals, Value.category]; done) | rfl]
  refine Own.iloadN (q := 1) P0 (dc s48 0 rfl) rfl rfl ?_
  refine Own.iloadN (q := 2) P0 (dc s48 1 rfl) rfl rfl ?_
  refine Own.icmp_gt (q := 5) (qy := 9) P0 (dc s48 2 rfl) (by decide) rfl (fun q2 => ?_) (fun q2 => ?_)
  · refine Own.iloadN (q := 10) P0 (dc s48 5 rfl) rfl rfl ?_
    refine Own.retI P0 (dc s48 6 rfl) hret hlk (by decide) (by decide) ?_
    exact ⟨by first | rw [if_pos q2] | rw [if_neg q2], (Fr.nil n0), rfl⟩
  · refine Own.iloadN (q := 6) P0 (dc s48 3 rfl) rfl rfl ?_
    refine Own.goto (q := 10) P0 (dc s48 4 rfl) (by decide) ?_
    refine Own.retI P0 (dc s48 6 rfl) hret hlk (by decide) (by decide) ?_
    exact ⟨by first | rw [if_pos q2] | rw [if_neg q2], (Fr.nil n0), rfl⟩
theorem s49 : decs jdk_65_method_131_code [(0, .iload_n 1, 1), (1, .iload_n 0, 1), (2, .if_icmp .ge 35, 3), (37, .return_, 1)] = true := by decide +kernel
theorem pn_42 : plainFor (⟨"java/util/Arrays", "checkLength", "(II)V"⟩ : MethodName) = true := by first | exact plainFor_of_name (by first | (simp [plainName, overriddenIn]; done) | decide +kernel) | decide +kernel
def QrmCl (Z : State) (x1 : Int32) (y1 : Int32) (h0 : Heap) (n0 : Nat) (v : Option Value) (h : Heap) (L : List Loc) : Prop := v = none ∧ Fr n0 L ∧ h = h0
theorem rmCl (l : Launch) (Z : State) (a0 : Array Value) (hw : HW a0 Z) (ws : List Jvm.Cond) (x1 : Int32) (y1 : Int32) (h0 : Heap) (n0 : Nat) (Z0 : n0 ≤ h0.size) (hle : ¬ y1 < x1) :
    Own.MF l Z (⟨"java/util/Arrays", "checkLength", "(II)V"⟩ : MethodName) jdk_65_method_131_code 2 none ws (⟨0, 0, 0, 0⟩ : Room) #[(.int x1), (.int y1)] h0 (QrmCl Z x1 y1 h0 n0) := by
  refine Own.MF.of (own := "java/util/Arrays") (n := 2) rfl rfl pn_42 (fun p e s m below meth c s₁ hml hlk hret hnm P0 => ?_)
  rw [show entryFrame m #[(.int x1), (.int y1)] 2 = mkF m 0 #[.val (.int x1), .val (.int y1)] [] from by first | (simp [entryFrame, mkF, argsToLocals, Value.category]; done) | rfl]
  refine Own.iloadN (q := 1) P0 (dc s49 0 rfl) rfl rfl ?_
  refine Own.iloadN (q := 2) P0 (dc s49 1 rfl) rfl rfl ?_
  refine Own.icmp_ge (q := 5) (qy := 37) P0 (dc s49 2 rfl) (by decide) rfl (fun _ => ?_) (fun q => absurd q hle)
  refine Own.retV P0 (dc s49 3 rfl) hret hlk (by decide) (by decide) ?_
  exact ⟨rfl, (Fr.nil n0), rfl⟩
theorem sw_30 {Z : State} {a0 : Array Value} (hw : HW a0 Z) : Own.SW Z a0 ⟨"java/util/Arrays", "checkLength", "(II)V"⟩ jdk_65_method_131_code 2 none 2 := ⟨(wd hw 220 rfl), (wd hw 214 rfl), (wd hw 221 rfl), by decide, _, _, pd_3, rfl⟩
theorem pd_27 : parseMethodDescriptor "(II)I" = some ⟨[.int, .int], some .int⟩ := by decide +kernel
theorem sw_31 {Z : State} {a0 : Array Value} (hw : HW a0 Z) : Own.SW Z a0 ⟨"java/lang/Math", "min", "(II)I"⟩ jdk_29_method_69_code 2 (some .int) 2 := ⟨(wd hw 223 rfl), (wd hw 224 rfl), (wd hw 225 rfl), by decide, _, _, pd_27, rfl⟩
theorem s50 : decs jdk_65_method_133_code [(0, .iload_n 1, 1), (1, .iload_n 2, 1), (2, .invokestatic 343, 3), (5, .iload_n 2, 1), (6, .iload_n 1, 1), (7, .isub, 1), (8, .istore_n 3, 1), (9, .iload_n 3, 1), (10, .newarray .byte, 2), (12, .astore 4, 2), (14, .aload_n 0, 1), (15, .iload_n 1, 1), (16, .aload 4, 2), (18, .iconst 0, 1), (19, .aload_n 0, 1), (20, .arraylength, 1), (21, .iload_n 1, 1), (22, .isub, 1), (23, .iload_n 3, 1), (24, .invokestatic 304, 3), (27, .invokestatic 150, 3), (30, .aload 4, 2), (32, .areturn, 1)] = true := by decide +kernel
theorem pn_41 : plainFor (⟨"java/util/Arrays", "copyOfRangeByte", "([BII)[B"⟩ : MethodName) = true := by first | exact plainFor_of_name (by first | (simp [plainName, overriddenIn]; done) | decide +kernel) | decide +kernel
def QrmCrb (Z : State) (t1 : Addr) (kb : ClassId) (z : Nat) (vs : List Value) (f : Nat) (n : Nat) (e1 : Nat) (h0 : Heap) (n0 : Nat) (v : Option Value) (h : Heap) (L : List Loc) : Prop := ∃ r kr, v = some (.ref r) ∧ Fr n0 L ∧ Ext h0 h ∧ h0.size ≤ r ∧ Arv Z h r kr .byte (Int32.ofNat n) ((vs.drop f).take n) (.int 0)
theorem rmCrb (l : Launch) (Z : State) (a0 : Array Value) (hw : HW a0 Z) (ws : List Jvm.Cond) (t1 : Addr) (kb : ClassId) (z : Nat) (vs : List Value) (f : Nat) (n : Nat) (e1 : Nat) (h0 : Heap) (n0 : Nat) (Z0 : n0 ≤ h0.size) (A_t : Arv Z h0 t1 kb .byte (Int32.ofNat z) vs (.int 0)) (hvl : vs.length = z) (hfn : f + n ≤ z) (hz4 : z ≤ 4000) (hn16 : n ≤ 40) (he : e1 = f + n) :
    Own.MF l Z (⟨"java/util/Arrays", "copyOfRangeByte", "([BII)[B"⟩ : MethodName) jdk_65_method_133_code 5 (some (.array .byte)) ws (⟨1, 1, 40, 18⟩ : Room) #[(.ref t1), (.int (Int32.ofNat f)), (.int (Int32.ofNat e1))] h0 (QrmCrb Z t1 kb z vs f n e1 h0 n0) := by
  refine Own.MF.of (own := "java/util/Arrays") (n := 5) rfl rfl pn_41 (fun p e s m below meth c s₁ hml hlk hret hnm P0 => ?_)
  rw [show entryFrame m #[(.ref t1), (.int (Int32.ofNat f)), (.int (Int32.ofNat e1))] 5 = mkF m 0 #[.val (.ref t1), .val (.int (Int32.ofNat f)), .val (.int (Int32.ofNat e1)), .unset, .unset] [] from by first | (simp [entryFrame, mkF, argsToLocals, Value.category]; done) | rfl]
  refine Own.iloadN (q := 1) P0 (dc s50 0 rfl) rfl rfl ?_
  refine Own.iloadN (q := 2) P0 (dc s50 1 rfl) rfl rfl ?_
  refine Own.cS (q := 5) (W := 0) (rest := []) P0 (dc s50 2 rfl) (wd hw 219 rfl) (sw_30 hw) (rmCl l Z a0 hw [] (Int32.ofNat f) (Int32.ofNat e1) h0 n0 Z0 (Own.leE he (by have := hfn; have := hz4; have := hn16; have := he; omega))) (by decide) (by decide) rfl (hml rfl) rfl rfl (by decide) (by decide) rfl ?_
  rintro v21 T21 h21 L21 ⟨rfl, N21q, e21⟩ P21
  rw [e21] at P21
  have N21 := Fr.app (Fr.nil n0) N21q
  refine Own.iloadN (q := 6) P21 (dc s50 3 rfl) rfl rfl ?_
  refine Own.iloadN (q := 7) P21 (dc s50 4 rfl) rfl rfl ?_
  refine Own.isub (q := 8) P21 (dc s50 5 rfl)  rfl ?_
  rw [show ((Int32.ofNat e1) - (Int32.ofNat f)) = (Int32.ofNat n) from Own.subE he]
  refine Own.istoreN (q := 9) (L2 := #[.val (.ref t1), .val (.int (Int32.ofNat f)), .val (.int (Int32.ofNat e1)), .val (.int (Int32.ofNat n)), .unset]) P21 (dc s50 6 rfl) rfl rfl ?_
  refine Own.iloadN (q := 10) P21 (dc s50 7 rfl) rfl rfl ?_
  refine Own.newarr (q := 12) (cap := 40) P21 (dc s50 8 rfl) (wd hw 16 rfl) (Own.nneg (by have := hfn; have := hz4; have := hn16; have := he; omega)) (by rw [Own.clamp (by have := hfn; have := hz4; have := hn16; have := he; omega)]; exact hn16) (by decide) (by decide) (by decide) rfl ?_
  intro T22 h22 a22 k22 ha22 P22 E22 A22
  have V22 : Arv Z h22 a22 k22 .byte (Int32.ofNat n) (List.replicate n (.int 0)) (.int 0) := Arv.pad A22 (pad_rep [] _ n)
  refine Own.astore (q := 14) (L2 := #[.val (.ref t1), .val (.int (Int32.ofNat f)), .val (.int (Int32.ofNat e1)), .val (.int (Int32.ofNat n)), .val (.ref a22)]) P22 (dc s50 9 rfl) rfl rfl rfl ?_
  refine Own.aloadN (q := 15) P22 (dc s50 10 rfl) rfl rfl rfl ?_
  refine Own.iloadN (q := 16) P22 (dc s50 11 rfl) rfl rfl ?_
  refine Own.aload (q := 18) P22 (dc s50 12 rfl) rfl rfl rfl ?_
  refine Own.iconst (q := 19) (v := (0 : Int32)) P22 (dc s50 13 rfl) rfl rfl ?_
  refine Own.aloadN (q := 20) P22 (dc s50 14 rfl) rfl rfl rfl ?_
  have E0_1_23 : Ext h0 h22 := E22
  refine Own.arraylength (q := 21) P22 (dc s50 15 rfl) (A_t.ext E0_1_23) rfl ?_
  refine Own.iloadN (q := 22) P22 (dc s50 16 rfl) rfl rfl ?_
  refine Own.isub (q := 23) P22 (dc s50 17 rfl)  rfl ?_
  refine Own.iloadN (q := 24) P22 (dc s50 18 rfl) rfl rfl ?_
  refine Own.cS (q := 27) (W := 4) (rest := [(.int (0 : Int32)), (.ref a22), (.int (Int32.ofNat f)), (.ref t1)]) P22 (dc s50 19 rfl) (wd hw 222 rfl) (sw_31 hw) (rmMin l Z a0 hw [] ((Int32.ofNat z) - (Int32.ofNat f)) (Int32.ofNat n) h22 n0 (Nat.le_trans Z0 E0_1_23.1) ) (by decide) (by decide) rfl (hml rfl) rfl rfl (by decide) (by decide) rfl ?_
  rintro v24 T24 h24 L24 ⟨rfl, N24q, e24⟩ P24
  rw [e24] at P24
  have N24 := Fr.app N21 N24q
  rw [show (if (Int32.ofNat n) < ((Int32.ofNat z) - (Int32.ofNat f)) then (Int32.ofNat n) else ((Int32.ofNat z) - (Int32.ofNat f))) = (Int32.ofNat n) from Own.minE hfn hz4]
  refine Own.copyB (q := 30) (W := 0) (n0 := n0) (sp0 := f) (d := 0) (j := n) (us := (vs.drop f).take n) P24 N24 (dc s50 20 rfl) (wd hw 226 rfl) (wd hw 141 rfl) (wd hw 139 rfl) (wd hw 140 rfl) (A_t.ext E0_1_23) V22 rfl (Own.nneg (by have := hfn; have := hz4; have := hn16; have := he; omega)) (by decide) (Own.nneg (by have := hfn; have := hz4; have := hn16; have := he; omega)) (Own.clamp (by have := hfn; have := hz4; have := hn16; have := he; omega)) (by decide) (Own.clamp (by have := hfn; have := hz4; have := hn16; have := he; omega)) (by rw [Own.clamp hz4]; exact hfn) (by rw [Own.clamp (by have := hfn; have := hz4; have := hn16; have := he; omega), Nat.zero_add]; exact Nat.le_refl _) (Own.range_drop _ hvl hfn) (by rw [List.length_replicate, Nat.zero_add]; exact Nat.le_refl _) (Nat.le_trans Z0 (Nat.le_of_eq ha22.symm)) (hml rfl) (by decide) (Own.w0 rfl) (by decide) rfl ?_
  intro T25 h25 L25 N25 P25 K25 A25
  rw [Own.cr_list] at A25
  refine Own.aload (q := 32) P25 (dc s50 21 rfl) rfl rfl rfl ?_
  have E0_2_26 : Ext h0 h25 := (Own.Ext.kp E0_1_23 K25 (allS (Nat.le_of_eq ha22.symm) all0))
  refine Own.retA P25 (dc s50 22 rfl) hret rfl rfl rfl hlk (by decide) (by decide) ?_
  exact ⟨_, _, rfl, N25, E0_2_26, (Nat.le_of_eq ha22.symm), A25⟩
theorem pd_28 : parseMethodDescriptor "([BII)[B" = some ⟨[(.array .byte), .int, .int], some (.array .byte)⟩ := by decide +kernel
theorem sw_32 {Z : State} {a0 : Array Value} (hw : HW a0 Z) : Own.SW Z a0 ⟨"java/util/Arrays", "copyOfRangeByte", "([BII)[B"⟩ jdk_65_method_133_code 5 (some (.array .byte)) 3 := ⟨(wd hw 217 rfl), (wd hw 214 rfl), (wd hw 218 rfl), by decide, _, _, pd_28, rfl⟩
theorem s51 : decs jdk_65_method_132_code [(0, .iload_n 1, 1), (1, .ifCond .ne 9, 3), (4, .iload_n 2, 1), (5, .aload_n 0, 1), (6, .arraylength, 1), (7, .if_icmp .eq 10, 3), (10, .aload_n 0, 1), (11, .iload_n 1, 1), (12, .iload_n 2, 1), (13, .invokestatic 339, 3), (16, .areturn, 1)] = true := by decide +kernel
theorem pn_40 : plainFor (⟨"java/util/Arrays", "copyOfRange", "([BII)[B"⟩ : MethodName) = true := by first | exact plainFor_of_name (by first | (simp [plainName, overriddenIn]; done) | decide +kernel) | decide +kernel
def QrmCr (Z : State) (t1 : Addr) (kb : ClassId) (z : Nat) (vs : List Value) (f : Nat) (n : Nat) (e1 : Nat) (h0 : Heap) (n0 : Nat) (v : Option Value) (h : Heap) (L : List Loc) : Prop := ∃ r kr, v = some (.ref r) ∧ Fr n0 L ∧ Ext h0 h ∧ h0.size ≤ r ∧ Arv Z h r kr .byte (Int32.ofNat n) ((vs.drop f).take n) (.int 0)
theorem rmCr (l : Launch) (Z : State) (a0 : Array Value) (hw : HW a0 Z) (ws : List Jvm.Cond) (t1 : Addr) (kb : ClassId) (z : Nat) (vs : List Value) (f : Nat) (n : Nat) (e1 : Nat) (h0 : Heap) (n0 : Nat) (Z0 : n0 ≤ h0.size) (A_t : Arv Z h0 t1 kb .byte (Int32.ofNat z) vs (.int 0)) (hvl : vs.length = z) (hfn : f + n ≤ z) (hz4 : z ≤ 4000) (hn16 : n ≤ 40) (he : e1 = f + n) (hne : ¬ (f = 0 ∧ n = z)) :
    Own.MF l Z (⟨"java/util/Arrays", "copyOfRange", "([BII)[B"⟩ : MethodName) jdk_65_method_132_code 3 (some (.array .byte)) ws (⟨2, 1, 40, 34⟩ : Room) #[(.ref t1), (.int (Int32.ofNat f)), (.int (Int32.ofNat e1))] h0 (QrmCr Z t1 kb z vs f n e1 h0 n0) := by
  refine Own.MF.of (own := "java/util/Arrays") (n := 3) rfl rfl pn_40 (fun p e s m below meth c s₁ hml hlk hret hnm P0 => ?_)
  rw [show entryFrame m #[(.ref t1), (.int (Int32.ofNat f)), (.int (Int32.ofNat e1))] 3 = mkF m 0 #[.val (.ref t1), .val (.int (Int32.ofNat f)), .val (.int (Int32.ofNat e1))] [] from by first | (simp [entryFrame, mkF, argsToLocals, Value.category]; done) | rfl]
  refine Own.iloadN (q := 1) P0 (dc s51 0 rfl) rfl rfl ?_
  refine Own.if_ne (q := 4) (qy := 10) P0 (dc s51 1 rfl) (by decide) rfl (fun q1 => ?_) (fun q1 => ?_)
  · refine Own.aloadN (q := 11) P0 (dc s51 6 rfl) rfl rfl rfl ?_
    refine Own.iloadN (q := 12) P0 (dc s51 7 rfl) rfl rfl ?_
    refine Own.iloadN (q := 13) P0 (dc s51 8 rfl) rfl rfl ?_
    refine Own.cS (q := 16) (W := 0) (rest := []) P0 (dc s51 9 rfl) (wd hw 216 rfl) (sw_32 hw) (rmCrb l Z a0 hw [] t1 kb z vs f n e1 h0 n0 Z0 A_t hvl hfn hz4 hn16 he) (by decide) (by decide) rfl (hml rfl) rfl rfl (by decide) (by decide) rfl ?_
    rintro v21 T21 h21 L21 ⟨r21, kr21, rfl, N21q, E21, gr21, B21⟩ P21
    have N21 := Fr.app (Fr.nil n0) N21q
    refine Own.retA P21 (dc s51 10 rfl) hret rfl rfl rfl hlk (by decide) (by decide) ?_
    exact ⟨_, _, rfl, N21, E21, gr21, B21⟩
  · refine Own.iloadN (q := 5) P0 (dc s51 2 rfl) rfl rfl ?_
    refine Own.aloadN (q := 6) P0 (dc s51 3 rfl) rfl rfl rfl ?_
    refine Own.arraylength (q := 7) P0 (dc s51 4 rfl) A_t rfl ?_
    refine Own.icmp_eq (q := 10) (qy := 17) P0 (dc s51 5 rfl) (by decide) rfl (fun q => (Own.crNe he hfn hz4 hne q1 q).elim) (fun _ => ?_)
    refine Own.aloadN (q := 11) P0 (dc s51 6 rfl) rfl rfl rfl ?_
    refine Own.iloadN (q := 12) P0 (dc s51 7 rfl) rfl rfl ?_
    refine Own.iloadN (q := 13) P0 (dc s51 8 rfl) rfl rfl ?_
    refine Own.cS (q := 16) (W := 0) (rest := []) P0 (dc s51 9 rfl) (wd hw 216 rfl) (sw_32 hw) (rmCrb l Z a0 hw [] t1 kb z vs f n e1 h0 n0 Z0 A_t hvl hfn hz4 hn16 he) (by decide) (by decide) rfl (hml rfl) rfl rfl (by decide) (by decide) rfl ?_
    rintro v22 T22 h22 L22 ⟨r22, kr22, rfl, N22q, E22, gr22, B22⟩ P22
    have N22 := Fr.app (Fr.nil n0) N22q
    refine Own.retA P22 (dc s51 10 rfl) hret rfl rfl rfl hlk (by decide) (by decide) ?_
    exact ⟨_, _, rfl, N22, E22, gr22, B22⟩
theorem s52 : decs jdk_67_method_93_code [(0, .aload_n 0, 1), (1, .invokespecial 343, 3), (4, .ireturn, 1)] = true := by decide +kernel
theorem pn_38 : plainFor (⟨"java/lang/StringBuilder", "length", "()I"⟩ : MethodName) = true := by first | exact plainFor_of_name (by first | (simp [plainName, overriddenIn]; done) | decide +kernel) | decide +kernel
def QrmSln (Z : State) (a1 : Addr) (n1 : Int32) (h0 : Heap) (n0 : Nat) (v : Option Value) (h : Heap) (L : List Loc) : Prop := v = some (.int n1) ∧ Fr n0 L ∧ h = h0
theorem rmSln (l : Launch) (Z : State) (a0 : Array Value) (hw : HW a0 Z) (ws : List Jvm.Cond) (a1 : Addr) (n1 : Int32) (h0 : Heap) (n0 : Nat) (Z0 : n0 ≤ h0.size) (E_a1 : Exa Z h0 a1 "java/lang/StringBuilder") (f3 : Own.Bf Z h0 a1 "count" "I" (.int n1)) :
    Own.MF l Z (⟨"java/lang/StringBuilder", "length", "()I"⟩ : MethodName) jdk_67_method_93_code 1 (some .int) ws (⟨1, 0, 0, 12⟩ : Room) #[(.ref a1)] h0 (QrmSln Z a1 n1 h0 n0) := by
  refine Own.MF.of (own := "java/lang/StringBuilder") (n := 1) rfl rfl pn_38 (fun p e s m below meth c s₁ hml hlk hret hnm P0 => ?_)
  rw [show entryFrame m #[(.ref a1)] 1 = mkF m 0 #[.val (.ref a1)] [] from by first | (simp [entryFrame, mkF, argsToLocals, Value.category]; done) | rfl]
  refine Own.aloadN (q := 1) P0 (dc s52 0 rfl) rfl rfl rfl ?_
  refine Own.invSuper (q := 4) (W := 0) (y := (⟨"java/lang/AbstractStringBuilder", "length", "()I"⟩ : MethodName)) (a := a1) (argsL := []) (rest := []) P0 (dc s52 1 rfl) (by decide) (wd hw 209 rfl) (Own.sameOwn (y := (⟨"java/lang/AbstractStringBuilder", "length", "()I"⟩ : MethodName)) (wd hw 205 rfl) (wd hw 200 rfl) (wd hw 201 rfl) rfl (by decide)) (wd hw 205 rfl) (wd hw 99 rfl) (wd hw 210 rfl) (Own.mfBack (W := 0) (rmLn l Z a0 hw [] a1 n1 h0 n0 Z0 f3) P0.2.2.2.1 (wd hw 210 rfl) (wd hw 84 rfl) (by decide) (by decide)) E_a1 rfl rfl (hml rfl) (lenOf pd_20 rfl) (Own.w0 rfl) (by decide) (by decide) rfl ?_
  rintro v21 T21 h21 L21 ⟨rfl, N21q, e21⟩ P21
  rw [e21] at P21
  have N21 := Fr.app (Fr.nil n0) N21q
  refine Own.retI P21 (dc s52 2 rfl) hret hlk (by decide) (by decide) ?_
  exact ⟨rfl, N21, rfl⟩
theorem vw_33 {Z : State} {a0 : Array Value} (hw : HW a0 Z) : Own.VW Z a0 "java/lang/StringBuilder" ⟨"java/lang/AbstractStringBuilder", "getValue", "()[B"⟩ ⟨"java/lang/AbstractStringBuilder", "getValue", "()[B"⟩ jdk_68_method_64_code 1 (some (.array .byte)) 0 := ⟨(wd hw 199 rfl), (wd hw 201 rfl), (wd hw 200 rfl), (wd hw 84 rfl), (wd hw 202 rfl), by decide, _, _, pd_23, rfl⟩
theorem vw_34 {Z : State} {a0 : Array Value} (hw : HW a0 Z) : Own.VW Z a0 "java/lang/StringBuilder" ⟨"java/lang/AbstractStringBuilder", "length", "()I"⟩ ⟨"java/lang/StringBuilder", "length", "()I"⟩ jdk_67_method_93_code 1 (some .int) 0 := ⟨(wd hw 204 rfl), (wd hw 206 rfl), (wd hw 207 rfl), (wd hw 76 rfl), (wd hw 208 rfl), by decide, _, _, pd_20, rfl⟩
theorem sw_35 {Z : State} {a0 : Array Value} (hw : HW a0 Z) : Own.SW Z a0 ⟨"java/util/Arrays", "copyOfRange", "([BII)[B"⟩ jdk_65_method_132_code 3 (some (.array .byte)) 3 := ⟨(wd hw 213 rfl), (wd hw 214 rfl), (wd hw 215 rfl), by decide, _, _, pd_28, rfl⟩
theorem s53 : decs jdk_42_method_150_code [(0, .aload_n 0, 1), (1, .invokespecial 1, 3), (4, .aload_n 1, 1), (5, .invokevirtual 552, 3), (8, .astore_n 3, 1), (9, .aload_n 1, 1), (10, .invokevirtual 549, 3), (13, .istore 4, 2), (15, .aload_n 1, 1), (16, .invokevirtual 1047, 3), (19, .ifCond .eq 22, 3), (22, .aload_n 0, 1), (23, .iconst 0, 1), (24, .putfield 15, 3), (27, .aload_n 0, 1), (28, .aload_n 3, 1), (29, .iconst 0, 1), (30, .iload 4, 2), (32, .invokestatic 54, 3), (35, .putfield 9, 3), (38, .goto 59, 3), (97, .return_, 1)] = true := by decide +kernel
theorem pn_36 : plainFor (⟨"java/lang/String", "<init>", "(Ljava/lang/AbstractStringBuilder;Ljava/lang/Void;)V"⟩ : MethodName) = true := by first | exact plainFor_of_name (by first | (simp [plainName, overriddenIn]; done) | decide +kernel) | decide +kernel
def QrmSav0 (Z : State) (a1 : Addr) (u1 : Value) (u2 : Value) (a2 : Addr) (t1 : Addr) (kb : ClassId) (N : Nat) (cs : List Int32) (zc : Int32) (h0 : Heap) (n0 : Nat) (v : Option Value) (h : Heap) (L : List Loc) : Prop := v = none ∧ Fr n0 L ∧ Keep h0 h [a1] ∧ Own.Str Z h a1 cs
theorem rmSav0 (l : Launch) (Z : State) (a0 : Array Value) (hw : HW a0 Z) (ws : List Jvm.Cond) (a1 : Addr) (u1 : Value) (u2 : Value) (a2 : Addr) (t1 : Addr) (kb : ClassId) (N : Nat) (cs : List Int32) (zc : Int32) (h0 : Heap) (n0 : Nat) (Z0 : n0 ≤ h0.size) (SC : Own.Cst Z h0 zc) (hzc : ¬ zc = 0) (E_a1 : Exa Z h0 a1 "java/lang/String") (f1 : Fld Z h0 a1 "java/lang/String" "value" "[B" u1) (f2 : Fld Z h0 a1 "java/lang/String" "coder" "B" u2) (g_a1 : n0 ≤ a1) (E_a2 : Exa Z h0 a2 "java/lang/StringBuilder") (s1 : Own.Bf Z h0 a2 "value" "[B" (.ref t1)) (s2 : Own.Bf Z h0 a2 "coder" "B" (.int 0)) (s3 : Own.Bf Z h0 a2 "count" "I" (.int (Int32.ofNat cs.length))) (s4 : Own.Bf Z h0 a2 "maybeLatin1" "Z" (.int 0)) (A_t : Arv Z h0 t1 kb .byte (Int32.ofNat N) (((cs.map fun c : Int32 => c.toInt8.toInt32).map Value.int) ++ List.replicate (N - cs.length) (Value.int 0)) (.int 0)) (hN : N ≤ 20) (hlt : cs.length < N) (hp : ∀ c ∈ cs, ¬ c < 0 ∧ ¬ (255 : Int32) < c) :
    Own.MF l Z (⟨"java/lang/String", "<init>", "(Ljava/lang/AbstractStringBuilder;Ljava/lang/Void;)V"⟩ : MethodName) jdk_42_method_150_code 5 none ws (⟨3, 1, 40, 50⟩ : Room) #[(.ref a1), (.ref a2), .null] h0 (QrmSav0 Z a1 u1 u2 a2 t1 kb N cs zc h0 n0) := by
  refine Own.MF.of (own := "java/lang/String") (n := 5) rfl rfl pn_36 (fun p e s m below meth c s₁ hml hlk hret hnm P0 => ?_)
  rw [show entryFrame m #[(.ref a1), (.ref a2), .null] 5 = mkF m 0 #[.val (.ref a1), .val (.ref a2), .val .null, .unset, .unset] [] from by first | (simp [entryFrame, mkF, argsToLocals, Value.category]; done) | rfl]
  refine Own.aloadN (q := 1) P0 (dc s53 0 rfl) rfl rfl rfl ?_
  refine Own.objinit (q := 4) (W := 0) P0 (dc s53 1 rfl) (wd hw 12 rfl) (wd hw 13 rfl) (wd hw 14 rfl) (hml rfl) (by decide) (Own.w0 rfl) (by decide) rfl ?_
  intro T21 P21
  refine Own.aloadN (q := 5) P21 (dc s53 2 rfl) rfl rfl rfl ?_
  refine Own.cV (q := 8) (W := 0) (rest := []) P21 (dc s53 3 rfl) (wd hw 198 rfl) (vw_33 hw) (Own.nfs P21 (wd hw 201 rfl)) E_a2 (rmGv l Z a0 hw [] a2 t1 h0 n0 Z0 s1) (by decide) (by decide) rfl (hml rfl) rfl rfl (by decide) (by decide) rfl ?_
  rintro v22 T22 h22 L22 ⟨rfl, N22q, e22⟩ P22
  rw [e22] at P22
  have N22 := Fr.app (Fr.nil n0) N22q
  refine Own.astoreN (q := 9) (L2 := #[.val (.ref a1), .val (.ref a2), .val .null, .val (.ref t1), .unset]) P22 (dc s53 4 rfl) rfl rfl rfl ?_
  refine Own.aloadN (q := 10) P22 (dc s53 5 rfl) rfl rfl rfl ?_
  refine Own.cV (q := 13) (W := 0) (rest := []) P22 (dc s53 6 rfl) (wd hw 203 rfl) (vw_34 hw) (Own.nfOwn (Z := Z) (a0 := #[]) (mvT P22.2.2.2.1 (wd hw 201 rfl)) (mvT P22.2.2.2.1 (wd hw 200 rfl)) rfl) E_a2 (rmSln l Z a0 hw [] a2 (Int32.ofNat cs.length) h0 n0 Z0 E_a2 s3) (by decide) (by decide) rfl (hml rfl) rfl rfl (by decide) (by decide) rfl ?_
  rintro v23 T23 h23 L23 ⟨rfl, N23q, e23⟩ P23
  rw [e23] at P23
  have N23 := Fr.app N22 N23q
  refine Own.istore (q := 15) (L2 := #[.val (.ref a1), .val (.ref a2), .val .null, .val (.ref t1), .val (.int (Int32.ofNat cs.length))]) P23 (dc s53 7 rfl) rfl rfl ?_
  refine Own.aloadN (q := 16) P23 (dc s53 8 rfl) rfl rfl rfl ?_
  refine Own.cV (q := 19) (W := 0) (rest := []) P23 (dc s53 9 rfl) (wd hw 211 rfl) (vw_15 hw) (Own.nfs P23 (wd hw 130 rfl)) E_a2 (rmIl0 l Z a0 hw [] a2 zc h0 n0 Z0 SC hzc s2) (by decide) (by decide) rfl (hml rfl) rfl rfl (by decide) (by decide) rfl ?_
  rintro v24 T24 h24 L24 ⟨rfl, N24q, e24⟩ P24
  rw [e24] at P24
  have N24 := Fr.app N23 N24q
  refine Own.if_eq (q := 22) (qy := 41) P24 (dc s53 10 rfl) (by decide) rfl (fun q => absurd q (by decide)) (fun _ => ?_)
  refine Own.aloadN (q := 23) P24 (dc s53 11 rfl) rfl rfl rfl ?_
  refine Own.iconst (q := 24) (v := (0 : Int32)) P24 (dc s53 12 rfl) rfl rfl ?_
  refine Own.putfield (q := 27) P24 (dc s53 13 rfl) (wd hw 22 rfl) f2 E_a1 (Or.inr ⟨(wd hw 18 rfl), rfl, hnm⟩) (wd hw 3 rfl) (ty := .byte) (by decide) rfl rfl rfl ?_
  intro T25 h25 lc25 hl25 P25 W25
  have F25_value := f1.other W25 (Or.inr (slot_ne (Or.inr (wd hw 17 rfl)) (Or.inr (wd hw 18 rfl)) (by decide) (t := (.array .byte)) (t' := .byte) (by decide) (by decide)))
  have F25_coder := Fld.same W25 f2
  have A25 := E_a1.wr W25
  have N25 := Own.Fr.one N24 hl25 g_a1
  refine Own.aloadN (q := 28) P25 (dc s53 14 rfl) rfl rfl rfl ?_
  refine Own.aloadN (q := 29) P25 (dc s53 15 rfl) rfl rfl rfl ?_
  refine Own.iconst (q := 30) (v := (0 : Int32)) P25 (dc s53 16 rfl) rfl rfl ?_
  refine Own.iload (q := 32) P25 (dc s53 17 rfl) rfl rfl ?_
  have qf26 := (Arv.keep A_t (Keep.of_wr W25) (ninS (Ne.symm (Exa.neArv E_a1 A_t (wd hw 3 rfl))) nin0))
  have Z1_27 : n0 ≤ h25.size := by rw [W25.size]; exact Z0
  refine Own.cS (q := 35) (W := 1) (rest := [(.ref a1)]) P25 (dc s53 18 rfl) (wd hw 212 rfl) (sw_35 hw) (rmCr l Z a0 hw [] t1 kb N (((cs.map fun c : Int32 => c.toInt8.toInt32).map Value.int) ++ List.replicate (N - cs.length) (Value.int 0)) 0 cs.length cs.length h25 n0 Z1_27 qf26 (Own.vdN_len (by have := hlt; have := hN; omega)) (by have := hlt; have := hN; omega) (by have := hlt; have := hN; omega) (by have := hlt; have := hN; omega) (Nat.zero_add _).symm (fun q => absurd q.2 (by have := hlt; have := hN; omega))) (by decide) (by decide) rfl (hml rfl) rfl rfl (by decide) (by decide) rfl ?_
  rintro v28 T28 h28 L28 ⟨r28, kr28, rfl, N28q, E28, gr28, B28⟩ P28
  have N28 := Fr.app N25 N28q
  rw [Own.take_vdN] at B28
  have E1_2_29 : Ext h25 h28 := E28
  refine Own.putfield (q := 38) P28 (dc s53 19 rfl) (wd hw 21 rfl) (F25_value.ext E1_2_29) (A25.ext E1_2_29) (Or.inr ⟨(wd hw 17 rfl), rfl, hnm⟩) (wd hw 3 rfl) (ty := (.array .byte)) (by decide) rfl rfl rfl ?_
  intro T30 h30 lc30 hl30 P30 W30
  have F30_value := Fld.same W30 (F25_value.ext E1_2_29)
  have F30_coder := (F25_coder.ext E1_2_29).other W30 (Or.inr (slot_ne (Or.inr (wd hw 18 rfl)) (Or.inr (wd hw 17 rfl)) (by decide) (t := .byte) (t' := (.array .byte)) (by decide) (by decide)))
  have A30 := (A25.ext E1_2_29).wr W30
  have N30 := Own.Fr.one N28 hl30 g_a1
  refine Own.goto (q := 97) P30 (dc s53 20 rfl) (by decide) ?_
  have qf31 := (Arv.keep B28 (Keep.of_wr W30) (ninS (Ne.symm (Exa.neArv (A25.ext E28) B28 (wd hw 3 rfl))) nin0))
  refine Own.retV P30 (dc s53 21 rfl) hret hlk (by decide) (by decide) ?_
  exact ⟨rfl, N30, (Keep.wr (Keep.ext (Keep.wr (Keep.refl h0 _) W25 (Or.inl (by simp))) E28) W30 (Or.inl (by simp))), ⟨_, _, A30, F30_value, F30_coder, qf31⟩, hp, (by have := hlt; have := hN; omega)⟩
theorem pd_29 : parseMethodDescriptor "(Ljava/lang/AbstractStringBuilder;Ljava/lang/Void;)V" = some ⟨[(.object "java/lang/AbstractStringBuilder"), (.object "java/lang/Void")], none⟩ := by decide +kernel
theorem iw_36 {Z : State} {a0 : Array Value} (hw : HW a0 Z) : Own.IW Z a0 ⟨"java/lang/String", "<init>", "(Ljava/lang/AbstractStringBuilder;Ljava/lang/Void;)V"⟩ jdk_42_method_150_code 5 2 := ⟨rfl, (wd hw 196 rfl), (wd hw 4 rfl), (wd hw 197 rfl), by decide, _, _, pd_29, rfl⟩
theorem s54 : decs jdk_42_method_53_code [(0, .aload_n 0, 1), (1, .aload_n 1, 1), (2, .aconst_null, 1), (3, .invokespecial 489, 3), (6, .return_, 1)] = true := by decide +kernel
theorem pn_35 : plainFor (⟨"java/lang/String", "<init>", "(Ljava/lang/StringBuilder;)V"⟩ : MethodName) = true := by first | exact plainFor_of_name (by first | (simp [plainName, overriddenIn]; done) | decide +kernel) | decide +kernel
def QrmSsb0 (Z : State) (a1 : Addr) (u1 : Value) (u2 : Value) (a2 : Addr) (t1 : Addr) (kb : ClassId) (N : Nat) (cs : List Int32) (zc : Int32) (h0 : Heap) (n0 : Nat) (v : Option Value) (h : Heap) (L : List Loc) : Prop := v = none ∧ Fr n0 L ∧ Keep h0 h [a1] ∧ Own.Str Z h a1 cs
theorem rmSsb0 (l : Launch) (Z : State) (a0 : Array Value) (hw : HW a0 Z) (ws : List Jvm.Cond) (a1 : Addr) (u1 : Value) (u2 : Value) (a2 : Addr) (t1 : Addr) (kb : ClassId) (N : Nat) (cs : List Int32) (zc : Int32) (h0 : Heap) (n0 : Nat) (Z0 : n0 ≤ h0.size) (SC : Own.Cst Z h0 zc) (hzc : ¬ zc = 0) (E_a1 : Exa Z h0 a1 "java/lang/String") (f1 : Fld Z h0 a1 "java/lang/String" "value" "[B" u1) (f2 : Fld Z h0 a1 "java/lang/String" "coder" "B" u2) (g_a1 : n0 ≤ a1) (E_a2 : Exa Z h0 a2 "java/lang/StringBuilder") (s1 : Own.Bf Z h0 a2 "value" "[B" (.ref t1)) (s2 : Own.Bf Z h0 a2 "coder" "B" (.int 0)) (s3 : Own.Bf Z h0 a2 "count" "I" (.int (Int32.ofNat cs.length))) (s4 : Own.Bf Z h0 a2 "maybeLatin1" "Z" (.int 0)) (A_t : Arv Z h0 t1 kb .byte (Int32.ofNat N) (((cs.map fun c : Int32 => c.toInt8.toInt32).map Value.int) ++ List.replicate (N - cs.length) (Value.int 0)) (.int 0)) (hN : N ≤ 20) (hlt : cs.length < N) (hp : ∀ c ∈ cs, ¬ c < 0 ∧ ¬ (255 : Int32) < c) :
    Own.MF l Z (⟨"java/lang/String", "<init>", "(Ljava/lang/StringBuilder;)V"⟩ : MethodName) jdk_42_method_53_code 2 none ws (⟨4, 1, 40, 66⟩ : Room) #[(.ref a1), (.ref a2)] h0 (QrmSsb0 Z a1 u1 u2 a2 t1 kb N cs zc h0 n0) := by
  refine Own.MF.of (own := "java/lang/String") (n := 2) rfl rfl pn_35 (fun p e s m below meth c s₁ hml hlk hret hnm P0 => ?_)
  rw [show entryFrame m #[(.ref a1), (.ref a2)] 2 = mkF m 0 #[.val (.ref a1), .val (.ref a2)] [] from by first | (simp [entryFrame, mkF, argsToLocals, Value.category]; done) | rfl]
  refine Own.aloadN (q := 1) P0 (dc s54 0 rfl) rfl rfl rfl ?_
  refine Own.aloadN (q := 2) P0 (dc s54 1 rfl) rfl rfl rfl ?_
  refine Own.aconst (q := 3) P0 (dc s54 2 rfl)  rfl ?_
  refine Own.cI (q := 6) (W := 0) (rest := []) P0 (dc s54 3 rfl) (wd hw 195 rfl) (iw_36 hw) (rmSav0 l Z a0 hw [] a1 u1 u2 a2 t1 kb N cs zc h0 n0 Z0 SC hzc E_a1 f1 f2 g_a1 E_a2 s1 s2 s3 s4 A_t hN hlt hp) (by decide) (by decide) rfl (hml rfl) rfl rfl (by decide) (by decide) rfl ?_
  rintro v21 T21 h21 L21 ⟨rfl, N21q, K21, St21⟩ P21
  have N21 := Fr.app (Fr.nil n0) N21q
  refine Own.retV P21 (dc s54 4 rfl) hret hlk (by decide) (by decide) ?_
  exact ⟨rfl, N21, K21, St21⟩
theorem pd_30 : parseMethodDescriptor "(Ljava/lang/StringBuilder;)V" = some ⟨[(.object "java/lang/StringBuilder")], none⟩ := by decide +kernel
theorem iw_37 {Z : State} {a0 : Array Value} (hw : HW a0 Z) : Own.IW Z a0 ⟨"java/lang/String", "<init>", "(Ljava/lang/StringBuilder;)V"⟩ jdk_42_method_53_code 2 1 := ⟨rfl, (wd hw 193 rfl), (wd hw 4 rfl), (wd hw 194 rfl), by decide, _, _, pd_30, rfl⟩
theorem s55 : decs jdk_67_method_42_code [(0, .new 18, 3), (3, .dup, 1), (4, .aload_n 0, 1), (5, .invokespecial 137, 3), (8, .areturn, 1)] = true := by decide +kernel
theorem pn_34 : plainFor (⟨"java/lang/StringBuilder", "toString", "()Ljava/lang/String;"⟩ : MethodName) = true := by first | exact plainFor_of_name (by first | (simp [plainName, overriddenIn]; done) | decide +kernel) | decide +kernel
def QrmTs0 (Z : State) (a2 : Addr) (t1 : Addr) (kb : ClassId) (N : Nat) (cs : List Int32) (zc : Int32) (h0 : Heap) (n0 : Nat) (v : Option Value) (h : Heap) (L : List Loc) : Prop := ∃ r, v = some (.ref r) ∧ Fr n0 L ∧ Ext h0 h ∧ h0.size ≤ r ∧ Own.TX Z h r cs
theorem rmTs0 (l : Launch) (Z : State) (a0 : Array Value) (hw : HW a0 Z) (ws : List Jvm.Cond) (a2 : Addr) (t1 : Addr) (kb : ClassId) (N : Nat) (cs : List Int32) (zc : Int32) (h0 : Heap) (n0 : Nat) (Z0 : n0 ≤ h0.size) (SC : Own.Cst Z h0 zc) (hzc : ¬ zc = 0) (E_a2 : Exa Z h0 a2 "java/lang/StringBuilder") (s1 : Own.Bf Z h0 a2 "value" "[B" (.ref t1)) (s2 : Own.Bf Z h0 a2 "coder" "B" (.int 0)) (s3 : Own.Bf Z h0 a2 "count" "I" (.int (Int32.ofNat cs.length))) (s4 : Own.Bf Z h0 a2 "maybeLatin1" "Z" (.int 0)) (A_t : Arv Z h0 t1 kb .byte (Int32.ofNat N) (((cs.map fun c : Int32 => c.toInt8.toInt32).map Value.int) ++ List.replicate (N - cs.length) (Value.int 0)) (.int 0)) (hN : N ≤ 20) (hlt : cs.length < N) (hp : ∀ c ∈ cs, ¬ c < 0 ∧ ¬ (255 : Int32) < c) :
    Own.MF l Z (⟨"java/lang/StringBuilder", "toString", "()Ljava/lang/String;"⟩ : MethodName) jdk_67_method_42_code 1 (some (.object "java/lang/String")) ws (⟨5, 2, 44, 80⟩ : Room) #[(.ref a2)] h0 (QrmTs0 Z a2 t1 kb N cs zc h0 n0) := by
  refine Own.MF.of (own := "java/lang/StringBuilder") (n := 1) rfl rfl pn_34 (fun p e s m below meth c s₁ hml hlk hret hnm P0 => ?_)
  rw [show entryFrame m #[(.ref a2)] 1 = mkF m 0 #[.val (.ref a2)] [] from by first | (simp [entryFrame, mkF, argsToLocals, Value.category]; done) | rfl]
  refine Own.newobj (q := 3) P0 (dc s55 0 rfl) (wd hw 191 rfl) (wd hw 3 rfl) (wd hw 4 rfl) (by decide) (by decide) rfl ?_
  intro T21 h21 a21 ha21 P21 E21 A21 D21
  have F21_value : Fld Z h21 a21 "java/lang/String" "value" "[B" .null := D21 (Or.inr (wd hw 17 rfl)) (ty := (.array .byte)) (by decide)
  have F21_coder : Fld Z h21 a21 "java/lang/String" "coder" "B" (.int (0 : Int32)) := D21 (Or.inr (wd hw 18 rfl)) (ty := .byte) (by decide)
  refine Own.dup (q := 4) P21 (dc s55 1 rfl) rfl rfl ?_
  refine Own.aloadN (q := 5) P21 (dc s55 2 rfl) rfl rfl rfl ?_
  have E0_1_22 : Ext h0 h21 := E21
  refine Own.cI (q := 8) (W := 1) (rest := [(.ref a21)]) P21 (dc s55 3 rfl) (wd hw 192 rfl) (iw_37 hw) (rmSsb0 l Z a0 hw [] a21 .null (.int (0 : Int32)) a2 t1 kb N cs zc h21 n0 (Nat.le_trans Z0 E0_1_22.1) (SC.ext E0_1_22) hzc A21 F21_value F21_coder (Nat.le_trans Z0 (Nat.le_of_eq ha21.symm)) (E_a2.ext E0_1_22) (s1.ext E0_1_22) (s2.ext E0_1_22) (s3.ext E0_1_22) (s4.ext E0_1_22) (A_t.ext E0_1_22) hN hlt hp) (by decide) (by decide) rfl (hml rfl) rfl rfl (by decide) (by decide) rfl ?_
  rintro v23 T23 h23 L23 ⟨rfl, N23q, K23, St23⟩ P23
  have N23 := Fr.app (Fr.nil n0) N23q
  have E0_2_24 : Ext h0 h23 := (Own.Ext.kp E0_1_22 K23 (allS (Nat.le_of_eq ha21.symm) all0))
  refine Own.retA P23 (dc s55 4 rfl) hret rfl rfl rfl hlk (by decide) (by decide) ?_
  exact ⟨_, rfl, N23, E0_2_24, (Nat.le_of_eq ha21.symm), Or.inl St23⟩
theorem s56 : decs jdk_42_method_150_code [(41, .getstatic 38, 3), (44, .ifCond .eq 35, 3), (47, .aload_n 1, 1), (48, .getfield 1048, 3), (51, .ifCond .eq 28, 3), (79, .aload_n 0, 1), (80, .iconst 1, 1), (81, .putfield 15, 3), (84, .aload_n 0, 1), (85, .aload_n 3, 1), (86, .iconst 0, 1), (87, .iload 4, 2), (89, .iconst 1, 1), (90, .ishl, 1), (91, .invokestatic 54, 3), (94, .putfield 9, 3)] = true := by decide +kernel
def QrmSav1 (Z : State) (a1 : Addr) (u1 : Value) (u2 : Value) (a2 : Addr) (t1 : Addr) (kb : ClassId) (N : Nat) (cs : List Int32) (zc : Int32) (h0 : Heap) (n0 : Nat) (v : Option Value) (h : Heap) (L : List Loc) : Prop := v = none ∧ Fr n0 L ∧ Keep h0 h [a1] ∧ Own.Str16 Z h a1 cs
theorem rmSav1 (l : Launch) (Z : State) (a0 : Array Value) (hw : HW a0 Z) (ws : List Jvm.Cond) (a1 : Addr) (u1 : Value) (u2 : Value) (a2 : Addr) (t1 : Addr) (kb : ClassId) (N : Nat) (cs : List Int32) (zc : Int32) (h0 : Heap) (n0 : Nat) (Z0 : n0 ≤ h0.size) (SC : Own.Cst Z h0 zc) (hzc : ¬ zc = 0) (E_a1 : Exa Z h0 a1 "java/lang/String") (f1 : Fld Z h0 a1 "java/lang/String" "value" "[B" u1) (f2 : Fld Z h0 a1 "java/lang/String" "coder" "B" u2) (g_a1 : n0 ≤ a1) (E_a2 : Exa Z h0 a2 "java/lang/StringBuilder") (s1 : Own.Bf Z h0 a2 "value" "[B" (.ref t1)) (s2 : Own.Bf Z h0 a2 "coder" "B" (.int 1)) (s3 : Own.Bf Z h0 a2 "count" "I" (.int (Int32.ofNat cs.length))) (s4 : Own.Bf Z h0 a2 "maybeLatin1" "Z" (.int 0)) (A_t : Own.U16 Z h0 t1 kb N (cs ++ List.replicate (N - cs.length) (0 : Int32))) (hN : N ≤ 20) (hlt : cs.length < N) (hp : ∀ c ∈ cs, Own.Ch c) :
    Own.MF l Z (⟨"java/lang/String", "<init>", "(Ljava/lang/AbstractStringBuilder;Ljava/lang/Void;)V"⟩ : MethodName) jdk_42_method_150_code 5 none ws (⟨3, 1, 40, 50⟩ : Room) #[(.ref a1), (.ref a2), .null] h0 (QrmSav1 Z a1 u1 u2 a2 t1 kb N cs zc h0 n0) := by
  refine Own.MF.of (own := "java/lang/String") (n := 5) rfl rfl pn_36 (fun p e s m below meth c s₁ hml hlk hret hnm P0 => ?_)
  rw [show entryFrame m #[(.ref a1), (.ref a2), .null] 5 = mkF m 0 #[.val (.ref a1), .val (.ref a2), .val .null, .unset, .unset] [] from by first | (simp [entryFrame, mkF, argsToLocals, Value.category]; done) | rfl]
  refine Own.aloadN (q := 1) P0 (dc s53 0 rfl) rfl rfl rfl ?_
  refine Own.objinit (q := 4) (W := 0) P0 (dc s53 1 rfl) (wd hw 12 rfl) (wd hw 13 rfl) (wd hw 14 rfl) (hml rfl) (by decide) (Own.w0 rfl) (by decide) rfl ?_
  intro T21 P21
  refine Own.aloadN (q := 5) P21 (dc s53 2 rfl) rfl rfl rfl ?_
  refine Own.cV (q := 8) (W := 0) (rest := []) P21 (dc s53 3 rfl) (wd hw 198 rfl) (vw_33 hw) (Own.nfs P21 (wd hw 201 rfl)) E_a2 (rmGv l Z a0 hw [] a2 t1 h0 n0 Z0 s1) (by decide) (by decide) rfl (hml rfl) rfl rfl (by decide) (by decide) rfl ?_
  rintro v22 T22 h22 L22 ⟨rfl, N22q, e22⟩ P22
  rw [e22] at P22
  have N22 := Fr.app (Fr.nil n0) N22q
  refine Own.astoreN (q := 9) (L2 := #[.val (.ref a1), .val (.ref a2), .val .null, .val (.ref t1), .unset]) P22 (dc s53 4 rfl) rfl rfl rfl ?_
  refine Own.aloadN (q := 10) P22 (dc s53 5 rfl) rfl rfl rfl ?_
  refine Own.cV (q := 13) (W := 0) (rest := []) P22 (dc s53 6 rfl) (wd hw 203 rfl) (vw_34 hw) (Own.nfOwn (Z := Z) (a0 := #[]) (mvT P22.2.2.2.1 (wd hw 201 rfl)) (mvT P22.2.2.2.1 (wd hw 200 rfl)) rfl) E_a2 (rmSln l Z a0 hw [] a2 (Int32.ofNat cs.length) h0 n0 Z0 E_a2 s3) (by decide) (by decide) rfl (hml rfl) rfl rfl (by decide) (by decide) rfl ?_
  rintro v23 T23 h23 L23 ⟨rfl, N23q, e23⟩ P23
  rw [e23] at P23
  have N23 := Fr.app N22 N23q
  refine Own.istore (q := 15) (L2 := #[.val (.ref a1), .val (.ref a2), .val .null, .val (.ref t1), .val (.int (Int32.ofNat cs.length))]) P23 (dc s53 7 rfl) rfl rfl ?_
  refine Own.aloadN (q := 16) P23 (dc s53 8 rfl) rfl rfl rfl ?_
  refine Own.cV (q := 19) (W := 0) (rest := []) P23 (dc s53 9 rfl) (wd hw 211 rfl) (vw_15 hw) (Own.nfs P23 (wd hw 130 rfl)) E_a2 (rmIl1 l Z a0 hw [] a2 zc h0 n0 Z0 SC hzc s2) (by decide) (by decide) rfl (hml rfl) rfl rfl (by decide) (by decide) rfl ?_
  rintro v24 T24 h24 L24 ⟨rfl, N24q, e24⟩ P24
  rw [e24] at P24
  have N24 := Fr.app N23 N24q
  refine Own.if_eq (q := 22) (qy := 41) P24 (dc s53 10 rfl) (by decide) rfl (fun _ => ?_) (fun q => absurd rfl q)
  refine Own.getstatic (q := 44) P24 (dc s56 0 rfl) (wd hw 37 rfl) SC rfl ?_
  intro T25 P25
  refine Own.if_eq (q := 47) (qy := 79) P25 (dc s56 1 rfl) (by decide) rfl (fun q => absurd q hzc) (fun _ => ?_)
  refine Own.aloadN (q := 48) P25 (dc s56 2 rfl) rfl rfl rfl ?_
  refine Own.getfield (q := 51) P25 (dc s56 3 rfl) (wd hw 294 rfl) s4 rfl ?_
  intro T26 P26
  refine Own.if_eq (q := 54) (qy := 79) P26 (dc s56 4 rfl) (by decide) rfl (fun _ => ?_) (fun q => absurd rfl q)
  refine Own.aloadN (q := 80) P26 (dc s56 5 rfl) rfl rfl rfl ?_
  refine Own.iconst (q := 81) (v := (1 : Int32)) P26 (dc s56 6 rfl) rfl rfl ?_
  refine Own.putfield (q := 84) P26 (dc s56 7 rfl) (wd hw 22 rfl) f2 E_a1 (Or.inr ⟨(wd hw 18 rfl), rfl, hnm⟩) (wd hw 3 rfl) (ty := .byte) (by decide) rfl rfl rfl ?_
  intro T27 h27 lc27 hl27 P27 W27
  have F27_value := f1.other W27 (Or.inr (slot_ne (Or.inr (wd hw 17 rfl)) (Or.inr (wd hw 18 rfl)) (by decide) (t := (.array .byte)) (t' := .byte) (by decide) (by decide)))
  have F27_coder := Fld.same W27 f2
  have A27 := E_a1.wr W27
  have N27 := Own.Fr.one N24 hl27 g_a1
  refine Own.aloadN (q := 85) P27 (dc s56 8 rfl) rfl rfl rfl ?_
  refine Own.aloadN (q := 86) P27 (dc s56 9 rfl) rfl rfl rfl ?_
  refine Own.iconst (q := 87) (v := (0 : Int32)) P27 (dc s56 10 rfl) rfl rfl ?_
  refine Own.iload (q := 89) P27 (dc s56 11 rfl) rfl rfl ?_
  refine Own.iconst (q := 90) (v := (1 : Int32)) P27 (dc s56 12 rfl) rfl rfl ?_
  refine Own.ishl (q := 91) P27 (dc s56 13 rfl)  rfl ?_
  rw [show ((Int32.ofNat cs.length) <<< ((1 : Int32) &&& 31)) = (Int32.ofNat (2 * cs.length)) from Own.dbl (by have := hlt; have := hN; omega)]
  have qf28 := (Arv.keep A_t.1 (Keep.of_wr W27) (ninS (Ne.symm (Exa.neArv E_a1 A_t.1 (wd hw 3 rfl))) nin0))
  have Z1_29 : n0 ≤ h27.size := by rw [W27.size]; exact Z0
  refine Own.cS (q := 94) (W := 1) (rest := [(.ref a1)]) P27 (dc s56 14 rfl) (wd hw 212 rfl) (sw_35 hw) (rmCr l Z a0 hw [] t1 kb (2 * N) (Own.b16 (cs ++ List.replicate (N - cs.length) (0 : Int32))) 0 (2 * cs.length) (2 * cs.length) h27 n0 Z1_29 qf28 (by rw [Own.b16_len, A_t.2.1]) (by have := hlt; have := hN; omega) (by have := hlt; have := hN; omega) (by have := hlt; have := hN; omega) (Nat.zero_add _).symm (fun q => absurd q.2 (by have := hlt; have := hN; omega))) (by decide) (by decide) rfl (hml rfl) rfl rfl (by decide) (by decide) rfl ?_
  rintro v30 T30 h30 L30 ⟨r30, kr30, rfl, N30q, E30, gr30, B30⟩ P30
  have N30 := Fr.app N27 N30q
  rw [Own.take_vuN] at B30
  have E1_2_31 : Ext h27 h30 := E30
  refine Own.putfield (q := 97) P30 (dc s56 15 rfl) (wd hw 21 rfl) (F27_value.ext E1_2_31) (A27.ext E1_2_31) (Or.inr ⟨(wd hw 17 rfl), rfl, hnm⟩) (wd hw 3 rfl) (ty := (.array .byte)) (by decide) rfl rfl rfl ?_
  intro T32 h32 lc32 hl32 P32 W32
  have F32_value := Fld.same W32 (F27_value.ext E1_2_31)
  have F32_coder := (F27_coder.ext E1_2_31).other W32 (Or.inr (slot_ne (Or.inr (wd hw 18 rfl)) (Or.inr (wd hw 17 rfl)) (by decide) (t := .byte) (t' := (.array .byte)) (by decide) (by decide)))
  have A32 := (A27.ext E1_2_31).wr W32
  have N32 := Own.Fr.one N30 hl32 g_a1
  have qf33 := (Arv.keep B30 (Keep.of_wr W32) (ninS (Ne.symm (Exa.neArv (A27.ext E30) B30 (wd hw 3 rfl))) nin0))
  refine Own.retV P32 (dc s53 21 rfl) hret hlk (by decide) (by decide) ?_
  exact ⟨rfl, N32, (Keep.wr (Keep.ext (Keep.wr (Keep.refl h0 _) W27 (Or.inl (by simp))) E30) W32 (Or.inl (by simp))), _, _, A32, F32_value, F32_coder, qf33, rfl, (by have := hlt; have := hN; omega), hp⟩

def QrmSsb1 (Z : State) (a1 : Addr) (u1 : Value) (u2 : Value) (a2 : Addr) (t1 : Addr) (kb : ClassId) (N : Nat) (cs : List Int32) (zc : Int32) (h0 : Heap) (n0 : Nat) (v : Option Value) (h : Heap) (L : List Loc) : Prop := v = none ∧ Fr n0 L ∧ Keep h0 h [a1] ∧ Own.Str16 Z h a1 cs
theorem rmSsb1 (l : Launch) (Z : State) (a0 : Array Value) (hw : HW a0 Z) (ws : List Jvm.Cond) (a1 : Addr) (u1 : Value) (u2 : Value) (a2 : Addr) (t1 : Addr) (kb : ClassId) (N : Nat) (cs : List Int32) (zc : Int32) (h0 : Heap) (n0 : Nat) (Z0 : n0 ≤ h0.size) (SC : Own.Cst Z h0 zc) (hzc : ¬ zc = 0) (E_a1 : Exa Z h0 a1 "java/lang/String") (f1 : Fld Z h0 a1 "java/lang/String" "value" "[B" u1) (f2 : Fld Z h0 a1 "java/lang/String" "coder" "B" u2) (g_a1 : n0 ≤ a1) (E_a2 : Exa Z h0 a2 "java/lang/StringBuilder") (s1 : Own.Bf Z h0 a2 "value" "[B" (.ref t1)) (s2 : Own.Bf Z h0 a2 "coder" "B" (.int 1)) (s3 : Own.Bf Z h0 a2 "count" "I" (.int (Int32.ofNat cs.length))) (s4 : Own.Bf Z h0 a2 "maybeLatin1" "Z" (.int 0)) (A_t : Own.U16 Z h0 t1 kb N (cs ++ List.replicate (N - cs.length) (0 : Int32))) (hN : N ≤ 20) (hlt : cs.length < N) (hp : ∀ c ∈ cs, Own.Ch c) :
    Own.MF l Z (⟨"java/lang/String", "<init>", "(Ljava/lang/StringBuilder;)V"⟩ : MethodName) jdk_42_method_53_code 2 none ws (⟨4, 1, 40, 66⟩ : Room) #[(.ref a1), (.ref a2)] h0 (QrmSsb1 Z a1 u1 u2 a2 t1 kb N cs zc h0 n0) := by
  refine Own.MF.of (own := "java/lang/String") (n := 2) rfl rfl pn_35 (fun p e s m below meth c s₁ hml hlk hret hnm P0 => ?_)
  rw [show entryFrame m #[(.ref a1), (.ref a2)] 2 = mkF m 0 #[.val (.ref a1), .val (.ref a2)] [] from by first | (simp [entryFrame, mkF, argsToLocals, Value.category]; done) | rfl]
  refine Own.aloadN (q := 1) P0 (dc s54 0 rfl) rfl rfl rfl ?_
  refine Own.aloadN (q := 2) P0 (dc s54 1 rfl) rfl rfl rfl ?_
  refine Own.aconst (q := 3) P0 (dc s54 2 rfl)  rfl ?_
  refine Own.cI (q := 6) (W := 0) (rest := []) P0 (dc s54 3 rfl) (wd hw 195 rfl) (iw_36 hw) (rmSav1 l Z a0 hw [] a1 u1 u2 a2 t1 kb N cs zc h0 n0 Z0 SC hzc E_a1 f1 f2 g_a1 E_a2 s1 s2 s3 s4 A_t hN hlt hp) (by decide) (by decide) rfl (hml rfl) rfl rfl (by decide) (by decide) rfl ?_
  rintro v21 T21 h21 L21 ⟨rfl, N21q, K21, St21⟩ P21
  have N21 := Fr.app (Fr.nil n0) N21q
  refine Own.retV P21 (dc s54 4 rfl) hret hlk (by decide) (by decide) ?_
  exact ⟨rfl, N21, K21, St21⟩

def QrmTs1 (Z : State) (a2 : Addr) (t1 : Addr) (kb : ClassId) (N : Nat) (cs : List Int32) (zc : Int32) (h0 : Heap) (n0 : Nat) (v : Option Value) (h : Heap) (L : List Loc) : Prop := ∃ r, v = some (.ref r) ∧ Fr n0 L ∧ Ext h0 h ∧ h0.size ≤ r ∧ Own.TX Z h r cs
theorem rmTs1 (l : Launch) (Z : State) (a0 : Array Value) (hw : HW a0 Z) (ws : List Jvm.Cond) (a2 : Addr) (t1 : Addr) (kb : ClassId) (N : Nat) (cs : List Int32) (zc : Int32) (h0 : Heap) (n0 : Nat) (Z0 : n0 ≤ h0.size) (SC : Own.Cst Z h0 zc) (hzc : ¬ zc = 0) (E_a2 : Exa Z h0 a2 "java/lang/StringBuilder") (s1 : Own.Bf Z h0 a2 "value" "[B" (.ref t1)) (s2 : Own.Bf Z h0 a2 "coder" "B" (.int 1)) (s3 : Own.Bf Z h0 a2 "count" "I" (.int (Int32.ofNat cs.length))) (s4 : Own.Bf Z h0 a2 "maybeLatin1" "Z" (.int 0)) (A_t : Own.U16 Z h0 t1 kb N (cs ++ List.replicate (N - cs.length) (0 : Int32))) (hN : N ≤ 20) (hlt : cs.length < N) (hp : ∀ c ∈ cs, Own.Ch c) :
    Own.MF l Z (⟨"java/lang/StringBuilder", "toString", "()Ljava/lang/String;"⟩ : MethodName) jdk_67_method_42_code 1 (some (.object "java/lang/String")) ws (⟨5, 2, 44, 80⟩ : Room) #[(.ref a2)] h0 (QrmTs1 Z a2 t1 kb N cs zc h0 n0) := by
  refine Own.MF.of (own := "java/lang/StringBuilder") (n := 1) rfl rfl pn_34 (fun p e s m below meth c s₁ hml hlk hret hnm P0 => ?_)
  rw [show entryFrame m #[(.ref a2)] 1 = mkF m 0 #[.val (.ref a2)] [] from by first | (simp [entryFrame, mkF, argsToLocals, Value.category]; done) | rfl]
  refine Own.newobj (q := 3) P0 (dc s55 0 rfl) (wd hw 191 rfl) (wd hw 3 rfl) (wd hw 4 rfl) (by decide) (by decide) rfl ?_
  intro T21 h21 a21 ha21 P21 E21 A21 D21
  have F21_value : Fld Z h21 a21 "java/lang/String" "value" "[B" .null := D21 (Or.inr (wd hw 17 rfl)) (ty := (.array .byte)) (by decide)
  have F21_coder : Fld Z h21 a21 "java/lang/String" "coder" "B" (.int (0 : Int32)) := D21 (Or.inr (wd hw 18 rfl)) (ty := .byte) (by decide)
  refine Own.dup (q := 4) P21 (dc s55 1 rfl) rfl rfl ?_
  refine Own.aloadN (q := 5) P21 (dc s55 2 rfl) rfl rfl rfl ?_
  have E0_1_22 : Ext h0 h21 := E21
  refine Own.cI (q := 8) (W := 1) (rest := [(.ref a21)]) P21 (dc s55 3 rfl) (wd hw 192 rfl) (iw_37 hw) (rmSsb1 l Z a0 hw [] a21 .null (.int (0 : Int32)) a2 t1 kb N cs zc h21 n0 (Nat.le_trans Z0 E0_1_22.1) (SC.ext E0_1_22) hzc A21 F21_value F21_coder (Nat.le_trans Z0 (Nat.le_of_eq ha21.symm)) (E_a2.ext E0_1_22) (s1.ext E0_1_22) (s2.ext E0_1_22) (s3.ext E0_1_22) (s4.ext E0_1_22) ⟨(A_t.1.ext E0_1_22), A_t.2⟩ hN hlt hp) (by decide) (by decide) rfl (hml rfl) rfl rfl (by decide) (by decide) rfl ?_
  rintro v23 T23 h23 L23 ⟨rfl, N23q, K23, St23⟩ P23
  have N23 := Fr.app (Fr.nil n0) N23q
  have E0_2_24 : Ext h0 h23 := (Own.Ext.kp E0_1_22 K23 (allS (Nat.le_of_eq ha21.symm) all0))
  refine Own.retA P23 (dc s55 4 rfl) hret rfl rfl rfl hlk (by decide) (by decide) ?_
  exact ⟨_, rfl, N23, E0_2_24, (Nat.le_of_eq ha21.symm), Or.inr St23⟩
theorem s57 : decs jdk_52_method_21_code [(0, .iconst 0, 1), (1, .istore 5, 2), (3, .iload 5, 2), (5, .iload 4, 2), (7, .if_icmp .ge 37, 3), (10, .aload_n 0, 1), (11, .iload_n 1, 1), (12, .caload, 1), (13, .istore 6, 2), (15, .iload 6, 2), (17, .sipush 255, 3), (20, .if_icmp .le 6, 3), (23, .iload 5, 2), (25, .ireturn, 1), (26, .aload_n 2, 1), (27, .iload_n 3, 1), (28, .iload 6, 2), (30, .i2b, 1), (31, .bastore, 1), (32, .iinc 1 1, 3), (35, .iinc 3 1, 3), (38, .iinc 5 1, 3), (41, .goto (-38), 3)] = true := by decide +kernel
theorem pn_8 : plainFor (⟨"java/lang/StringUTF16", "compress", "([CI[BII)I"⟩ : MethodName) = true := by first | exact plainFor_of_name (by first | (simp [plainName, overriddenIn]; done) | decide +kernel) | decide +kernel
def QrmCo1 (Z : State) (b1 : Addr) (kc : ClassId) (d1 : Value) (c0 : Int32) (t1 : Addr) (k1 : ClassId) (h0 : Heap) (n0 : Nat) (v : Option Value) (h : Heap) (L : List Loc) : Prop := ∃ f, v = some (.int (Int32.ofNat f)) ∧ f < 1 ∧ (255 : Int32) < ([c0] : List Int32).getD f 0 ∧ Fr n0 L ∧ Keep h0 h [t1]
theorem rmCo1 (l : Launch) (Z : State) (a0 : Array Value) (hw : HW a0 Z) (ws : List Jvm.Cond) (b1 : Addr) (kc : ClassId) (d1 : Value) (c0 : Int32) (t1 : Addr) (k1 : ClassId) (h0 : Heap) (n0 : Nat) (Z0 : n0 ≤ h0.size) (A_b : Arv Z h0 b1 kc .char (1 : Int32) [.int c0] d1) (A_t : Arv Z h0 t1 k1 .byte (1 : Int32) [.int 0] (.int 0)) (hbig : ¬ ∀ c ∈ ([c0] : List Int32), ¬ (255 : Int32) < c) (hc0 : Own.Ch c0) (hbt : b1 ≠ t1) (g_t1 : n0 ≤ t1) :
    Own.MF l Z (⟨"java/lang/StringUTF16", "compress", "([CI[BII)I"⟩ : MethodName) jdk_52_method_21_code 7 (some .int) ws (⟨0, 0, 0, 0⟩ : Room) #[(.ref b1), (.int (0 : Int32)), (.ref t1), (.int (0 : Int32)), (.int (1 : Int32))] h0 (QrmCo1 Z b1 kc d1 c0 t1 k1 h0 n0) := by
  refine Own.MF.of (own := "java/lang/StringUTF16") (n := 7) rfl rfl pn_8 (fun p e s m below meth c s₁ hml hlk hret hnm P0 => ?_)
  rw [show entryFrame m #[(.ref b1), (.int (0 : Int32)), (.ref t1), (.int (0 : Int32)), (.int (1 : Int32))] 7 = mkF m 0 #[.val (.ref b1), .val (.int (0 : Int32)), .val (.ref t1), .val (.int (0 : Int32)), .val (.int (1 : Int32)), .unset, .unset] [] from by first | (simp [entryFrame, mkF, argsToLocals, Value.category]; done) | rfl]
  refine Own.iconst (q := 1) (v := (0 : Int32)) P0 (dc s57 0 rfl) rfl rfl ?_
  refine Own.istore (q := 3) (L2 := #[.val (.ref b1), .val (.int (0 : Int32)), .val (.ref t1), .val (.int (0 : Int32)), .val (.int (1 : Int32)), .val (.int (0 : Int32)), .unset]) P0 (dc s57 1 rfl) rfl rfl ?_
  refine Own.iload (q := 5) P0 (dc s57 2 rfl) rfl rfl ?_
  refine Own.iload (q := 7) P0 (dc s57 3 rfl) rfl rfl ?_
  refine Own.icmp_ge (q := 10) (qy := 44) P0 (dc s57 4 rfl) (by decide) rfl (fun q => absurd (by decide) q) (fun _ => ?_)
  refine Own.aloadN (q := 11) P0 (dc s57 5 rfl) rfl rfl rfl ?_
  refine Own.iloadN (q := 12) P0 (dc s57 6 rfl) rfl rfl ?_
  refine Own.caload (q := 13) (v := (.int c0)) P0 (dc s57 7 rfl) A_b (by decide) (by decide) rfl rfl ?_
  refine Own.istore (q := 15) (L2 := #[.val (.ref b1), .val (.int (0 : Int32)), .val (.ref t1), .val (.int (0 : Int32)), .val (.int (1 : Int32)), .val (.int (0 : Int32)), .val (.int c0)]) P0 (dc s57 8 rfl) rfl rfl ?_
  refine Own.iload (q := 17) P0 (dc s57 9 rfl) rfl rfl ?_
  refine Own.sipush (q := 20) (v := (255 : Int32)) P0 (dc s57 10 rfl) rfl rfl ?_
  refine Own.icmp_le (q := 23) (qy := 26) P0 (dc s57 11 rfl) (by decide) rfl (fun q0 => ?_) (fun q0 => ?_)
  · refine Own.aloadN (q := 27) P0 (dc s57 14 rfl) rfl rfl rfl ?_
    refine Own.iloadN (q := 28) P0 (dc s57 15 rfl) rfl rfl ?_
    refine Own.iload (q := 30) P0 (dc s57 16 rfl) rfl rfl ?_
    refine Own.i2b (q := 31) P0 (dc s57 17 rfl)  rfl ?_
    refine Own.bastore (q := 32) (i := 0) (x2 := (c0).toInt8.toInt32) P0 (dc s57 18 rfl) A_t (by decide) (by decide) (Own.nar_b _) (Own.fits_b _) (by decide) (Own.ltb rfl) rfl ?_
    intro T21 h21 lc21 hl21 P21 W21 A21
    have V21 : Arv Z h21 t1 k1 .byte (1 : Int32) [(.int (c0).toInt8.toInt32)] (.int 0) := A21
    have N21 := Own.Fr.one (Fr.nil n0) hl21 g_t1
    refine Own.iinc (q := 35) (v := (1 : Int32)) (L2 := #[.val (.ref b1), .val (.int ((0 : Int32) + (1 : Int32))), .val (.ref t1), .val (.int (0 : Int32)), .val (.int (1 : Int32)), .val (.int (0 : Int32)), .val (.int c0)]) P21 (dc s57 19 rfl) rfl rfl rfl rfl ?_
    show Own.Goes _ _ _ _ (T21.setTop (mkF m 35 #[.val (.ref b1), .val (.int (1 : Int32)), .val (.ref t1), .val (.int (0 : Int32)), .val (.int (1 : Int32)), .val (.int (0 : Int32)), .val (.int c0)] []))
    refine Own.iinc (q := 38) (v := (1 : Int32)) (L2 := #[.val (.ref b1), .val (.int (1 : Int32)), .val (.ref t1), .val (.int ((0 : Int32) + (1 : Int32))), .val (.int (1 : Int32)), .val (.int (0 : Int32)), .val (.int c0)]) P21 (dc s57 20 rfl) rfl rfl rfl rfl ?_
    show Own.Goes _ _ _ _ (T21.setTop (mkF m 38 #[.val (.ref b1), .val (.int (1 : Int32)), .val (.ref t1), .val (.int (1 : Int32)), .val (.int (1 : Int32)), .val (.int (0 : Int32)), .val (.int c0)] []))
    refine Own.iinc (q := 41) (v := (1 : Int32)) (L2 := #[.val (.ref b1), .val (.int (1 : Int32)), .val (.ref t1), .val (.int (1 : Int32)), .val (.int (1 : Int32)), .val (.int ((0 : Int32) + (1 : Int32))), .val (.int c0)]) P21 (dc s57 21 rfl) rfl rfl rfl rfl ?_
    show Own.Goes _ _ _ _ (T21.setTop (mkF m 41 #[.val (.ref b1), .val (.int (1 : Int32)), .val (.ref t1), .val (.int (1 : Int32)), .val (.int (1 : Int32)), .val (.int (1 : Int32)), .val (.int c0)] []))
    refine Own.goto (q := 3) P21 (dc s57 22 rfl) (by decide) ?_
    refine Own.iload (q := 5) P21 (dc s57 2 rfl) rfl rfl ?_
    refine Own.iload (q := 7) P21 (dc s57 3 rfl) rfl rfl ?_
    refine Own.icmp_ge (q := 10) (qy := 44) P21 (dc s57 4 rfl) (by decide) rfl (fun _ => ?_) (fun q => absurd q (by decide))
    exact absurd (Own.chS q0 Own.ch0) hbig
  · refine Own.iload (q := 25) P0 (dc s57 12 rfl) rfl rfl ?_
    refine Own.retI P0 (dc s57 13 rfl) hret hlk (by decide) (by decide) ?_
    exact ⟨0, rfl, by decide, q0, (Fr.nil n0), (Keep.refl h0 _)⟩
theorem s58 : decs jdk_52_method_14_code [(0, .iload_n 2, 1), (1, .invokestatic 107, 3), (4, .astore_n 3, 1), (5, .iconst 0, 1), (6, .istore 4, 2), (8, .iload 4, 2), (10, .iload_n 2, 1), (11, .if_icmp .ge 21, 3), (14, .aload_n 3, 1), (15, .iload 4, 2), (17, .aload_n 0, 1), (18, .iload_n 1, 1), (19, .caload, 1), (20, .invokestatic 111, 3), (23, .iinc 1 1, 3), (26, .iinc 4 1, 3), (29, .goto (-21), 3), (32, .aload_n 3, 1), (33, .areturn, 1)] = true := by decide +kernel
theorem pn_48 : plainFor (⟨"java/lang/StringUTF16", "toBytes", "([CII)[B"⟩ : MethodName) = true := by first | exact plainFor_of_name (by first | (simp [plainName, overriddenIn]; done) | decide +kernel) | decide +kernel
def QrmTb1 (Z : State) (b1 : Addr) (kc : ClassId) (d1 : Value) (c0 : Int32) (h0 : Heap) (n0 : Nat) (v : Option Value) (h : Heap) (L : List Loc) : Prop := ∃ r k, v = some (.ref r) ∧ Fr n0 L ∧ Ext h0 h ∧ h0.size ≤ r ∧ Own.U16 Z h r k 1 [c0]
theorem rmTb1 (l : Launch) (Z : State) (a0 : Array Value) (hw : HW a0 Z) (ws : List Jvm.Cond) (b1 : Addr) (kc : ClassId) (d1 : Value) (c0 : Int32) (h0 : Heap) (n0 : Nat) (Z0 : n0 ≤ h0.size) (SA : Own.Ads Z h0) (SH : Own.Hib Z h0) (SL : Own.Lob Z h0) (A_b : Arv Z h0 b1 kc .char (1 : Int32) [.int c0] d1) (hc0 : Own.Ch c0) :
    Own.MF l Z (⟨"java/lang/StringUTF16", "toBytes", "([CII)[B"⟩ : MethodName) jdk_52_method_14_code 5 (some (.array .byte)) ws (⟨2, 1, 40, 27⟩ : Room) #[(.ref b1), (.int (0 : Int32)), (.int (1 : Int32))] h0 (QrmTb1 Z b1 kc d1 c0 h0 n0) := by
  refine Own.MF.of (own := "java/lang/StringUTF16") (n := 5) rfl rfl pn_48 (fun p e s m below meth c s₁ hml hlk hret hnm P0 => ?_)
  rw [show entryFrame m #[(.ref b1), (.int (0 : Int32)), (.int (1 : Int32))] 5 = mkF m 0 #[.val (.ref b1), .val (.int (0 : Int32)), .val (.int (1 : Int32)), .unset, .unset] [] from by first | (simp [entryFrame, mkF, argsToLocals, Value.category]; done) | rfl]
  refine Own.iloadN (q := 1) P0 (dc s58 0 rfl) rfl rfl ?_
  refine Own.cS (q := 4) (W := 0) (rest := []) P0 (dc s58 1 rfl) (wd hw 244 rfl) (sw_16 hw) (rmNbf l Z a0 hw [] 1 h0 n0 Z0 (by decide)) (by decide) (by decide) rfl (hml rfl) rfl rfl (by decide) (by decide) rfl ?_
  rintro v21 T21 h21 L21 ⟨r21, k21, rfl, N21q, E21, gr21, U21⟩ P21
  have N21 := Fr.app (Fr.nil n0) N21q
  refine Own.astoreN (q := 5) (L2 := #[.val (.ref b1), .val (.int (0 : Int32)), .val (.int (1 : Int32)), .val (.ref r21), .unset]) P21 (dc s58 2 rfl) rfl rfl rfl ?_
  refine Own.iconst (q := 6) (v := (0 : Int32)) P21 (dc s58 3 rfl) rfl rfl ?_
  refine Own.istore (q := 8) (L2 := #[.val (.ref b1), .val (.int (0 : Int32)), .val (.int (1 : Int32)), .val (.ref r21), .val (.int (0 : Int32))]) P21 (dc s58 4 rfl) rfl rfl ?_
  refine Own.iload (q := 10) P21 (dc s58 5 rfl) rfl rfl ?_
  refine Own.iloadN (q := 11) P21 (dc s58 6 rfl) rfl rfl ?_
  refine Own.icmp_ge (q := 14) (qy := 32) P21 (dc s58 7 rfl) (by decide) rfl (fun q => absurd (by decide) q) (fun _ => ?_)
  refine Own.aloadN (q := 15) P21 (dc s58 8 rfl) rfl rfl rfl ?_
  refine Own.iload (q := 17) P21 (dc s58 9 rfl) rfl rfl ?_
  refine Own.aloadN (q := 18) P21 (dc s58 10 rfl) rfl rfl rfl ?_
  refine Own.iloadN (q := 19) P21 (dc s58 11 rfl) rfl rfl ?_
  have E0_1_22 : Ext h0 h21 := E21
  refine Own.caload (q := 20) (v := (.int c0)) P21 (dc s58 12 rfl) (A_b.ext E0_1_22) (by decide) (by decide) rfl rfl ?_
  refine Own.cS (q := 23) (W := 0) (rest := []) P21 (dc s58 13 rfl) (wd hw 251 rfl) (sw_13 hw) (rmPc l Z a0 hw [] r21 k21 1 (List.replicate 1 0) 0 c0 h21 n0 (Nat.le_trans Z0 E0_1_22.1) (SA.ext E0_1_22) (SH.ext E0_1_22) (SL.ext E0_1_22) U21 (by decide) hc0 (Nat.le_trans Z0 gr21)) (by decide) (by decide) rfl (hml rfl) rfl rfl (by decide) (by decide) rfl ?_
  rintro v23 T23 h23 L23 ⟨rfl, N23q, K23, U23⟩ P23
  have N23 := Fr.app N21 N23q
  have V23 : Own.U16 Z h23 r21 k21 1 [c0] := U23
  refine Own.iinc (q := 26) (v := (1 : Int32)) (L2 := #[.val (.ref b1), .val (.int ((0 : Int32) + (1 : Int32))), .val (.int (1 : Int32)), .val (.ref r21), .val (.int (0 : Int32))]) P23 (dc s58 14 rfl) rfl rfl rfl rfl ?_
  show Own.Goes _ _ _ _ (T23.setTop (mkF m 26 #[.val (.ref b1), .val (.int (1 : Int32)), .val (.int (1 : Int32)), .val (.ref r21), .val (.int (0 : Int32))] []))
  refine Own.iinc (q := 29) (v := (1 : Int32)) (L2 := #[.val (.ref b1), .val (.int (1 : Int32)), .val (.int (1 : Int32)), .val (.ref r21), .val (.int ((0 : Int32) + (1 : Int32)))]) P23 (dc s58 15 rfl) rfl rfl rfl rfl ?_
  show Own.Goes _ _ _ _ (T23.setTop (mkF m 29 #[.val (.ref b1), .val (.int (1 : Int32)), .val (.int (1 : Int32)), .val (.ref r21), .val (.int (1 : Int32))] []))
  refine Own.goto (q := 8) P23 (dc s58 16 rfl) (by decide) ?_
  refine Own.iload (q := 10) P23 (dc s58 5 rfl) rfl rfl ?_
  refine Own.iloadN (q := 11) P23 (dc s58 6 rfl) rfl rfl ?_
  refine Own.icmp_ge (q := 14) (qy := 32) P23 (dc s58 7 rfl) (by decide) rfl (fun _ => ?_) (fun q => absurd q (by decide))
  refine Own.aloadN (q := 33) P23 (dc s58 17 rfl) rfl rfl rfl ?_
  have E0_2_24 : Ext h0 h23 := (Own.Ext.kp E0_1_22 K23 (allS gr21 all0))
  refine Own.retA P23 (dc s58 18 rfl) hret rfl rfl rfl hlk (by decide) (by decide) ?_
  exact ⟨_, _, rfl, N23, E0_2_24, gr21, V23⟩
theorem pd_31 : parseMethodDescriptor "([CI[BII)I" = some ⟨[(.array .char), .int, (.array .byte), .int, .int], some .int⟩ := by decide +kernel
theorem sw_38 {Z : State} {a0 : Array Value} (hw : HW a0 Z) : Own.SW Z a0 ⟨"java/lang/StringUTF16", "compress", "([CI[BII)I"⟩ jdk_52_method_21_code 7 (some .int) 5 := ⟨(wd hw 44 rfl), (wd hw 41 rfl), (wd hw 45 rfl), by decide, _, _, pd_31, rfl⟩
theorem pd_32 : parseMethodDescriptor "([CII)[B" = some ⟨[(.array .char), .int, .int], some (.array .byte)⟩ := by decide +kernel
theorem sw_39 {Z : State} {a0 : Array Value} (hw : HW a0 Z) : Own.SW Z a0 ⟨"java/lang/StringUTF16", "toBytes", "([CII)[B"⟩ jdk_52_method_14_code 5 (some (.array .byte)) 3 := ⟨(wd hw 242 rfl), (wd hw 41 rfl), (wd hw 243 rfl), by decide, _, _, pd_32, rfl⟩
theorem s59 : decs jdk_52_method_16_code [(0, .iload_n 2, 1), (1, .newarray .byte, 2), (3, .astore_n 3, 1), (4, .aload_n 0, 1), (5, .iload_n 1, 1), (6, .aload_n 3, 1), (7, .iconst 0, 1), (8, .iload_n 2, 1), (9, .invokestatic 115, 3), (12, .istore 4, 2), (14, .iload 4, 2), (16, .iload_n 2, 1), (17, .if_icmp .eq 40, 3), (20, .aload_n 0, 1), (21, .iload_n 1, 1), (22, .iload_n 2, 1), (23, .invokestatic 119, 3), (26, .astore 5, 2), (28, .aload 5, 2), (30, .iload 4, 2), (32, .invokestatic 71, 3), (35, .sipush 255, 3), (38, .if_icmp .gt 16, 3), (54, .aload 5, 2), (56, .areturn, 1)] = true := by decide +kernel
theorem pn_7 : plainFor (⟨"java/lang/StringUTF16", "compress", "([CII)[B"⟩ : MethodName) = true := by first | exact plainFor_of_name (by first | (simp [plainName, overriddenIn]; done) | decide +kernel) | decide +kernel
def QrmCm1 (Z : State) (b1 : Addr) (kc : ClassId) (d1 : Value) (c0 : Int32) (h0 : Heap) (n0 : Nat) (v : Option Value) (h : Heap) (L : List Loc) : Prop := ∃ r k, v = some (.ref r) ∧ Fr n0 L ∧ Ext h0 h ∧ h0.size ≤ r ∧ Own.U16 Z h r k 1 [c0]
theorem rmCm1 (l : Launch) (Z : State) (a0 : Array Value) (hw : HW a0 Z) (ws : List Jvm.Cond) (b1 : Addr) (kc : ClassId) (d1 : Value) (c0 : Int32) (h0 : Heap) (n0 : Nat) (Z0 : n0 ≤ h0.size) (SA : Own.Ads Z h0) (SH : Own.Hib Z h0) (SL : Own.Lob Z h0) (A_b : Arv Z h0 b1 kc .char (1 : Int32) [.int c0] d1) (hbig : ¬ ∀ c ∈ ([c0] : List Int32), ¬ (255 : Int32) < c) (hc0 : Own.Ch c0) :
    Own.MF l Z (⟨"java/lang/StringUTF16", "compress", "([CII)[B"⟩ : MethodName) jdk_52_method_16_code 6 (some (.array .byte)) ws (⟨3, 2, 44, 44⟩ : Room) #[(.ref b1), (.int (0 : Int32)), (.int (1 : Int32))] h0 (QrmCm1 Z b1 kc d1 c0 h0 n0) := by
  refine Own.MF.of (own := "java/lang/StringUTF16") (n := 6) rfl rfl pn_7 (fun p e s m below meth c s₁ hml hlk hret hnm P0 => ?_)
  rw [show entryFrame m #[(.ref b1), (.int (0 : Int32)), (.int (1 : Int32))] 6 = mkF m 0 #[.val (.ref b1), .val (.int (0 : Int32)), .val (.int (1 : Int32)), .unset, .unset, .unset] [] from by first | (simp [entryFrame, mkF, argsToLocals, Value.category]; done) | rfl]
  refine Own.iloadN (q := 1) P0 (dc s59 0 rfl) rfl rfl ?_
  refine Own.newarr (q := 3) (cap := 1) P0 (dc s59 1 rfl) (wd hw 16 rfl) (by decide) (by decide) (by decide) (by decide) (by decide) rfl ?_
  intro T21 h21 a21 k21 ha21 P21 E21 A21
  have V21 : Arv Z h21 a21 k21 .byte (1 : Int32) [(.int 0)] (.int 0) := Arv.pad A21 (pad_rep [] _ 1)
  refine Own.astoreN (q := 4) (L2 := #[.val (.ref b1), .val (.int (0 : Int32)), .val (.int (1 : Int32)), .val (.ref a21), .unset, .unset]) P21 (dc s59 2 rfl) rfl rfl rfl ?_
  refine Own.aloadN (q := 5) P21 (dc s59 3 rfl) rfl rfl rfl ?_
  refine Own.iloadN (q := 6) P21 (dc s59 4 rfl) rfl rfl ?_
  refine Own.aloadN (q := 7) P21 (dc s59 5 rfl) rfl rfl rfl ?_
  refine Own.iconst (q := 8) (v := (0 : Int32)) P21 (dc s59 6 rfl) rfl rfl ?_
  refine Own.iloadN (q := 9) P21 (dc s59 7 rfl) rfl rfl ?_
  have E0_1_22 : Ext h0 h21 := E21
  refine Own.cS (q := 12) (W := 0) (rest := []) P21 (dc s59 8 rfl) (wd hw 43 rfl) (sw_38 hw) (rmCo1 l Z a0 hw [] b1 kc d1 c0 a21 k21 h21 n0 (Nat.le_trans Z0 E0_1_22.1) (A_b.ext E0_1_22) V21 hbig hc0 (Nat.ne_of_lt (Nat.lt_of_lt_of_le A_b.lt (Nat.le_of_eq ha21.symm))) (Nat.le_trans Z0 (Nat.le_of_eq ha21.symm))) (by decide) (by decide) rfl (hml rfl) rfl rfl (by decide) (by decide) rfl ?_
  rintro v23 T23 h23 L23 ⟨f23, rfl, hf23, hg23, N23q, K23⟩ P23
  have N23 := Fr.app (Fr.nil n0) N23q
  refine Own.istore (q := 14) (L2 := #[.val (.ref b1), .val (.int (0 : Int32)), .val (.int (1 : Int32)), .val (.ref a21), .val (.int (Int32.ofNat f23)), .unset]) P23 (dc s59 9 rfl) rfl rfl ?_
  refine Own.iload (q := 16) P23 (dc s59 10 rfl) rfl rfl ?_
  refine Own.iloadN (q := 17) P23 (dc s59 11 rfl) rfl rfl ?_
  refine Own.icmp_eq (q := 20) (qy := 57) P23 (dc s59 12 rfl) (by decide) rfl (fun q => absurd (Own.ofNat_inj (n := f23) (k := 1) (by omega) (by omega) q) (by omega)) (fun _ => ?_)
  refine Own.aloadN (q := 21) P23 (dc s59 13 rfl) rfl rfl rfl ?_
  refine Own.iloadN (q := 22) P23 (dc s59 14 rfl) rfl rfl ?_
  refine Own.iloadN (q := 23) P23 (dc s59 15 rfl) rfl rfl ?_
  have E0_2_24 : Ext h0 h23 := (Own.Ext.kp E0_1_22 K23 (allS (Nat.le_of_eq ha21.symm) all0))
  refine Own.cS (q := 26) (W := 0) (rest := []) P23 (dc s59 16 rfl) (wd hw 241 rfl) (sw_39 hw) (rmTb1 l Z a0 hw [] b1 kc d1 c0 h23 n0 (Nat.le_trans Z0 E0_2_24.1) (SA.ext E0_2_24) (SH.ext E0_2_24) (SL.ext E0_2_24) (A_b.ext E0_2_24) hc0) (by decide) (by decide) rfl (hml rfl) rfl rfl (by decide) (by decide) rfl ?_
  rintro v25 T25 h25 L25 ⟨r25, k25, rfl, N25q, E25, gr25, U25⟩ P25
  have N25 := Fr.app N23 N25q
  refine Own.astore (q := 28) (L2 := #[.val (.ref b1), .val (.int (0 : Int32)), .val (.int (1 : Int32)), .val (.ref a21), .val (.int (Int32.ofNat f23)), .val (.ref r25)]) P25 (dc s59 17 rfl) rfl rfl rfl ?_
  refine Own.aload (q := 30) P25 (dc s59 18 rfl) rfl rfl rfl ?_
  refine Own.iload (q := 32) P25 (dc s59 19 rfl) rfl rfl ?_
  have E0_3_26 : Ext h0 h25 := (Own.Ext.tr E0_2_24 E25)
  refine Own.cS (q := 35) (W := 0) (rest := []) P25 (dc s59 20 rfl) (wd hw 257 rfl) (sw_5 hw) (rmGc l Z a0 hw [] r25 k25 1 [c0] f23 h25 n0 (Nat.le_trans Z0 E0_3_26.1) (SA.ext E0_3_26) (SH.ext E0_3_26) (SL.ext E0_3_26) U25 hf23) (by decide) (by decide) rfl (hml rfl) rfl rfl (by decide) (by decide) rfl ?_
  rintro v27 T27 h27 L27 ⟨rfl, N27q, e27⟩ P27
  rw [e27] at P27
  have N27 := Fr.app N25 N27q
  refine Own.sipush (q := 38) (v := (255 : Int32)) P27 (dc s59 21 rfl) rfl rfl ?_
  refine Own.icmp_gt (q := 41) (qy := 54) P27 (dc s59 22 rfl) (by decide) rfl (fun _ => ?_) (fun q => absurd hg23 q)
  refine Own.aload (q := 56) P27 (dc s59 23 rfl) rfl rfl rfl ?_
  refine Own.retA P27 (dc s59 24 rfl) hret rfl rfl rfl hlk (by decide) (by decide) ?_
  exact ⟨_, _, rfl, N27, E0_3_26, (Nat.le_trans E0_2_24.1 gr25), U25⟩
theorem s60 : decs jdk_52_method_15_code [(0, .iload_n 1, 1), (1, .aload_n 0, 1), (2, .arraylength, 1), (3, .isub, 1), (4, .bipush 31, 2), (6, .iushr, 1), (7, .i2b, 1), (8, .ireturn, 1)] = true := by decide +kernel
theorem pn_9 : plainFor (⟨"java/lang/StringUTF16", "coderFromArrayLen", "([BI)B"⟩ : MethodName) = true := by first | exact plainFor_of_name (by first | (simp [plainName, overriddenIn]; done) | decide +kernel) | decide +kernel
def QrmCf1 (Z : State) (t1 : Addr) (k1 : ClassId) (c0 : Int32) (h0 : Heap) (n0 : Nat) (v : Option Value) (h : Heap) (L : List Loc) : Prop := v = some (.int 1) ∧ Fr n0 L ∧ h = h0
theorem rmCf1 (l : Launch) (Z : State) (a0 : Array Value) (hw : HW a0 Z) (ws : List Jvm.Cond) (t1 : Addr) (k1 : ClassId) (c0 : Int32) (h0 : Heap) (n0 : Nat) (Z0 : n0 ≤ h0.size) (A : Own.U16 Z h0 t1 k1 1 [c0]) :
    Own.MF l Z (⟨"java/lang/StringUTF16", "coderFromArrayLen", "([BI)B"⟩ : MethodName) jdk_52_method_15_code 2 (some .byte) ws (⟨0, 0, 0, 0⟩ : Room) #[(.ref t1), (.int (1 : Int32))] h0 (QrmCf1 Z t1 k1 c0 h0 n0) := by
  refine Own.MF.of (own := "java/lang/StringUTF16") (n := 2) rfl rfl pn_9 (fun p e s m below meth c s₁ hml hlk hret hnm P0 => ?_)
  rw [show entryFrame m #[(.ref t1), (.int (1 : Int32))] 2 = mkF m 0 #[.val (.ref t1), .val (.int (1 : Int32))] [] from by first | (simp [entryFrame, mkF, argsToLocals, Value.category]; done) | rfl]
  refine Own.iloadN (q := 1) P0 (dc s60 0 rfl) rfl rfl ?_
  refine Own.aloadN (q := 2) P0 (dc s60 1 rfl) rfl rfl rfl ?_
  refine Own.arraylength (q := 3) P0 (dc s60 2 rfl) A.1 rfl ?_
  refine Own.isub (q := 4) P0 (dc s60 3 rfl)  rfl ?_
  refine Own.bipush (q := 6) (v := (31 : Int32)) P0 (dc s60 4 rfl) rfl rfl ?_
  refine Own.iushr (q := 7) P0 (dc s60 5 rfl)  rfl ?_
  refine Own.i2b (q := 8) P0 (dc s60 6 rfl)  rfl ?_
  refine Own.retZ P0 (dc s60 7 rfl) hret (by simp) hlk (by decide) (by decide) ?_
  exact ⟨by decide, (Fr.nil n0), rfl⟩
theorem sw_40 {Z : State} {a0 : Array Value} (hw : HW a0 Z) : Own.SW Z a0 ⟨"java/lang/StringUTF16", "compress", "([CII)[B"⟩ jdk_52_method_16_code 6 (some (.array .byte)) 3 := ⟨(wd hw 40 rfl), (wd hw 41 rfl), (wd hw 42 rfl), by decide, _, _, pd_32, rfl⟩
theorem pd_33 : parseMethodDescriptor "([BI)B" = some ⟨[(.array .byte), .int], some .byte⟩ := by decide +kernel
theorem sw_41 {Z : State} {a0 : Array Value} (hw : HW a0 Z) : Own.SW Z a0 ⟨"java/lang/StringUTF16", "coderFromArrayLen", "([BI)B"⟩ jdk_52_method_15_code 2 (some .byte) 2 := ⟨(wd hw 47 rfl), (wd hw 41 rfl), (wd hw 48 rfl), by decide, _, _, pd_33, rfl⟩
theorem s61 : decs jdk_42_method_149_code [(0, .aload_n 0, 1), (1, .invokespecial 1, 3), (4, .iload_n 3, 1), (5, .ifCond .ne 22, 3), (27, .getstatic 38, 3), (30, .ifCond .eq 28, 3), (33, .aload_n 1, 1), (34, .iload_n 2, 1), (35, .iload_n 3, 1), (36, .invokestatic 177, 3), (39, .astore 5, 2), (41, .aload_n 0, 1), (42, .aload 5, 2), (44, .iload_n 3, 1), (45, .invokestatic 47, 3), (48, .putfield 15, 3), (51, .aload_n 0, 1), (52, .aload 5, 2), (54, .putfield 9, 3), (57, .return_, 1)] = true := by decide +kernel
theorem pn_2 : plainFor (⟨"java/lang/String", "<init>", "([CIILjava/lang/Void;)V"⟩ : MethodName) = true := by first | exact plainFor_of_name (by first | (simp [plainName, overriddenIn]; done) | decide +kernel) | decide +kernel
def QrmI41 (Z : State) (a1 : Addr) (u1 : Value) (u2 : Value) (b1 : Addr) (kc : ClassId) (d1 : Value) (c0 : Int32) (zc : Int32) (h0 : Heap) (n0 : Nat) (v : Option Value) (h : Heap) (L : List Loc) : Prop := v = none ∧ Fr n0 L ∧ Keep h0 h [a1] ∧ Own.Str16 Z h a1 [c0]
theorem rmI41 (l : Launch) (Z : State) (a0 : Array Value) (hw : HW a0 Z) (ws : List Jvm.Cond) (a1 : Addr) (u1 : Value) (u2 : Value) (b1 : Addr) (kc : ClassId) (d1 : Value) (c0 : Int32) (zc : Int32) (h0 : Heap) (n0 : Nat) (Z0 : n0 ≤ h0.size) (SC : Own.Cst Z h0 zc) (hzc : ¬ zc = 0) (SA : Own.Ads Z h0) (SH : Own.Hib Z h0) (SL : Own.Lob Z h0) (E_a1 : Exa Z h0 a1 "java/lang/String") (f1 : Fld Z h0 a1 "java/lang/String" "value" "[B" u1) (f2 : Fld Z h0 a1 "java/lang/String" "coder" "B" u2) (g_a1 : n0 ≤ a1) (A_b : Arv Z h0 b1 kc .char (1 : Int32) [.int c0] d1) (hbig : ¬ ∀ c ∈ ([c0] : List Int32), ¬ (255 : Int32) < c) (hc0 : Own.Ch c0) :
    Own.MF l Z (⟨"java/lang/String", "<init>", "([CIILjava/lang/Void;)V"⟩ : MethodName) jdk_42_method_149_code 6 none ws (⟨4, 2, 44, 61⟩ : Room) #[(.ref a1), (.ref b1), (.int (0 : Int32)), (.int (1 : Int32)), .null] h0 (QrmI41 Z a1 u1 u2 b1 kc d1 c0 zc h0 n0) := by
  refine Own.MF.of (own := "java/lang/String") (n := 6) rfl rfl pn_2 (fun p e s m below meth c s₁ hml hlk hret hnm P0 => ?_)
  rw [show entryFrame m #[(.ref a1), (.ref b1), (.int (0 : Int32)), (.int (1 : Int32)), .null] 6 = mkF m 0 #[.val (.ref a1), .val (.ref b1), .val (.int (0 : Int32)), .val (.int (1 : Int32)), .val .null, .unset] [] from by first | (simp [entryFrame, mkF, argsToLocals, Value.category]; done) | rfl]
  refine Own.aloadN (q := 1) P0 (dc s61 0 rfl) rfl rfl rfl ?_
  refine Own.objinit (q := 4) (W := 0) P0 (dc s61 1 rfl) (wd hw 12 rfl) (wd hw 13 rfl) (wd hw 14 rfl) (hml rfl) (by decide) (Own.w0 rfl) (by decide) rfl ?_
  intro T21 P21
  refine Own.iloadN (q := 5) P21 (dc s61 2 rfl) rfl rfl ?_
  refine Own.if_ne (q := 8) (qy := 27) P21 (dc s61 3 rfl) (by decide) rfl (fun _ => ?_) (fun q => absurd q (by decide))
  refine Own.getstatic (q := 30) P21 (dc s61 4 rfl) (wd hw 37 rfl) SC rfl ?_
  intro T22 P22
  refine Own.if_eq (q := 33) (qy := 58) P22 (dc s61 5 rfl) (by decide) rfl (fun q => absurd q hzc) (fun _ => ?_)
  refine Own.aloadN (q := 34) P22 (dc s61 6 rfl) rfl rfl rfl ?_
  refine Own.iloadN (q := 35) P22 (dc s61 7 rfl) rfl rfl ?_
  refine Own.iloadN (q := 36) P22 (dc s61 8 rfl) rfl rfl ?_
  refine Own.cS (q := 39) (W := 0) (rest := []) P22 (dc s61 9 rfl) (wd hw 39 rfl) (sw_40 hw) (rmCm1 l Z a0 hw [] b1 kc d1 c0 h0 n0 Z0 SA SH SL A_b hbig hc0) (by decide) (by decide) rfl (hml rfl) rfl rfl (by decide) (by decide) rfl ?_
  rintro v23 T23 h23 L23 ⟨r23, k23, rfl, N23q, E23, gr23, U23⟩ P23
  have N23 := Fr.app (Fr.nil n0) N23q
  refine Own.astore (q := 41) (L2 := #[.val (.ref a1), .val (.ref b1), .val (.int (0 : Int32)), .val (.int (1 : Int32)), .val .null, .val (.ref r23)]) P23 (dc s61 10 rfl) rfl rfl rfl ?_
  refine Own.aloadN (q := 42) P23 (dc s61 11 rfl) rfl rfl rfl ?_
  refine Own.aload (q := 44) P23 (dc s61 12 rfl) rfl rfl rfl ?_
  refine Own.iloadN (q := 45) P23 (dc s61 13 rfl) rfl rfl ?_
  have E0_1_24 : Ext h0 h23 := E23
  refine Own.cS (q := 48) (W := 1) (rest := [(.ref a1)]) P23 (dc s61 14 rfl) (wd hw 46 rfl) (sw_41 hw) (rmCf1 l Z a0 hw [] r23 k23 c0 h23 n0 (Nat.le_trans Z0 E0_1_24.1) U23) (by decide) (by decide) rfl (hml rfl) rfl rfl (by decide) (by decide) rfl ?_
  rintro v25 T25 h25 L25 ⟨rfl, N25q, e25⟩ P25
  rw [e25] at P25
  have N25 := Fr.app N23 N25q
  refine Own.putfield (q := 51) P25 (dc s61 15 rfl) (wd hw 22 rfl) (f2.ext E0_1_24) (E_a1.ext E0_1_24) (Or.inr ⟨(wd hw 18 rfl), rfl, hnm⟩) (wd hw 3 rfl) (ty := .byte) (by decide) rfl rfl rfl ?_
  intro T26 h26 lc26 hl26 P26 W26
  have F26_value := (f1.ext E0_1_24).other W26 (Or.inr (slot_ne (Or.inr (wd hw 17 rfl)) (Or.inr (wd hw 18 rfl)) (by decide) (t := (.array .byte)) (t' := .byte) (by decide) (by decide)))
  have F26_coder := Fld.same W26 (f2.ext E0_1_24)
  have A26 := (E_a1.ext E0_1_24).wr W26
  have N26 := Own.Fr.one N25 hl26 g_a1
  refine Own.aloadN (q := 52) P26 (dc s61 16 rfl) rfl rfl rfl ?_
  refine Own.aload (q := 54) P26 (dc s61 17 rfl) rfl rfl rfl ?_
  refine Own.putfield (q := 57) P26 (dc s61 18 rfl) (wd hw 21 rfl) F26_value A26 (Or.inr ⟨(wd hw 17 rfl), rfl, hnm⟩) (wd hw 3 rfl) (ty := (.array .byte)) (by decide) rfl rfl rfl ?_
  intro T27 h27 lc27 hl27 P27 W27
  have F27_value := Fld.same W27 F26_value
  have F27_coder := F26_coder.other W27 (Or.inr (slot_ne (Or.inr (wd hw 18 rfl)) (Or.inr (wd hw 17 rfl)) (by decide) (t := .byte) (t' := (.array .byte)) (by decide) (by decide)))
  have A27 := A26.wr W27
  have N27 := Own.Fr.one N26 hl27 g_a1
  have qf28 := (Arv.keep U23.1 (Keep.of_wr W26) (ninS (Ne.symm (Exa.neArv (E_a1.ext E23) U23.1 (wd hw 3 rfl))) nin0))
  have qf29 := (Arv.keep qf28 (Keep.of_wr W27) (ninS (Ne.symm (Exa.neArv A26 qf28 (wd hw 3 rfl))) nin0))
  refine Own.retV P27 (dc s61 19 rfl) hret hlk (by decide) (by decide) ?_
  exact ⟨rfl, N27, (Keep.wr (Keep.wr (Keep.ext (Keep.refl h0 _) E23) W26 (Or.inl (by simp))) W27 (Or.inl (by simp))), r23, k23, A27, F27_value, F27_coder, qf29, U23.2⟩
theorem pd_34 : parseMethodDescriptor "([CIILjava/lang/Void;)V" = some ⟨[(.array .char), .int, .int, (.object "java/lang/Void")], none⟩ := by decide +kernel
theorem iw_42 {Z : State} {a0 : Array Value} (hw : HW a0 Z) : Own.IW Z a0 ⟨"java/lang/String", "<init>", "([CIILjava/lang/Void;)V"⟩ jdk_42_method_149_code 6 4 := ⟨rfl, (wd hw 9 rfl), (wd hw 4 rfl), (wd hw 11 rfl), by decide, _, _, pd_34, rfl⟩
theorem s62 : decs jdk_42_method_3_code [(0, .aload_n 0, 1), (1, .aload_n 1, 1), (2, .iconst 0, 1), (3, .aload_n 1, 1), (4, .arraylength, 1), (5, .aconst_null, 1), (6, .invokespecial 27, 3), (9, .return_, 1)] = true := by decide +kernel
theorem pn_1 : plainFor (⟨"java/lang/String", "<init>", "([C)V"⟩ : MethodName) = true := by first | exact plainFor_of_name (by first | (simp [plainName, overriddenIn]; done) | decide +kernel) | decide +kernel
def QrmI11 (Z : State) (a1 : Addr) (u1 : Value) (u2 : Value) (b1 : Addr) (kc : ClassId) (d1 : Value) (c0 : Int32) (zc : Int32) (h0 : Heap) (n0 : Nat) (v : Option Value) (h : Heap) (L : List Loc) : Prop := v = none ∧ Fr n0 L ∧ Keep h0 h [a1] ∧ Own.Str16 Z h a1 [c0]
theorem rmI11 (l : Launch) (Z : State) (a0 : Array Value) (hw : HW a0 Z) (ws : List Jvm.Cond) (a1 : Addr) (u1 : Value) (u2 : Value) (b1 : Addr) (kc : ClassId) (d1 : Value) (c0 : Int32) (zc : Int32) (h0 : Heap) (n0 : Nat) (Z0 : n0 ≤ h0.size) (SC : Own.Cst Z h0 zc) (hzc : ¬ zc = 0) (SA : Own.Ads Z h0) (SH : Own.Hib Z h0) (SL : Own.Lob Z h0) (E_a1 : Exa Z h0 a1 "java/lang/String") (f1 : Fld Z h0 a1 "java/lang/String" "value" "[B" u1) (f2 : Fld Z h0 a1 "java/lang/String" "coder" "B" u2) (g_a1 : n0 ≤ a1) (A_b : Arv Z h0 b1 kc .char (1 : Int32) [.int c0] d1) (hbig : ¬ ∀ c ∈ ([c0] : List Int32), ¬ (255 : Int32) < c) (hc0 : Own.Ch c0) :
    Own.MF l Z (⟨"java/lang/String", "<init>", "([C)V"⟩ : MethodName) jdk_42_method_3_code 2 none ws (⟨5, 2, 44, 78⟩ : Room) #[(.ref a1), (.ref b1)] h0 (QrmI11 Z a1 u1 u2 b1 kc d1 c0 zc h0 n0) := by
  refine Own.MF.of (own := "java/lang/String") (n := 2) rfl rfl pn_1 (fun p e s m below meth c s₁ hml hlk hret hnm P0 => ?_)
  rw [show entryFrame m #[(.ref a1), (.ref b1)] 2 = mkF m 0 #[.val (.ref a1), .val (.ref b1)] [] from by first | (simp [entryFrame, mkF, argsToLocals, Value.category]; done) | rfl]
  refine Own.aloadN (q := 1) P0 (dc s62 0 rfl) rfl rfl rfl ?_
  refine Own.aloadN (q := 2) P0 (dc s62 1 rfl) rfl rfl rfl ?_
  refine Own.iconst (q := 3) (v := (0 : Int32)) P0 (dc s62 2 rfl) rfl rfl ?_
  refine Own.aloadN (q := 4) P0 (dc s62 3 rfl) rfl rfl rfl ?_
  refine Own.arraylength (q := 5) P0 (dc s62 4 rfl) A_b rfl ?_
  refine Own.aconst (q := 6) P0 (dc s62 5 rfl)  rfl ?_
  refine Own.cI (q := 9) (W := 0) (rest := []) P0 (dc s62 6 rfl) (wd hw 8 rfl) (iw_42 hw) (rmI41 l Z a0 hw [] a1 u1 u2 b1 kc d1 c0 zc h0 n0 Z0 SC hzc SA SH SL E_a1 f1 f2 g_a1 A_b hbig hc0) (by decide) (by decide) rfl (hml rfl) rfl rfl (by decide) (by decide) rfl ?_
  rintro v21 T21 h21 L21 ⟨rfl, N21q, K21, St21⟩ P21
  have N21 := Fr.app (Fr.nil n0) N21q
  refine Own.retV P21 (dc s62 7 rfl) hret hlk (by decide) (by decide) ?_
  exact ⟨rfl, N21, K21, St21⟩

def QrmCo2 (Z : State) (b1 : Addr) (kc : ClassId) (d1 : Value) (c0 : Int32) (c1 : Int32) (t1 : Addr) (k1 : ClassId) (h0 : Heap) (n0 : Nat) (v : Option Value) (h : Heap) (L : List Loc) : Prop := ∃ f, v = some (.int (Int32.ofNat f)) ∧ f < 2 ∧ (255 : Int32) < ([c0, c1] : List Int32).getD f 0 ∧ Fr n0 L ∧ Keep h0 h [t1]
theorem rmCo2 (l : Launch) (Z : State) (a0 : Array Value) (hw : HW a0 Z) (ws : List Jvm.Cond) (b1 : Addr) (kc : ClassId) (d1 : Value) (c0 : Int32) (c1 : Int32) (t1 : Addr) (k1 : ClassId) (h0 : Heap) (n0 : Nat) (Z0 : n0 ≤ h0.size) (A_b : Arv Z h0 b1 kc .char (2 : Int32) [.int c0, .int c1] d1) (A_t : Arv Z h0 t1 k1 .byte (2 : Int32) [.int 0, .int 0] (.int 0)) (hbig : ¬ ∀ c ∈ ([c0, c1] : List Int32), ¬ (255 : Int32) < c) (hc0 : Own.Ch c0) (hc1 : Own.Ch c1) (hbt : b1 ≠ t1) (g_t1 : n0 ≤ t1) :
    Own.MF l Z (⟨"java/lang/StringUTF16", "compress", "([CI[BII)I"⟩ : MethodName) jdk_52_method_21_code 7 (some .int) ws (⟨0, 0, 0, 0⟩ : Room) #[(.ref b1), (.int (0 : Int32)), (.ref t1), (.int (0 : Int32)), (.int (2 : Int32))] h0 (QrmCo2 Z b1 kc d1 c0 c1 t1 k1 h0 n0) := by
  refine Own.MF.of (own := "java/lang/StringUTF16") (n := 7) rfl rfl pn_8 (fun p e s m below meth c s₁ hml hlk hret hnm P0 => ?_)
  rw [show entryFrame m #[(.ref b1), (.int (0 : Int32)), (.ref t1), (.int (0 : Int32)), (.int (2 : Int32))] 7 = mkF m 0 #[.val (.ref b1), .val (.int (0 : Int32)), .val (.ref t1), .val (.int (0 : Int32)), .val (.int (2 : Int32)), .unset, .unset] [] from by first | (simp [entryFrame, mkF, argsToLocals, Value.category]; done) | rfl]
  refine Own.iconst (q := 1) (v := (0 : Int32)) P0 (dc s57 0 rfl) rfl rfl ?_
  refine Own.istore (q := 3) (L2 := #[.val (.ref b1), .val (.int (0 : Int32)), .val (.ref t1), .val (.int (0 : Int32)), .val (.int (2 : Int32)), .val (.int (0 : Int32)), .unset]) P0 (dc s57 1 rfl) rfl rfl ?_
  refine Own.iload (q := 5) P0 (dc s57 2 rfl) rfl rfl ?_
  refine Own.iload (q := 7) P0 (dc s57 3 rfl) rfl rfl ?_
  refine Own.icmp_ge (q := 10) (qy := 44) P0 (dc s57 4 rfl) (by decide) rfl (fun q => absurd (by decide) q) (fun _ => ?_)
  refine Own.aloadN (q := 11) P0 (dc s57 5 rfl) rfl rfl rfl ?_
  refine Own.iloadN (q := 12) P0 (dc s57 6 rfl) rfl rfl ?_
  refine Own.caload (q := 13) (v := (.int c0)) P0 (dc s57 7 rfl) A_b (by decide) (by decide) rfl rfl ?_
  refine Own.istore (q := 15) (L2 := #[.val (.ref b1), .val (.int (0 : Int32)), .val (.ref t1), .val (.int (0 : Int32)), .val (.int (2 : Int32)), .val (.int (0 : Int32)), .val (.int c0)]) P0 (dc s57 8 rfl) rfl rfl ?_
  refine Own.iload (q := 17) P0 (dc s57 9 rfl) rfl rfl ?_
  refine Own.sipush (q := 20) (v := (255 : Int32)) P0 (dc s57 10 rfl) rfl rfl ?_
  refine Own.icmp_le (q := 23) (qy := 26) P0 (dc s57 11 rfl) (by decide) rfl (fun q0 => ?_) (fun q0 => ?_)
  · refine Own.aloadN (q := 27) P0 (dc s57 14 rfl) rfl rfl rfl ?_
    refine Own.iloadN (q := 28) P0 (dc s57 15 rfl) rfl rfl ?_
    refine Own.iload (q := 30) P0 (dc s57 16 rfl) rfl rfl ?_
    refine Own.i2b (q := 31) P0 (dc s57 17 rfl)  rfl ?_
    refine Own.bastore (q := 32) (i := 0) (x2 := (c0).toInt8.toInt32) P0 (dc s57 18 rfl) A_t (by decide) (by decide) (Own.nar_b _) (Own.fits_b _) (by decide) (Own.ltb rfl) rfl ?_
    intro T21 h21 lc21 hl21 P21 W21 A21
    have V21 : Arv Z h21 t1 k1 .byte (2 : Int32) [(.int (c0).toInt8.toInt32), (.int 0)] (.int 0) := A21
    have N21 := Own.Fr.one (Fr.nil n0) hl21 g_t1
    refine Own.iinc (q := 35) (v := (1 : Int32)) (L2 := #[.val (.ref b1), .val (.int ((0 : Int32) + (1 : Int32))), .val (.ref t1), .val (.int (0 : Int32)), .val (.int (2 : Int32)), .val (.int (0 : Int32)), .val (.int c0)]) P21 (dc s57 19 rfl) rfl rfl rfl rfl ?_
    show Own.Goes _ _ _ _ (T21.setTop (mkF m 35 #[.val (.ref b1), .val (.int (1 : Int32)), .val (.ref t1), .val (.int (0 : Int32)), .val (.int (2 : Int32)), .val (.int (0 : Int32)), .val (.int c0)] []))
    refine Own.iinc (q := 38) (v := (1 : Int32)) (L2 := #[.val (.ref b1), .val (.int (1 : Int32)), .val (.ref t1), .val (.int ((0 : Int32) + (1 : Int32))), .val (.int (2 : Int32)), .val (.int (0 : Int32)), .val (.int c0)]) P21 (dc s57 20 rfl) rfl rfl rfl rfl ?_
    show Own.Goes _ _ _ _ (T21.setTop (mkF m 38 #[.val (.ref b1), .val (.int (1 : Int32)), .val (.ref t1), .val (.int (1 : Int32)), .val (.int (2 : Int32)), .val (.int (0 : Int32)), .val (.int c0)] []))
    refine Own.iinc (q := 41) (v := (1 : Int32)) (L2 := #[.val (.ref b1), .val (.int (1 : Int32)), .val (.ref t1), .val (.int (1 : Int32)), .val (.int (2 : Int32)), .val (.int ((0 : Int32) + (1 : Int32))), .val (.int c0)]) P21 (dc s57 21 rfl) rfl rfl rfl rfl ?_
    show Own.Goes _ _ _ _ (T21.setTop (mkF m 41 #[.val (.ref b1), .val (.int (1 : Int32)), .val (.ref t1), .val (.int (1 : Int32)), .val (.int (2 : Int32)), .val (.int (1 : Int32)), .val (.int c0)] []))
    refine Own.goto (q := 3) P21 (dc s57 22 rfl) (by decide) ?_
    refine Own.iload (q := 5) P21 (dc s57 2 rfl) rfl rfl ?_
    refine Own.iload (q := 7) P21 (dc s57 3 rfl) rfl rfl ?_
    refine Own.icmp_ge (q := 10) (qy := 44) P21 (dc s57 4 rfl) (by decide) rfl (fun q => absurd (by decide) q) (fun _ => ?_)
    refine Own.aloadN (q := 11) P21 (dc s57 5 rfl) rfl rfl rfl ?_
    refine Own.iloadN (q := 12) P21 (dc s57 6 rfl) rfl rfl ?_
    have qf22 := (Arv.keep A_b (Keep.of_wr W21) (ninS hbt nin0))
    refine Own.caload (q := 13) (v := (.int c1)) P21 (dc s57 7 rfl) qf22 (by decide) (by decide) rfl rfl ?_
    refine Own.istore (q := 15) (L2 := #[.val (.ref b1), .val (.int (1 : Int32)), .val (.ref t1), .val (.int (1 : Int32)), .val (.int (2 : Int32)), .val (.int (1 : Int32)), .val (.int c1)]) P21 (dc s57 8 rfl) rfl rfl ?_
    refine Own.iload (q := 17) P21 (dc s57 9 rfl) rfl rfl ?_
    refine Own.sipush (q := 20) (v := (255 : Int32)) P21 (dc s57 10 rfl) rfl rfl ?_
    refine Own.icmp_le (q := 23) (qy := 26) P21 (dc s57 11 rfl) (by decide) rfl (fun q1 => ?_) (fun q1 => ?_)
    · refine Own.aloadN (q := 27) P21 (dc s57 14 rfl) rfl rfl rfl ?_
      refine Own.iloadN (q := 28) P21 (dc s57 15 rfl) rfl rfl ?_
      refine Own.iload (q := 30) P21 (dc s57 16 rfl) rfl rfl ?_
      refine Own.i2b (q := 31) P21 (dc s57 17 rfl)  rfl ?_
      refine Own.bastore (q := 32) (i := 1) (x2 := (c1).toInt8.toInt32) P21 (dc s57 18 rfl) V21 (by decide) (by decide) (Own.nar_b _) (Own.fits_b _) (by decide) (Own.ltb rfl) rfl ?_
      intro T23 h23 lc23 hl23 P23 W23 A23
      have V23 : Arv Z h23 t1 k1 .byte (2 : Int32) [(.int (c0).toInt8.toInt32), (.int (c1).toInt8.toInt32)] (.int 0) := A23
      have N23 := Own.Fr.one N21 hl23 g_t1
      refine Own.iinc (q := 35) (v := (1 : Int32)) (L2 := #[.val (.ref b1), .val (.int ((1 : Int32) + (1 : Int32))), .val (.ref t1), .val (.int (1 : Int32)), .val (.int (2 : Int32)), .val (.int (1 : Int32)), .val (.int c1)]) P23 (dc s57 19 rfl) rfl rfl rfl rfl ?_
      show Own.Goes _ _ _ _ (T23.setTop (mkF m 35 #[.val (.ref b1), .val (.int (2 : Int32)), .val (.ref t1), .val (.int (1 : Int32)), .val (.int (2 : Int32)), .val (.int (1 : Int32)), .val (.int c1)] []))
      refine Own.iinc (q := 38) (v := (1 : Int32)) (L2 := #[.val (.ref b1), .val (.int (2 : Int32)), .val (.ref t1), .val (.int ((1 : Int32) + (1 : Int32))), .val (.int (2 : Int32)), .val (.int (1 : Int32)), .val (.int c1)]) P23 (dc s57 20 rfl) rfl rfl rfl rfl ?_
      show Own.Goes _ _ _ _ (T23.setTop (mkF m 38 #[.val (.ref b1), .val (.int (2 : Int32)), .val (.ref t1), .val (.int (2 : Int32)), .val (.int (2 : Int32)), .val (.int (1 : Int32)), .val (.int c1)] []))
      refine Own.iinc (q := 41) (v := (1 : Int32)) (L2 := #[.val (.ref b1), .val (.int (2 : Int32)), .val (.ref t1), .val (.int (2 : Int32)), .val (.int (2 : Int32)), .val (.int ((1 : Int32) + (1 : Int32))), .val (.int c1)]) P23 (dc s57 21 rfl) rfl rfl rfl rfl ?_
      show Own.Goes _ _ _ _ (T23.setTop (mkF m 41 #[.val (.ref b1), .val (.int (2 : Int32)), .val (.ref t1), .val (.int (2 : Int32)), .val (.int (2 : Int32)), .val (.int (2 : Int32)), .val (.int c1)] []))
      refine Own.goto (q := 3) P23 (dc s57 22 rfl) (by decide) ?_
      refine Own.iload (q := 5) P23 (dc s57 2 rfl) rfl rfl ?_
      refine Own.iload (q := 7) P23 (dc s57 3 rfl) rfl rfl ?_
      refine Own.icmp_ge (q := 10) (qy := 44) P23 (dc s57 4 rfl) (by decide) rfl (fun _ => ?_) (fun q => absurd q (by decide))
      exact absurd (Own.chS q0 (Own.chS q1 Own.ch0)) hbig
    · refine Own.iload (q := 25) P21 (dc s57 12 rfl) rfl rfl ?_
      refine Own.retI P21 (dc s57 13 rfl) hret hlk (by decide) (by decide) ?_
      exact ⟨1, rfl, by decide, q1, N21, (Keep.wr (Keep.refl h0 _) W21 (Or.inl (by simp)))⟩
  · refine Own.iload (q := 25) P0 (dc s57 12 rfl) rfl rfl ?_
    refine Own.retI P0 (dc s57 13 rfl) hret hlk (by decide) (by decide) ?_
    exact ⟨0, rfl, by decide, q0, (Fr.nil n0), (Keep.refl h0 _)⟩

def QrmTb2 (Z : State) (b1 : Addr) (kc : ClassId) (d1 : Value) (c0 : Int32) (c1 : Int32) (h0 : Heap) (n0 : Nat) (v : Option Value) (h : Heap) (L : List Loc) : Prop := ∃ r k, v = some (.ref r) ∧ Fr n0 L ∧ Ext h0 h ∧ h0.size ≤ r ∧ Own.U16 Z h r k 2 [c0, c1]
theorem rmTb2 (l : Launch) (Z : State) (a0 : Array Value) (hw : HW a0 Z) (ws : List Jvm.Cond) (b1 : Addr) (kc : ClassId) (d1 : Value) (c0 : Int32) (c1 : Int32) (h0 : Heap) (n0 : Nat) (Z0 : n0 ≤ h0.size) (SA : Own.Ads Z h0) (SH : Own.Hib Z h0) (SL : Own.Lob Z h0) (A_b : Arv Z h0 b1 kc .char (2 : Int32) [.int c0, .int c1] d1) (hc0 : Own.Ch c0) (hc1 : Own.Ch c1) :
    Own.MF l Z (⟨"java/lang/StringUTF16", "toBytes", "([CII)[B"⟩ : MethodName) jdk_52_method_14_code 5 (some (.array .byte)) ws (⟨2, 1, 40, 27⟩ : Room) #[(.ref b1), (.int (0 : Int32)), (.int (2 : Int32))] h0 (QrmTb2 Z b1 kc d1 c0 c1 h0 n0) := by
  refine Own.MF.of (own := "java/lang/StringUTF16") (n := 5) rfl rfl pn_48 (fun p e s m below meth c s₁ hml hlk hret hnm P0 => ?_)
  rw [show entryFrame m #[(.ref b1), (.int (0 : Int32)), (.int (2 : Int32))] 5 = mkF m 0 #[.val (.ref b1), .val (.int (0 : Int32)), .val (.int (2 : Int32)), .unset, .unset] [] from by first | (simp [entryFrame, mkF, argsToLocals, Value.category]; done) | rfl]
  refine Own.iloadN (q := 1) P0 (dc s58 0 rfl) rfl rfl ?_
  refine Own.cS (q := 4) (W := 0) (rest := []) P0 (dc s58 1 rfl) (wd hw 244 rfl) (sw_16 hw) (rmNbf l Z a0 hw [] 2 h0 n0 Z0 (by decide)) (by decide) (by decide) rfl (hml rfl) rfl rfl (by decide) (by decide) rfl ?_
  rintro v21 T21 h21 L21 ⟨r21, k21, rfl, N21q, E21, gr21, U21⟩ P21
  have N21 := Fr.app (Fr.nil n0) N21q
  refine Own.astoreN (q := 5) (L2 := #[.val (.ref b1), .val (.int (0 : Int32)), .val (.int (2 : Int32)), .val (.ref r21), .unset]) P21 (dc s58 2 rfl) rfl rfl rfl ?_
  refine Own.iconst (q := 6) (v := (0 : Int32)) P21 (dc s58 3 rfl) rfl rfl ?_
  refine Own.istore (q := 8) (L2 := #[.val (.ref b1), .val (.int (0 : Int32)), .val (.int (2 : Int32)), .val (.ref r21), .val (.int (0 : Int32))]) P21 (dc s58 4 rfl) rfl rfl ?_
  refine Own.iload (q := 10) P21 (dc s58 5 rfl) rfl rfl ?_
  refine Own.iloadN (q := 11) P21 (dc s58 6 rfl) rfl rfl ?_
  refine Own.icmp_ge (q := 14) (qy := 32) P21 (dc s58 7 rfl) (by decide) rfl (fun q => absurd (by decide) q) (fun _ => ?_)
  refine Own.aloadN (q := 15) P21 (dc s58 8 rfl) rfl rfl rfl ?_
  refine Own.iload (q := 17) P21 (dc s58 9 rfl) rfl rfl ?_
  refine Own.aloadN (q := 18) P21 (dc s58 10 rfl) rfl rfl rfl ?_
  refine Own.iloadN (q := 19) P21 (dc s58 11 rfl) rfl rfl ?_
  have E0_1_22 : Ext h0 h21 := E21
  refine Own.caload (q := 20) (v := (.int c0)) P21 (dc s58 12 rfl) (A_b.ext E0_1_22) (by decide) (by decide) rfl rfl ?_
  refine Own.cS (q := 23) (W := 0) (rest := []) P21 (dc s58 13 rfl) (wd hw 251 rfl) (sw_13 hw) (rmPc l Z a0 hw [] r21 k21 2 (List.replicate 2 0) 0 c0 h21 n0 (Nat.le_trans Z0 E0_1_22.1) (SA.ext E0_1_22) (SH.ext E0_1_22) (SL.ext E0_1_22) U21 (by decide) hc0 (Nat.le_trans Z0 gr21)) (by decide) (by decide) rfl (hml rfl) rfl rfl (by decide) (by decide) rfl ?_
  rintro v23 T23 h23 L23 ⟨rfl, N23q, K23, U23⟩ P23
  have N23 := Fr.app N21 N23q
  have V23 : Own.U16 Z h23 r21 k21 2 [c0, 0] := U23
  refine Own.iinc (q := 26) (v := (1 : Int32)) (L2 := #[.val (.ref b1), .val (.int ((0 : Int32) + (1 : Int32))), .val (.int (2 : Int32)), .val (.ref r21), .val (.int (0 : Int32))]) P23 (dc s58 14 rfl) rfl rfl rfl rfl ?_
  show Own.Goes _ _ _ _ (T23.setTop (mkF m 26 #[.val (.ref b1), .val (.int (1 : Int32)), .val (.int (2 : Int32)), .val (.ref r21), .val (.int (0 : Int32))] []))
  refine Own.iinc (q := 29) (v := (1 : Int32)) (L2 := #[.val (.ref b1), .val (.int (1 : Int32)), .val (.int (2 : Int32)), .val (.ref r21), .val (.int ((0 : Int32) + (1 : Int32)))]) P23 (dc s58 15 rfl) rfl rfl rfl rfl ?_
  show Own.Goes _ _ _ _ (T23.setTop (mkF m 29 #[.val (.ref b1), .val (.int (1 : Int32)), .val (.int (2 : Int32)), .val (.ref r21), .val (.int (1 : Int32))] []))
  refine Own.goto (q := 8) P23 (dc s58 16 rfl) (by decide) ?_
  refine Own.iload (q := 10) P23 (dc s58 5 rfl) rfl rfl ?_
  refine Own.iloadN (q := 11) P23 (dc s58 6 rfl) rfl rfl ?_
  refine Own.icmp_ge (q := 14) (qy := 32) P23 (dc s58 7 rfl) (by decide) rfl (fun q => absurd (by decide) q) (fun _ => ?_)
  refine Own.aloadN (q := 15) P23 (dc s58 8 rfl) rfl rfl rfl ?_
  refine Own.iload (q := 17) P23 (dc s58 9 rfl) rfl rfl ?_
  refine Own.aloadN (q := 18) P23 (dc s58 10 rfl) rfl rfl rfl ?_
  refine Own.iloadN (q := 19) P23 (dc s58 11 rfl) rfl rfl ?_
  have E0_2_24 : Ext h0 h23 := (Own.Ext.kp E0_1_22 K23 (allS gr21 all0))
  refine Own.caload (q := 20) (v := (.int c1)) P23 (dc s58 12 rfl) (A_b.ext E0_2_24) (by decide) (by decide) rfl rfl ?_
  refine Own.cS (q := 23) (W := 0) (rest := []) P23 (dc s58 13 rfl) (wd hw 251 rfl) (sw_13 hw) (rmPc l Z a0 hw [] r21 k21 2 [c0, 0] 1 c1 h23 n0 (Nat.le_trans Z0 E0_2_24.1) (SA.ext E0_2_24) (SH.ext E0_2_24) (SL.ext E0_2_24) V23 (by decide) hc1 (Nat.le_trans Z0 gr21)) (by decide) (by decide) rfl (hml rfl) rfl rfl (by decide) (by decide) rfl ?_
  rintro v25 T25 h25 L25 ⟨rfl, N25q, K25, U25⟩ P25
  have N25 := Fr.app N23 N25q
  have V25 : Own.U16 Z h25 r21 k21 2 [c0, c1] := U25
  refine Own.iinc (q := 26) (v := (1 : Int32)) (L2 := #[.val (.ref b1), .val (.int ((1 : Int32) + (1 : Int32))), .val (.int (2 : Int32)), .val (.ref r21), .val (.int (1 : Int32))]) P25 (dc s58 14 rfl) rfl rfl rfl rfl ?_
  show Own.Goes _ _ _ _ (T25.setTop (mkF m 26 #[.val (.ref b1), .val (.int (2 : Int32)), .val (.int (2 : Int32)), .val (.ref r21), .val (.int (1 : Int32))] []))
  refine Own.iinc (q := 29) (v := (1 : Int32)) (L2 := #[.val (.ref b1), .val (.int (2 : Int32)), .val (.int (2 : Int32)), .val (.ref r21), .val (.int ((1 : Int32) + (1 : Int32)))]) P25 (dc s58 15 rfl) rfl rfl rfl rfl ?_
  show Own.Goes _ _ _ _ (T25.setTop (mkF m 29 #[.val (.ref b1), .val (.int (2 : Int32)), .val (.int (2 : Int32)), .val (.ref r21), .val (.int (2 : Int32))] []))
  refine Own.goto (q := 8) P25 (dc s58 16 rfl) (by decide) ?_
  refine Own.iload (q := 10) P25 (dc s58 5 rfl) rfl rfl ?_
  refine Own.iloadN (q := 11) P25 (dc s58 6 rfl) rfl rfl ?_
  refine Own.icmp_ge (q := 14) (qy := 32) P25 (dc s58 7 rfl) (by decide) rfl (fun _ => ?_) (fun q => absurd q (by decide))
  refine Own.aloadN (q := 33) P25 (dc s58 17 rfl) rfl rfl rfl ?_
  have E0_3_26 : Ext h0 h25 := (Own.Ext.kp E0_2_24 K25 (allS gr21 all0))
  refine Own.retA P25 (dc s58 18 rfl) hret rfl rfl rfl hlk (by decide) (by decide) ?_
  exact ⟨_, _, rfl, N25, E0_3_26, gr21, V25⟩

def QrmCm2 (Z : State) (b1 : Addr) (kc : ClassId) (d1 : Value) (c0 : Int32) (c1 : Int32) (h0 : Heap) (n0 : Nat) (v : Option Value) (h : Heap) (L : List Loc) : Prop := ∃ r k, v = some (.ref r) ∧ Fr n0 L ∧ Ext h0 h ∧ h0.size ≤ r ∧ Own.U16 Z h r k 2 [c0, c1]
theorem rmCm2 (l : Launch) (Z : State) (a0 : Array Value) (hw : HW a0 Z) (ws : List Jvm.Cond) (b1 : Addr) (kc : ClassId) (d1 : Value) (c0 : Int32) (c1 : Int32) (h0 : Heap) (n0 : Nat) (Z0 : n0 ≤ h0.size) (SA : Own.Ads Z h0) (SH : Own.Hib Z h0) (SL : Own.Lob Z h0) (A_b : Arv Z h0 b1 kc .char (2 : Int32) [.int c0, .int c1] d1) (hbig : ¬ ∀ c ∈ ([c0, c1] : List Int32), ¬ (255 : Int32) < c) (hc0 : Own.Ch c0) (hc1 : Own.Ch c1) :
    Own.MF l Z (⟨"java/lang/StringUTF16", "compress", "([CII)[B"⟩ : MethodName) jdk_52_method_16_code 6 (some (.array .byte)) ws (⟨3, 2, 44, 44⟩ : Room) #[(.ref b1), (.int (0 : Int32)), (.int (2 : Int32))] h0 (QrmCm2 Z b1 kc d1 c0 c1 h0 n0) := by
  refine Own.MF.of (own := "java/lang/StringUTF16") (n := 6) rfl rfl pn_7 (fun p e s m below meth c s₁ hml hlk hret hnm P0 => ?_)
  rw [show entryFrame m #[(.ref b1), (.int (0 : Int32)), (.int (2 : Int32))] 6 = mkF m 0 #[.val (.ref b1), .val (.int (0 : Int32)), .val (.int (2 : Int32)), .unset, .unset, .unset] [] from by first | (simp [entryFrame, mkF, argsToLocals, Value.category]; done) | rfl]
  refine Own.iloadN (q := 1) P0 (dc s59 0 rfl) rfl rfl ?_
  refine Own.newarr (q := 3) (cap := 2) P0 (dc s59 1 rfl) (wd hw 16 rfl) (by decide) (by decide) (by decide) (by decide) (by decide) rfl ?_
  intro T21 h21 a21 k21 ha21 P21 E21 A21
  have V21 : Arv Z h21 a21 k21 .byte (2 : Int32) [(.int 0), (.int 0)] (.int 0) := Arv.pad A21 (pad_rep [] _ 2)
  refine Own.astoreN (q := 4) (L2 := #[.val (.ref b1), .val (.int (0 : Int32)), .val (.int (2 : Int32)), .val (.ref a21), .unset, .unset]) P21 (dc s59 2 rfl) rfl rfl rfl ?_
  refine Own.aloadN (q := 5) P21 (dc s59 3 rfl) rfl rfl rfl ?_
  refine Own.iloadN (q := 6) P21 (dc s59 4 rfl) rfl rfl ?_
  refine Own.aloadN (q := 7) P21 (dc s59 5 rfl) rfl rfl rfl ?_
  refine Own.iconst (q := 8) (v := (0 : Int32)) P21 (dc s59 6 rfl) rfl rfl ?_
  refine Own.iloadN (q := 9) P21 (dc s59 7 rfl) rfl rfl ?_
  have E0_1_22 : Ext h0 h21 := E21
  refine Own.cS (q := 12) (W := 0) (rest := []) P21 (dc s59 8 rfl) (wd hw 43 rfl) (sw_38 hw) (rmCo2 l Z a0 hw [] b1 kc d1 c0 c1 a21 k21 h21 n0 (Nat.le_trans Z0 E0_1_22.1) (A_b.ext E0_1_22) V21 hbig hc0 hc1 (Nat.ne_of_lt (Nat.lt_of_lt_of_le A_b.lt (Nat.le_of_eq ha21.symm))) (Nat.le_trans Z0 (Nat.le_of_eq ha21.symm))) (by decide) (by decide) rfl (hml rfl) rfl rfl (by decide) (by decide) rfl ?_
  rintro v23 T23 h23 L23 ⟨f23, rfl, hf23, hg23, N23q, K23⟩ P23
  have N23 := Fr.app (Fr.nil n0) N23q
  refine Own.istore (q := 14) (L2 := #[.val (.ref b1), .val (.int (0 : Int32)), .val (.int (2 : Int32)), .val (.ref a21), .val (.int (Int32.ofNat f23)), .unset]) P23 (dc s59 9 rfl) rfl rfl ?_
  refine Own.iload (q := 16) P23 (dc s59 10 rfl) rfl rfl ?_
  refine Own.iloadN (q := 17) P23 (dc s59 11 rfl) rfl rfl ?_
  refine Own.icmp_eq (q := 20) (qy := 57) P23 (dc s59 12 rfl) (by decide) rfl (fun q => absurd (Own.ofNat_inj (n := f23) (k := 2) (by omega) (by omega) q) (by omega)) (fun _ => ?_)
  refine Own.aloadN (q := 21) P23 (dc s59 13 rfl) rfl rfl rfl ?_
  refine Own.iloadN (q := 22) P23 (dc s59 14 rfl) rfl rfl ?_
  refine Own.iloadN (q := 23) P23 (dc s59 15 rfl) rfl rfl ?_
  have E0_2_24 : Ext h0 h23 := (Own.Ext.kp E0_1_22 K23 (allS (Nat.le_of_eq ha21.symm) all0))
  refine Own.cS (q := 26) (W := 0) (rest := []) P23 (dc s59 16 rfl) (wd hw 241 rfl) (sw_39 hw) (rmTb2 l Z a0 hw [] b1 kc d1 c0 c1 h23 n0 (Nat.le_trans Z0 E0_2_24.1) (SA.ext E0_2_24) (SH.ext E0_2_24) (SL.ext E0_2_24) (A_b.ext E0_2_24) hc0 hc1) (by decide) (by decide) rfl (hml rfl) rfl rfl (by decide) (by decide) rfl ?_
  rintro v25 T25 h25 L25 ⟨r25, k25, rfl, N25q, E25, gr25, U25⟩ P25
  have N25 := Fr.app N23 N25q
  refine Own.astore (q := 28) (L2 := #[.val (.ref b1), .val (.int (0 : Int32)), .val (.int (2 : Int32)), .val (.ref a21), .val (.int (Int32.ofNat f23)), .val (.ref r25)]) P25 (dc s59 17 rfl) rfl rfl rfl ?_
  refine Own.aload (q := 30) P25 (dc s59 18 rfl) rfl rfl rfl ?_
  refine Own.iload (q := 32) P25 (dc s59 19 rfl) rfl rfl ?_
  have E0_3_26 : Ext h0 h25 := (Own.Ext.tr E0_2_24 E25)
  refine Own.cS (q := 35) (W := 0) (rest := []) P25 (dc s59 20 rfl) (wd hw 257 rfl) (sw_5 hw) (rmGc l Z a0 hw [] r25 k25 2 [c0, c1] f23 h25 n0 (Nat.le_trans Z0 E0_3_26.1) (SA.ext E0_3_26) (SH.ext E0_3_26) (SL.ext E0_3_26) U25 hf23) (by decide) (by decide) rfl (hml rfl) rfl rfl (by decide) (by decide) rfl ?_
  rintro v27 T27 h27 L27 ⟨rfl, N27q, e27⟩ P27
  rw [e27] at P27
  have N27 := Fr.app N25 N27q
  refine Own.sipush (q := 38) (v := (255 : Int32)) P27 (dc s59 21 rfl) rfl rfl ?_
  refine Own.icmp_gt (q := 41) (qy := 54) P27 (dc s59 22 rfl) (by decide) rfl (fun _ => ?_) (fun q => absurd hg23 q)
  refine Own.aload (q := 56) P27 (dc s59 23 rfl) rfl rfl rfl ?_
  refine Own.retA P27 (dc s59 24 rfl) hret rfl rfl rfl hlk (by decide) (by decide) ?_
  exact ⟨_, _, rfl, N27, E0_3_26, (Nat.le_trans E0_2_24.1 gr25), U25⟩

def QrmCf2 (Z : State) (t1 : Addr) (k1 : ClassId) (c0 : Int32) (c1 : Int32) (h0 : Heap) (n0 : Nat) (v : Option Value) (h : Heap) (L : List Loc) : Prop := v = some (.int 1) ∧ Fr n0 L ∧ h = h0
theorem rmCf2 (l : Launch) (Z : State) (a0 : Array Value) (hw : HW a0 Z) (ws : List Jvm.Cond) (t1 : Addr) (k1 : ClassId) (c0 : Int32) (c1 : Int32) (h0 : Heap) (n0 : Nat) (Z0 : n0 ≤ h0.size) (A : Own.U16 Z h0 t1 k1 2 [c0, c1]) :
    Own.MF l Z (⟨"java/lang/StringUTF16", "coderFromArrayLen", "([BI)B"⟩ : MethodName) jdk_52_method_15_code 2 (some .byte) ws (⟨0, 0, 0, 0⟩ : Room) #[(.ref t1), (.int (2 : Int32))] h0 (QrmCf2 Z t1 k1 c0 c1 h0 n0) := by
  refine Own.MF.of (own := "java/lang/StringUTF16") (n := 2) rfl rfl pn_9 (fun p e s m below meth c s₁ hml hlk hret hnm P0 => ?_)
  rw [show entryFrame m #[(.ref t1), (.int (2 : Int32))] 2 = mkF m 0 #[.val (.ref t1), .val (.int (2 : Int32))] [] from by first | (simp [entryFrame, mkF, argsToLocals, Value.category]; done) | rfl]
  refine Own.iloadN (q := 1) P0 (dc s60 0 rfl) rfl rfl ?_
  refine Own.aloadN (q := 2) P0 (dc s60 1 rfl) rfl rfl rfl ?_
  refine Own.arraylength (q := 3) P0 (dc s60 2 rfl) A.1 rfl ?_
  refine Own.isub (q := 4) P0 (dc s60 3 rfl)  rfl ?_
  refine Own.bipush (q := 6) (v := (31 : Int32)) P0 (dc s60 4 rfl) rfl rfl ?_
  refine Own.iushr (q := 7) P0 (dc s60 5 rfl)  rfl ?_
  refine Own.i2b (q := 8) P0 (dc s60 6 rfl)  rfl ?_
  refine Own.retZ P0 (dc s60 7 rfl) hret (by simp) hlk (by decide) (by decide) ?_
  exact ⟨by decide, (Fr.nil n0), rfl⟩

def QrmI42 (Z : State) (a1 : Addr) (u1 : Value) (u2 : Value) (b1 : Addr) (kc : ClassId) (d1 : Value) (c0 : Int32) (c1 : Int32) (zc : Int32) (h0 : Heap) (n0 : Nat) (v : Option Value) (h : Heap) (L : List Loc) : Prop := v = none ∧ Fr n0 L ∧ Keep h0 h [a1] ∧ Own.Str16 Z h a1 [c0, c1]
theorem rmI42 (l : Launch) (Z : State) (a0 : Array Value) (hw : HW a0 Z) (ws : List Jvm.Cond) (a1 : Addr) (u1 : Value) (u2 : Value) (b1 : Addr) (kc : ClassId) (d1 : Value) (c0 : Int32) (c1 : Int32) (zc : Int32) (h0 : Heap) (n0 : Nat) (Z0 : n0 ≤ h0.size) (SC : Own.Cst Z h0 zc) (hzc : ¬ zc = 0) (SA : Own.Ads Z h0) (SH : Own.Hib Z h0) (SL : Own.Lob Z h0) (E_a1 : Exa Z h0 a1 "java/lang/String") (f1 : Fld Z h0 a1 "java/lang/String" "value" "[B" u1) (f2 : Fld Z h0 a1 "java/lang/String" "coder" "B" u2) (g_a1 : n0 ≤ a1) (A_b : Arv Z h0 b1 kc .char (2 : Int32) [.int c0, .int c1] d1) (hbig : ¬ ∀ c ∈ ([c0, c1] : List Int32), ¬ (255 : Int32) < c) (hc0 : Own.Ch c0) (hc1 : Own.Ch c1) :
    Own.MF l Z (⟨"java/lang/String", "<init>", "([CIILjava/lang/Void;)V"⟩ : MethodName) jdk_42_method_149_code 6 none ws (⟨4, 2, 44, 61⟩ : Room) #[(.ref a1), (.ref b1), (.int (0 : Int32)), (.int (2 : Int32)), .null] h0 (QrmI42 Z a1 u1 u2 b1 kc d1 c0 c1 zc h0 n0) := by
  refine Own.MF.of (own := "java/lang/String") (n := 6) rfl rfl pn_2 (fun p e s m below meth c s₁ hml hlk hret hnm P0 => ?_)
  rw [show entryFrame m #[(.ref a1), (.ref b1), (.int (0 : Int32)), (.int (2 : Int32)), .null] 6 = mkF m 0 #[.val (.ref a1), .val (.ref b1), .val (.int (0 : Int32)), .val (.int (2 : Int32)), .val .null, .unset] [] from by first | (simp [entryFrame, mkF, argsToLocals, Value.category]; done) | rfl]
  refine Own.aloadN (q := 1) P0 (dc s61 0 rfl) rfl rfl rfl ?_
  refine Own.objinit (q := 4) (W := 0) P0 (dc s61 1 rfl) (wd hw 12 rfl) (wd hw 13 rfl) (wd hw 14 rfl) (hml rfl) (by decide) (Own.w0 rfl) (by decide) rfl ?_
  intro T21 P21
  refine Own.iloadN (q := 5) P21 (dc s61 2 rfl) rfl rfl ?_
  refine Own.if_ne (q := 8) (qy := 27) P21 (dc s61 3 rfl) (by decide) rfl (fun _ => ?_) (fun q => absurd q (by decide))
  refine Own.getstatic (q := 30) P21 (dc s61 4 rfl) (wd hw 37 rfl) SC rfl ?_
  intro T22 P22
  refine Own.if_eq (q := 33) (qy := 58) P22 (dc s61 5 rfl) (by decide) rfl (fun q => absurd q hzc) (fun _ => ?_)
  refine Own.aloadN (q := 34) P22 (dc s61 6 rfl) rfl rfl rfl ?_
  refine Own.iloadN (q := 35) P22 (dc s61 7 rfl) rfl rfl ?_
  refine Own.iloadN (q := 36) P22 (dc s61 8 rfl) rfl rfl ?_
  refine Own.cS (q := 39) (W := 0) (rest := []) P22 (dc s61 9 rfl) (wd hw 39 rfl) (sw_40 hw) (rmCm2 l Z a0 hw [] b1 kc d1 c0 c1 h0 n0 Z0 SA SH SL A_b hbig hc0 hc1) (by decide) (by decide) rfl (hml rfl) rfl rfl (by decide) (by decide) rfl ?_
  rintro v23 T23 h23 L23 ⟨r23, k23, rfl, N23q, E23, gr23, U23⟩ P23
  have N23 := Fr.app (Fr.nil n0) N23q
  refine Own.astore (q := 41) (L2 := #[.val (.ref a1), .val (.ref b1), .val (.int (0 : Int32)), .val (.int (2 : Int32)), .val .null, .val (.ref r23)]) P23 (dc s61 10 rfl) rfl rfl rfl ?_
  refine Own.aloadN (q := 42) P23 (dc s61 11 rfl) rfl rfl rfl ?_
  refine Own.aload (q := 44) P23 (dc s61 12 rfl) rfl rfl rfl ?_
  refine Own.iloadN (q := 45) P23 (dc s61 13 rfl) rfl rfl ?_
  have E0_1_24 : Ext h0 h23 := E23
  refine Own.cS (q := 48) (W := 1) (rest := [(.ref a1)]) P23 (dc s61 14 rfl) (wd hw 46 rfl) (sw_41 hw) (rmCf2 l Z a0 hw [] r23 k23 c0 c1 h23 n0 (Nat.le_trans Z0 E0_1_24.1) U23) (by decide) (by decide) rfl (hml rfl) rfl rfl (by decide) (by decide) rfl ?_
  rintro v25 T25 h25 L25 ⟨rfl, N25q, e25⟩ P25
  rw [e25] at P25
  have N25 := Fr.app N23 N25q
  refine Own.putfield (q := 51) P25 (dc s61 15 rfl) (wd hw 22 rfl) (f2.ext E0_1_24) (E_a1.ext E0_1_24) (Or.inr ⟨(wd hw 18 rfl), rfl, hnm⟩) (wd hw 3 rfl) (ty := .byte) (by decide) rfl rfl rfl ?_
  intro T26 h26 lc26 hl26 P26 W26
  have F26_value := (f1.ext E0_1_24).other W26 (Or.inr (slot_ne (Or.inr (wd hw 17 rfl)) (Or.inr (wd hw 18 rfl)) (by decide) (t := (.array .byte)) (t' := .byte) (by decide) (by decide)))
  have F26_coder := Fld.same W26 (f2.ext E0_1_24)
  have A26 := (E_a1.ext E0_1_24).wr W26
  have N26 := Own.Fr.one N25 hl26 g_a1
  refine Own.aloadN (q := 52) P26 (dc s61 16 rfl) rfl rfl rfl ?_
  refine Own.aload (q := 54) P26 (dc s61 17 rfl) rfl rfl rfl ?_
  refine Own.putfield (q := 57) P26 (dc s61 18 rfl) (wd hw 21 rfl) F26_value A26 (Or.inr ⟨(wd hw 17 rfl), rfl, hnm⟩) (wd hw 3 rfl) (ty := (.array .byte)) (by decide) rfl rfl rfl ?_
  intro T27 h27 lc27 hl27 P27 W27
  have F27_value := Fld.same W27 F26_value
  have F27_coder := F26_coder.other W27 (Or.inr (slot_ne (Or.inr (wd hw 18 rfl)) (Or.inr (wd hw 17 rfl)) (by decide) (t := .byte) (t' := (.array .byte)) (by decide) (by decide)))
  have A27 := A26.wr W27
  have N27 := Own.Fr.one N26 hl27 g_a1
  have qf28 := (Arv.keep U23.1 (Keep.of_wr W26) (ninS (Ne.symm (Exa.neArv (E_a1.ext E23) U23.1 (wd hw 3 rfl))) nin0))
  have qf29 := (Arv.keep qf28 (Keep.of_wr W27) (ninS (Ne.symm (Exa.neArv A26 qf28 (wd hw 3 rfl))) nin0))
  refine Own.retV P27 (dc s61 19 rfl) hret hlk (by decide) (by decide) ?_
  exact ⟨rfl, N27, (Keep.wr (Keep.wr (Keep.ext (Keep.refl h0 _) E23) W26 (Or.inl (by simp))) W27 (Or.inl (by simp))), r23, k23, A27, F27_value, F27_coder, qf29, U23.2⟩

def QrmI12 (Z : State) (a1 : Addr) (u1 : Value) (u2 : Value) (b1 : Addr) (kc : ClassId) (d1 : Value) (c0 : Int32) (c1 : Int32) (zc : Int32) (h0 : Heap) (n0 : Nat) (v : Option Value) (h : Heap) (L : List Loc) : Prop := v = none ∧ Fr n0 L ∧ Keep h0 h [a1] ∧ Own.Str16 Z h a1 [c0, c1]
theorem rmI12 (l : Launch) (Z : State) (a0 : Array Value) (hw : HW a0 Z) (ws : List Jvm.Cond) (a1 : Addr) (u1 : Value) (u2 : Value) (b1 : Addr) (kc : ClassId) (d1 : Value) (c0 : Int32) (c1 : Int32) (zc : Int32) (h0 : Heap) (n0 : Nat) (Z0 : n0 ≤ h0.size) (SC : Own.Cst Z h0 zc) (hzc : ¬ zc = 0) (SA : Own.Ads Z h0) (SH : Own.Hib Z h0) (SL : Own.Lob Z h0) (E_a1 : Exa Z h0 a1 "java/lang/String") (f1 : Fld Z h0 a1 "java/lang/String" "value" "[B" u1) (f2 : Fld Z h0 a1 "java/lang/String" "coder" "B" u2) (g_a1 : n0 ≤ a1) (A_b : Arv Z h0 b1 kc .char (2 : Int32) [.int c0, .int c1] d1) (hbig : ¬ ∀ c ∈ ([c0, c1] : List Int32), ¬ (255 : Int32) < c) (hc0 : Own.Ch c0) (hc1 : Own.Ch c1) :
    Own.MF l Z (⟨"java/lang/String", "<init>", "([C)V"⟩ : MethodName) jdk_42_method_3_code 2 none ws (⟨5, 2, 44, 78⟩ : Room) #[(.ref a1), (.ref b1)] h0 (QrmI12 Z a1 u1 u2 b1 kc d1 c0 c1 zc h0 n0) := by
  refine Own.MF.of (own := "java/lang/String") (n := 2) rfl rfl pn_1 (fun p e s m below meth c s₁ hml hlk hret hnm P0 => ?_)
  rw [show entryFrame m #[(.ref a1), (.ref b1)] 2 = mkF m 0 #[.val (.ref a1), .val (.ref b1)] [] from by first | (simp [entryFrame, mkF, argsToLocals, Value.category]; done) | rfl]
  refine Own.aloadN (q := 1) P0 (dc s62 0 rfl) rfl rfl rfl ?_
  refine Own.aloadN (q := 2) P0 (dc s62 1 rfl) rfl rfl rfl ?_
  refine Own.iconst (q := 3) (v := (0 : Int32)) P0 (dc s62 2 rfl) rfl rfl ?_
  refine Own.aloadN (q := 4) P0 (dc s62 3 rfl) rfl rfl rfl ?_
  refine Own.arraylength (q := 5) P0 (dc s62 4 rfl) A_b rfl ?_
  refine Own.aconst (q := 6) P0 (dc s62 5 rfl)  rfl ?_
  refine Own.cI (q := 9) (W := 0) (rest := []) P0 (dc s62 6 rfl) (wd hw 8 rfl) (iw_42 hw) (rmI42 l Z a0 hw [] a1 u1 u2 b1 kc d1 c0 c1 zc h0 n0 Z0 SC hzc SA SH SL E_a1 f1 f2 g_a1 A_b hbig hc0 hc1) (by decide) (by decide) rfl (hml rfl) rfl rfl (by decide) (by decide) rfl ?_
  rintro v21 T21 h21 L21 ⟨rfl, N21q, K21, St21⟩ P21
  have N21 := Fr.app (Fr.nil n0) N21q
  refine Own.retV P21 (dc s62 7 rfl) hret hlk (by decide) (by decide) ?_
  exact ⟨rfl, N21, K21, St21⟩

def QrmCo3 (Z : State) (b1 : Addr) (kc : ClassId) (d1 : Value) (c0 : Int32) (c1 : Int32) (c2 : Int32) (t1 : Addr) (k1 : ClassId) (h0 : Heap) (n0 : Nat) (v : Option Value) (h : Heap) (L : List Loc) : Prop := ∃ f, v = some (.int (Int32.ofNat f)) ∧ f < 3 ∧ (255 : Int32) < ([c0, c1, c2] : List Int32).getD f 0 ∧ Fr n0 L ∧ Keep h0 h [t1]
theorem rmCo3 (l : Launch) (Z : State) (a0 : Array Value) (hw : HW a0 Z) (ws : List Jvm.Cond) (b1 : Addr) (kc : ClassId) (d1 : Value) (c0 : Int32) (c1 : Int32) (c2 : Int32) (t1 : Addr) (k1 : ClassId) (h0 : Heap) (n0 : Nat) (Z0 : n0 ≤ h0.size) (A_b : Arv Z h0 b1 kc .char (3 : Int32) [.int c0, .int c1, .int c2] d1) (A_t : Arv Z h0 t1 k1 .byte (3 : Int32) [.int 0, .int 0, .int 0] (.int 0)) (hbig : ¬ ∀ c ∈ ([c0, c1, c2] : List Int32), ¬ (255 : Int32) < c) (hc0 : Own.Ch c0) (hc1 : Own.Ch c1) (hc2 : Own.Ch c2) (hbt : b1 ≠ t1) (g_t1 : n0 ≤ t1) :
    Own.MF l Z (⟨"java/lang/StringUTF16", "compress", "([CI[BII)I"⟩ : MethodName) jdk_52_method_21_code 7 (some .int) ws (⟨0, 0, 0, 0⟩ : Room) #[(.ref b1), (.int (0 : Int32)), (.ref t1), (.int (0 : Int32)), (.int (3 : Int32))] h0 (QrmCo3 Z b1 kc d1 c0 c1 c2 t1 k1 h0 n0) := by
  refine Own.MF.of (own := "java/lang/StringUTF16") (n := 7) rfl rfl pn_8 (fun p e s m below meth c s₁ hml hlk hret hnm P0 => ?_)
  rw [show entryFrame m #[(.ref b1), (.int (0 : Int32)), (.ref t1), (.int (0 : Int32)), (.int (3 : Int32))] 7 = mkF m 0 #[.val (.ref b1), .val (.int (0 : Int32)), .val (.ref t1), .val (.int (0 : Int32)), .val (.int (3 : Int32)), .unset, .unset] [] from by first | (simp [entryFrame, mkF, argsToLocals, Value.category]; done) | rfl]
  refine Own.iconst (q := 1) (v := (0 : Int32)) P0 (dc s57 0 rfl) rfl rfl ?_
  refine Own.istore (q := 3) (L2 := #[.val (.ref b1), .val (.int (0 : Int32)), .val (.ref t1), .val (.int (0 : Int32)), .val (.int (3 : Int32)), .val (.int (0 : Int32)), .unset]) P0 (dc s57 1 rfl) rfl rfl ?_
  refine Own.iload (q := 5) P0 (dc s57 2 rfl) rfl rfl ?_
  refine Own.iload (q := 7) P0 (dc s57 3 rfl) rfl rfl ?_
  refine Own.icmp_ge (q := 10) (qy := 44) P0 (dc s57 4 rfl) (by decide) rfl (fun q => absurd (by decide) q) (fun _ => ?_)
  refine Own.aloadN (q := 11) P0 (dc s57 5 rfl) rfl rfl rfl ?_
  refine Own.iloadN (q := 12) P0 (dc s57 6 rfl) rfl rfl ?_
  refine Own.caload (q := 13) (v := (.int c0)) P0 (dc s57 7 rfl) A_b (by decide) (by decide) rfl rfl ?_
  refine Own.istore (q := 15) (L2 := #[.val (.ref b1), .val (.int (0 : Int32)), .val (.ref t1), .val (.int (0 : Int32)), .val (.int (3 : Int32)), .val (.int (0 : Int32)), .val (.int c0)]) P0 (dc s57 8 rfl) rfl rfl ?_
  refine Own.iload (q := 17) P0 (dc s57 9 rfl) rfl rfl ?_
  refine Own.sipush (q := 20) (v := (255 : Int32)) P0 (dc s57 10 rfl) rfl rfl ?_
  refine Own.icmp_le (q := 23) (qy := 26) P0 (dc s57 11 rfl) (by decide) rfl (fun q0 => ?_) (fun q0 => ?_)
  · refine Own.aloadN (q := 27) P0 (dc s57 14 rfl) rfl rfl rfl ?_
    refine Own.iloadN (q := 28) P0 (dc s57 15 rfl) rfl rfl ?_
    refine Own.iload (q := 30) P0 (dc s57 16 rfl) rfl rfl ?_
    refine Own.i2b (q := 31) P0 (dc s57 17 rfl)  rfl ?_
    refine Own.bastore (q := 32) (i := 0) (x2 := (c0).toInt8.toInt32) P0 (dc s57 18 rfl) A_t (by decide) (by decide) (Own.nar_b _) (Own.fits_b _) (by decide) (Own.ltb rfl) rfl ?_
    intro T21 h21 lc21 hl21 P21 W21 A21
    have V21 : Arv Z h21 t1 k1 .byte (3 : Int32) [(.int (c0).toInt8.toInt32), (.int 0), (.int 0)] (.int 0) := A21
    have N21 := Own.Fr.one (Fr.nil n0) hl21 g_t1
    refine Own.iinc (q := 35) (v := (1 : Int32)) (L2 := #[.val (.ref b1), .val (.int ((0 : Int32) + (1 : Int32))), .val (.ref t1), .val (.int (0 : Int32)), .val (.int (3 : Int32)), .val (.int (0 : Int32)), .val (.int c0)]) P21 (dc s57 19 rfl) rfl rfl rfl rfl ?_
    show Own.Goes _ _ _ _ (T21.setTop (mkF m 35 #[.val (.ref b1), .val (.int (1 : Int32)), .val (.ref t1), .val (.int (0 : Int32)), .val (.int (3 : Int32)), .val (.int (0 : Int32)), .val (.int c0)] []))
    refine Own.iinc (q := 38) (v := (1 : Int32)) (L2 := #[.val (.ref b1), .val (.int (1 : Int32)), .val (.ref t1), .val (.int ((0 : Int32) + (1 : Int32))), .val (.int (3 : Int32)), .val (.int (0 : Int32)), .val (.int c0)]) P21 (dc s57 20 rfl) rfl rfl rfl rfl ?_
    show Own.Goes _ _ _ _ (T21.setTop (mkF m 38 #[.val (.ref b1), .val (.int (1 : Int32)), .val (.ref t1), .val (.int (1 : Int32)), .val (.int (3 : Int32)), .val (.int (0 : Int32)), .val (.int c0)] []))
    refine Own.iinc (q := 41) (v := (1 : Int32)) (L2 := #[.val (.ref b1), .val (.int (1 : Int32)), .val (.ref t1), .val (.int (1 : Int32)), .val (.int (3 : Int32)), .val (.int ((0 : Int32) + (1 : Int32))), .val (.int c0)]) P21 (dc s57 21 rfl) rfl rfl rfl rfl ?_
    show Own.Goes _ _ _ _ (T21.setTop (mkF m 41 #[.val (.ref b1), .val (.int (1 : Int32)), .val (.ref t1), .val (.int (1 : Int32)), .val (.int (3 : Int32)), .val (.int (1 : Int32)), .val (.int c0)] []))
    refine Own.goto (q := 3) P21 (dc s57 22 rfl) (by decide) ?_
    refine Own.iload (q := 5) P21 (dc s57 2 rfl) rfl rfl ?_
    refine Own.iload (q := 7) P21 (dc s57 3 rfl) rfl rfl ?_
    refine Own.icmp_ge (q := 10) (qy := 44) P21 (dc s57 4 rfl) (by decide) rfl (fun q => absurd (by decide) q) (fun _ => ?_)
    refine Own.aloadN (q := 11) P21 (dc s57 5 rfl) rfl rfl rfl ?_
    refine Own.iloadN (q := 12) P21 (dc s57 6 rfl) rfl rfl ?_
    have qf22 := (Arv.keep A_b (Keep.of_wr W21) (ninS hbt nin0))
    refine Own.caload (q := 13) (v := (.int c1)) P21 (dc s57 7 rfl) qf22 (by decide) (by decide) rfl rfl ?_
    refine Own.istore (q := 15) (L2 := #[.val (.ref b1), .val (.int (1 : Int32)), .val (.ref t1), .val (.int (1 : Int32)), .val (.int (3 : Int32)), .val (.int (1 : Int32)), .val (.int c1)]) P21 (dc s57 8 rfl) rfl rfl ?_
    refine Own.iload (q := 17) P21 (dc s57 9 rfl) rfl rfl ?_
    refine Own.sipush (q := 20) (v := (255 : Int32)) P21 (dc s57 10 rfl) rfl rfl ?_
    refine Own.icmp_le (q := 23) (qy := 26) P21 (dc s57 11 rfl) (by decide) rfl (fun q1 => ?_) (fun q1 => ?_)
    · refine Own.aloadN (q := 27) P21 (dc s57 14 rfl) rfl rfl rfl ?_
      refine Own.iloadN (q := 28) P21 (dc s57 15 rfl) rfl rfl ?_
      refine Own.iload (q := 30) P21 (dc s57 16 rfl) rfl rfl ?_
      refine Own.i2b (q := 31) P21 (dc s57 17 rfl)  rfl ?_
      refine Own.bastore (q := 32) (i := 1) (x2 := (c1).toInt8.toInt32) P21 (dc s57 18 rfl) V21 (by decide) (by decide) (Own.nar_b _) (Own.fits_b _) (by decide) (Own.ltb rfl) rfl ?_
      intro T23 h23 lc23 hl23 P23 W23 A23
      have V23 : Arv Z h23 t1 k1 .byte (3 : Int32) [(.int (c0).toInt8.toInt32), (.int (c1).toInt8.toInt32), (.int 0)] (.int 0) := A23
      have N23 := Own.Fr.one N21 hl23 g_t1
      refine Own.iinc (q := 35) (v := (1 : Int32)) (L2 := #[.val (.ref b1), .val (.int ((1 : Int32) + (1 : Int32))), .val (.ref t1), .val (.int (1 : Int32)), .val (.int (3 : Int32)), .val (.int (1 : Int32)), .val (.int c1)]) P23 (dc s57 19 rfl) rfl rfl rfl rfl ?_
      show Own.Goes _ _ _ _ (T23.setTop (mkF m 35 #[.val (.ref b1), .val (.int (2 : Int32)), .val (.ref t1), .val (.int (1 : Int32)), .val (.int (3 : Int32)), .val (.int (1 : Int32)), .val (.int c1)] []))
      refine Own.iinc (q := 38) (v := (1 : Int32)) (L2 := #[.val (.ref b1), .val (.int (2 : Int32)), .val (.ref t1), .val (.int ((1 : Int32) + (1 : Int32))), .val (.int (3 : Int32)), .val (.int (1 : Int32)), .val (.int c1)]) P23 (dc s57 20 rfl) rfl rfl rfl rfl ?_
      show Own.Goes _ _ _ _ (T23.setTop (mkF m 38 #[.val (.ref b1), .val (.int (2 : Int32)), .val (.ref t1), .val (.int (2 : Int32)), .val (.int (3 : Int32)), .val (.int (1 : Int32)), .val (.int c1)] []))
      refine Own.iinc (q := 41) (v := (1 : Int32)) (L2 := #[.val (.ref b1), .val (.int (2 : Int32)), .val (.ref t1), .val (.int (2 : Int32)), .val (.int (3 : Int32)), .val (.int ((1 : Int32) + (1 : Int32))), .val (.int c1)]) P23 (dc s57 21 rfl) rfl rfl rfl rfl ?_
      show Own.Goes _ _ _ _ (T23.setTop (mkF m 41 #[.val (.ref b1), .val (.int (2 : Int32)), .val (.ref t1), .val (.int (2 : Int32)), .val (.int (3 : Int32)), .val (.int (2 : Int32)), .val (.int c1)] []))
      refine Own.goto (q := 3) P23 (dc s57 22 rfl) (by decide) ?_
      refine Own.iload (q := 5) P23 (dc s57 2 rfl) rfl rfl ?_
      refine Own.iload (q := 7) P23 (dc s57 3 rfl) rfl rfl ?_
      refine Own.icmp_ge (q := 10) (qy := 44) P23 (dc s57 4 rfl) (by decide) rfl (fun q => absurd (by decide) q) (fun _ => ?_)
      refine Own.aloadN (q := 11) P23 (dc s57 5 rfl) rfl rfl rfl ?_
      refine Own.iloadN (q := 12) P23 (dc s57 6 rfl) rfl rfl ?_
      have qf24 := (Arv.keep qf22 (Keep.of_wr W23) (ninS hbt nin0))
      refine Own.caload (q := 13) (v := (.int c2)) P23 (dc s57 7 rfl) qf24 (by decide) (by decide) rfl rfl ?_
      refine Own.istore (q := 15) (L2 := #[.val (.ref b1), .val (.int (2 : Int32)), .val (.ref t1), .val (.int (2 : Int32)), .val (.int (3 : Int32)), .val (.int (2 : Int32)), .val (.int c2)]) P23 (dc s57 8 rfl) rfl rfl ?_
      refine Own.iload (q := 17) P23 (dc s57 9 rfl) rfl rfl ?_
      refine Own.sipush (q := 20) (v := (255 : Int32)) P23 (dc s57 10 rfl) rfl rfl ?_
      refine Own.icmp_le (q := 23) (qy := 26) P23 (dc s57 11 rfl) (by decide) rfl (fun q2 => ?_) (fun q2 => ?_)
      · refine Own.aloadN (q := 27) P23 (dc s57 14 rfl) rfl rfl rfl ?_
        refine Own.iloadN (q := 28) P23 (dc s57 15 rfl) rfl rfl ?_
        refine Own.iload (q := 30) P23 (dc s57 16 rfl) rfl rfl ?_
        refine Own.i2b (q := 31) P23 (dc s57 17 rfl)  rfl ?_
        refine Own.bastore (q := 32) (i := 2) (x2 := (c2).toInt8.toInt32) P23 (dc s57 18 rfl) V23 (by decide) (by decide) (Own.nar_b _) (Own.fits_b _) (by decide) (Own.ltb rfl) rfl ?_
        intro T25 h25 lc25 hl25 P25 W25 A25
        have V25 : Arv Z h25 t1 k1 .byte (3 : Int32) [(.int (c0).toInt8.toInt32), (.int (c1).toInt8.toInt32), (.int (c2).toInt8.toInt32)] (.int 0) := A25
        have N25 := Own.Fr.one N23 hl25 g_t1
        refine Own.iinc (q := 35) (v := (1 : Int32)) (L2 := #[.val (.ref b1), .val (.int ((2 : Int32) + (1 : Int32))), .val (.ref t1), .val (.int (2 : Int32)), .val (.int (3 : Int32)), .val (.int (2 : Int32)), .val (.int c2)]) P25 (dc s57 19 rfl) rfl rfl rfl rfl ?_
        show Own.Goes _ _ _ _ (T25.setTop (mkF m 35 #[.val (.ref b1), .val (.int (3 : Int32)), .val (.ref t1), .val (.int (2 : Int32)), .val (.int (3 : Int32)), .val (.int (2 : Int32)), .val (.int c2)] []))
        refine Own.iinc (q := 38) (v := (1 : Int32)) (L2 := #[.val (.ref b1), .val (.int (3 : Int32)), .val (.ref t1), .val (.int ((2 : Int32) + (1 : Int32))), .val (.int (3 : Int32)), .val (.int (2 : Int32)), .val (.int c2)]) P25 (dc s57 20 rfl) rfl rfl rfl rfl ?_
        show Own.Goes _ _ _ _ (T25.setTop (mkF m 38 #[.val (.ref b1), .val (.int (3 : Int32)), .val (.ref t1), .val (.int (3 : Int32)), .val (.int (3 : Int32)), .val (.int (2 : Int32)), .val (.int c2)] []))
        refine Own.iinc (q := 41) (v := (1 : Int32)) (L2 := #[.val (.ref b1), .val (.int (3 : Int32)), .val (.ref t1), .val (.int (3 : Int32)), .val (.int (3 : Int32)), .val (.int ((2 : Int32) + (1 : Int32))), .val (.int c2)]) P25 (dc s57 21 rfl) rfl rfl rfl rfl ?_
        show Own.Goes _ _ _ _ (T25.setTop (mkF m 41 #[.val (.ref b1), .val (.int (3 : Int32)), .val (.ref t1), .val (.int (3 : Int32)), .val (.int (3 : Int32)), .val (.int (3 : Int32)), .val (.int c2)] []))
        refine Own.goto (q := 3) P25 (dc s57 22 rfl) (by decide) ?_
        refine Own.iload (q := 5) P25 (dc s57 2 rfl) rfl rfl ?_
        refine Own.iload (q := 7) P25 (dc s57 3 rfl) rfl rfl ?_
        refine Own.icmp_ge (q := 10) (qy := 44) P25 (dc s57 4 rfl) (by decide) rfl (fun _ => ?_) (fun q => absurd q (by decide))
        exact absurd (Own.chS q0 (Own.chS q1 (Own.chS q2 Own.ch0))) hbig
      · refine Own.iload (q := 25) P23 (dc s57 12 rfl) rfl rfl ?_
        refine Own.retI P23 (dc s57 13 rfl) hret hlk (by decide) (by decide) ?_
        exact ⟨2, rfl, by decide, q2, N23, (Keep.wr (Keep.wr (Keep.refl h0 _) W21 (Or.inl (by simp))) W23 (Or.inl (by simp)))⟩
    · refine Own.iload (q := 25) P21 (dc s57 12 rfl) rfl rfl ?_
      refine Own.retI P21 (dc s57 13 rfl) hret hlk (by decide) (by decide) ?_
      exact ⟨1, rfl, by decide, q1, N21, (Keep.wr (Keep.refl h0 _) W21 (Or.inl (by simp)))⟩
  · refine Own.iload (q := 25) P0 (dc s57 12 rfl) rfl rfl ?_
    refine Own.retI P0 (dc s57 13 rfl) hret hlk (by decide) (by decide) ?_
    exact ⟨0, rfl, by decide, q0, (Fr.nil n0), (Keep.refl h0 _)⟩

def QrmTb3 (Z : State) (b1 : Addr) (kc : ClassId) (d1 : Value) (c0 : Int32) (c1 : Int32) (c2 : Int32) (h0 : Heap) (n0 : Nat) (v : Option Value) (h : Heap) (L : List Loc) : Prop := ∃ r k, v = some (.ref r) ∧ Fr n0 L ∧ Ext h0 h ∧ h0.size ≤ r ∧ Own.U16 Z h r k 3 [c0, c1, c2]
theorem rmTb3 (l : Launch) (Z : State) (a0 : Array Value) (hw : HW a0 Z) (ws : List Jvm.Cond) (b1 : Addr) (kc : ClassId) (d1 : Value) (c0 : Int32) (c1 : Int32) (c2 : Int32) (h0 : Heap) (n0 : Nat) (Z0 : n0 ≤ h0.size) (SA : Own.Ads Z h0) (SH : Own.Hib Z h0) (SL : Own.Lob Z h0) (A_b : Arv Z h0 b1 kc .char (3 : Int32) [.int c0, .int c1, .int c2] d1) (hc0 : Own.Ch c0) (hc1 : Own.Ch c1) (hc2 : Own.Ch c2) :
    Own.MF l Z (⟨"java/lang/StringUTF16", "toBytes", "([CII)[B"⟩ : MethodName) jdk_52_method_14_code 5 (some (.array .byte)) ws (⟨2, 1, 40, 27⟩ : Room) #[(.ref b1), (.int (0 : Int32)), (.int (3 : Int32))] h0 (QrmTb3 Z b1 kc d1 c0 c1 c2 h0 n0) := by
  refine Own.MF.of (own := "java/lang/StringUTF16") (n := 5) rfl rfl pn_48 (fun p e s m below meth c s₁ hml hlk hret hnm P0 => ?_)
  rw [show entryFrame m #[(.ref b1), (.int (0 : Int32)), (.int (3 : Int32))] 5 = mkF m 0 #[.val (.ref b1), .val (.int (0 : Int32)), .val (.int (3 : Int32)), .unset, .unset] [] from by first | (simp [entryFrame, mkF, argsToLocals, Value.category]; done) | rfl]
  refine Own.iloadN (q := 1) P0 (dc s58 0 rfl) rfl rfl ?_
  refine Own.cS (q := 4) (W := 0) (rest := []) P0 (dc s58 1 rfl) (wd hw 244 rfl) (sw_16 hw) (rmNbf l Z a0 hw [] 3 h0 n0 Z0 (by decide)) (by decide) (by decide) rfl (hml rfl) rfl rfl (by decide) (by decide) rfl ?_
  rintro v21 T21 h21 L21 ⟨r21, k21, rfl, N21q, E21, gr21, U21⟩ P21
  have N21 := Fr.app (Fr.nil n0) N21q
  refine Own.astoreN (q := 5) (L2 := #[.val (.ref b1), .val (.int (0 : Int32)), .val (.int (3 : Int32)), .val (.ref r21), .unset]) P21 (dc s58 2 rfl) rfl rfl rfl ?_
  refine Own.iconst (q := 6) (v := (0 : Int32)) P21 (dc s58 3 rfl) rfl rfl ?_
  refine Own.istore (q := 8) (L2 := #[.val (.ref b1), .val (.int (0 : Int32)), .val (.int (3 : Int32)), .val (.ref r21), .val (.int (0 : Int32))]) P21 (dc s58 4 rfl) rfl rfl ?_
  refine Own.iload (q := 10) P21 (dc s58 5 rfl) rfl rfl ?_
  refine Own.iloadN (q := 11) P21 (dc s58 6 rfl) rfl rfl ?_
  refine Own.icmp_ge (q := 14) (qy := 32) P21 (dc s58 7 rfl) (by decide) rfl (fun q => absurd (by decide) q) (fun _ => ?_)
  refine Own.aloadN (q := 15) P21 (dc s58 8 rfl) rfl rfl rfl ?_
  refine Own.iload (q := 17) P21 (dc s58 9 rfl) rfl rfl ?_
  refine Own.aloadN (q := 18) P21 (dc s58 10 rfl) rfl rfl rfl ?_
  refine Own.iloadN (q := 19) P21 (dc s58 11 rfl) rfl rfl ?_
  have E0_1_22 : Ext h0 h21 := E21
  refine Own.caload (q := 20) (v := (.int c0)) P21 (dc s58 12 rfl) (A_b.ext E0_1_22) (by decide) (by decide) rfl rfl ?_
  refine Own.cS (q := 23) (W := 0) (rest := []) P21 (dc s58 13 rfl) (wd hw 251 rfl) (sw_13 hw) (rmPc l Z a0 hw [] r21 k21 3 (List.replicate 3 0) 0 c0 h21 n0 (Nat.le_trans Z0 E0_1_22.1) (SA.ext E0_1_22) (SH.ext E0_1_22) (SL.ext E0_1_22) U21 (by decide) hc0 (Nat.le_trans Z0 gr21)) (by decide) (by decide) rfl (hml rfl) rfl rfl (by decide) (by decide) rfl ?_
  rintro v23 T23 h23 L23 ⟨rfl, N23q, K23, U23⟩ P23
  have N23 := Fr.app N21 N23q
  have V23 : Own.U16 Z h23 r21 k21 3 [c0, 0, 0] := U23
  refine Own.iinc (q := 26) (v := (1 : Int32)) (L2 := #[.val (.ref b1), .val (.int ((0 : Int32) + (1 : Int32))), .val (.int (3 : Int32)), .val (.ref r21), .val (.int (0 : Int32))]) P23 (dc s58 14 rfl) rfl rfl rfl rfl ?_
  show Own.Goes _ _ _ _ (T23.setTop (mkF m 26 #[.val (.ref b1), .val (.int (1 : Int32)), .val (.int (3 : Int32)), .val (.ref r21), .val (.int (0 : Int32))] []))
  refine Own.iinc (q := 29) (v := (1 : Int32)) (L2 := #[.val (.ref b1), .val (.int (1 : Int32)), .val (.int (3 : Int32)), .val (.ref r21), .val (.int ((0 : Int32) + (1 : Int32)))]) P23 (dc s58 15 rfl) rfl rfl rfl rfl ?_
  show Own.Goes _ _ _ _ (T23.setTop (mkF m 29 #[.val (.ref b1), .val (.int (1 : Int32)), .val (.int (3 : Int32)), .val (.ref r21), .val (.int (1 : Int32))] []))
  refine Own.goto (q := 8) P23 (dc s58 16 rfl) (by decide) ?_
  refine Own.iload (q := 10) P23 (dc s58 5 rfl) rfl rfl ?_
  refine Own.iloadN (q := 11) P23 (dc s58 6 rfl) rfl rfl ?_
  refine Own.icmp_ge (q := 14) (qy := 32) P23 (dc s58 7 rfl) (by decide) rfl (fun q => absurd (by decide) q) (fun _ => ?_)
  refine Own.aloadN (q := 15) P23 (dc s58 8 rfl) rfl rfl rfl ?_
  refine Own.iload (q := 17) P23 (dc s58 9 rfl) rfl rfl ?_
  refine Own.aloadN (q := 18) P23 (dc s58 10 rfl) rfl rfl rfl ?_
  refine Own.iloadN (q := 19) P23 (dc s58 11 rfl) rfl rfl ?_
  have E0_2_24 : Ext h0 h23 := (Own.Ext.kp E0_1_22 K23 (allS gr21 all0))
  refine Own.caload (q := 20) (v := (.int c1)) P23 (dc s58 12 rfl) (A_b.ext E0_2_24) (by decide) (by decide) rfl rfl ?_
  refine Own.cS (q := 23) (W := 0) (rest := []) P23 (dc s58 13 rfl) (wd hw 251 rfl) (sw_13 hw) (rmPc l Z a0 hw [] r21 k21 3 [c0, 0, 0] 1 c1 h23 n0 (Nat.le_trans Z0 E0_2_24.1) (SA.ext E0_2_24) (SH.ext E0_2_24) (SL.ext E0_2_24) V23 (by decide) hc1 (Nat.le_trans Z0 gr21)) (by decide) (by decide) rfl (hml rfl) rfl rfl (by decide) (by decide) rfl ?_
  rintro v25 T25 h25 L25 ⟨rfl, N25q, K25, U25⟩ P25
  have N25 := Fr.app N23 N25q
  have V25 : Own.U16 Z h25 r21 k21 3 [c0, c1, 0] := U25
  refine Own.iinc (q := 26) (v := (1 : Int32)) (L2 := #[.val (.ref b1), .val (.int ((1 : Int32) + (1 : Int32))), .val (.int (3 : Int32)), .val (.ref r21), .val (.int (1 : Int32))]) P25 (dc s58 14 rfl) rfl rfl rfl rfl ?_
  show Own.Goes _ _ _ _ (T25.setTop (mkF m 26 #[.val (.ref b1), .val (.int (2 : Int32)), .val (.int (3 : Int32)), .val (.ref r21), .val (.int (1 : Int32))] []))
  refine Own.iinc (q := 29) (v := (1 : Int32)) (L2 := #[.val (.ref b1), .val (.int (2 : Int32)), .val (.int (3 : Int32)), .val (.ref r21), .val (.int ((1 : Int32) + (1 : Int32)))]) P25 (dc s58 15 rfl) rfl rfl rfl rfl ?_
  show Own.Goes _ _ _ _ (T25.setTop (mkF m 29 #[.val (.ref b1), .val (.int (2 : Int32)), .val (.int (3 : Int32)), .val (.ref r21), .val (.int (2 : Int32))] []))
  refine Own.goto (q := 8) P25 (dc s58 16 rfl) (by decide) ?_
  refine Own.iload (q := 10) P25 (dc s58 5 rfl) rfl rfl ?_
  refine Own.iloadN (q := 11) P25 (dc s58 6 rfl) rfl rfl ?_
  refine Own.icmp_ge (q := 14) (qy := 32) P25 (dc s58 7 rfl) (by decide) rfl (fun q => absurd (by decide) q) (fun _ => ?_)
  refine Own.aloadN (q := 15) P25 (dc s58 8 rfl) rfl rfl rfl ?_
  refine Own.iload (q := 17) P25 (dc s58 9 rfl) rfl rfl ?_
  refine Own.aloadN (q := 18) P25 (dc s58 10 rfl) rfl rfl rfl ?_
  refine Own.iloadN (q := 19) P25 (dc s58 11 rfl) rfl rfl ?_
  have E0_3_26 : Ext h0 h25 := (Own.Ext.kp E0_2_24 K25 (allS gr21 all0))
  refine Own.caload (q := 20) (v := (.int c2)) P25 (dc s58 12 rfl) (A_b.ext E0_3_26) (by decide) (by decide) rfl rfl ?_
  refine Own.cS (q := 23) (W := 0) (rest := []) P25 (dc s58 13 rfl) (wd hw 251 rfl) (sw_13 hw) (rmPc l Z a0 hw [] r21 k21 3 [c0, c1, 0] 2 c2 h25 n0 (Nat.le_trans Z0 E0_3_26.1) (SA.ext E0_3_26) (SH.ext E0_3_26) (SL.ext E0_3_26) V25 (by decide) hc2 (Nat.le_trans Z0 gr21)) (by decide) (by decide) rfl (hml rfl) rfl rfl (by decide) (by decide) rfl ?_
  rintro v27 T27 h27 L27 ⟨rfl, N27q, K27, U27⟩ P27
  have N27 := Fr.app N25 N27q
  have V27 : Own.U16 Z h27 r21 k21 3 [c0, c1, c2] := U27
  refine Own.iinc (q := 26) (v := (1 : Int32)) (L2 := #[.val (.ref b1), .val (.int ((2 : Int32) + (1 : Int32))), .val (.int (3 : Int32)), .val (.ref r21), .val (.int (2 : Int32))]) P27 (dc s58 14 rfl) rfl rfl rfl rfl ?_
  show Own.Goes _ _ _ _ (T27.setTop (mkF m 26 #[.val (.ref b1), .val (.int (3 : Int32)), .val (.int (3 : Int32)), .val (.ref r21), .val (.int (2 : Int32))] []))
  refine Own.iinc (q := 29) (v := (1 : Int32)) (L2 := #[.val (.ref b1), .val (.int (3 : Int32)), .val (.int (3 : Int32)), .val (.ref r21), .val (.int ((2 : Int32) + (1 : Int32)))]) P27 (dc s58 15 rfl) rfl rfl rfl rfl ?_
  show Own.Goes _ _ _ _ (T27.setTop (mkF m 29 #[.val (.ref b1), .val (.int (3 : Int32)), .val (.int (3 : Int32)), .val (.ref r21), .val (.int (3 : Int32))] []))
  refine Own.goto (q := 8) P27 (dc s58 16 rfl) (by decide) ?_
  refine Own.iload (q := 10) P27 (dc s58 5 rfl) rfl rfl ?_
  refine Own.iloadN (q := 11) P27 (dc s58 6 rfl) rfl rfl ?_
  refine Own.icmp_ge (q := 14) (qy := 32) P27 (dc s58 7 rfl) (by decide) rfl (fun _ => ?_) (fun q => absurd q (by decide))
  refine Own.aloadN (q := 33) P27 (dc s58 17 rfl) rfl rfl rfl ?_
  have E0_4_28 : Ext h0 h27 := (Own.Ext.kp E0_3_26 K27 (allS gr21 all0))
  refine Own.retA P27 (dc s58 18 rfl) hret rfl rfl rfl hlk (by decide) (by decide) ?_
  exact ⟨_, _, rfl, N27, E0_4_28, gr21, V27⟩

def QrmCm3 (Z : State) (b1 : Addr) (kc : ClassId) (d1 : Value) (c0 : Int32) (c1 : Int32) (c2 : Int32) (h0 : Heap) (n0 : Nat) (v : Option Value) (h : Heap) (L : List Loc) : Prop := ∃ r k, v = some (.ref r) ∧ Fr n0 L ∧ Ext h0 h ∧ h0.size ≤ r ∧ Own.U16 Z h r k 3 [c0, c1, c2]
theorem rmCm3 (l : Launch) (Z : State) (a0 : Array Value) (hw : HW a0 Z) (ws : List Jvm.Cond) (b1 : Addr) (kc : ClassId) (d1 : Value) (c0 : Int32) (c1 : Int32) (c2 : Int32) (h0 : Heap) (n0 : Nat) (Z0 : n0 ≤ h0.size) (SA : Own.Ads Z h0) (SH : Own.Hib Z h0) (SL : Own.Lob Z h0) (A_b : Arv Z h0 b1 kc .char (3 : Int32) [.int c0, .int c1, .int c2] d1) (hbig : ¬ ∀ c ∈ ([c0, c1, c2] : List Int32), ¬ (255 : Int32) < c) (hc0 : Own.Ch c0) (hc1 : Own.Ch c1) (hc2 : Own.Ch c2) :
    Own.MF l Z (⟨"java/lang/StringUTF16", "compress", "([CII)[B"⟩ : MethodName) jdk_52_method_16_code 6 (some (.array .byte)) ws (⟨3, 2, 44, 44⟩ : Room) #[(.ref b1), (.int (0 : Int32)), (.int (3 : Int32))] h0 (QrmCm3 Z b1 kc d1 c0 c1 c2 h0 n0) := by
  refine Own.MF.of (own := "java/lang/StringUTF16") (n := 6) rfl rfl pn_7 (fun p e s m below meth c s₁ hml hlk hret hnm P0 => ?_)
  rw [show entryFrame m #[(.ref b1), (.int (0 : Int32)), (.int (3 : Int32))] 6 = mkF m 0 #[.val (.ref b1), .val (.int (0 : Int32)), .val (.int (3 : Int32)), .unset, .unset, .unset] [] from by first | (simp [entryFrame, mkF, argsToLocals, Value.category]; done) | rfl]
  refine Own.iloadN (q := 1) P0 (dc s59 0 rfl) rfl rfl ?_
  refine Own.newarr (q := 3) (cap := 3) P0 (dc s59 1 rfl) (wd hw 16 rfl) (by decide) (by decide) (by decide) (by decide) (by decide) rfl ?_
  intro T21 h21 a21 k21 ha21 P21 E21 A21
  have V21 : Arv Z h21 a21 k21 .byte (3 : Int32) [(.int 0), (.int 0), (.int 0)] (.int 0) := Arv.pad A21 (pad_rep [] _ 3)
  refine Own.astoreN (q := 4) (L2 := #[.val (.ref b1), .val (.int (0 : Int32)), .val (.int (3 : Int32)), .val (.ref a21), .unset, .unset]) P21 (dc s59 2 rfl) rfl rfl rfl ?_
  refine Own.aloadN (q := 5) P21 (dc s59 3 rfl) rfl rfl rfl ?_
  refine Own.iloadN (q := 6) P21 (dc s59 4 rfl) rfl rfl ?_
  refine Own.aloadN (q := 7) P21 (dc s59 5 rfl) rfl rfl rfl ?_
  refine Own.iconst (q := 8) (v := (0 : Int32)) P21 (dc s59 6 rfl) rfl rfl ?_
  refine Own.iloadN (q := 9) P21 (dc s59 7 rfl) rfl rfl ?_
  have E0_1_22 : Ext h0 h21 := E21
  refine Own.cS (q := 12) (W := 0) (rest := []) P21 (dc s59 8 rfl) (wd hw 43 rfl) (sw_38 hw) (rmCo3 l Z a0 hw [] b1 kc d1 c0 c1 c2 a21 k21 h21 n0 (Nat.le_trans Z0 E0_1_22.1) (A_b.ext E0_1_22) V21 hbig hc0 hc1 hc2 (Nat.ne_of_lt (Nat.lt_of_lt_of_le A_b.lt (Nat.le_of_eq ha21.symm))) (Nat.le_trans Z0 (Nat.le_of_eq ha21.symm))) (by decide) (by decide) rfl (hml rfl) rfl rfl (by decide) (by decide) rfl ?_
  rintro v23 T23 h23 L23 ⟨f23, rfl, hf23, hg23, N23q, K23⟩ P23
  have N23 := Fr.app (Fr.nil n0) N23q
  refine Own.istore (q := 14) (L2 := #[.val (.ref b1), .val (.int (0 : Int32)), .val (.int (3 : Int32)), .val (.ref a21), .val (.int (Int32.ofNat f23)), .unset]) P23 (dc s59 9 rfl) rfl rfl ?_
  refine Own.iload (q := 16) P23 (dc s59 10 rfl) rfl rfl ?_
  refine Own.iloadN (q := 17) P23 (dc s59 11 rfl) rfl rfl ?_
  refine Own.icmp_eq (q := 20) (qy := 57) P23 (dc s59 12 rfl) (by decide) rfl (fun q => absurd (Own.ofNat_inj (n := f23) (k := 3) (by omega) (by omega) q) (by omega)) (fun _ => ?_)
  refine Own.aloadN (q := 21) P23 (dc s59 13 rfl) rfl rfl rfl ?_
  refine Own.iloadN (q := 22) P23 (dc s59 14 rfl) rfl rfl ?_
  refine Own.iloadN (q := 23) P23 (dc s59 15 rfl) rfl rfl ?_
  have E0_2_24 : Ext h0 h23 := (Own.Ext.kp E0_1_22 K23 (allS (Nat.le_of_eq ha21.symm) all0))
  refine Own.cS (q := 26) (W := 0) (rest := []) P23 (dc s59 16 rfl) (wd hw 241 rfl) (sw_39 hw) (rmTb3 l Z a0 hw [] b1 kc d1 c0 c1 c2 h23 n0 (Nat.le_trans Z0 E0_2_24.1) (SA.ext E0_2_24) (SH.ext E0_2_24) (SL.ext E0_2_24) (A_b.ext E0_2_24) hc0 hc1 hc2) (by decide) (by decide) rfl (hml rfl) rfl rfl (by decide) (by decide) rfl ?_
  rintro v25 T25 h25 L25 ⟨r25, k25, rfl, N25q, E25, gr25, U25⟩ P25
  have N25 := Fr.app N23 N25q
  refine Own.astore (q := 28) (L2 := #[.val (.ref b1), .val (.int (0 : Int32)), .val (.int (3 : Int32)), .val (.ref a21), .val (.int (Int32.ofNat f23)), .val (.ref r25)]) P25 (dc s59 17 rfl) rfl rfl rfl ?_
  refine Own.aload (q := 30) P25 (dc s59 18 rfl) rfl rfl rfl ?_
  refine Own.iload (q := 32) P25 (dc s59 19 rfl) rfl rfl ?_
  have E0_3_26 : Ext h0 h25 := (Own.Ext.tr E0_2_24 E25)
  refine Own.cS (q := 35) (W := 0) (rest := []) P25 (dc s59 20 rfl) (wd hw 257 rfl) (sw_5 hw) (rmGc l Z a0 hw [] r25 k25 3 [c0, c1, c2] f23 h25 n0 (Nat.le_trans Z0 E0_3_26.1) (SA.ext E0_3_26) (SH.ext E0_3_26) (SL.ext E0_3_26) U25 hf23) (by decide) (by decide) rfl (hml rfl) rfl rfl (by decide) (by decide) rfl ?_
  rintro v27 T27 h27 L27 ⟨rfl, N27q, e27⟩ P27
  rw [e27] at P27
  have N27 := Fr.app N25 N27q
  refine Own.sipush (q := 38) (v := (255 : Int32)) P27 (dc s59 21 rfl) rfl rfl ?_
  refine Own.icmp_gt (q := 41) (qy := 54) P27 (dc s59 22 rfl) (by decide) rfl (fun _ => ?_) (fun q => absurd hg23 q)
  refine Own.aload (q := 56) P27 (dc s59 23 rfl) rfl rfl rfl ?_
  refine Own.retA P27 (dc s59 24 rfl) hret rfl rfl rfl hlk (by decide) (by decide) ?_
  exact ⟨_, _, rfl, N27, E0_3_26, (Nat.le_trans E0_2_24.1 gr25), U25⟩

def QrmCf3 (Z : State) (t1 : Addr) (k1 : ClassId) (c0 : Int32) (c1 : Int32) (c2 : Int32) (h0 : Heap) (n0 : Nat) (v : Option Value) (h : Heap) (L : List Loc) : Prop := v = some (.int 1) ∧ Fr n0 L ∧ h = h0
theorem rmCf3 (l : Launch) (Z : State) (a0 : Array Value) (hw : HW a0 Z) (ws : List Jvm.Cond) (t1 : Addr) (k1 : ClassId) (c0 : Int32) (c1 : Int32) (c2 : Int32) (h0 : Heap) (n0 : Nat) (Z0 : n0 ≤ h0.size) (A : Own.U16 Z h0 t1 k1 3 [c0, c1, c2]) :
    Own.MF l Z (⟨"java/lang/StringUTF16", "coderFromArrayLen", "([BI)B"⟩ : MethodName) jdk_52_method_15_code 2 (some .byte) ws (⟨0, 0, 0, 0⟩ : Room) #[(.ref t1), (.int (3 : Int32))] h0 (QrmCf3 Z t1 k1 c0 c1 c2 h0 n0) := by
  refine Own.MF.of (own := "java/lang/StringUTF16") (n := 2) rfl rfl pn_9 (fun p e s m below meth c s₁ hml hlk hret hnm P0 => ?_)
  rw [show entryFrame m #[(.ref t1), (.int (3 : Int32))] 2 = mkF m 0 #[.val (.ref t1), .val (.int (3 : Int32))] [] from by first | (simp [entryFrame, mkF, argsToLocals, Value.category]; done) | rfl]
  refine Own.iloadN (q := 1) P0 (dc s60 0 rfl) rfl rfl ?_
  refine Own.aloadN (q := 2) P0 (dc s60 1 rfl) rfl rfl rfl ?_
  refine Own.arraylength (q := 3) P0 (dc s60 2 rfl) A.1 rfl ?_
  refine Own.isub (q := 4) P0 (dc s60 3 rfl)  rfl ?_
  refine Own.bipush (q := 6) (v := (31 : Int32)) P0 (dc s60 4 rfl) rfl rfl ?_
  refine Own.iushr (q := 7) P0 (dc s60 5 rfl)  rfl ?_
  refine Own.i2b (q := 8) P0 (dc s60 6 rfl)  rfl ?_
  refine Own.retZ P0 (dc s60 7 rfl) hret (by simp) hlk (by decide) (by decide) ?_
  exact ⟨by decide, (Fr.nil n0), rfl⟩

def QrmI43 (Z : State) (a1 : Addr) (u1 : Value) (u2 : Value) (b1 : Addr) (kc : ClassId) (d1 : Value) (c0 : Int32) (c1 : Int32) (c2 : Int32) (zc : Int32) (h0 : Heap) (n0 : Nat) (v : Option Value) (h : Heap) (L : List Loc) : Prop := v = none ∧ Fr n0 L ∧ Keep h0 h [a1] ∧ Own.Str16 Z h a1 [c0, c1, c2]
theorem rmI43 (l : Launch) (Z : State) (a0 : Array Value) (hw : HW a0 Z) (ws : List Jvm.Cond) (a1 : Addr) (u1 : Value) (u2 : Value) (b1 : Addr) (kc : ClassId) (d1 : Value) (c0 : Int32) (c1 : Int32) (c2 : Int32) (zc : Int32) (h0 : Heap) (n0 : Nat) (Z0 : n0 ≤ h0.size) (SC : Own.Cst Z h0 zc) (hzc : ¬ zc = 0) (SA : Own.Ads Z h0) (SH : Own.Hib Z h0) (SL : Own.Lob Z h0) (E_a1 : Exa Z h0 a1 "java/lang/String") (f1 : Fld Z h0 a1 "java/lang/String" "value" "[B" u1) (f2 : Fld Z h0 a1 "java/lang/String" "coder" "B" u2) (g_a1 : n0 ≤ a1) (A_b : Arv Z h0 b1 kc .char (3 : Int32) [.int c0, .int c1, .int c2] d1) (hbig : ¬ ∀ c ∈ ([c0, c1, c2] : List Int32), ¬ (255 : Int32) < c) (hc0 : Own.Ch c0) (hc1 : Own.Ch c1) (hc2 : Own.Ch c2) :
    Own.MF l Z (⟨"java/lang/String", "<init>", "([CIILjava/lang/Void;)V"⟩ : MethodName) jdk_42_method_149_code 6 none ws (⟨4, 2, 44, 61⟩ : Room) #[(.ref a1), (.ref b1), (.int (0 : Int32)), (.int (3 : Int32)), .null] h0 (QrmI43 Z a1 u1 u2 b1 kc d1 c0 c1 c2 zc h0 n0) := by
  refine Own.MF.of (own := "java/lang/String") (n := 6) rfl rfl pn_2 (fun p e s m below meth c s₁ hml hlk hret hnm P0 => ?_)
  rw [show entryFrame m #[(.ref a1), (.ref b1), (.int (0 : Int32)), (.int (3 : Int32)), .null] 6 = mkF m 0 #[.val (.ref a1), .val (.ref b1), .val (.int (0 : Int32)), .val (.int (3 : Int32)), .val .null, .unset] [] from by first | (simp [entryFrame, mkF, argsToLocals, Value.category]; done) | rfl]
  refine Own.aloadN (q := 1) P0 (dc s61 0 rfl) rfl rfl rfl ?_
  refine Own.objinit (q := 4) (W := 0) P0 (dc s61 1 rfl) (wd hw 12 rfl) (wd hw 13 rfl) (wd hw 14 rfl) (hml rfl) (by decide) (Own.w0 rfl) (by decide) rfl ?_
  intro T21 P21
  refine Own.iloadN (q := 5) P21 (dc s61 2 rfl) rfl rfl ?_
  refine Own.if_ne (q := 8) (qy := 27) P21 (dc s61 3 rfl) (by decide) rfl (fun _ => ?_) (fun q => absurd q (by decide))
  refine Own.getstatic (q := 30) P21 (dc s61 4 rfl) (wd hw 37 rfl) SC rfl ?_
  intro T22 P22
  refine Own.if_eq (q := 33) (qy := 58) P22 (dc s61 5 rfl) (by decide) rfl (fun q => absurd q hzc) (fun _ => ?_)
  refine Own.aloadN (q := 34) P22 (dc s61 6 rfl) rfl rfl rfl ?_
  refine Own.iloadN (q := 35) P22 (dc s61 7 rfl) rfl rfl ?_
  refine Own.iloadN (q := 36) P22 (dc s61 8 rfl) rfl rfl ?_
  refine Own.cS (q := 39) (W := 0) (rest := []) P22 (dc s61 9 rfl) (wd hw 39 rfl) (sw_40 hw) (rmCm3 l Z a0 hw [] b1 kc d1 c0 c1 c2 h0 n0 Z0 SA SH SL A_b hbig hc0 hc1 hc2) (by decide) (by decide) rfl (hml rfl) rfl rfl (by decide) (by decide) rfl ?_
  rintro v23 T23 h23 L23 ⟨r23, k23, rfl, N23q, E23, gr23, U23⟩ P23
  have N23 := Fr.app (Fr.nil n0) N23q
  refine Own.astore (q := 41) (L2 := #[.val (.ref a1), .val (.ref b1), .val (.int (0 : Int32)), .val (.int (3 : Int32)), .val .null, .val (.ref r23)]) P23 (dc s61 10 rfl) rfl rfl rfl ?_
  refine Own.aloadN (q := 42) P23 (dc s61 11 rfl) rfl rfl rfl ?_
  refine Own.aload (q := 44) P23 (dc s61 12 rfl) rfl rfl rfl ?_
  refine Own.iloadN (q := 45) P23 (dc s61 13 rfl) rfl rfl ?_
  have E0_1_24 : Ext h0 h23 := E23
  refine Own.cS (q := 48) (W := 1) (rest := [(.ref a1)]) P23 (dc s61 14 rfl) (wd hw 46 rfl) (sw_41 hw) (rmCf3 l Z a0 hw [] r23 k23 c0 c1 c2 h23 n0 (Nat.le_trans Z0 E0_1_24.1) U23) (by decide) (by decide) rfl (hml rfl) rfl rfl (by decide) (by decide) rfl ?_
  rintro v25 T25 h25 L25 ⟨rfl, N25q, e25⟩ P25
  rw [e25] at P25
  have N25 := Fr.app N23 N25q
  refine Own.putfield (q := 51) P25 (dc s61 15 rfl) (wd hw 22 rfl) (f2.ext E0_1_24) (E_a1.ext E0_1_24) (Or.inr ⟨(wd hw 18 rfl), rfl, hnm⟩) (wd hw 3 rfl) (ty := .byte) (by decide) rfl rfl rfl ?_
  intro T26 h26 lc26 hl26 P26 W26
  have F26_value := (f1.ext E0_1_24).other W26 (Or.inr (slot_ne (Or.inr (wd hw 17 rfl)) (Or.inr (wd hw 18 rfl)) (by decide) (t := (.array .byte)) (t' := .byte) (by decide) (by decide)))
  have F26_coder := Fld.same W26 (f2.ext E0_1_24)
  have A26 := (E_a1.ext E0_1_24).wr W26
  have N26 := Own.Fr.one N25 hl26 g_a1
  refine Own.aloadN (q := 52) P26 (dc s61 16 rfl) rfl rfl rfl ?_
  refine Own.aload (q := 54) P26 (dc s61 17 rfl) rfl rfl rfl ?_
  refine Own.putfield (q := 57) P26 (dc s61 18 rfl) (wd hw 21 rfl) F26_value A26 (Or.inr ⟨(wd hw 17 rfl), rfl, hnm⟩) (wd hw 3 rfl) (ty := (.array .byte)) (by decide) rfl rfl rfl ?_
  intro T27 h27 lc27 hl27 P27 W27
  have F27_value := Fld.same W27 F26_value
  have F27_coder := F26_coder.other W27 (Or.inr (slot_ne (Or.inr (wd hw 18 rfl)) (Or.inr (wd hw 17 rfl)) (by decide) (t := .byte) (t' := (.array .byte)) (by decide) (by decide)))
  have A27 := A26.wr W27
  have N27 := Own.Fr.one N26 hl27 g_a1
  have qf28 := (Arv.keep U23.1 (Keep.of_wr W26) (ninS (Ne.symm (Exa.neArv (E_a1.ext E23) U23.1 (wd hw 3 rfl))) nin0))
  have qf29 := (Arv.keep qf28 (Keep.of_wr W27) (ninS (Ne.symm (Exa.neArv A26 qf28 (wd hw 3 rfl))) nin0))
  refine Own.retV P27 (dc s61 19 rfl) hret hlk (by decide) (by decide) ?_
  exact ⟨rfl, N27, (Keep.wr (Keep.wr (Keep.ext (Keep.refl h0 _) E23) W26 (Or.inl (by simp))) W27 (Or.inl (by simp))), r23, k23, A27, F27_value, F27_coder, qf29, U23.2⟩

def QrmI13 (Z : State) (a1 : Addr) (u1 : Value) (u2 : Value) (b1 : Addr) (kc : ClassId) (d1 : Value) (c0 : Int32) (c1 : Int32) (c2 : Int32) (zc : Int32) (h0 : Heap) (n0 : Nat) (v : Option Value) (h : Heap) (L : List Loc) : Prop := v = none ∧ Fr n0 L ∧ Keep h0 h [a1] ∧ Own.Str16 Z h a1 [c0, c1, c2]
theorem rmI13 (l : Launch) (Z : State) (a0 : Array Value) (hw : HW a0 Z) (ws : List Jvm.Cond) (a1 : Addr) (u1 : Value) (u2 : Value) (b1 : Addr) (kc : ClassId) (d1 : Value) (c0 : Int32) (c1 : Int32) (c2 : Int32) (zc : Int32) (h0 : Heap) (n0 : Nat) (Z0 : n0 ≤ h0.size) (SC : Own.Cst Z h0 zc) (hzc : ¬ zc = 0) (SA : Own.Ads Z h0) (SH : Own.Hib Z h0) (SL : Own.Lob Z h0) (E_a1 : Exa Z h0 a1 "java/lang/String") (f1 : Fld Z h0 a1 "java/lang/String" "value" "[B" u1) (f2 : Fld Z h0 a1 "java/lang/String" "coder" "B" u2) (g_a1 : n0 ≤ a1) (A_b : Arv Z h0 b1 kc .char (3 : Int32) [.int c0, .int c1, .int c2] d1) (hbig : ¬ ∀ c ∈ ([c0, c1, c2] : List Int32), ¬ (255 : Int32) < c) (hc0 : Own.Ch c0) (hc1 : Own.Ch c1) (hc2 : Own.Ch c2) :
    Own.MF l Z (⟨"java/lang/String", "<init>", "([C)V"⟩ : MethodName) jdk_42_method_3_code 2 none ws (⟨5, 2, 44, 78⟩ : Room) #[(.ref a1), (.ref b1)] h0 (QrmI13 Z a1 u1 u2 b1 kc d1 c0 c1 c2 zc h0 n0) := by
  refine Own.MF.of (own := "java/lang/String") (n := 2) rfl rfl pn_1 (fun p e s m below meth c s₁ hml hlk hret hnm P0 => ?_)
  rw [show entryFrame m #[(.ref a1), (.ref b1)] 2 = mkF m 0 #[.val (.ref a1), .val (.ref b1)] [] from by first | (simp [entryFrame, mkF, argsToLocals, Value.category]; done) | rfl]
  refine Own.aloadN (q := 1) P0 (dc s62 0 rfl) rfl rfl rfl ?_
  refine Own.aloadN (q := 2) P0 (dc s62 1 rfl) rfl rfl rfl ?_
  refine Own.iconst (q := 3) (v := (0 : Int32)) P0 (dc s62 2 rfl) rfl rfl ?_
  refine Own.aloadN (q := 4) P0 (dc s62 3 rfl) rfl rfl rfl ?_
  refine Own.arraylength (q := 5) P0 (dc s62 4 rfl) A_b rfl ?_
  refine Own.aconst (q := 6) P0 (dc s62 5 rfl)  rfl ?_
  refine Own.cI (q := 9) (W := 0) (rest := []) P0 (dc s62 6 rfl) (wd hw 8 rfl) (iw_42 hw) (rmI43 l Z a0 hw [] a1 u1 u2 b1 kc d1 c0 c1 c2 zc h0 n0 Z0 SC hzc SA SH SL E_a1 f1 f2 g_a1 A_b hbig hc0 hc1 hc2) (by decide) (by decide) rfl (hml rfl) rfl rfl (by decide) (by decide) rfl ?_
  rintro v21 T21 h21 L21 ⟨rfl, N21q, K21, St21⟩ P21
  have N21 := Fr.app (Fr.nil n0) N21q
  refine Own.retV P21 (dc s62 7 rfl) hret hlk (by decide) (by decide) ?_
  exact ⟨rfl, N21, K21, St21⟩
theorem s63 : decs prog_57_method_3_code [(0, .iload_n 0, 1), (1, .bipush 32, 2), (3, .if_icmp .lt 30, 3), (6, .iload_n 0, 1), (7, .bipush 127, 2), (9, .if_icmp .lt 28, 3), (12, .iload_n 0, 1), (13, .sipush 159, 3), (16, .if_icmp .le 17, 3), (19, .iload_n 0, 1), (20, .sipush 8232, 3), (23, .if_icmp .eq 10, 3), (26, .iload_n 0, 1), (27, .sipush 8233, 3), (30, .if_icmp .ne 7, 3), (33, .iconst 1, 1), (34, .goto 4, 3), (37, .iconst 0, 1), (38, .ireturn, 1)] = true := by decide +kernel
theorem pn_15 : plainFor (⟨"lifestack/util/Lines", "isEscaped", "(C)Z"⟩ : MethodName) = true := by first | exact plainFor_of_name (by first | (simp [plainName, overriddenIn]; done) | decide +kernel) | decide +kernel
def QrmEsc (Z : State) (c1 : Int32) (h0 : Heap) (n0 : Nat) (v : Option Value) (h : Heap) (L : List Loc) : Prop := v = some (.int (Own.escV c1)) ∧ Fr n0 L ∧ h = h0
theorem rmEsc (l : Launch) (Z : State) (a0 : Array Value) (hw : HW a0 Z) (ws : List Jvm.Cond) (c1 : Int32) (h0 : Heap) (n0 : Nat) (Z0 : n0 ≤ h0.size)  :
    Own.MF l Z (⟨"lifestack/util/Lines", "isEscaped", "(C)Z"⟩ : MethodName) prog_57_method_3_code 1 (some .boolean) ws (⟨0, 0, 0, 0⟩ : Room) #[(.int c1)] h0 (QrmEsc Z c1 h0 n0) := by
  refine Own.MF.of (own := "lifestack/util/Lines") (n := 1) rfl rfl pn_15 (fun p e s m below meth c s₁ hml hlk hret hnm P0 => ?_)
  rw [show entryFrame m #[(.int c1)] 1 = mkF m 0 #[.val (.int c1)] [] from by first | (simp [entryFrame, mkF, argsToLocals, Value.category]; done) | rfl]
  refine Own.iloadN (q := 1) P0 (dc s63 0 rfl) rfl rfl ?_
  refine Own.bipush (q := 3) (v := (32 : Int32)) P0 (dc s63 1 rfl) rfl rfl ?_
  refine Own.icmp_lt (q := 6) (qy := 33) P0 (dc s63 2 rfl) (by decide) rfl (fun q3 => ?_) (fun q3 => ?_)
  · refine Own.iconst (q := 34) (v := (1 : Int32)) P0 (dc s63 15 rfl) rfl rfl ?_
    refine Own.goto (q := 38) P0 (dc s63 16 rfl) (by decide) ?_
    refine Own.retZ P0 (dc s63 18 rfl) hret (by simp) hlk (by decide) (by decide) ?_
    exact ⟨by unfold Own.escV; first | (rw [if_pos q3]; rfl) | (rw [if_neg q3, if_pos q9]; rfl) | (rw [if_neg q3, if_neg q9, if_pos q16]; rfl) | (rw [if_neg q3, if_neg q9, if_neg (fun z => z q16), if_pos q23]; rfl) | (rw [if_neg q3, if_neg q9, if_neg (fun z => z q16), if_neg q23, if_pos q30]; rfl) | (rw [if_neg q3, if_neg q9, if_neg (fun z => z q16), if_neg q23, if_neg q30]; rfl), (Fr.nil n0), rfl⟩
  · refine Own.iloadN (q := 7) P0 (dc s63 3 rfl) rfl rfl ?_
    refine Own.bipush (q := 9) (v := (127 : Int32)) P0 (dc s63 4 rfl) rfl rfl ?_
    refine Own.icmp_lt (q := 12) (qy := 37) P0 (dc s63 5 rfl) (by decide) rfl (fun q9 => ?_) (fun q9 => ?_)
    · refine Own.iconst (q := 38) (v := (0 : Int32)) P0 (dc s63 17 rfl) rfl rfl ?_
      refine Own.retZ P0 (dc s63 18 rfl) hret (by simp) hlk (by decide) (by decide) ?_
      exact ⟨by unfold Own.escV; first | (rw [if_pos q3]; rfl) | (rw [if_neg q3, if_pos q9]; rfl) | (rw [if_neg q3, if_neg q9, if_pos q16]; rfl) | (rw [if_neg q3, if_neg q9, if_neg (fun z => z q16), if_pos q23]; rfl) | (rw [if_neg q3, if_neg q9, if_neg (fun z => z q16), if_neg q23, if_pos q30]; rfl) | (rw [if_neg q3, if_neg q9, if_neg (fun z => z q16), if_neg q23, if_neg q30]; rfl), (Fr.nil n0), rfl⟩
    · refine Own.iloadN (q := 13) P0 (dc s63 6 rfl) rfl rfl ?_
      refine Own.sipush (q := 16) (v := (159 : Int32)) P0 (dc s63 7 rfl) rfl rfl ?_
      refine Own.icmp_le (q := 19) (qy := 33) P0 (dc s63 8 rfl) (by decide) rfl (fun q16 => ?_) (fun q16 => ?_)
      · refine Own.iconst (q := 34) (v := (1 : Int32)) P0 (dc s63 15 rfl) rfl rfl ?_
        refine Own.goto (q := 38) P0 (dc s63 16 rfl) (by decide) ?_
        refine Own.retZ P0 (dc s63 18 rfl) hret (by simp) hlk (by decide) (by decide) ?_
        exact ⟨by unfold Own.escV; first | (rw [if_pos q3]; rfl) | (rw [if_neg q3, if_pos q9]; rfl) | (rw [if_neg q3, if_neg q9, if_pos q16]; rfl) | (rw [if_neg q3, if_neg q9, if_neg (fun z => z q16), if_pos q23]; rfl) | (rw [if_neg q3, if_neg q9, if_neg (fun z => z q16), if_neg q23, if_pos q30]; rfl) | (rw [if_neg q3, if_neg q9, if_neg (fun z => z q16), if_neg q23, if_neg q30]; rfl), (Fr.nil n0), rfl⟩
      · refine Own.iloadN (q := 20) P0 (dc s63 9 rfl) rfl rfl ?_
        refine Own.sipush (q := 23) (v := (8232 : Int32)) P0 (dc s63 10 rfl) rfl rfl ?_
        refine Own.icmp_eq (q := 26) (qy := 33) P0 (dc s63 11 rfl) (by decide) rfl (fun q23 => ?_) (fun q23 => ?_)
        · refine Own.iconst (q := 34) (v := (1 : Int32)) P0 (dc s63 15 rfl) rfl rfl ?_
          refine Own.goto (q := 38) P0 (dc s63 16 rfl) (by decide) ?_
          refine Own.retZ P0 (dc s63 18 rfl) hret (by simp) hlk (by decide) (by decide) ?_
          exact ⟨by unfold Own.escV; first | (rw [if_pos q3]; rfl) | (rw [if_neg q3, if_pos q9]; rfl) | (rw [if_neg q3, if_neg q9, if_pos q16]; rfl) | (rw [if_neg q3, if_neg q9, if_neg (fun z => z q16), if_pos q23]; rfl) | (rw [if_neg q3, if_neg q9, if_neg (fun z => z q16), if_neg q23, if_pos q30]; rfl) | (rw [if_neg q3, if_neg q9, if_neg (fun z => z q16), if_neg q23, if_neg q30]; rfl), (Fr.nil n0), rfl⟩
        · refine Own.iloadN (q := 27) P0 (dc s63 12 rfl) rfl rfl ?_
          refine Own.sipush (q := 30) (v := (8233 : Int32)) P0 (dc s63 13 rfl) rfl rfl ?_
          refine Own.icmp_ne (q := 33) (qy := 37) P0 (dc s63 14 rfl) (by decide) rfl (fun q30 => ?_) (fun q30 => ?_)
          · refine Own.iconst (q := 38) (v := (0 : Int32)) P0 (dc s63 17 rfl) rfl rfl ?_
            refine Own.retZ P0 (dc s63 18 rfl) hret (by simp) hlk (by decide) (by decide) ?_
            exact ⟨by unfold Own.escV; first | (rw [if_pos q3]; rfl) | (rw [if_neg q3, if_pos q9]; rfl) | (rw [if_neg q3, if_neg q9, if_pos q16]; rfl) | (rw [if_neg q3, if_neg q9, if_neg (fun z => z q16), if_pos q23]; rfl) | (rw [if_neg q3, if_neg q9, if_neg (fun z => z q16), if_neg q23, if_pos q30]; rfl) | (rw [if_neg q3, if_neg q9, if_neg (fun z => z q16), if_neg q23, if_neg q30]; rfl), (Fr.nil n0), rfl⟩
          · refine Own.iconst (q := 34) (v := (1 : Int32)) P0 (dc s63 15 rfl) rfl rfl ?_
            refine Own.goto (q := 38) P0 (dc s63 16 rfl) (by decide) ?_
            refine Own.retZ P0 (dc s63 18 rfl) hret (by simp) hlk (by decide) (by decide) ?_
            exact ⟨by unfold Own.escV; first | (rw [if_pos q3]; rfl) | (rw [if_neg q3, if_pos q9]; rfl) | (rw [if_neg q3, if_neg q9, if_pos q16]; rfl) | (rw [if_neg q3, if_neg q9, if_neg (fun z => z q16), if_pos q23]; rfl) | (rw [if_neg q3, if_neg q9, if_neg (fun z => z q16), if_neg q23, if_pos q30]; rfl) | (rw [if_neg q3, if_neg q9, if_neg (fun z => z q16), if_neg q23, if_neg q30]; rfl), (Fr.nil n0), rfl⟩
theorem s64 : decs jdk_89_method_92_code [(0, .iload_n 0, 1), (1, .iload_n 1, 1), (2, .if_icmp .ge 7, 3), (5, .iload_n 0, 1), (6, .ifCond .ge 5, 3), (11, .iload_n 1, 1), (12, .iconst 2, 1), (13, .if_icmp .lt 9, 3), (16, .iload_n 1, 1), (17, .bipush 36, 2), (19, .if_icmp .le 5, 3), (24, .iload_n 0, 1), (25, .bipush 10, 2), (27, .if_icmp .ge 9, 3), (30, .bipush 48, 2), (32, .iload_n 0, 1), (33, .iadd, 1), (34, .i2c, 1), (35, .ireturn, 1), (36, .bipush 87, 2), (38, .iload_n 0, 1), (39, .iadd, 1), (40, .i2c, 1), (41, .ireturn, 1)] = true := by decide +kernel
theorem pn_30 : plainFor (⟨"java/lang/Character", "forDigit", "(II)C"⟩ : MethodName) = true := by first | exact plainFor_of_name (by first | (simp [plainName, overriddenIn]; done) | decide +kernel) | decide +kernel
def QrmFd (Z : State) (d1 : Int32) (h0 : Heap) (n0 : Nat) (v : Option Value) (h : Heap) (L : List Loc) : Prop := v = some (.int (Own.hxV d1)) ∧ Fr n0 L ∧ h = h0
theorem rmFd (l : Launch) (Z : State) (a0 : Array Value) (hw : HW a0 Z) (ws : List Jvm.Cond) (d1 : Int32) (h0 : Heap) (n0 : Nat) (Z0 : n0 ≤ h0.size) (hd : ¬ d1 < 0 ∧ d1 < 16) :
    Own.MF l Z (⟨"java/lang/Character", "forDigit", "(II)C"⟩ : MethodName) jdk_89_method_92_code 2 (some .char) ws (⟨0, 0, 0, 0⟩ : Room) #[(.int d1), (.int (16 : Int32))] h0 (QrmFd Z d1 h0 n0) := by
  refine Own.MF.of (own := "java/lang/Character") (n := 2) rfl rfl pn_30 (fun p e s m below meth c s₁ hml hlk hret hnm P0 => ?_)
  rw [show entryFrame m #[(.int d1), (.int (16 : Int32))] 2 = mkF m 0 #[.val (.int d1), .val (.int (16 : Int32))] [] from by first | (simp [entryFrame, mkF, argsToLocals, Value.category]; done) | rfl]
  refine Own.iloadN (q := 1) P0 (dc s64 0 rfl) rfl rfl ?_
  refine Own.iloadN (q := 2) P0 (dc s64 1 rfl) rfl rfl ?_
  refine Own.icmp_ge (q := 5) (qy := 9) P0 (dc s64 2 rfl) (by decide) rfl (fun q => absurd hd.2 q) (fun _ => ?_)
  refine Own.iloadN (q := 6) P0 (dc s64 3 rfl) rfl rfl ?_
  refine Own.if_ge (q := 9) (qy := 11) P0 (dc s64 4 rfl) (by decide) rfl (fun _ => ?_) (fun q => absurd q hd.1)
  refine Own.iloadN (q := 12) P0 (dc s64 5 rfl) rfl rfl ?_
  refine Own.iconst (q := 13) (v := (2 : Int32)) P0 (dc s64 6 rfl) rfl rfl ?_
  refine Own.icmp_lt (q := 16) (qy := 22) P0 (dc s64 7 rfl) (by decide) rfl (fun q => absurd q (by decide)) (fun _ => ?_)
  refine Own.iloadN (q := 17) P0 (dc s64 8 rfl) rfl rfl ?_
  refine Own.bipush (q := 19) (v := (36 : Int32)) P0 (dc s64 9 rfl) rfl rfl ?_
  refine Own.icmp_le (q := 22) (qy := 24) P0 (dc s64 10 rfl) (by decide) rfl (fun _ => ?_) (fun q => absurd q (by decide))
  refine Own.iloadN (q := 25) P0 (dc s64 11 rfl) rfl rfl ?_
  refine Own.bipush (q := 27) (v := (10 : Int32)) P0 (dc s64 12 rfl) rfl rfl ?_
  refine Own.icmp_ge (q := 30) (qy := 36) P0 (dc s64 13 rfl) (by decide) rfl (fun q27 => ?_) (fun q27 => ?_)
  · refine Own.bipush (q := 38) (v := (87 : Int32)) P0 (dc s64 19 rfl) rfl rfl ?_
    refine Own.iloadN (q := 39) P0 (dc s64 20 rfl) rfl rfl ?_
    refine Own.iadd (q := 40) P0 (dc s64 21 rfl)  rfl ?_
    refine Own.i2cV (q := 41) (v := ((87 : Int32) + d1)) P0 (dc s64 22 rfl) (Own.i2c_id (Own.hx_hi hd)) rfl ?_
    refine Own.retZ P0 (dc s64 23 rfl) hret (by simp) hlk (by decide) (by decide) ?_
    exact ⟨by unfold Own.hxV; first | (rw [if_pos q27]; exact congrArg (fun x => some (Value.int x)) (Own.nar_id (Own.hx_lo hd q27))) | (rw [if_neg q27]; exact congrArg (fun x => some (Value.int x)) (Own.nar_id (Own.hx_hi hd))), (Fr.nil n0), rfl⟩
  · refine Own.bipush (q := 32) (v := (48 : Int32)) P0 (dc s64 14 rfl) rfl rfl ?_
    refine Own.iloadN (q := 33) P0 (dc s64 15 rfl) rfl rfl ?_
    refine Own.iadd (q := 34) P0 (dc s64 16 rfl)  rfl ?_
    refine Own.i2cV (q := 35) (v := ((48 : Int32) + d1)) P0 (dc s64 17 rfl) (Own.i2c_id (Own.hx_lo hd q27)) rfl ?_
    refine Own.retZ P0 (dc s64 18 rfl) hret (by simp) hlk (by decide) (by decide) ?_
    exact ⟨by unfold Own.hxV; first | (rw [if_pos q27]; exact congrArg (fun x => some (Value.int x)) (Own.nar_id (Own.hx_lo hd q27))) | (rw [if_neg q27]; exact congrArg (fun x => some (Value.int x)) (Own.nar_id (Own.hx_hi hd))), (Fr.nil n0), rfl⟩
theorem pd_35 : parseMethodDescriptor "()Ljava/lang/String;" = some ⟨[], some (.object "java/lang/String")⟩ := by decide +kernel
theorem vw_43 {Z : State} {a0 : Array Value} (hw : HW a0 Z) : Own.VW Z a0 "java/lang/StringBuilder" ⟨"java/lang/StringBuilder", "toString", "()Ljava/lang/String;"⟩ ⟨"java/lang/StringBuilder", "toString", "()Ljava/lang/String;"⟩ jdk_67_method_42_code 1 (some (.object "java/lang/String")) 0 := ⟨(wd hw 187 rfl), (wd hw 189 rfl), (wd hw 188 rfl), (wd hw 76 rfl), (wd hw 190 rfl), by decide, _, _, pd_35, rfl⟩
theorem sw_44 {Z : State} {a0 : Array Value} (hw : HW a0 Z) : Own.SW Z a0 ⟨"lifestack/util/Lines", "isEscaped", "(C)Z"⟩ prog_57_method_3_code 1 (some .boolean) 1 := ⟨(wd hw 72 rfl), (wd hw 25 rfl), (wd hw 73 rfl), by decide, _, _, pd_15, rfl⟩
theorem pd_36 : parseMethodDescriptor "(C)Ljava/lang/StringBuilder;" = some ⟨[.char], some (.object "java/lang/StringBuilder")⟩ := by decide +kernel
theorem vw_45 {Z : State} {a0 : Array Value} (hw : HW a0 Z) : Own.VW Z a0 "java/lang/StringBuilder" ⟨"java/lang/StringBuilder", "append", "(C)Ljava/lang/StringBuilder;"⟩ ⟨"java/lang/StringBuilder", "append", "(C)Ljava/lang/StringBuilder;"⟩ jdk_67_method_14_code 2 (some (.object "java/lang/StringBuilder")) 1 := ⟨(wd hw 175 rfl), (wd hw 177 rfl), (wd hw 176 rfl), (wd hw 76 rfl), (wd hw 178 rfl), by decide, _, _, pd_36, rfl⟩
theorem pd_37 : parseMethodDescriptor "(Ljava/lang/String;)Ljava/lang/StringBuilder;" = some ⟨[(.object "java/lang/String")], some (.object "java/lang/StringBuilder")⟩ := by decide +kernel
theorem vw_46 {Z : State} {a0 : Array Value} (hw : HW a0 Z) : Own.VW Z a0 "java/lang/StringBuilder" ⟨"java/lang/StringBuilder", "append", "(Ljava/lang/String;)Ljava/lang/StringBuilder;"⟩ ⟨"java/lang/StringBuilder", "append", "(Ljava/lang/String;)Ljava/lang/StringBuilder;"⟩ jdk_67_method_7_code 2 (some (.object "java/lang/StringBuilder")) 1 := ⟨(wd hw 144 rfl), (wd hw 146 rfl), (wd hw 145 rfl), (wd hw 76 rfl), (wd hw 147 rfl), by decide, _, _, pd_37, rfl⟩
theorem pd_38 : parseMethodDescriptor "(II)C" = some ⟨[.int, .int], some .char⟩ := by decide +kernel
theorem sw_47 {Z : State} {a0 : Array Value} (hw : HW a0 Z) : Own.SW Z a0 ⟨"java/lang/Character", "forDigit", "(II)C"⟩ jdk_89_method_92_code 2 (some .char) 2 := ⟨(wd hw 171 rfl), (wd hw 172 rfl), (wd hw 173 rfl), by decide, _, _, pd_38, rfl⟩
theorem iw_48 {Z : State} {a0 : Array Value} (hw : HW a0 Z) : Own.IW Z a0 ⟨"java/lang/StringBuilder", "<init>", "(I)V"⟩ jdk_67_method_2_code 2 1 := ⟨rfl, (wd hw 78 rfl), (wd hw 76 rfl), (wd hw 79 rfl), by decide, _, _, pd_8, rfl⟩
theorem pd_39 : parseMethodDescriptor "(Ljava/lang/CharSequence;II)Ljava/lang/StringBuilder;" = some ⟨[(.object "java/lang/CharSequence"), .int, .int], some (.object "java/lang/StringBuilder")⟩ := by decide +kernel
theorem vw_49 {Z : State} {a0 : Array Value} (hw : HW a0 Z) : Own.VW Z a0 "java/lang/StringBuilder" ⟨"java/lang/StringBuilder", "append", "(Ljava/lang/CharSequence;II)Ljava/lang/StringBuilder;"⟩ ⟨"java/lang/StringBuilder", "append", "(Ljava/lang/CharSequence;II)Ljava/lang/StringBuilder;"⟩ jdk_67_method_10_code 4 (some (.object "java/lang/StringBuilder")) 3 := ⟨(wd hw 93 rfl), (wd hw 95 rfl), (wd hw 94 rfl), (wd hw 76 rfl), (wd hw 96 rfl), by decide, _, _, pd_39, rfl⟩
theorem s65 : decs prog_57_method_2_code [(0, .iconst 0, 1), (1, .istore_n 1, 1), (2, .iload_n 1, 1), (3, .aload_n 0, 1), (4, .invokevirtual 7, 3), (7, .if_icmp .ge 20, 3), (10, .aload_n 0, 1), (11, .iload_n 1, 1), (12, .invokevirtual 13, 3), (15, .invokestatic 17, 3), (18, .ifCond .ne 9, 3), (21, .iinc 1 1, 3), (24, .goto (-22), 3), (27, .iload_n 1, 1), (28, .aload_n 0, 1), (29, .invokevirtual 7, 3), (32, .if_icmp .ne 5, 3), (35, .aload_n 0, 1), (36, .areturn, 1), (37, .new 23, 3), (40, .dup, 1), (41, .aload_n 0, 1), (42, .invokevirtual 7, 3), (45, .bipush 16, 2), (47, .iadd, 1), (48, .invokespecial 25, 3), (51, .aload_n 0, 1), (52, .iconst 0, 1), (53, .iload_n 1, 1), (54, .invokevirtual 28, 3), (57, .astore_n 2, 1), (58, .iload_n 1, 1), (59, .istore_n 3, 1), (60, .iload_n 3, 1), (61, .aload_n 0, 1), (62, .invokevirtual 7, 3), (65, .if_icmp .ge 108, 3), (68, .aload_n 0, 1), (69, .iload_n 3, 1), (70, .invokevirtual 13, 3), (73, .istore 4, 2), (75, .iload 4, 2), (77, .bipush 13, 2), (79, .if_icmp .ne 13, 3), (82, .aload_n 2, 1), (83, .ldc 32, 2), (85, .invokevirtual 34, 3), (88, .pop, 1), (89, .goto 78, 3), (92, .iload 4, 2), (94, .bipush 10, 2), (96, .if_icmp .ne 13, 3), (99, .aload_n 2, 1), (100, .ldc 37, 2), (102, .invokevirtual 34, 3), (105, .pop, 1), (106, .goto 61, 3), (109, .iload 4, 2), (111, .invokestatic 17, 3), (114, .ifCond .eq 46, 3), (117, .aload_n 2, 1), (118, .ldc 39, 2), (120, .invokevirtual 34, 3), (123, .pop, 1), (124, .bipush 12, 2), (126, .istore 5, 2), (128, .iload 5, 2), (130, .ifCond .lt 27, 3), (133, .aload_n 2, 1), (134, .iload 4, 2), (136, .iload 5, 2), (138, .ishr, 1), (139, .bipush 15, 2), (141, .iand, 1), (142, .bipush 16, 2), (144, .invokestatic 41, 3), (147, .invokevirtual 47, 3), (150, .pop, 1), (151, .iinc 5 (-4), 3), (154, .goto (-26), 3), (157, .goto 10, 3), (160, .aload_n 2, 1), (161, .iload 4, 2), (163, .invokevirtual 47, 3), (166, .pop, 1), (167, .iinc 3 1, 3), (170, .goto (-110), 3), (173, .aload_n 2, 1), (174, .invokevirtual 50, 3), (177, .areturn, 1)] = true := by decide +kernel
theorem pn_4 : plainFor (⟨"lifestack/util/Lines", "oneLine", "(Ljava/lang/String;)Ljava/lang/String;"⟩ : MethodName) = true := by first | exact plainFor_of_name (by first | (simp [plainName, overriddenIn]; done) | decide +kernel) | decide +kernel
def QrmOne (Z : State) (a9 : Addr) (cs : List Int32) (zc : Int32) (fm : Value) (fi : Value) (h0 : Heap) (n0 : Nat) (v : Option Value) (h : Heap) (L : List Loc) : Prop := ∃ r, v = some (.ref r) ∧ Fr n0 L ∧ Ext h0 h ∧ Own.TX Z h r (Own.rend cs)
theorem rmOne (l : Launch) (Z : State) (a0 : Array Value) (hw : HW a0 Z) (ws : List Jvm.Cond) (a9 : Addr) (cs : List Int32) (zc : Int32) (fm : Value) (fi : Value) (h0 : Heap) (n0 : Nat) (Z0 : n0 ≤ h0.size) (SC : Own.Cst Z h0 zc) (hzc : ¬ zc = 0) (SF : Own.Fst Z h0 fm) (hfm : fm.isRef = true) (SA : Own.Ads Z h0) (SH : Own.Hib Z h0) (SL : Own.Lob Z h0) (SI : Sta Z h0 "jdk/internal/util/Preconditions" "IOOBE_FORMATTER" "Ljava/util/function/BiFunction;" fi) (hfi : fi.isRef = true) (X9 : Own.TX Z h0 a9 cs) (hcl : cs.length ≤ 3) :
    Own.MFH l Z EL (⟨"lifestack/util/Lines", "oneLine", "(Ljava/lang/String;)Ljava/lang/String;"⟩ : MethodName) prog_57_method_2_code 6 (some (.object "java/lang/String")) ws (⟨9, 30, 1200, 145⟩ : Room) #[(.ref a9)] [] h0 (QrmOne Z a9 cs zc fm fi h0 n0) := by
  refine Own.MFH.of (own := "lifestack/util/Lines") (n := 6) rfl rfl pn_4 (fun p e s m below meth c s₁ hml hlk hret hnm hh H0 hSf P0 => ?_)
  rw [show entryFrame m #[(.ref a9)] 6 = mkF m 0 #[.val (.ref a9), .unset, .unset, .unset, .unset, .unset] [] from by first | (simp [entryFrame, mkF, argsToLocals, Value.category]; done) | rfl]
  refine Own.iconst (q := 1) (v := (0 : Int32)) P0 (dc s65 0 rfl) rfl rfl ?_
  refine Own.istoreN (q := 2) (L2 := #[.val (.ref a9), .val (.int (0 : Int32)), .unset, .unset, .unset, .unset]) P0 (dc s65 1 rfl) rfl rfl ?_
  have J : ∀ (r j c9 s9 : Nat), cs.length < j + r → j ≤ cs.length → c9 + 6 * r ≤ 30 → s9 + 180 * r ≤ 1200 → ∀ (T21 : State) (lc21 : List Loc) (h21 : Heap) (vm21 : Vm) (sl4 sl5 : Slot) (i1 : Int32) (ab tb : Addr) (kk : ClassId), Own.Wk Z "lifestack/util/Lines" prog_57_method_2_code h21 p l e (⟨9, 30, 1200, 145⟩ : Room) (s.setVm vm21) m #[(.ref a9)] below meth c T21 lc21 c9 s9 → Fr n0 lc21 → Ext h0 h21 → Own.Hd Z EL s vm21 h0 h21 → (sl4 = .unset ∨ ∃ x, sl4 = .val (.int x)) → (sl5 = .unset ∨ ∃ x, sl5 = .val (.int x)) → h0.size ≤ ab → h0.size ≤ tb → Safe Z EL vm21 h21 tb → ((Exa Z h21 ab "java/lang/StringBuilder" ∧ Own.Bf Z h21 ab "value" "[B" (.ref tb) ∧ Own.Bf Z h21 ab "coder" "B" (.int 0) ∧ Own.Bf Z h21 ab "count" "I" (.int (Int32.ofNat (Own.rend (cs.take j)).length)) ∧ Own.Bf Z h21 ab "maybeLatin1" "Z" (.int 0) ∧ Arv Z h21 tb kk .byte (Int32.ofNat (cs.length + 16)) ((((Own.rend (cs.take j)).map fun c : Int32 => c.toInt8.toInt32).map Value.int) ++ List.replicate ((cs.length + 16) - (Own.rend (cs.take j)).length) (Value.int 0)) (.int 0) ∧ ∀ c ∈ (Own.rend (cs.take j)), ¬ c < 0 ∧ ¬ (255 : Int32) < c) ∨ (Exa Z h21 ab "java/lang/StringBuilder" ∧ Own.Bf Z h21 ab "value" "[B" (.ref tb) ∧ Own.Bf Z h21 ab "coder" "B" (.int 1) ∧ Own.Bf Z h21 ab "count" "I" (.int (Int32.ofNat (Own.rend (cs.take j)).length)) ∧ Own.Bf Z h21 ab "maybeLatin1" "Z" (.int 0) ∧ Own.U16 Z h21 tb kk (cs.length + 16) ((Own.rend (cs.take j)) ++ List.replicate ((cs.length + 16) - (Own.rend (cs.take j)).length) (0 : Int32)))) → Own.Goes p.tables e below (Own.KEH Z EL (QrmOne Z a9 cs zc fm fi h0 n0) s (⟨9, 30, 1200, 145⟩ : Room).cells (⟨9, 30, 1200, 145⟩ : Room).slots) (T21.setTop (mkF m 60 #[.val (.ref a9), .val (.int i1), .val (.ref ab), .val (.int (Int32.ofNat j)), sl4, sl5] [])) := by
    intro r
    induction r with
    | zero => exact fun j c9 s9 hk hjl => absurd hk (by omega)
    | succ r ih =>
      intro j c9 s9 hk hjl hc9 hs9 T21 lc21 h21 vm21 sl4 sl5 i1 ab tb kk P21 N21 EJ21 H21 hs4 hs5 gab gtb hsf hB
      rcases hB with ⟨bE, bV, bC, bn, bm, bA, bp⟩ | ⟨bE, bV, bC, bn, bm, bA⟩
      · skip
        refine Own.iloadN (q := 61) P21 (dc s65 33 rfl) rfl rfl ?_
        refine Own.aloadN (q := 62) P21 (dc s65 34 rfl) rfl rfl rfl ?_
        have E0_1_22 : Ext h0 h21 := EJ21
        refine Own.cW (q := 65) (W := 1) (rest := [(.int (Int32.ofNat j))]) P21 (dc s65 35 rfl) (wd hw 27 rfl) (vw_24 hw) (Own.nfs P21 (wd hw 30 rfl)) (X9.ext E0_1_22).exa (lenT (W := 1) (n0 := n0) P21.2.2.2.1 hw (X9.ext E0_1_22) (Nat.le_trans Z0 E0_1_22.1) (SC.ext E0_1_22) hzc (by decide) (by decide)) rfl (hml rfl) rfl rfl (by dsimp only; omega) (by dsimp only; omega) rfl ?_
        rintro v23 T23 h23 L23 ⟨rfl, N23q, e23⟩ P23
        rw [e23] at P23
        have N23 := Fr.app N21 N23q
        refine Own.icmp_ge (q := 68) (qy := 173) P23 (dc s65 36 rfl) (by decide) rfl (fun q65 => ?_) (fun q65 => ?_)
        · refine Own.aloadN (q := 174) P23 (dc s65 87 rfl) rfl rfl rfl ?_
          have hz24 : (Own.rend (cs.take j)).length < (cs.length + 16) := (by have := Own.rtj (cs := cs) (j := j) hjl; (try simp only [List.length_append, List.length_cons, List.length_nil]); omega)
          refine Own.cV (q := 177) (W := 0) (rest := []) P23 (dc s65 88 rfl) (wd hw 186 rfl) (vw_43 hw) (Own.nfs P23 (wd hw 189 rfl)) bE (rmTs0 l Z a0 hw [] ab tb kk (cs.length + 16) (Own.rend (cs.take j)) zc h21 n0 (Nat.le_trans Z0 E0_1_22.1) (SC.ext E0_1_22) hzc bE bV bC bn bm bA (by omega) hz24 bp) (by decide) (by decide) rfl (hml rfl) rfl rfl (by dsimp only; omega) (by dsimp only; omega) rfl ?_
          rintro v25 T25 h25 L25 ⟨r25, rfl, N25q, E25, gr25, X25⟩ P25
          have N25 := Fr.app N23 N25q
          have E0_2_26 : Ext h0 h25 := (Own.Ext.tr E0_1_22 E25)
          have E1_2_27 : Ext h21 h25 := E25
          have Hd28 := (H21.ext E1_2_27)
          refine Own.retAH P25 hh (ew hw) Hd28 (dc s65 89 rfl) hret rfl rfl rfl hlk (by dsimp only; omega) (by dsimp only; omega) ?_
          exact ⟨_, rfl, N25, E0_2_26, by rw [show cs = cs.take j from (List.take_of_length_le (Nat.le_of_not_lt (fun z => q65 (Own.ltN (by omega) (by omega) z)))).symm]; exact X25⟩
        · have hj : j < cs.length := (Own.ofNat_lt (by omega) (by omega)).mp q65
          refine Own.aloadN (q := 69) P23 (dc s65 37 rfl) rfl rfl rfl ?_
          refine Own.iloadN (q := 70) P23 (dc s65 38 rfl) rfl rfl ?_
          refine Own.cW (q := 73) (W := 0) (rest := []) P23 (dc s65 39 rfl) (wd hw 49 rfl) (vw_27 hw) (Own.nfs P23 (wd hw 52 rfl)) (X9.ext E0_1_22).exa (chT (W := 0) (n0 := n0) (i := j) P23.2.2.2.1 hw (X9.ext E0_1_22) (Nat.le_trans Z0 E0_1_22.1) (SC.ext E0_1_22) hzc (SF.ext E0_1_22) hfm (SA.ext E0_1_22) (SH.ext E0_1_22) (SL.ext E0_1_22) hj (by decide) (by decide)) rfl (hml rfl) rfl rfl (by dsimp only; omega) (by dsimp only; omega) rfl ?_
          rintro v29 T29 h29 L29 ⟨rfl, N29q, e29⟩ P29
          rw [e29] at P29
          have N29 := Fr.app N23 N29q
          refine Own.istore (q := 75) (L2 := #[.val (.ref a9), .val (.int i1), .val (.ref ab), .val (.int (Int32.ofNat j)), .val (.int (cs.getD j 0)), sl5]) P29 (dc s65 40 rfl) (by rcases hs4 with rfl | ⟨_, rfl⟩ <;> rfl) rfl ?_
          have hch : Own.Ch (cs.getD j 0) := Own.ch_getD X9.ch j
          refine Own.iload (q := 77) P29 (dc s65 41 rfl) rfl rfl ?_
          refine Own.bipush (q := 79) (v := (13 : Int32)) P29 (dc s65 42 rfl) rfl rfl ?_
          refine Own.icmp_ne (q := 82) (qy := 92) P29 (dc s65 43 rfl) (by decide) rfl (fun q79 => ?_) (fun q79 => ?_)
          · refine Own.iload (q := 94) P29 (dc s65 49 rfl) rfl rfl ?_
            refine Own.bipush (q := 96) (v := (10 : Int32)) P29 (dc s65 50 rfl) rfl rfl ?_
            refine Own.icmp_ne (q := 99) (qy := 109) P29 (dc s65 51 rfl) (by decide) rfl (fun q96 => ?_) (fun q96 => ?_)
            · refine Own.iload (q := 111) P29 (dc s65 57 rfl) rfl rfl ?_
              refine Own.cS (q := 114) (W := 0) (rest := []) P29 (dc s65 58 rfl) (wd hw 71 rfl) (sw_44 hw) (rmEsc l Z a0 hw [] (cs.getD j 0) h21 n0 (Nat.le_trans Z0 E0_1_22.1) ) (by decide) (by decide) rfl (hml rfl) rfl rfl (by dsimp only; omega) (by dsimp only; omega) rfl ?_
              rintro v30 T30 h30 L30 ⟨rfl, N30q, e30⟩ P30
              rw [e30] at P30
              have N30 := Fr.app N29 N30q
              refine Own.if_eq (q := 117) (qy := 160) P30 (dc s65 59 rfl) (by decide) rfl (fun q114 => ?_) (fun q114 => ?_)
              · rcases Classical.em ((255 : Int32) < (cs.getD j 0)) with hb | hb
                · skip
                  refine Own.aloadN (q := 161) P30 (dc s65 81 rfl) rfl rfl rfl ?_
                  refine Own.iload (q := 163) P30 (dc s65 82 rfl) rfl rfl ?_
                  have hz31 : (Own.rend (cs.take j)).length < (cs.length + 16) := (by have := Own.rtj (cs := cs) (j := j) hjl; (try simp only [List.length_append, List.length_cons, List.length_nil]); omega)
                  refine Own.cV (q := 166) (W := 0) (rest := []) P30 (dc s65 83 rfl) (wd hw 174 rfl) (vw_45 hw) (Own.nfs P30 (wd hw 177 rfl)) bE (rmSc2 l Z a0 hw [] ab tb kk (cs.length + 16) (Own.rend (cs.take j)) (cs.getD j 0) zc fm h21 n0 (Nat.le_trans Z0 E0_1_22.1) (SC.ext E0_1_22) hzc (SF.ext E0_1_22) hfm (SA.ext E0_1_22) (SH.ext E0_1_22) (SL.ext E0_1_22) bE bV bC bn bm bA (by omega) (Nat.le_of_lt hz31) bp hz31 ⟨hch, hb⟩ (Nat.le_trans Z0 gab) (Nat.le_trans Z0 gtb)) (by decide) (by decide) rfl (hml rfl) rfl rfl (by dsimp only; omega) (by dsimp only; omega) rfl ?_
                  rintro v32 T32 h32 L32 ⟨rfl, N32q, K32, t32, k32, gt32, E32a, V32, C32, n32, m32, A32⟩ P32
                  have N32 := Fr.app N30 N32q
                  refine Own.pop (q := 167) P32 (dc s65 84 rfl) rfl rfl ?_
                  refine Own.iinc (q := 170) (v := (1 : Int32)) (L2 := #[.val (.ref a9), .val (.int i1), .val (.ref ab), .val (.int ((Int32.ofNat j) + (1 : Int32))), .val (.int (cs.getD j 0)), sl5]) P32 (dc s65 85 rfl) rfl rfl rfl rfl ?_
                  refine Own.goto (q := 60) P32 (dc s65 86 rfl) (by decide) ?_
                  rw [show (Int32.ofNat j + (1 : Int32)) = Int32.ofNat (j + 1) from (Int32.ofNat_add j 1).symm]
                  have hr33 : ((Own.rend (cs.take j)) ++ [(cs.getD j 0)]) = Own.rend (cs.take (j + 1)) := by
                    rw [Own.rend_snoc hj]
                    unfold Own.rendC
                    first | (rw [if_pos q79]; done) | (rw [if_neg q79, if_pos q96]; done) | (rw [if_neg q79, if_neg q96, if_pos q114]; done) | (rw [if_neg q79, if_neg q96, if_neg q114]; simp [List.append_assoc]; done) | simp_all
                  have E0_2_34 : Ext h0 h32 := (Own.Ext.kp E0_1_22 K32 (allS gab all0))
                  have Hd35 := (Own.Hd.kp H21 K32 (sfS (Safe.exa P32.2.2.2.1.alike bE (by decide) (by decide)) sf0))
                  have Sf36 := (Safe.keep K32 (sfS (Safe.exa P32.2.2.2.1.alike bE (by decide) (by decide)) sf0) H21.2.1 (Safe.new gt32))
                  exact ih (j + 1) _ _ (by omega) hj (by (try dsimp only); omega) (by (try dsimp only); omega) _ _ _ _ (.val (.int (cs.getD j 0))) (sl5) _ ab t32 k32 P32 N32 E0_2_34 Hd35 (Or.inr ⟨_, rfl⟩) hs5 gab (Nat.le_trans E0_1_22.1 gt32) Sf36 (by rw [← hr33]; exact Or.inr ⟨E32a, V32, C32, n32, m32, ⟨A32.1, A32.2⟩⟩)
                · skip
                  refine Own.aloadN (q := 161) P30 (dc s65 81 rfl) rfl rfl rfl ?_
                  refine Own.iload (q := 163) P30 (dc s65 82 rfl) rfl rfl ?_
                  have hz37 : (Own.rend (cs.take j)).length < (cs.length + 16) := (by have := Own.rtj (cs := cs) (j := j) hjl; (try simp only [List.length_append, List.length_cons, List.length_nil]); omega)
                  refine Own.cV (q := 166) (W := 0) (rest := []) P30 (dc s65 83 rfl) (wd hw 174 rfl) (vw_45 hw) (Own.nfs P30 (wd hw 177 rfl)) bE (rmSc0 l Z a0 hw [] ab tb kk (cs.length + 16) (Own.rend (cs.take j)) (cs.getD j 0) zc fm h21 n0 (Nat.le_trans Z0 E0_1_22.1) (SC.ext E0_1_22) hzc (SF.ext E0_1_22) hfm (SA.ext E0_1_22) (SH.ext E0_1_22) (SL.ext E0_1_22) bE bV bC bn bm bA (by omega) (Nat.le_of_lt hz37) bp hz37 ⟨hch.1, hb⟩ (Nat.le_trans Z0 gab) (Nat.le_trans Z0 gtb)) (by decide) (by decide) rfl (hml rfl) rfl rfl (by dsimp only; omega) (by dsimp only; omega) rfl ?_
                  rintro v38 T38 h38 L38 ⟨rfl, N38q, K38, E38a, V38, C38, n38, m38, A38⟩ P38
                  have N38 := Fr.app N30 N38q
                  have hp38 : ∀ c ∈ ((Own.rend (cs.take j)) ++ [(cs.getD j 0)]), ¬ c < 0 ∧ ¬ (255 : Int32) < c := Own.rng_app bp (Own.chS ⟨hch.1, hb⟩ Own.ch0)
                  refine Own.pop (q := 167) P38 (dc s65 84 rfl) rfl rfl ?_
                  refine Own.iinc (q := 170) (v := (1 : Int32)) (L2 := #[.val (.ref a9), .val (.int i1), .val (.ref ab), .val (.int ((Int32.ofNat j) + (1 : Int32))), .val (.int (cs.getD j 0)), sl5]) P38 (dc s65 85 rfl) rfl rfl rfl rfl ?_
                  refine Own.goto (q := 60) P38 (dc s65 86 rfl) (by decide) ?_
                  rw [show (Int32.ofNat j + (1 : Int32)) = Int32.ofNat (j + 1) from (Int32.ofNat_add j 1).symm]
                  have hr39 : ((Own.rend (cs.take j)) ++ [(cs.getD j 0)]) = Own.rend (cs.take (j + 1)) := by
                    rw [Own.rend_snoc hj]
                    unfold Own.rendC
                    first | (rw [if_pos q79]; done) | (rw [if_neg q79, if_pos q96]; done) | (rw [if_neg q79, if_neg q96, if_pos q114]; done) | (rw [if_neg q79, if_neg q96, if_neg q114]; simp [List.append_assoc]; done) | simp_all
                  have E0_2_40 : Ext h0 h38 := (Own.Ext.kp E0_1_22 K38 (allS gab (allS gtb all0)))
                  have Hd41 := (Own.Hd.kp H21 K38 (sfS (Safe.exa P38.2.2.2.1.alike bE (by decide) (by decide)) (sfS hsf sf0)))
                  have Sf42 := (Safe.keep K38 (sfS (Safe.exa P38.2.2.2.1.alike bE (by decide) (by decide)) (sfS hsf sf0)) H21.2.1 hsf)
                  exact ih (j + 1) _ _ (by omega) hj (by (try dsimp only); omega) (by (try dsimp only); omega) _ _ _ _ (.val (.int (cs.getD j 0))) (sl5) _ ab tb kk P38 N38 E0_2_40 Hd41 (Or.inr ⟨_, rfl⟩) hs5 gab gtb Sf42 (by rw [← hr39]; exact Or.inl ⟨E38a, V38, C38, n38, m38, A38, hp38⟩)
              · refine Own.aloadN (q := 118) P30 (dc s65 60 rfl) rfl rfl rfl ?_
                refine Own.ldcStr (q := 120) (n := 8) (cs := [(92 : Int32), (117 : Int32)]) P30 H21 (dc s65 61 rfl) (wd hw 142 rfl) (fun a ha => hw a (sub_str a ha)) (ew hw) (by decide) (by decide) (Own.chS (by decide) (Own.chS (by decide) Own.ch0)) (by decide) (by decide) (by decide) (by decide) (by decide) (by dsimp only; omega) (by dsimp only; omega) rfl ?_
                intro T43 vm43 h43 a43 P43 H43 hr43 E43 St43
                have hz44 : (Own.rend (cs.take j)).length + ([(92 : Int32), (117 : Int32)] : List Int32).length ≤ (cs.length + 16) := (by have := Own.rtj (cs := cs) (j := j) hjl; (try simp only [List.length_append, List.length_cons, List.length_nil]); omega)
                have hw44 : (Own.rend (cs.take j)).length ≤ (cs.length + 16) := (by have := Own.rtj (cs := cs) (j := j) hjl; (try simp only [List.length_append, List.length_cons, List.length_nil]); omega)
                have E0_2_45 : Ext h0 h43 := (Own.Ext.tr E0_1_22 E43)
                have E1_2_46 : Ext h21 h43 := E43
                refine Own.cV (q := 123) (W := 0) (rest := []) P43 (dc s65 62 rfl) (wd hw 143 rfl) (vw_46 hw) (Own.nfs P43 (wd hw 146 rfl)) (bE.ext E1_2_46) (rmSs0 l Z a0 hw [] ab tb kk (cs.length + 16) (Own.rend (cs.take j)) a43 [(92 : Int32), (117 : Int32)] zc fm h43 n0 (Nat.le_trans Z0 E0_2_45.1) (SC.ext E0_2_45) hzc (SF.ext E0_2_45) hfm (SA.ext E0_2_45) (SH.ext E0_2_45) (SL.ext E0_2_45) (bE.ext E1_2_46) (bV.ext E1_2_46) (bC.ext E1_2_46) (bn.ext E1_2_46) (bm.ext E1_2_46) (bA.ext E1_2_46) (by omega) hw44 bp St43 hz44 (by omega) (by decide) (Nat.le_trans Z0 gab) (Nat.le_trans Z0 gtb)) (by decide) (by decide) rfl (hml rfl) rfl rfl (by dsimp only; omega) (by dsimp only; omega) rfl ?_
                rintro v47 T47 h47 L47 ⟨rfl, N47q, K47, E47a, V47, C47, n47, m47, A47⟩ P47
                have N47 := Fr.app N30 N47q
                have hp47 : ∀ c ∈ ((Own.rend (cs.take j)) ++ [(92 : Int32), (117 : Int32)]), ¬ c < 0 ∧ ¬ (255 : Int32) < c := Own.rng_app bp (by decide)
                refine Own.pop (q := 124) P47 (dc s65 63 rfl) rfl rfl ?_
                refine Own.bipush (q := 126) (v := (12 : Int32)) P47 (dc s65 64 rfl) rfl rfl ?_
                refine Own.istore (q := 128) (L2 := #[.val (.ref a9), .val (.int i1), .val (.ref ab), .val (.int (Int32.ofNat j)), .val (.int (cs.getD j 0)), .val (.int (12 : Int32))]) P47 (dc s65 65 rfl) (by rcases hs5 with rfl | ⟨_, rfl⟩ <;> rfl) rfl ?_
                refine Own.iload (q := 130) P47 (dc s65 66 rfl) rfl rfl ?_
                refine Own.if_lt (q := 133) (qy := 157) P47 (dc s65 67 rfl) (by decide) rfl (fun q => absurd q (by decide)) (fun _ => ?_)
                refine Own.aloadN (q := 134) P47 (dc s65 68 rfl) rfl rfl rfl ?_
                refine Own.iload (q := 136) P47 (dc s65 69 rfl) rfl rfl ?_
                refine Own.iload (q := 138) P47 (dc s65 70 rfl) rfl rfl ?_
                refine Own.ishr (q := 139) P47 (dc s65 71 rfl)  rfl ?_
                refine Own.bipush (q := 141) (v := (15 : Int32)) P47 (dc s65 72 rfl) rfl rfl ?_
                refine Own.iand (q := 142) P47 (dc s65 73 rfl)  rfl ?_
                refine Own.bipush (q := 144) (v := (16 : Int32)) P47 (dc s65 74 rfl) rfl rfl ?_
                have E0_3_48 : Ext h0 h47 := (Own.Ext.kp E0_2_45 K47 (allS gab (allS gtb all0)))
                refine Own.cS (q := 147) (W := 1) (rest := [(.ref ab)]) P47 (dc s65 75 rfl) (wd hw 170 rfl) (sw_47 hw) (rmFd l Z a0 hw [] (((cs.getD j 0) >>> ((12 : Int32) &&& 31)) &&& (15 : Int32)) h47 n0 (Nat.le_trans Z0 E0_3_48.1) (Own.dg _ _)) (by decide) (by decide) rfl (hml rfl) rfl rfl (by dsimp only; omega) (by dsimp only; omega) rfl ?_
                rintro v49 T49 h49 L49 ⟨rfl, N49q, e49⟩ P49
                rw [e49] at P49
                have N49 := Fr.app N47 N49q
                have hz50 : ((Own.rend (cs.take j)) ++ [(92 : Int32), (117 : Int32)]).length < (cs.length + 16) := (by have := Own.rtj (cs := cs) (j := j) hjl; (try simp only [List.length_append, List.length_cons, List.length_nil]); omega)
                refine Own.cV (q := 150) (W := 0) (rest := []) P49 (dc s65 76 rfl) (wd hw 174 rfl) (vw_45 hw) (Own.nfs P49 (wd hw 177 rfl)) E47a (rmSc0 l Z a0 hw [] ab tb kk (cs.length + 16) ((Own.rend (cs.take j)) ++ [(92 : Int32), (117 : Int32)]) (Own.hxV (((cs.getD j 0) >>> ((12 : Int32) &&& 31)) &&& (15 : Int32))) zc fm h47 n0 (Nat.le_trans Z0 E0_3_48.1) (SC.ext E0_3_48) hzc (SF.ext E0_3_48) hfm (SA.ext E0_3_48) (SH.ext E0_3_48) (SL.ext E0_3_48) E47a V47 C47 n47 m47 A47 (by omega) (Nat.le_of_lt hz50) hp47 hz50 (Own.hx_rng (Own.dg _ _)) (Nat.le_trans Z0 gab) (Nat.le_trans Z0 gtb)) (by decide) (by decide) rfl (hml rfl) rfl rfl (by dsimp only; omega) (by dsimp only; omega) rfl ?_
                rintro v51 T51 h51 L51 ⟨rfl, N51q, K51, E51a, V51, C51, n51, m51, A51⟩ P51
                have N51 := Fr.app N49 N51q
                have hp51 : ∀ c ∈ (((Own.rend (cs.take j)) ++ [(92 : Int32), (117 : Int32)]) ++ [(Own.hxV (((cs.getD j 0) >>> ((12 : Int32) &&& 31)) &&& (15 : Int32)))]), ¬ c < 0 ∧ ¬ (255 : Int32) < c := Own.rng_app hp47 (Own.chS (Own.hx_rng (Own.dg _ _)) Own.ch0)
                refine Own.pop (q := 151) P51 (dc s65 77 rfl) rfl rfl ?_
                refine Own.iinc (q := 154) (v := (-4 : Int32)) (L2 := #[.val (.ref a9), .val (.int i1), .val (.ref ab), .val (.int (Int32.ofNat j)), .val (.int (cs.getD j 0)), .val (.int ((12 : Int32) + (-4 : Int32)))]) P51 (dc s65 78 rfl) rfl rfl rfl rfl ?_
                show Own.Goes _ _ _ _ (T51.setTop (mkF m 154 #[.val (.ref a9), .val (.int i1), .val (.ref ab), .val (.int (Int32.ofNat j)), .val (.int (cs.getD j 0)), .val (.int (8 : Int32))] []))
                refine Own.goto (q := 128) P51 (dc s65 79 rfl) (by decide) ?_
                refine Own.iload (q := 130) P51 (dc s65 66 rfl) rfl rfl ?_
                refine Own.if_lt (q := 133) (qy := 157) P51 (dc s65 67 rfl) (by decide) rfl (fun q => absurd q (by decide)) (fun _ => ?_)
                refine Own.aloadN (q := 134) P51 (dc s65 68 rfl) rfl rfl rfl ?_
                refine Own.iload (q := 136) P51 (dc s65 69 rfl) rfl rfl ?_
                refine Own.iload (q := 138) P51 (dc s65 70 rfl) rfl rfl ?_
                refine Own.ishr (q := 139) P51 (dc s65 71 rfl)  rfl ?_
                refine Own.bipush (q := 141) (v := (15 : Int32)) P51 (dc s65 72 rfl) rfl rfl ?_
                refine Own.iand (q := 142) P51 (dc s65 73 rfl)  rfl ?_
                refine Own.bipush (q := 144) (v := (16 : Int32)) P51 (dc s65 74 rfl) rfl rfl ?_
                have E0_4_52 : Ext h0 h51 := (Own.Ext.kp E0_3_48 K51 (allS gab (allS gtb all0)))
                refine Own.cS (q := 147) (W := 1) (rest := [(.ref ab)]) P51 (dc s65 75 rfl) (wd hw 170 rfl) (sw_47 hw) (rmFd l Z a0 hw [] (((cs.getD j 0) >>> ((8 : Int32) &&& 31)) &&& (15 : Int32)) h51 n0 (Nat.le_trans Z0 E0_4_52.1) (Own.dg _ _)) (by decide) (by decide) rfl (hml rfl) rfl rfl (by dsimp only; omega) (by dsimp only; omega) rfl ?_
                rintro v53 T53 h53 L53 ⟨rfl, N53q, e53⟩ P53
                rw [e53] at P53
                have N53 := Fr.app N51 N53q
                have hz54 : (((Own.rend (cs.take j)) ++ [(92 : Int32), (117 : Int32)]) ++ [(Own.hxV (((cs.getD j 0) >>> ((12 : Int32) &&& 31)) &&& (15 : Int32)))]).length < (cs.length + 16) := (by have := Own.rtj (cs := cs) (j := j) hjl; (try simp only [List.length_append, List.length_cons, List.length_nil]); omega)
                refine Own.cV (q := 150) (W := 0) (rest := []) P53 (dc s65 76 rfl) (wd hw 174 rfl) (vw_45 hw) (Own.nfs P53 (wd hw 177 rfl)) E51a (rmSc0 l Z a0 hw [] ab tb kk (cs.length + 16) (((Own.rend (cs.take j)) ++ [(92 : Int32), (117 : Int32)]) ++ [(Own.hxV (((cs.getD j 0) >>> ((12 : Int32) &&& 31)) &&& (15 : Int32)))]) (Own.hxV (((cs.getD j 0) >>> ((8 : Int32) &&& 31)) &&& (15 : Int32))) zc fm h51 n0 (Nat.le_trans Z0 E0_4_52.1) (SC.ext E0_4_52) hzc (SF.ext E0_4_52) hfm (SA.ext E0_4_52) (SH.ext E0_4_52) (SL.ext E0_4_52) E51a V51 C51 n51 m51 A51 (by omega) (Nat.le_of_lt hz54) hp51 hz54 (Own.hx_rng (Own.dg _ _)) (Nat.le_trans Z0 gab) (Nat.le_trans Z0 gtb)) (by decide) (by decide) rfl (hml rfl) rfl rfl (by dsimp only; omega) (by dsimp only; omega) rfl ?_
                rintro v55 T55 h55 L55 ⟨rfl, N55q, K55, E55a, V55, C55, n55, m55, A55⟩ P55
                have N55 := Fr.app N53 N55q
                have hp55 : ∀ c ∈ ((((Own.rend (cs.take j)) ++ [(92 : Int32), (117 : Int32)]) ++ [(Own.hxV (((cs.getD j 0) >>> ((12 : Int32) &&& 31)) &&& (15 : Int32)))]) ++ [(Own.hxV (((cs.getD j 0) >>> ((8 : Int32) &&& 31)) &&& (15 : Int32)))]), ¬ c < 0 ∧ ¬ (255 : Int32) < c := Own.rng_app hp51 (Own.chS (Own.hx_rng (Own.dg _ _)) Own.ch0)
                refine Own.pop (q := 151) P55 (dc s65 77 rfl) rfl rfl ?_
                refine Own.iinc (q := 154) (v := (-4 : Int32)) (L2 := #[.val (.ref a9), .val (.int i1), .val (.ref ab), .val (.int (Int32.ofNat j)), .val (.int (cs.getD j 0)), .val (.int ((8 : Int32) + (-4 : Int32)))]) P55 (dc s65 78 rfl) rfl rfl rfl rfl ?_
                show Own.Goes _ _ _ _ (T55.setTop (mkF m 154 #[.val (.ref a9), .val (.int i1), .val (.ref ab), .val (.int (Int32.ofNat j)), .val (.int (cs.getD j 0)), .val (.int (4 : Int32))] []))
                refine Own.goto (q := 128) P55 (dc s65 79 rfl) (by decide) ?_
                refine Own.iload (q := 130) P55 (dc s65 66 rfl) rfl rfl ?_
                refine Own.if_lt (q := 133) (qy := 157) P55 (dc s65 67 rfl) (by decide) rfl (fun q => absurd q (by decide)) (fun _ => ?_)
                refine Own.aloadN (q := 134) P55 (dc s65 68 rfl) rfl rfl rfl ?_
                refine Own.iload (q := 136) P55 (dc s65 69 rfl) rfl rfl ?_
                refine Own.iload (q := 138) P55 (dc s65 70 rfl) rfl rfl ?_
                refine Own.ishr (q := 139) P55 (dc s65 71 rfl)  rfl ?_
                refine Own.bipush (q := 141) (v := (15 : Int32)) P55 (dc s65 72 rfl) rfl rfl ?_
                refine Own.iand (q := 142) P55 (dc s65 73 rfl)  rfl ?_
                refine Own.bipush (q := 144) (v := (16 : Int32)) P55 (dc s65 74 rfl) rfl rfl ?_
                have E0_5_56 : Ext h0 h55 := (Own.Ext.kp E0_4_52 K55 (allS gab (allS gtb all0)))
                refine Own.cS (q := 147) (W := 1) (rest := [(.ref ab)]) P55 (dc s65 75 rfl) (wd hw 170 rfl) (sw_47 hw) (rmFd l Z a0 hw [] (((cs.getD j 0) >>> ((4 : Int32) &&& 31)) &&& (15 : Int32)) h55 n0 (Nat.le_trans Z0 E0_5_56.1) (Own.dg _ _)) (by decide) (by decide) rfl (hml rfl) rfl rfl (by dsimp only; omega) (by dsimp only; omega) rfl ?_
                rintro v57 T57 h57 L57 ⟨rfl, N57q, e57⟩ P57
                rw [e57] at P57
                have N57 := Fr.app N55 N57q
                have hz58 : ((((Own.rend (cs.take j)) ++ [(92 : Int32), (117 : Int32)]) ++ [(Own.hxV (((cs.getD j 0) >>> ((12 : Int32) &&& 31)) &&& (15 : Int32)))]) ++ [(Own.hxV (((cs.getD j 0) >>> ((8 : Int32) &&& 31)) &&& (15 : Int32)))]).length < (cs.length + 16) := (by have := Own.rtj (cs := cs) (j := j) hjl; (try simp only [List.length_append, List.length_cons, List.length_nil]); omega)
                refine Own.cV (q := 150) (W := 0) (rest := []) P57 (dc s65 76 rfl) (wd hw 174 rfl) (vw_45 hw) (Own.nfs P57 (wd hw 177 rfl)) E55a (rmSc0 l Z a0 hw [] ab tb kk (cs.length + 16) ((((Own.rend (cs.take j)) ++ [(92 : Int32), (117 : Int32)]) ++ [(Own.hxV (((cs.getD j 0) >>> ((12 : Int32) &&& 31)) &&& (15 : Int32)))]) ++ [(Own.hxV (((cs.getD j 0) >>> ((8 : Int32) &&& 31)) &&& (15 : Int32)))]) (Own.hxV (((cs.getD j 0) >>> ((4 : Int32) &&& 31)) &&& (15 : Int32))) zc fm h55 n0 (Nat.le_trans Z0 E0_5_56.1) (SC.ext E0_5_56) hzc (SF.ext E0_5_56) hfm (SA.ext E0_5_56) (SH.ext E0_5_56) (SL.ext E0_5_56) E55a V55 C55 n55 m55 A55 (by omega) (Nat.le_of_lt hz58) hp55 hz58 (Own.hx_rng (Own.dg _ _)) (Nat.le_trans Z0 gab) (Nat.le_trans Z0 gtb)) (by decide) (by decide) rfl (hml rfl) rfl rfl (by dsimp only; omega) (by dsimp only; omega) rfl ?_
                rintro v59 T59 h59 L59 ⟨rfl, N59q, K59, E59a, V59, C59, n59, m59, A59⟩ P59
                have N59 := Fr.app N57 N59q
                have hp59 : ∀ c ∈ (((((Own.rend (cs.take j)) ++ [(92 : Int32), (117 : Int32)]) ++ [(Own.hxV (((cs.getD j 0) >>> ((12 : Int32) &&& 31)) &&& (15 : Int32)))]) ++ [(Own.hxV (((cs.getD j 0) >>> ((8 : Int32) &&& 31)) &&& (15 : Int32)))]) ++ [(Own.hxV (((cs.getD j 0) >>> ((4 : Int32) &&& 31)) &&& (15 : Int32)))]), ¬ c < 0 ∧ ¬ (255 : Int32) < c := Own.rng_app hp55 (Own.chS (Own.hx_rng (Own.dg _ _)) Own.ch0)
                refine Own.pop (q := 151) P59 (dc s65 77 rfl) rfl rfl ?_
                refine Own.iinc (q := 154) (v := (-4 : Int32)) (L2 := #[.val (.ref a9), .val (.int i1), .val (.ref ab), .val (.int (Int32.ofNat j)), .val (.int (cs.getD j 0)), .val (.int ((4 : Int32) + (-4 : Int32)))]) P59 (dc s65 78 rfl) rfl rfl rfl rfl ?_
                show Own.Goes _ _ _ _ (T59.setTop (mkF m 154 #[.val (.ref a9), .val (.int i1), .val (.ref ab), .val (.int (Int32.ofNat j)), .val (.int (cs.getD j 0)), .val (.int (0 : Int32))] []))
                refine Own.goto (q := 128) P59 (dc s65 79 rfl) (by decide) ?_
                refine Own.iload (q := 130) P59 (dc s65 66 rfl) rfl rfl ?_
                refine Own.if_lt (q := 133) (qy := 157) P59 (dc s65 67 rfl) (by decide) rfl (fun q => absurd q (by decide)) (fun _ => ?_)
                refine Own.aloadN (q := 134) P59 (dc s65 68 rfl) rfl rfl rfl ?_
                refine Own.iload (q := 136) P59 (dc s65 69 rfl) rfl rfl ?_
                refine Own.iload (q := 138) P59 (dc s65 70 rfl) rfl rfl ?_
                refine Own.ishr (q := 139) P59 (dc s65 71 rfl)  rfl ?_
                refine Own.bipush (q := 141) (v := (15 : Int32)) P59 (dc s65 72 rfl) rfl rfl ?_
                refine Own.iand (q := 142) P59 (dc s65 73 rfl)  rfl ?_
                refine Own.bipush (q := 144) (v := (16 : Int32)) P59 (dc s65 74 rfl) rfl rfl ?_
                have E0_6_60 : Ext h0 h59 := (Own.Ext.kp E0_5_56 K59 (allS gab (allS gtb all0)))
                refine Own.cS (q := 147) (W := 1) (rest := [(.ref ab)]) P59 (dc s65 75 rfl) (wd hw 170 rfl) (sw_47 hw) (rmFd l Z a0 hw [] (((cs.getD j 0) >>> ((0 : Int32) &&& 31)) &&& (15 : Int32)) h59 n0 (Nat.le_trans Z0 E0_6_60.1) (Own.dg _ _)) (by decide) (by decide) rfl (hml rfl) rfl rfl (by dsimp only; omega) (by dsimp only; omega) rfl ?_
                rintro v61 T61 h61 L61 ⟨rfl, N61q, e61⟩ P61
                rw [e61] at P61
                have N61 := Fr.app N59 N61q
                have hz62 : (((((Own.rend (cs.take j)) ++ [(92 : Int32), (117 : Int32)]) ++ [(Own.hxV (((cs.getD j 0) >>> ((12 : Int32) &&& 31)) &&& (15 : Int32)))]) ++ [(Own.hxV (((cs.getD j 0) >>> ((8 : Int32) &&& 31)) &&& (15 : Int32)))]) ++ [(Own.hxV (((cs.getD j 0) >>> ((4 : Int32) &&& 31)) &&& (15 : Int32)))]).length < (cs.length + 16) := (by have := Own.rtj (cs := cs) (j := j) hjl; (try simp only [List.length_append, List.length_cons, List.length_nil]); omega)
                refine Own.cV (q := 150) (W := 0) (rest := []) P61 (dc s65 76 rfl) (wd hw 174 rfl) (vw_45 hw) (Own.nfs P61 (wd hw 177 rfl)) E59a (rmSc0 l Z a0 hw [] ab tb kk (cs.length + 16) (((((Own.rend (cs.take j)) ++ [(92 : Int32), (117 : Int32)]) ++ [(Own.hxV (((cs.getD j 0) >>> ((12 : Int32) &&& 31)) &&& (15 : Int32)))]) ++ [(Own.hxV (((cs.getD j 0) >>> ((8 : Int32) &&& 31)) &&& (15 : Int32)))]) ++ [(Own.hxV (((cs.getD j 0) >>> ((4 : Int32) &&& 31)) &&& (15 : Int32)))]) (Own.hxV (((cs.getD j 0) >>> ((0 : Int32) &&& 31)) &&& (15 : Int32))) zc fm h59 n0 (Nat.le_trans Z0 E0_6_60.1) (SC.ext E0_6_60) hzc (SF.ext E0_6_60) hfm (SA.ext E0_6_60) (SH.ext E0_6_60) (SL.ext E0_6_60) E59a V59 C59 n59 m59 A59 (by omega) (Nat.le_of_lt hz62) hp59 hz62 (Own.hx_rng (Own.dg _ _)) (Nat.le_trans Z0 gab) (Nat.le_trans Z0 gtb)) (by decide) (by decide) rfl (hml rfl) rfl rfl (by dsimp only; omega) (by dsimp only; omega) rfl ?_
                rintro v63 T63 h63 L63 ⟨rfl, N63q, K63, E63a, V63, C63, n63, m63, A63⟩ P63
                have N63 := Fr.app N61 N63q
                have hp63 : ∀ c ∈ ((((((Own.rend (cs.take j)) ++ [(92 : Int32), (117 : Int32)]) ++ [(Own.hxV (((cs.getD j 0) >>> ((12 : Int32) &&& 31)) &&& (15 : Int32)))]) ++ [(Own.hxV (((cs.getD j 0) >>> ((8 : Int32) &&& 31)) &&& (15 : Int32)))]) ++ [(Own.hxV (((cs.getD j 0) >>> ((4 : Int32) &&& 31)) &&& (15 : Int32)))]) ++ [(Own.hxV (((cs.getD j 0) >>> ((0 : Int32) &&& 31)) &&& (15 : Int32)))]), ¬ c < 0 ∧ ¬ (255 : Int32) < c := Own.rng_app hp59 (Own.chS (Own.hx_rng (Own.dg _ _)) Own.ch0)
                refine Own.pop (q := 151) P63 (dc s65 77 rfl) rfl rfl ?_
                refine Own.iinc (q := 154) (v := (-4 : Int32)) (L2 := #[.val (.ref a9), .val (.int i1), .val (.ref ab), .val (.int (Int32.ofNat j)), .val (.int (cs.getD j 0)), .val (.int ((0 : Int32) + (-4 : Int32)))]) P63 (dc s65 78 rfl) rfl rfl rfl rfl ?_
                show Own.Goes _ _ _ _ (T63.setTop (mkF m 154 #[.val (.ref a9), .val (.int i1), .val (.ref ab), .val (.int (Int32.ofNat j)), .val (.int (cs.getD j 0)), .val (.int (-4 : Int32))] []))
                refine Own.goto (q := 128) P63 (dc s65 79 rfl) (by decide) ?_
                refine Own.iload (q := 130) P63 (dc s65 66 rfl) rfl rfl ?_
                refine Own.if_lt (q := 133) (qy := 157) P63 (dc s65 67 rfl) (by decide) rfl (fun _ => ?_) (fun q => absurd (by decide) q)
                refine Own.goto (q := 167) P63 (dc s65 80 rfl) (by decide) ?_
                refine Own.iinc (q := 170) (v := (1 : Int32)) (L2 := #[.val (.ref a9), .val (.int i1), .val (.ref ab), .val (.int ((Int32.ofNat j) + (1 : Int32))), .val (.int (cs.getD j 0)), .val (.int (-4 : Int32))]) P63 (dc s65 85 rfl) rfl rfl rfl rfl ?_
                refine Own.goto (q := 60) P63 (dc s65 86 rfl) (by decide) ?_
                rw [show (Int32.ofNat j + (1 : Int32)) = Int32.ofNat (j + 1) from (Int32.ofNat_add j 1).symm]
                have hr64 : ((((((Own.rend (cs.take j)) ++ [(92 : Int32), (117 : Int32)]) ++ [(Own.hxV (((cs.getD j 0) >>> ((12 : Int32) &&& 31)) &&& (15 : Int32)))]) ++ [(Own.hxV (((cs.getD j 0) >>> ((8 : Int32) &&& 31)) &&& (15 : Int32)))]) ++ [(Own.hxV (((cs.getD j 0) >>> ((4 : Int32) &&& 31)) &&& (15 : Int32)))]) ++ [(Own.hxV (((cs.getD j 0) >>> ((0 : Int32) &&& 31)) &&& (15 : Int32)))]) = Own.rend (cs.take (j + 1)) := by
                  rw [Own.rend_snoc hj]
                  unfold Own.rendC
                  first | (rw [if_pos q79]; done) | (rw [if_neg q79, if_pos q96]; done) | (rw [if_neg q79, if_neg q96, if_pos q114]; done) | (rw [if_neg q79, if_neg q96, if_neg q114]; simp [List.append_assoc]; done) | simp_all
                have E0_7_65 : Ext h0 h63 := (Own.Ext.kp E0_6_60 K63 (allS gab (allS gtb all0)))
                have Sf66 := (CHr.safe hr43 bA.lt hsf)
                have Hd67 := (Own.Hd.kp H43 K47 (sfS (Safe.exa P63.2.2.2.1.alike (bE.ext E43) (by decide) (by decide)) (sfS Sf66 sf0)))
                have Sf68 := (Safe.keep K47 (sfS (Safe.exa P63.2.2.2.1.alike (bE.ext E43) (by decide) (by decide)) (sfS Sf66 sf0)) H43.2.1 Sf66)
                have Hd69 := (Own.Hd.kp Hd67 K51 (sfS (Safe.exa P63.2.2.2.1.alike E47a (by decide) (by decide)) (sfS Sf68 sf0)))
                have Sf70 := (Safe.keep K51 (sfS (Safe.exa P63.2.2.2.1.alike E47a (by decide) (by decide)) (sfS Sf68 sf0)) Hd67.2.1 Sf68)
                have Hd71 := (Own.Hd.kp Hd69 K55 (sfS (Safe.exa P63.2.2.2.1.alike E51a (by decide) (by decide)) (sfS Sf70 sf0)))
                have Sf72 := (Safe.keep K55 (sfS (Safe.exa P63.2.2.2.1.alike E51a (by decide) (by decide)) (sfS Sf70 sf0)) Hd69.2.1 Sf70)
                have Hd73 := (Own.Hd.kp Hd71 K59 (sfS (Safe.exa P63.2.2.2.1.alike E55a (by decide) (by decide)) (sfS Sf72 sf0)))
                have Sf74 := (Safe.keep K59 (sfS (Safe.exa P63.2.2.2.1.alike E55a (by decide) (by decide)) (sfS Sf72 sf0)) Hd71.2.1 Sf72)
                have Hd75 := (Own.Hd.kp Hd73 K63 (sfS (Safe.exa P63.2.2.2.1.alike E59a (by decide) (by decide)) (sfS Sf74 sf0)))
                have Sf76 := (Safe.keep K63 (sfS (Safe.exa P63.2.2.2.1.alike E59a (by decide) (by decide)) (sfS Sf74 sf0)) Hd73.2.1 Sf74)
                exact ih (j + 1) _ _ (by omega) hj (by (try dsimp only); omega) (by (try dsimp only); omega) _ _ _ _ (.val (.int (cs.getD j 0))) (.val (.int (-4 : Int32))) _ ab tb kk P63 N63 E0_7_65 Hd75 (Or.inr ⟨_, rfl⟩) (Or.inr ⟨_, rfl⟩) gab gtb Sf76 (by rw [← hr64]; exact Or.inl ⟨E63a, V63, C63, n63, m63, A63, hp63⟩)
            · refine Own.aloadN (q := 100) P29 (dc s65 52 rfl) rfl rfl rfl ?_
              refine Own.ldcStr (q := 102) (n := 8) (cs := [(92 : Int32), (110 : Int32)]) P29 H21 (dc s65 53 rfl) (wd hw 299 rfl) (fun a ha => hw a (sub_str a ha)) (ew hw) (by decide) (by decide) (Own.chS (by decide) (Own.chS (by decide) Own.ch0)) (by decide) (by decide) (by decide) (by decide) (by decide) (by dsimp only; omega) (by dsimp only; omega) rfl ?_
              intro T77 vm77 h77 a77 P77 H77 hr77 E77 St77
              have hz78 : (Own.rend (cs.take j)).length + ([(92 : Int32), (110 : Int32)] : List Int32).length ≤ (cs.length + 16) := (by have := Own.rtj (cs := cs) (j := j) hjl; (try simp only [List.length_append, List.length_cons, List.length_nil]); omega)
              have hw78 : (Own.rend (cs.take j)).length ≤ (cs.length + 16) := (by have := Own.rtj (cs := cs) (j := j) hjl; (try simp only [List.length_append, List.length_cons, List.length_nil]); omega)
              have E0_2_79 : Ext h0 h77 := (Own.Ext.tr E0_1_22 E77)
              have E1_2_80 : Ext h21 h77 := E77
              refine Own.cV (q := 105) (W := 0) (rest := []) P77 (dc s65 54 rfl) (wd hw 143 rfl) (vw_46 hw) (Own.nfs P77 (wd hw 146 rfl)) (bE.ext E1_2_80) (rmSs0 l Z a0 hw [] ab tb kk (cs.length + 16) (Own.rend (cs.take j)) a77 [(92 : Int32), (110 : Int32)] zc fm h77 n0 (Nat.le_trans Z0 E0_2_79.1) (SC.ext E0_2_79) hzc (SF.ext E0_2_79) hfm (SA.ext E0_2_79) (SH.ext E0_2_79) (SL.ext E0_2_79) (bE.ext E1_2_80) (bV.ext E1_2_80) (bC.ext E1_2_80) (bn.ext E1_2_80) (bm.ext E1_2_80) (bA.ext E1_2_80) (by omega) hw78 bp St77 hz78 (by omega) (by decide) (Nat.le_trans Z0 gab) (Nat.le_trans Z0 gtb)) (by decide) (by decide) rfl (hml rfl) rfl rfl (by dsimp only; omega) (by dsimp only; omega) rfl ?_
              rintro v81 T81 h81 L81 ⟨rfl, N81q, K81, E81a, V81, C81, n81, m81, A81⟩ P81
              have N81 := Fr.app N29 N81q
              have hp81 : ∀ c ∈ ((Own.rend (cs.take j)) ++ [(92 : Int32), (110 : Int32)]), ¬ c < 0 ∧ ¬ (255 : Int32) < c := Own.rng_app bp (by decide)
              refine Own.pop (q := 106) P81 (dc s65 55 rfl) rfl rfl ?_
              refine Own.goto (q := 167) P81 (dc s65 56 rfl) (by decide) ?_
              refine Own.iinc (q := 170) (v := (1 : Int32)) (L2 := #[.val (.ref a9), .val (.int i1), .val (.ref ab), .val (.int ((Int32.ofNat j) + (1 : Int32))), .val (.int (cs.getD j 0)), sl5]) P81 (dc s65 85 rfl) rfl rfl rfl rfl ?_
              refine Own.goto (q := 60) P81 (dc s65 86 rfl) (by decide) ?_
              rw [show (Int32.ofNat j + (1 : Int32)) = Int32.ofNat (j + 1) from (Int32.ofNat_add j 1).symm]
              have hr82 : ((Own.rend (cs.take j)) ++ [(92 : Int32), (110 : Int32)]) = Own.rend (cs.take (j + 1)) := by
                rw [Own.rend_snoc hj]
                unfold Own.rendC
                first | (rw [if_pos q79]; done) | (rw [if_neg q79, if_pos q96]; done) | (rw [if_neg q79, if_neg q96, if_pos q114]; done) | (rw [if_neg q79, if_neg q96, if_neg q114]; simp [List.append_assoc]; done) | simp_all
              have E0_3_83 : Ext h0 h81 := (Own.Ext.kp E0_2_79 K81 (allS gab (allS gtb all0)))
              have Sf84 := (CHr.safe hr77 bA.lt hsf)
              have Hd85 := (Own.Hd.kp H77 K81 (sfS (Safe.exa P81.2.2.2.1.alike (bE.ext E77) (by decide) (by decide)) (sfS Sf84 sf0)))
              have Sf86 := (Safe.keep K81 (sfS (Safe.exa P81.2.2.2.1.alike (bE.ext E77) (by decide) (by decide)) (sfS Sf84 sf0)) H77.2.1 Sf84)
              exact ih (j + 1) _ _ (by omega) hj (by (try dsimp only); omega) (by (try dsimp only); omega) _ _ _ _ (.val (.int (cs.getD j 0))) (sl5) _ ab tb kk P81 N81 E0_3_83 Hd85 (Or.inr ⟨_, rfl⟩) hs5 gab gtb Sf86 (by rw [← hr82]; exact Or.inl ⟨E81a, V81, C81, n81, m81, A81, hp81⟩)
          · refine Own.aloadN (q := 83) P29 (dc s65 44 rfl) rfl rfl rfl ?_
            refine Own.ldcStr (q := 85) (n := 8) (cs := [(92 : Int32), (114 : Int32)]) P29 H21 (dc s65 45 rfl) (wd hw 296 rfl) (fun a ha => hw a (sub_str a ha)) (ew hw) (by decide) (by decide) (Own.chS (by decide) (Own.chS (by decide) Own.ch0)) (by decide) (by decide) (by decide) (by decide) (by decide) (by dsimp only; omega) (by dsimp only; omega) rfl ?_
            intro T87 vm87 h87 a87 P87 H87 hr87 E87 St87
            have hz88 : (Own.rend (cs.take j)).length + ([(92 : Int32), (114 : Int32)] : List Int32).length ≤ (cs.length + 16) := (by have := Own.rtj (cs := cs) (j := j) hjl; (try simp only [List.length_append, List.length_cons, List.length_nil]); omega)
            have hw88 : (Own.rend (cs.take j)).length ≤ (cs.length + 16) := (by have := Own.rtj (cs := cs) (j := j) hjl; (try simp only [List.length_append, List.length_cons, List.length_nil]); omega)
            have E0_2_89 : Ext h0 h87 := (Own.Ext.tr E0_1_22 E87)
            have E1_2_90 : Ext h21 h87 := E87
            refine Own.cV (q := 88) (W := 0) (rest := []) P87 (dc s65 46 rfl) (wd hw 143 rfl) (vw_46 hw) (Own.nfs P87 (wd hw 146 rfl)) (bE.ext E1_2_90) (rmSs0 l Z a0 hw [] ab tb kk (cs.length + 16) (Own.rend (cs.take j)) a87 [(92 : Int32), (114 : Int32)] zc fm h87 n0 (Nat.le_trans Z0 E0_2_89.1) (SC.ext E0_2_89) hzc (SF.ext E0_2_89) hfm (SA.ext E0_2_89) (SH.ext E0_2_89) (SL.ext E0_2_89) (bE.ext E1_2_90) (bV.ext E1_2_90) (bC.ext E1_2_90) (bn.ext E1_2_90) (bm.ext E1_2_90) (bA.ext E1_2_90) (by omega) hw88 bp St87 hz88 (by omega) (by decide) (Nat.le_trans Z0 gab) (Nat.le_trans Z0 gtb)) (by decide) (by decide) rfl (hml rfl) rfl rfl (by dsimp only; omega) (by dsimp only; omega) rfl ?_
            rintro v91 T91 h91 L91 ⟨rfl, N91q, K91, E91a, V91, C91, n91, m91, A91⟩ P91
            have N91 := Fr.app N29 N91q
            have hp91 : ∀ c ∈ ((Own.rend (cs.take j)) ++ [(92 : Int32), (114 : Int32)]), ¬ c < 0 ∧ ¬ (255 : Int32) < c := Own.rng_app bp (by decide)
            refine Own.pop (q := 89) P91 (dc s65 47 rfl) rfl rfl ?_
            refine Own.goto (q := 167) P91 (dc s65 48 rfl) (by decide) ?_
            refine Own.iinc (q := 170) (v := (1 : Int32)) (L2 := #[.val (.ref a9), .val (.int i1), .val (.ref ab), .val (.int ((Int32.ofNat j) + (1 : Int32))), .val (.int (cs.getD j 0)), sl5]) P91 (dc s65 85 rfl) rfl rfl rfl rfl ?_
            refine Own.goto (q := 60) P91 (dc s65 86 rfl) (by decide) ?_
            rw [show (Int32.ofNat j + (1 : Int32)) = Int32.ofNat (j + 1) from (Int32.ofNat_add j 1).symm]
            have hr92 : ((Own.rend (cs.take j)) ++ [(92 : Int32), (114 : Int32)]) = Own.rend (cs.take (j + 1)) := by
              rw [Own.rend_snoc hj]
              unfold Own.rendC
              first | (rw [if_pos q79]; done) | (rw [if_neg q79, if_pos q96]; done) | (rw [if_neg q79, if_neg q96, if_pos q114]; done) | (rw [if_neg q79, if_neg q96, if_neg q114]; simp [List.append_assoc]; done) | simp_all
            have E0_3_93 : Ext h0 h91 := (Own.Ext.kp E0_2_89 K91 (allS gab (allS gtb all0)))
            have Sf94 := (CHr.safe hr87 bA.lt hsf)
            have Hd95 := (Own.Hd.kp H87 K91 (sfS (Safe.exa P91.2.2.2.1.alike (bE.ext E87) (by decide) (by decide)) (sfS Sf94 sf0)))
            have Sf96 := (Safe.keep K91 (sfS (Safe.exa P91.2.2.2.1.alike (bE.ext E87) (by decide) (by decide)) (sfS Sf94 sf0)) H87.2.1 Sf94)
            exact ih (j + 1) _ _ (by omega) hj (by (try dsimp only); omega) (by (try dsimp only); omega) _ _ _ _ (.val (.int (cs.getD j 0))) (sl5) _ ab tb kk P91 N91 E0_3_93 Hd95 (Or.inr ⟨_, rfl⟩) hs5 gab gtb Sf96 (by rw [← hr92]; exact Or.inl ⟨E91a, V91, C91, n91, m91, A91, hp91⟩)
      · skip
        refine Own.iloadN (q := 61) P21 (dc s65 33 rfl) rfl rfl ?_
        refine Own.aloadN (q := 62) P21 (dc s65 34 rfl) rfl rfl rfl ?_
        have E0_1_97 : Ext h0 h21 := EJ21
        refine Own.cW (q := 65) (W := 1) (rest := [(.int (Int32.ofNat j))]) P21 (dc s65 35 rfl) (wd hw 27 rfl) (vw_24 hw) (Own.nfs P21 (wd hw 30 rfl)) (X9.ext E0_1_97).exa (lenT (W := 1) (n0 := n0) P21.2.2.2.1 hw (X9.ext E0_1_97) (Nat.le_trans Z0 E0_1_97.1) (SC.ext E0_1_97) hzc (by decide) (by decide)) rfl (hml rfl) rfl rfl (by dsimp only; omega) (by dsimp only; omega) rfl ?_
        rintro v98 T98 h98 L98 ⟨rfl, N98q, e98⟩ P98
        rw [e98] at P98
        have N98 := Fr.app N21 N98q
        refine Own.icmp_ge (q := 68) (qy := 173) P98 (dc s65 36 rfl) (by decide) rfl (fun q65 => ?_) (fun q65 => ?_)
        · refine Own.aloadN (q := 174) P98 (dc s65 87 rfl) rfl rfl rfl ?_
          have hz99 : (Own.rend (cs.take j)).length < (cs.length + 16) := (by have := Own.rtj (cs := cs) (j := j) hjl; (try simp only [List.length_append, List.length_cons, List.length_nil]); omega)
          refine Own.cV (q := 177) (W := 0) (rest := []) P98 (dc s65 88 rfl) (wd hw 186 rfl) (vw_43 hw) (Own.nfs P98 (wd hw 189 rfl)) bE (rmTs1 l Z a0 hw [] ab tb kk (cs.length + 16) (Own.rend (cs.take j)) zc h21 n0 (Nat.le_trans Z0 E0_1_97.1) (SC.ext E0_1_97) hzc bE bV bC bn bm ⟨bA.1, bA.2⟩ (by omega) hz99 (Own.chS_ofU bA)) (by decide) (by decide) rfl (hml rfl) rfl rfl (by dsimp only; omega) (by dsimp only; omega) rfl ?_
          rintro v100 T100 h100 L100 ⟨r100, rfl, N100q, E100, gr100, X100⟩ P100
          have N100 := Fr.app N98 N100q
          have E0_2_101 : Ext h0 h100 := (Own.Ext.tr E0_1_97 E100)
          have E1_2_102 : Ext h21 h100 := E100
          have Hd103 := (H21.ext E1_2_102)
          refine Own.retAH P100 hh (ew hw) Hd103 (dc s65 89 rfl) hret rfl rfl rfl hlk (by dsimp only; omega) (by dsimp only; omega) ?_
          exact ⟨_, rfl, N100, E0_2_101, by rw [show cs = cs.take j from (List.take_of_length_le (Nat.le_of_not_lt (fun z => q65 (Own.ltN (by omega) (by omega) z)))).symm]; exact X100⟩
        · have hj : j < cs.length := (Own.ofNat_lt (by omega) (by omega)).mp q65
          refine Own.aloadN (q := 69) P98 (dc s65 37 rfl) rfl rfl rfl ?_
          refine Own.iloadN (q := 70) P98 (dc s65 38 rfl) rfl rfl ?_
          refine Own.cW (q := 73) (W := 0) (rest := []) P98 (dc s65 39 rfl) (wd hw 49 rfl) (vw_27 hw) (Own.nfs P98 (wd hw 52 rfl)) (X9.ext E0_1_97).exa (chT (W := 0) (n0 := n0) (i := j) P98.2.2.2.1 hw (X9.ext E0_1_97) (Nat.le_trans Z0 E0_1_97.1) (SC.ext E0_1_97) hzc (SF.ext E0_1_97) hfm (SA.ext E0_1_97) (SH.ext E0_1_97) (SL.ext E0_1_97) hj (by decide) (by decide)) rfl (hml rfl) rfl rfl (by dsimp only; omega) (by dsimp only; omega) rfl ?_
          rintro v104 T104 h104 L104 ⟨rfl, N104q, e104⟩ P104
          rw [e104] at P104
          have N104 := Fr.app N98 N104q
          refine Own.istore (q := 75) (L2 := #[.val (.ref a9), .val (.int i1), .val (.ref ab), .val (.int (Int32.ofNat j)), .val (.int (cs.getD j 0)), sl5]) P104 (dc s65 40 rfl) (by rcases hs4 with rfl | ⟨_, rfl⟩ <;> rfl) rfl ?_
          have hch : Own.Ch (cs.getD j 0) := Own.ch_getD X9.ch j
          refine Own.iload (q := 77) P104 (dc s65 41 rfl) rfl rfl ?_
          refine Own.bipush (q := 79) (v := (13 : Int32)) P104 (dc s65 42 rfl) rfl rfl ?_
          refine Own.icmp_ne (q := 82) (qy := 92) P104 (dc s65 43 rfl) (by decide) rfl (fun q79 => ?_) (fun q79 => ?_)
          · refine Own.iload (q := 94) P104 (dc s65 49 rfl) rfl rfl ?_
            refine Own.bipush (q := 96) (v := (10 : Int32)) P104 (dc s65 50 rfl) rfl rfl ?_
            refine Own.icmp_ne (q := 99) (qy := 109) P104 (dc s65 51 rfl) (by decide) rfl (fun q96 => ?_) (fun q96 => ?_)
            · refine Own.iload (q := 111) P104 (dc s65 57 rfl) rfl rfl ?_
              refine Own.cS (q := 114) (W := 0) (rest := []) P104 (dc s65 58 rfl) (wd hw 71 rfl) (sw_44 hw) (rmEsc l Z a0 hw [] (cs.getD j 0) h21 n0 (Nat.le_trans Z0 E0_1_97.1) ) (by decide) (by decide) rfl (hml rfl) rfl rfl (by dsimp only; omega) (by dsimp only; omega) rfl ?_
              rintro v105 T105 h105 L105 ⟨rfl, N105q, e105⟩ P105
              rw [e105] at P105
              have N105 := Fr.app N104 N105q
              refine Own.if_eq (q := 117) (qy := 160) P105 (dc s65 59 rfl) (by decide) rfl (fun q114 => ?_) (fun q114 => ?_)
              · refine Own.aloadN (q := 161) P105 (dc s65 81 rfl) rfl rfl rfl ?_
                refine Own.iload (q := 163) P105 (dc s65 82 rfl) rfl rfl ?_
                have hz106 : (Own.rend (cs.take j)).length < (cs.length + 16) := (by have := Own.rtj (cs := cs) (j := j) hjl; (try simp only [List.length_append, List.length_cons, List.length_nil]); omega)
                refine Own.cV (q := 166) (W := 0) (rest := []) P105 (dc s65 83 rfl) (wd hw 174 rfl) (vw_45 hw) (Own.nfs P105 (wd hw 177 rfl)) bE (rmSc1 l Z a0 hw [] ab tb kk (cs.length + 16) (Own.rend (cs.take j)) (cs.getD j 0) zc fm h21 n0 (Nat.le_trans Z0 E0_1_97.1) (SC.ext E0_1_97) hzc (SF.ext E0_1_97) hfm (SA.ext E0_1_97) (SH.ext E0_1_97) (SL.ext E0_1_97) bE bV bC bn bm ⟨bA.1, bA.2⟩ (by omega) (Nat.le_of_lt hz106) hz106 hch (Nat.le_trans Z0 gab) (Nat.le_trans Z0 gtb)) (by decide) (by decide) rfl (hml rfl) rfl rfl (by dsimp only; omega) (by dsimp only; omega) rfl ?_
                rintro v107 T107 h107 L107 ⟨rfl, N107q, K107, E107a, V107, C107, n107, m107, A107⟩ P107
                have N107 := Fr.app N105 N107q
                refine Own.pop (q := 167) P107 (dc s65 84 rfl) rfl rfl ?_
                refine Own.iinc (q := 170) (v := (1 : Int32)) (L2 := #[.val (.ref a9), .val (.int i1), .val (.ref ab), .val (.int ((Int32.ofNat j) + (1 : Int32))), .val (.int (cs.getD j 0)), sl5]) P107 (dc s65 85 rfl) rfl rfl rfl rfl ?_
                refine Own.goto (q := 60) P107 (dc s65 86 rfl) (by decide) ?_
                rw [show (Int32.ofNat j + (1 : Int32)) = Int32.ofNat (j + 1) from (Int32.ofNat_add j 1).symm]
                have hr108 : ((Own.rend (cs.take j)) ++ [(cs.getD j 0)]) = Own.rend (cs.take (j + 1)) := by
                  rw [Own.rend_snoc hj]
                  unfold Own.rendC
                  first | (rw [if_pos q79]; done) | (rw [if_neg q79, if_pos q96]; done) | (rw [if_neg q79, if_neg q96, if_pos q114]; done) | (rw [if_neg q79, if_neg q96, if_neg q114]; simp [List.append_assoc]; done) | simp_all
                have E0_2_109 : Ext h0 h107 := (Own.Ext.kp E0_1_97 K107 (allS gab (allS gtb all0)))
                have Hd110 := (Own.Hd.kp H21 K107 (sfS (Safe.exa P107.2.2.2.1.alike bE (by decide) (by decide)) (sfS hsf sf0)))
                have Sf111 := (Safe.keep K107 (sfS (Safe.exa P107.2.2.2.1.alike bE (by decide) (by decide)) (sfS hsf sf0)) H21.2.1 hsf)
                exact ih (j + 1) _ _ (by omega) hj (by (try dsimp only); omega) (by (try dsimp only); omega) _ _ _ _ (.val (.int (cs.getD j 0))) (sl5) _ ab tb kk P107 N107 E0_2_109 Hd110 (Or.inr ⟨_, rfl⟩) hs5 gab gtb Sf111 (by rw [← hr108]; exact Or.inr ⟨E107a, V107, C107, n107, m107, ⟨A107.1, A107.2⟩⟩)
              · refine Own.aloadN (q := 118) P105 (dc s65 60 rfl) rfl rfl rfl ?_
                refine Own.ldcStr (q := 120) (n := 8) (cs := [(92 : Int32), (117 : Int32)]) P105 H21 (dc s65 61 rfl) (wd hw 142 rfl) (fun a ha => hw a (sub_str a ha)) (ew hw) (by decide) (by decide) (Own.chS (by decide) (Own.chS (by decide) Own.ch0)) (by decide) (by decide) (by decide) (by decide) (by decide) (by dsimp only; omega) (by dsimp only; omega) rfl ?_
                intro T112 vm112 h112 a112 P112 H112 hr112 E112 St112
                have hz113 : (Own.rend (cs.take j)).length + ([(92 : Int32), (117 : Int32)] : List Int32).length ≤ (cs.length + 16) := (by have := Own.rtj (cs := cs) (j := j) hjl; (try simp only [List.length_append, List.length_cons, List.length_nil]); omega)
                have hw113 : (Own.rend (cs.take j)).length ≤ (cs.length + 16) := (by have := Own.rtj (cs := cs) (j := j) hjl; (try simp only [List.length_append, List.length_cons, List.length_nil]); omega)
                have E0_2_114 : Ext h0 h112 := (Own.Ext.tr E0_1_97 E112)
                have E1_2_115 : Ext h21 h112 := E112
                refine Own.cV (q := 123) (W := 0) (rest := []) P112 (dc s65 62 rfl) (wd hw 143 rfl) (vw_46 hw) (Own.nfs P112 (wd hw 146 rfl)) (bE.ext E1_2_115) (rmSs1 l Z a0 hw [] ab tb kk (cs.length + 16) (Own.rend (cs.take j)) a112 [(92 : Int32), (117 : Int32)] zc fm h112 n0 (Nat.le_trans Z0 E0_2_114.1) (SC.ext E0_2_114) hzc (SF.ext E0_2_114) hfm (SA.ext E0_2_114) (SH.ext E0_2_114) (SL.ext E0_2_114) (bE.ext E1_2_115) (bV.ext E1_2_115) (bC.ext E1_2_115) (bn.ext E1_2_115) (bm.ext E1_2_115) ⟨(bA.1.ext E1_2_115), bA.2⟩ (by omega) hw113 St112 hz113 (by omega) (by decide) (Nat.le_trans Z0 gab) (Nat.le_trans Z0 gtb)) (by decide) (by decide) rfl (hml rfl) rfl rfl (by dsimp only; omega) (by dsimp only; omega) rfl ?_
                rintro v116 T116 h116 L116 ⟨rfl, N116q, K116, E116a, V116, C116, n116, m116, A116⟩ P116
                have N116 := Fr.app N105 N116q
                refine Own.pop (q := 124) P116 (dc s65 63 rfl) rfl rfl ?_
                refine Own.bipush (q := 126) (v := (12 : Int32)) P116 (dc s65 64 rfl) rfl rfl ?_
                refine Own.istore (q := 128) (L2 := #[.val (.ref a9), .val (.int i1), .val (.ref ab), .val (.int (Int32.ofNat j)), .val (.int (cs.getD j 0)), .val (.int (12 : Int32))]) P116 (dc s65 65 rfl) (by rcases hs5 with rfl | ⟨_, rfl⟩ <;> rfl) rfl ?_
                refine Own.iload (q := 130) P116 (dc s65 66 rfl) rfl rfl ?_
                refine Own.if_lt (q := 133) (qy := 157) P116 (dc s65 67 rfl) (by decide) rfl (fun q => absurd q (by decide)) (fun _ => ?_)
                refine Own.aloadN (q := 134) P116 (dc s65 68 rfl) rfl rfl rfl ?_
                refine Own.iload (q := 136) P116 (dc s65 69 rfl) rfl rfl ?_
                refine Own.iload (q := 138) P116 (dc s65 70 rfl) rfl rfl ?_
                refine Own.ishr (q := 139) P116 (dc s65 71 rfl)  rfl ?_
                refine Own.bipush (q := 141) (v := (15 : Int32)) P116 (dc s65 72 rfl) rfl rfl ?_
                refine Own.iand (q := 142) P116 (dc s65 73 rfl)  rfl ?_
                refine Own.bipush (q := 144) (v := (16 : Int32)) P116 (dc s65 74 rfl) rfl rfl ?_
                have E0_3_117 : Ext h0 h116 := (Own.Ext.kp E0_2_114 K116 (allS gab (allS gtb all0)))
                refine Own.cS (q := 147) (W := 1) (rest := [(.ref ab)]) P116 (dc s65 75 rfl) (wd hw 170 rfl) (sw_47 hw) (rmFd l Z a0 hw [] (((cs.getD j 0) >>> ((12 : Int32) &&& 31)) &&& (15 : Int32)) h116 n0 (Nat.le_trans Z0 E0_3_117.1) (Own.dg _ _)) (by decide) (by decide) rfl (hml rfl) rfl rfl (by dsimp only; omega) (by dsimp only; omega) rfl ?_
                rintro v118 T118 h118 L118 ⟨rfl, N118q, e118⟩ P118
                rw [e118] at P118
                have N118 := Fr.app N116 N118q
                have hz119 : ((Own.rend (cs.take j)) ++ [(92 : Int32), (117 : Int32)]).length < (cs.length + 16) := (by have := Own.rtj (cs := cs) (j := j) hjl; (try simp only [List.length_append, List.length_cons, List.length_nil]); omega)
                refine Own.cV (q := 150) (W := 0) (rest := []) P118 (dc s65 76 rfl) (wd hw 174 rfl) (vw_45 hw) (Own.nfs P118 (wd hw 177 rfl)) E116a (rmSc1 l Z a0 hw [] ab tb kk (cs.length + 16) ((Own.rend (cs.take j)) ++ [(92 : Int32), (117 : Int32)]) (Own.hxV (((cs.getD j 0) >>> ((12 : Int32) &&& 31)) &&& (15 : Int32))) zc fm h116 n0 (Nat.le_trans Z0 E0_3_117.1) (SC.ext E0_3_117) hzc (SF.ext E0_3_117) hfm (SA.ext E0_3_117) (SH.ext E0_3_117) (SL.ext E0_3_117) E116a V116 C116 n116 m116 ⟨A116.1, A116.2⟩ (by omega) (Nat.le_of_lt hz119) hz119 (Own.Ch.up (Own.hx_rng (Own.dg _ _))) (Nat.le_trans Z0 gab) (Nat.le_trans Z0 gtb)) (by decide) (by decide) rfl (hml rfl) rfl rfl (by dsimp only; omega) (by dsimp only; omega) rfl ?_
                rintro v120 T120 h120 L120 ⟨rfl, N120q, K120, E120a, V120, C120, n120, m120, A120⟩ P120
                have N120 := Fr.app N118 N120q
                refine Own.pop (q := 151) P120 (dc s65 77 rfl) rfl rfl ?_
                refine Own.iinc (q := 154) (v := (-4 : Int32)) (L2 := #[.val (.ref a9), .val (.int i1), .val (.ref ab), .val (.int (Int32.ofNat j)), .val (.int (cs.getD j 0)), .val (.int ((12 : Int32) + (-4 : Int32)))]) P120 (dc s65 78 rfl) rfl rfl rfl rfl ?_
                show Own.Goes _ _ _ _ (T120.setTop (mkF m 154 #[.val (.ref a9), .val (.int i1), .val (.ref ab), .val (.int (Int32.ofNat j)), .val (.int (cs.getD j 0)), .val (.int (8 : Int32))] []))
                refine Own.goto (q := 128) P120 (dc s65 79 rfl) (by decide) ?_
                refine Own.iload (q := 130) P120 (dc s65 66 rfl) rfl rfl ?_
                refine Own.if_lt (q := 133) (qy := 157) P120 (dc s65 67 rfl) (by decide) rfl (fun q => absurd q (by decide)) (fun _ => ?_)
                refine Own.aloadN (q := 134) P120 (dc s65 68 rfl) rfl rfl rfl ?_
                refine Own.iload (q := 136) P120 (dc s65 69 rfl) rfl rfl ?_
                refine Own.iload (q := 138) P120 (dc s65 70 rfl) rfl rfl ?_
                refine Own.ishr (q := 139) P120 (dc s65 71 rfl)  rfl ?_
                refine Own.bipush (q := 141) (v := (15 : Int32)) P120 (dc s65 72 rfl) rfl rfl ?_
                refine Own.iand (q := 142) P120 (dc s65 73 rfl)  rfl ?_
                refine Own.bipush (q := 144) (v := (16 : Int32)) P120 (dc s65 74 rfl) rfl rfl ?_
                have E0_4_121 : Ext h0 h120 := (Own.Ext.kp E0_3_117 K120 (allS gab (allS gtb all0)))
                refine Own.cS (q := 147) (W := 1) (rest := [(.ref ab)]) P120 (dc s65 75 rfl) (wd hw 170 rfl) (sw_47 hw) (rmFd l Z a0 hw [] (((cs.getD j 0) >>> ((8 : Int32) &&& 31)) &&& (15 : Int32)) h120 n0 (Nat.le_trans Z0 E0_4_121.1) (Own.dg _ _)) (by decide) (by decide) rfl (hml rfl) rfl rfl (by dsimp only; omega) (by dsimp only; omega) rfl ?_
                rintro v122 T122 h122 L122 ⟨rfl, N122q, e122⟩ P122
                rw [e122] at P122
                have N122 := Fr.app N120 N122q
                have hz123 : (((Own.rend (cs.take j)) ++ [(92 : Int32), (117 : Int32)]) ++ [(Own.hxV (((cs.getD j 0) >>> ((12 : Int32) &&& 31)) &&& (15 : Int32)))]).length < (cs.length + 16) := (by have := Own.rtj (cs := cs) (j := j) hjl; (try simp only [List.length_append, List.length_cons, List.length_nil]); omega)
                refine Own.cV (q := 150) (W := 0) (rest := []) P122 (dc s65 76 rfl) (wd hw 174 rfl) (vw_45 hw) (Own.nfs P122 (wd hw 177 rfl)) E120a (rmSc1 l Z a0 hw [] ab tb kk (cs.length + 16) (((Own.rend (cs.take j)) ++ [(92 : Int32), (117 : Int32)]) ++ [(Own.hxV (((cs.getD j 0) >>> ((12 : Int32) &&& 31)) &&& (15 : Int32)))]) (Own.hxV (((cs.getD j 0) >>> ((8 : Int32) &&& 31)) &&& (15 : Int32))) zc fm h120 n0 (Nat.le_trans Z0 E0_4_121.1) (SC.ext E0_4_121) hzc (SF.ext E0_4_121) hfm (SA.ext E0_4_121) (SH.ext E0_4_121) (SL.ext E0_4_121) E120a V120 C120 n120 m120 ⟨A120.1, A120.2⟩ (by omega) (Nat.le_of_lt hz123) hz123 (Own.Ch.up (Own.hx_rng (Own.dg _ _))) (Nat.le_trans Z0 gab) (Nat.le_trans Z0 gtb)) (by decide) (by decide) rfl (hml rfl) rfl rfl (by dsimp only; omega) (by dsimp only; omega) rfl ?_
                rintro v124 T124 h124 L124 ⟨rfl, N124q, K124, E124a, V124, C124, n124, m124, A124⟩ P124
                have N124 := Fr.app N122 N124q
                refine Own.pop (q := 151) P124 (dc s65 77 rfl) rfl rfl ?_
                refine Own.iinc (q := 154) (v := (-4 : Int32)) (L2 := #[.val (.ref a9), .val (.int i1), .val (.ref ab), .val (.int (Int32.ofNat j)), .val (.int (cs.getD j 0)), .val (.int ((8 : Int32) + (-4 : Int32)))]) P124 (dc s65 78 rfl) rfl rfl rfl rfl ?_
                show Own.Goes _ _ _ _ (T124.setTop (mkF m 154 #[.val (.ref a9), .val (.int i1), .val (.ref ab), .val (.int (Int32.ofNat j)), .val (.int (cs.getD j 0)), .val (.int (4 : Int32))] []))
                refine Own.goto (q := 128) P124 (dc s65 79 rfl) (by decide) ?_
                refine Own.iload (q := 130) P124 (dc s65 66 rfl) rfl rfl ?_
                refine Own.if_lt (q := 133) (qy := 157) P124 (dc s65 67 rfl) (by decide) rfl (fun q => absurd q (by decide)) (fun _ => ?_)
                refine Own.aloadN (q := 134) P124 (dc s65 68 rfl) rfl rfl rfl ?_
                refine Own.iload (q := 136) P124 (dc s65 69 rfl) rfl rfl ?_
                refine Own.iload (q := 138) P124 (dc s65 70 rfl) rfl rfl ?_
                refine Own.ishr (q := 139) P124 (dc s65 71 rfl)  rfl ?_
                refine Own.bipush (q := 141) (v := (15 : Int32)) P124 (dc s65 72 rfl) rfl rfl ?_
                refine Own.iand (q := 142) P124 (dc s65 73 rfl)  rfl ?_
                refine Own.bipush (q := 144) (v := (16 : Int32)) P124 (dc s65 74 rfl) rfl rfl ?_
                have E0_5_125 : Ext h0 h124 := (Own.Ext.kp E0_4_121 K124 (allS gab (allS gtb all0)))
                refine Own.cS (q := 147) (W := 1) (rest := [(.ref ab)]) P124 (dc s65 75 rfl) (wd hw 170 rfl) (sw_47 hw) (rmFd l Z a0 hw [] (((cs.getD j 0) >>> ((4 : Int32) &&& 31)) &&& (15 : Int32)) h124 n0 (Nat.le_trans Z0 E0_5_125.1) (Own.dg _ _)) (by decide) (by decide) rfl (hml rfl) rfl rfl (by dsimp only; omega) (by dsimp only; omega) rfl ?_
                rintro v126 T126 h126 L126 ⟨rfl, N126q, e126⟩ P126
                rw [e126] at P126
                have N126 := Fr.app N124 N126q
                have hz127 : ((((Own.rend (cs.take j)) ++ [(92 : Int32), (117 : Int32)]) ++ [(Own.hxV (((cs.getD j 0) >>> ((12 : Int32) &&& 31)) &&& (15 : Int32)))]) ++ [(Own.hxV (((cs.getD j 0) >>> ((8 : Int32) &&& 31)) &&& (15 : Int32)))]).length < (cs.length + 16) := (by have := Own.rtj (cs := cs) (j := j) hjl; (try simp only [List.length_append, List.length_cons, List.length_nil]); omega)
                refine Own.cV (q := 150) (W := 0) (rest := []) P126 (dc s65 76 rfl) (wd hw 174 rfl) (vw_45 hw) (Own.nfs P126 (wd hw 177 rfl)) E124a (rmSc1 l Z a0 hw [] ab tb kk (cs.length + 16) ((((Own.rend (cs.take j)) ++ [(92 : Int32), (117 : Int32)]) ++ [(Own.hxV (((cs.getD j 0) >>> ((12 : Int32) &&& 31)) &&& (15 : Int32)))]) ++ [(Own.hxV (((cs.getD j 0) >>> ((8 : Int32) &&& 31)) &&& (15 : Int32)))]) (Own.hxV (((cs.getD j 0) >>> ((4 : Int32) &&& 31)) &&& (15 : Int32))) zc fm h124 n0 (Nat.le_trans Z0 E0_5_125.1) (SC.ext E0_5_125) hzc (SF.ext E0_5_125) hfm (SA.ext E0_5_125) (SH.ext E0_5_125) (SL.ext E0_5_125) E124a V124 C124 n124 m124 ⟨A124.1, A124.2⟩ (by omega) (Nat.le_of_lt hz127) hz127 (Own.Ch.up (Own.hx_rng (Own.dg _ _))) (Nat.le_trans Z0 gab) (Nat.le_trans Z0 gtb)) (by decide) (by decide) rfl (hml rfl) rfl rfl (by dsimp only; omega) (by dsimp only; omega) rfl ?_
                rintro v128 T128 h128 L128 ⟨rfl, N128q, K128, E128a, V128, C128, n128, m128, A128⟩ P128
                have N128 := Fr.app N126 N128q
                refine Own.pop (q := 151) P128 (dc s65 77 rfl) rfl rfl ?_
                refine Own.iinc (q := 154) (v := (-4 : Int32)) (L2 := #[.val (.ref a9), .val (.int i1), .val (.ref ab), .val (.int (Int32.ofNat j)), .val (.int (cs.getD j 0)), .val (.int ((4 : Int32) + (-4 : Int32)))]) P128 (dc s65 78 rfl) rfl rfl rfl rfl ?_
                show Own.Goes _ _ _ _ (T128.setTop (mkF m 154 #[.val (.ref a9), .val (.int i1), .val (.ref ab), .val (.int (Int32.ofNat j)), .val (.int (cs.getD j 0)), .val (.int (0 : Int32))] []))
                refine Own.goto (q := 128) P128 (dc s65 79 rfl) (by decide) ?_
                refine Own.iload (q := 130) P128 (dc s65 66 rfl) rfl rfl ?_
                refine Own.if_lt (q := 133) (qy := 157) P128 (dc s65 67 rfl) (by decide) rfl (fun q => absurd q (by decide)) (fun _ => ?_)
                refine Own.aloadN (q := 134) P128 (dc s65 68 rfl) rfl rfl rfl ?_
                refine Own.iload (q := 136) P128 (dc s65 69 rfl) rfl rfl ?_
                refine Own.iload (q := 138) P128 (dc s65 70 rfl) rfl rfl ?_
                refine Own.ishr (q := 139) P128 (dc s65 71 rfl)  rfl ?_
                refine Own.bipush (q := 141) (v := (15 : Int32)) P128 (dc s65 72 rfl) rfl rfl ?_
                refine Own.iand (q := 142) P128 (dc s65 73 rfl)  rfl ?_
                refine Own.bipush (q := 144) (v := (16 : Int32)) P128 (dc s65 74 rfl) rfl rfl ?_
                have E0_6_129 : Ext h0 h128 := (Own.Ext.kp E0_5_125 K128 (allS gab (allS gtb all0)))
                refine Own.cS (q := 147) (W := 1) (rest := [(.ref ab)]) P128 (dc s65 75 rfl) (wd hw 170 rfl) (sw_47 hw) (rmFd l Z a0 hw [] (((cs.getD j 0) >>> ((0 : Int32) &&& 31)) &&& (15 : Int32)) h128 n0 (Nat.le_trans Z0 E0_6_129.1) (Own.dg _ _)) (by decide) (by decide) rfl (hml rfl) rfl rfl (by dsimp only; omega) (by dsimp only; omega) rfl ?_
                rintro v130 T130 h130 L130 ⟨rfl, N130q, e130⟩ P130
                rw [e130] at P130
                have N130 := Fr.app N128 N130q
                have hz131 : (((((Own.rend (cs.take j)) ++ [(92 : Int32), (117 : Int32)]) ++ [(Own.hxV (((cs.getD j 0) >>> ((12 : Int32) &&& 31)) &&& (15 : Int32)))]) ++ [(Own.hxV (((cs.getD j 0) >>> ((8 : Int32) &&& 31)) &&& (15 : Int32)))]) ++ [(Own.hxV (((cs.getD j 0) >>> ((4 : Int32) &&& 31)) &&& (15 : Int32)))]).length < (cs.length + 16) := (by have := Own.rtj (cs := cs) (j := j) hjl; (try simp only [List.length_append, List.length_cons, List.length_nil]); omega)
                refine Own.cV (q := 150) (W := 0) (rest := []) P130 (dc s65 76 rfl) (wd hw 174 rfl) (vw_45 hw) (Own.nfs P130 (wd hw 177 rfl)) E128a (rmSc1 l Z a0 hw [] ab tb kk (cs.length + 16) (((((Own.rend (cs.take j)) ++ [(92 : Int32), (117 : Int32)]) ++ [(Own.hxV (((cs.getD j 0) >>> ((12 : Int32) &&& 31)) &&& (15 : Int32)))]) ++ [(Own.hxV (((cs.getD j 0) >>> ((8 : Int32) &&& 31)) &&& (15 : Int32)))]) ++ [(Own.hxV (((cs.getD j 0) >>> ((4 : Int32) &&& 31)) &&& (15 : Int32)))]) (Own.hxV (((cs.getD j 0) >>> ((0 : Int32) &&& 31)) &&& (15 : Int32))) zc fm h128 n0 (Nat.le_trans Z0 E0_6_129.1) (SC.ext E0_6_129) hzc (SF.ext E0_6_129) hfm (SA.ext E0_6_129) (SH.ext E0_6_129) (SL.ext E0_6_129) E128a V128 C128 n128 m128 ⟨A128.1, A128.2⟩ (by omega) (Nat.le_of_lt hz131) hz131 (Own.Ch.up (Own.hx_rng (Own.dg _ _))) (Nat.le_trans Z0 gab) (Nat.le_trans Z0 gtb)) (by decide) (by decide) rfl (hml rfl) rfl rfl (by dsimp only; omega) (by dsimp only; omega) rfl ?_
                rintro v132 T132 h132 L132 ⟨rfl, N132q, K132, E132a, V132, C132, n132, m132, A132⟩ P132
                have N132 := Fr.app N130 N132q
                refine Own.pop (q := 151) P132 (dc s65 77 rfl) rfl rfl ?_
                refine Own.iinc (q := 154) (v := (-4 : Int32)) (L2 := #[.val (.ref a9), .val (.int i1), .val (.ref ab), .val (.int (Int32.ofNat j)), .val (.int (cs.getD j 0)), .val (.int ((0 : Int32) + (-4 : Int32)))]) P132 (dc s65 78 rfl) rfl rfl rfl rfl ?_
                show Own.Goes _ _ _ _ (T132.setTop (mkF m 154 #[.val (.ref a9), .val (.int i1), .val (.ref ab), .val (.int (Int32.ofNat j)), .val (.int (cs.getD j 0)), .val (.int (-4 : Int32))] []))
                refine Own.goto (q := 128) P132 (dc s65 79 rfl) (by decide) ?_
                refine Own.iload (q := 130) P132 (dc s65 66 rfl) rfl rfl ?_
                refine Own.if_lt (q := 133) (qy := 157) P132 (dc s65 67 rfl) (by decide) rfl (fun _ => ?_) (fun q => absurd (by decide) q)
                refine Own.goto (q := 167) P132 (dc s65 80 rfl) (by decide) ?_
                refine Own.iinc (q := 170) (v := (1 : Int32)) (L2 := #[.val (.ref a9), .val (.int i1), .val (.ref ab), .val (.int ((Int32.ofNat j) + (1 : Int32))), .val (.int (cs.getD j 0)), .val (.int (-4 : Int32))]) P132 (dc s65 85 rfl) rfl rfl rfl rfl ?_
                refine Own.goto (q := 60) P132 (dc s65 86 rfl) (by decide) ?_
                rw [show (Int32.ofNat j + (1 : Int32)) = Int32.ofNat (j + 1) from (Int32.ofNat_add j 1).symm]
                have hr133 : ((((((Own.rend (cs.take j)) ++ [(92 : Int32), (117 : Int32)]) ++ [(Own.hxV (((cs.getD j 0) >>> ((12 : Int32) &&& 31)) &&& (15 : Int32)))]) ++ [(Own.hxV (((cs.getD j 0) >>> ((8 : Int32) &&& 31)) &&& (15 : Int32)))]) ++ [(Own.hxV (((cs.getD j 0) >>> ((4 : Int32) &&& 31)) &&& (15 : Int32)))]) ++ [(Own.hxV (((cs.getD j 0) >>> ((0 : Int32) &&& 31)) &&& (15 : Int32)))]) = Own.rend (cs.take (j + 1)) := by
                  rw [Own.rend_snoc hj]
                  unfold Own.rendC
                  first | (rw [if_pos q79]; done) | (rw [if_neg q79, if_pos q96]; done) | (rw [if_neg q79, if_neg q96, if_pos q114]; done) | (rw [if_neg q79, if_neg q96, if_neg q114]; simp [List.append_assoc]; done) | simp_all
                have E0_7_134 : Ext h0 h132 := (Own.Ext.kp E0_6_129 K132 (allS gab (allS gtb all0)))
                have Sf135 := (CHr.safe hr112 bA.1.lt hsf)
                have Hd136 := (Own.Hd.kp H112 K116 (sfS (Safe.exa P132.2.2.2.1.alike (bE.ext E112) (by decide) (by decide)) (sfS Sf135 sf0)))
                have Sf137 := (Safe.keep K116 (sfS (Safe.exa P132.2.2.2.1.alike (bE.ext E112) (by decide) (by decide)) (sfS Sf135 sf0)) H112.2.1 Sf135)
                have Hd138 := (Own.Hd.kp Hd136 K120 (sfS (Safe.exa P132.2.2.2.1.alike E116a (by decide) (by decide)) (sfS Sf137 sf0)))
                have Sf139 := (Safe.keep K120 (sfS (Safe.exa P132.2.2.2.1.alike E116a (by decide) (by decide)) (sfS Sf137 sf0)) Hd136.2.1 Sf137)
                have Hd140 := (Own.Hd.kp Hd138 K124 (sfS (Safe.exa P132.2.2.2.1.alike E120a (by decide) (by decide)) (sfS Sf139 sf0)))
                have Sf141 := (Safe.keep K124 (sfS (Safe.exa P132.2.2.2.1.alike E120a (by decide) (by decide)) (sfS Sf139 sf0)) Hd138.2.1 Sf139)
                have Hd142 := (Own.Hd.kp Hd140 K128 (sfS (Safe.exa P132.2.2.2.1.alike E124a (by decide) (by decide)) (sfS Sf141 sf0)))
                have Sf143 := (Safe.keep K128 (sfS (Safe.exa P132.2.2.2.1.alike E124a (by decide) (by decide)) (sfS Sf141 sf0)) Hd140.2.1 Sf141)
                have Hd144 := (Own.Hd.kp Hd142 K132 (sfS (Safe.exa P132.2.2.2.1.alike E128a (by decide) (by decide)) (sfS Sf143 sf0)))
                have Sf145 := (Safe.keep K132 (sfS (Safe.exa P132.2.2.2.1.alike E128a (by decide) (by decide)) (sfS Sf143 sf0)) Hd142.2.1 Sf143)
                exact ih (j + 1) _ _ (by omega) hj (by (try dsimp only); omega) (by (try dsimp only); omega) _ _ _ _ (.val (.int (cs.getD j 0))) (.val (.int (-4 : Int32))) _ ab tb kk P132 N132 E0_7_134 Hd144 (Or.inr ⟨_, rfl⟩) (Or.inr ⟨_, rfl⟩) gab gtb Sf145 (by rw [← hr133]; exact Or.inr ⟨E132a, V132, C132, n132, m132, ⟨A132.1, A132.2⟩⟩)
            · refine Own.aloadN (q := 100) P104 (dc s65 52 rfl) rfl rfl rfl ?_
              refine Own.ldcStr (q := 102) (n := 8) (cs := [(92 : Int32), (110 : Int32)]) P104 H21 (dc s65 53 rfl) (wd hw 299 rfl) (fun a ha => hw a (sub_str a ha)) (ew hw) (by decide) (by decide) (Own.chS (by decide) (Own.chS (by decide) Own.ch0)) (by decide) (by decide) (by decide) (by decide) (by decide) (by dsimp only; omega) (by dsimp only; omega) rfl ?_
              intro T146 vm146 h146 a146 P146 H146 hr146 E146 St146
              have hz147 : (Own.rend (cs.take j)).length + ([(92 : Int32), (110 : Int32)] : List Int32).length ≤ (cs.length + 16) := (by have := Own.rtj (cs := cs) (j := j) hjl; (try simp only [List.length_append, List.length_cons, List.length_nil]); omega)
              have hw147 : (Own.rend (cs.take j)).length ≤ (cs.length + 16) := (by have := Own.rtj (cs := cs) (j := j) hjl; (try simp only [List.length_append, List.length_cons, List.length_nil]); omega)
              have E0_2_148 : Ext h0 h146 := (Own.Ext.tr E0_1_97 E146)
              have E1_2_149 : Ext h21 h146 := E146
              refine Own.cV (q := 105) (W := 0) (rest := []) P146 (dc s65 54 rfl) (wd hw 143 rfl) (vw_46 hw) (Own.nfs P146 (wd hw 146 rfl)) (bE.ext E1_2_149) (rmSs1 l Z a0 hw [] ab tb kk (cs.length + 16) (Own.rend (cs.take j)) a146 [(92 : Int32), (110 : Int32)] zc fm h146 n0 (Nat.le_trans Z0 E0_2_148.1) (SC.ext E0_2_148) hzc (SF.ext E0_2_148) hfm (SA.ext E0_2_148) (SH.ext E0_2_148) (SL.ext E0_2_148) (bE.ext E1_2_149) (bV.ext E1_2_149) (bC.ext E1_2_149) (bn.ext E1_2_149) (bm.ext E1_2_149) ⟨(bA.1.ext E1_2_149), bA.2⟩ (by omega) hw147 St146 hz147 (by omega) (by decide) (Nat.le_trans Z0 gab) (Nat.le_trans Z0 gtb)) (by decide) (by decide) rfl (hml rfl) rfl rfl (by dsimp only; omega) (by dsimp only; omega) rfl ?_
              rintro v150 T150 h150 L150 ⟨rfl, N150q, K150, E150a, V150, C150, n150, m150, A150⟩ P150
              have N150 := Fr.app N104 N150q
              refine Own.pop (q := 106) P150 (dc s65 55 rfl) rfl rfl ?_
              refine Own.goto (q := 167) P150 (dc s65 56 rfl) (by decide) ?_
              refine Own.iinc (q := 170) (v := (1 : Int32)) (L2 := #[.val (.ref a9), .val (.int i1), .val (.ref ab), .val (.int ((Int32.ofNat j) + (1 : Int32))), .val (.int (cs.getD j 0)), sl5]) P150 (dc s65 85 rfl) rfl rfl rfl rfl ?_
              refine Own.goto (q := 60) P150 (dc s65 86 rfl) (by decide) ?_
              rw [show (Int32.ofNat j + (1 : Int32)) = Int32.ofNat (j + 1) from (Int32.ofNat_add j 1).symm]
              have hr151 : ((Own.rend (cs.take j)) ++ [(92 : Int32), (110 : Int32)]) = Own.rend (cs.take (j + 1)) := by
                rw [Own.rend_snoc hj]
                unfold Own.rendC
                first | (rw [if_pos q79]; done) | (rw [if_neg q79, if_pos q96]; done) | (rw [if_neg q79, if_neg q96, if_pos q114]; done) | (rw [if_neg q79, if_neg q96, if_neg q114]; simp [List.append_assoc]; done) | simp_all
              have E0_3_152 : Ext h0 h150 := (Own.Ext.kp E0_2_148 K150 (allS gab (allS gtb all0)))
              have Sf153 := (CHr.safe hr146 bA.1.lt hsf)
              have Hd154 := (Own.Hd.kp H146 K150 (sfS (Safe.exa P150.2.2.2.1.alike (bE.ext E146) (by decide) (by decide)) (sfS Sf153 sf0)))
              have Sf155 := (Safe.keep K150 (sfS (Safe.exa P150.2.2.2.1.alike (bE.ext E146) (by decide) (by decide)) (sfS Sf153 sf0)) H146.2.1 Sf153)
              exact ih (j + 1) _ _ (by omega) hj (by (try dsimp only); omega) (by (try dsimp only); omega) _ _ _ _ (.val (.int (cs.getD j 0))) (sl5) _ ab tb kk P150 N150 E0_3_152 Hd154 (Or.inr ⟨_, rfl⟩) hs5 gab gtb Sf155 (by rw [← hr151]; exact Or.inr ⟨E150a, V150, C150, n150, m150, ⟨A150.1, A150.2⟩⟩)
          · refine Own.aloadN (q := 83) P104 (dc s65 44 rfl) rfl rfl rfl ?_
            refine Own.ldcStr (q := 85) (n := 8) (cs := [(92 : Int32), (114 : Int32)]) P104 H21 (dc s65 45 rfl) (wd hw 296 rfl) (fun a ha => hw a (sub_str a ha)) (ew hw) (by decide) (by decide) (Own.chS (by decide) (Own.chS (by decide) Own.ch0)) (by decide) (by decide) (by decide) (by decide) (by decide) (by dsimp only; omega) (by dsimp only; omega) rfl ?_
            intro T156 vm156 h156 a156 P156 H156 hr156 E156 St156
            have hz157 : (Own.rend (cs.take j)).length + ([(92 : Int32), (114 : Int32)] : List Int32).length ≤ (cs.length + 16) := (by have := Own.rtj (cs := cs) (j := j) hjl; (try simp only [List.length_append, List.length_cons, List.length_nil]); omega)
            have hw157 : (Own.rend (cs.take j)).length ≤ (cs.length + 16) := (by have := Own.rtj (cs := cs) (j := j) hjl; (try simp only [List.length_append, List.length_cons, List.length_nil]); omega)
            have E0_2_158 : Ext h0 h156 := (Own.Ext.tr E0_1_97 E156)
            have E1_2_159 : Ext h21 h156 := E156
            refine Own.cV (q := 88) (W := 0) (rest := []) P156 (dc s65 46 rfl) (wd hw 143 rfl) (vw_46 hw) (Own.nfs P156 (wd hw 146 rfl)) (bE.ext E1_2_159) (rmSs1 l Z a0 hw [] ab tb kk (cs.length + 16) (Own.rend (cs.take j)) a156 [(92 : Int32), (114 : Int32)] zc fm h156 n0 (Nat.le_trans Z0 E0_2_158.1) (SC.ext E0_2_158) hzc (SF.ext E0_2_158) hfm (SA.ext E0_2_158) (SH.ext E0_2_158) (SL.ext E0_2_158) (bE.ext E1_2_159) (bV.ext E1_2_159) (bC.ext E1_2_159) (bn.ext E1_2_159) (bm.ext E1_2_159) ⟨(bA.1.ext E1_2_159), bA.2⟩ (by omega) hw157 St156 hz157 (by omega) (by decide) (Nat.le_trans Z0 gab) (Nat.le_trans Z0 gtb)) (by decide) (by decide) rfl (hml rfl) rfl rfl (by dsimp only; omega) (by dsimp only; omega) rfl ?_
            rintro v160 T160 h160 L160 ⟨rfl, N160q, K160, E160a, V160, C160, n160, m160, A160⟩ P160
            have N160 := Fr.app N104 N160q
            refine Own.pop (q := 89) P160 (dc s65 47 rfl) rfl rfl ?_
            refine Own.goto (q := 167) P160 (dc s65 48 rfl) (by decide) ?_
            refine Own.iinc (q := 170) (v := (1 : Int32)) (L2 := #[.val (.ref a9), .val (.int i1), .val (.ref ab), .val (.int ((Int32.ofNat j) + (1 : Int32))), .val (.int (cs.getD j 0)), sl5]) P160 (dc s65 85 rfl) rfl rfl rfl rfl ?_
            refine Own.goto (q := 60) P160 (dc s65 86 rfl) (by decide) ?_
            rw [show (Int32.ofNat j + (1 : Int32)) = Int32.ofNat (j + 1) from (Int32.ofNat_add j 1).symm]
            have hr161 : ((Own.rend (cs.take j)) ++ [(92 : Int32), (114 : Int32)]) = Own.rend (cs.take (j + 1)) := by
              rw [Own.rend_snoc hj]
              unfold Own.rendC
              first | (rw [if_pos q79]; done) | (rw [if_neg q79, if_pos q96]; done) | (rw [if_neg q79, if_neg q96, if_pos q114]; done) | (rw [if_neg q79, if_neg q96, if_neg q114]; simp [List.append_assoc]; done) | simp_all
            have E0_3_162 : Ext h0 h160 := (Own.Ext.kp E0_2_158 K160 (allS gab (allS gtb all0)))
            have Sf163 := (CHr.safe hr156 bA.1.lt hsf)
            have Hd164 := (Own.Hd.kp H156 K160 (sfS (Safe.exa P160.2.2.2.1.alike (bE.ext E156) (by decide) (by decide)) (sfS Sf163 sf0)))
            have Sf165 := (Safe.keep K160 (sfS (Safe.exa P160.2.2.2.1.alike (bE.ext E156) (by decide) (by decide)) (sfS Sf163 sf0)) H156.2.1 Sf163)
            exact ih (j + 1) _ _ (by omega) hj (by (try dsimp only); omega) (by (try dsimp only); omega) _ _ _ _ (.val (.int (cs.getD j 0))) (sl5) _ ab tb kk P160 N160 E0_3_162 Hd164 (Or.inr ⟨_, rfl⟩) hs5 gab gtb Sf165 (by rw [← hr161]; exact Or.inr ⟨E160a, V160, C160, n160, m160, ⟨A160.1, A160.2⟩⟩)
  have t27 : ∀ (i : Nat), i ≤ cs.length → (∀ c ∈ cs.take i, Own.escV c = 0) → ∀ (T166 : State) (lc166 : List Loc), Own.Wk Z "lifestack/util/Lines" prog_57_method_2_code h0 p l e (⟨9, 30, 1200, 145⟩ : Room) (s.setVm s.vm) m #[(.ref a9)] below meth c T166 lc166 0 0 → Fr n0 lc166 → Own.Goes p.tables e below (Own.KEH Z EL (QrmOne Z a9 cs zc fm fi h0 n0) s (⟨9, 30, 1200, 145⟩ : Room).cells (⟨9, 30, 1200, 145⟩ : Room).slots) (T166.setTop (mkF m 27 #[.val (.ref a9), .val (.int (Int32.ofNat i)), .unset, .unset, .unset, .unset] [])) := by
    intro i hi hpre T166 lc166 P166 N166
    refine Own.iloadN (q := 28) P166 (dc s65 13 rfl) rfl rfl ?_
    refine Own.aloadN (q := 29) P166 (dc s65 14 rfl) rfl rfl rfl ?_
    refine Own.cW (q := 32) (W := 1) (rest := [(.int (Int32.ofNat i))]) P166 (dc s65 15 rfl) (wd hw 27 rfl) (vw_24 hw) (Own.nfs P166 (wd hw 30 rfl)) X9.exa (lenT (W := 1) (n0 := n0) P166.2.2.2.1 hw X9 Z0 SC hzc (by decide) (by decide)) rfl (hml rfl) rfl rfl (by decide) (by decide) rfl ?_
    rintro v167 T167 h167 L167 ⟨rfl, N167q, e167⟩ P167
    rw [e167] at P167
    have N167 := Fr.app N166 N167q
    refine Own.icmp_ne (q := 35) (qy := 37) P167 (dc s65 16 rfl) (by decide) rfl (fun q32 => ?_) (fun q32 => ?_)
    · refine Own.newobj (q := 40) P167 (dc s65 19 rfl) (wd hw 74 rfl) (wd hw 75 rfl) (wd hw 76 rfl) (by decide) (by decide) rfl ?_
      intro T168 h168 a168 ha168 P168 E168 A168 D168
      have F168_value : Fld Z h168 a168 "java/lang/AbstractStringBuilder" "value" "[B" .null := D168 (Or.inl (wd hw 89 rfl)) (ty := (.array .byte)) (by decide)
      have F168_coder : Fld Z h168 a168 "java/lang/AbstractStringBuilder" "coder" "B" (.int (0 : Int32)) := D168 (Or.inl (wd hw 91 rfl)) (ty := .byte) (by decide)
      have F168_count : Fld Z h168 a168 "java/lang/AbstractStringBuilder" "count" "I" (.int (0 : Int32)) := D168 (Or.inl (wd hw 115 rfl)) (ty := .int) (by decide)
      have F168_maybeLatin1 : Fld Z h168 a168 "java/lang/AbstractStringBuilder" "maybeLatin1" "Z" (.int (0 : Int32)) := D168 (Or.inl (wd hw 295 rfl)) (ty := .boolean) (by decide)
      refine Own.dup (q := 41) P168 (dc s65 20 rfl) rfl rfl ?_
      refine Own.aloadN (q := 42) P168 (dc s65 21 rfl) rfl rfl rfl ?_
      have E0_1_169 : Ext h0 h168 := E168
      refine Own.cW (q := 45) (W := 2) (rest := [(.ref a168), (.ref a168)]) P168 (dc s65 22 rfl) (wd hw 27 rfl) (vw_24 hw) (Own.nfs P168 (wd hw 30 rfl)) (X9.ext E0_1_169).exa (lenT (W := 2) (n0 := n0) P168.2.2.2.1 hw (X9.ext E0_1_169) (Nat.le_trans Z0 E0_1_169.1) (SC.ext E0_1_169) hzc (by decide) (by decide)) rfl (hml rfl) rfl rfl (by decide) (by decide) rfl ?_
      rintro v170 T170 h170 L170 ⟨rfl, N170q, e170⟩ P170
      rw [e170] at P170
      have N170 := Fr.app N167 N170q
      refine Own.bipush (q := 47) (v := (16 : Int32)) P170 (dc s65 23 rfl) rfl rfl ?_
      refine Own.iadd (q := 48) P170 (dc s65 24 rfl)  rfl ?_
      rw [show ((Int32.ofNat cs.length) + (16 : Int32)) = (Int32.ofNat (cs.length + 16)) from (Int32.ofNat_add cs.length 16).symm]
      refine Own.cI (q := 51) (W := 1) (rest := [(.ref a168)]) P170 (dc s65 25 rfl) (wd hw 77 rfl) (iw_48 hw) (rmSI l Z a0 hw [] a168 .null (.int (0 : Int32)) (cs.length + 16) zc h168 n0 (Nat.le_trans Z0 E0_1_169.1) (SC.ext E0_1_169) hzc A168 F168_value F168_coder F168_count F168_maybeLatin1 (Nat.le_trans Z0 (Nat.le_of_eq ha168.symm)) (by omega)) (by decide) (by decide) rfl (hml rfl) rfl rfl (by decide) (by decide) rfl ?_
      rintro v171 T171 h171 L171 ⟨rfl, N171q, K171, t171, k171, gt171, E171a, V171, C171, n171, m171, A171⟩ P171
      have N171 := Fr.app N170 N171q
      refine Own.aloadN (q := 52) P171 (dc s65 26 rfl) rfl rfl rfl ?_
      refine Own.iconst (q := 53) (v := (0 : Int32)) P171 (dc s65 27 rfl) rfl rfl ?_
      refine Own.iloadN (q := 54) P171 (dc s65 28 rfl) rfl rfl ?_
      have E0_2_172 : Ext h0 h171 := (Own.Ext.kp E0_1_169 K171 (allS (Nat.le_of_eq ha168.symm) all0))
      refine Own.cV (q := 57) (W := 0) (rest := []) P171 (dc s65 29 rfl) (wd hw 92 rfl) (vw_49 hw) (Own.nfs P171 (wd hw 95 rfl)) E171a (rmSq l Z a0 hw [] a168 t171 k171 (cs.length + 16) a9 cs i zc fm fi h171 n0 (Nat.le_trans Z0 E0_2_172.1) (SC.ext E0_2_172) hzc (SF.ext E0_2_172) hfm (SA.ext E0_2_172) (SH.ext E0_2_172) (SL.ext E0_2_172) (SI.ext E0_2_172) hfi E171a V171 C171 n171 m171 A171 (by omega) (by omega) (X9.ext E0_2_172) hi hcl (Nat.le_trans Z0 (Nat.le_of_eq ha168.symm)) (Nat.le_trans Z0 (Nat.le_trans E0_1_169.1 gt171))) (by decide) (by decide) rfl (hml rfl) rfl rfl (by decide) (by decide) rfl ?_
      rintro v173 T173 h173 L173 ⟨rfl, N173q, K173, B173⟩ P173
      have N173 := Fr.app N171 N173q
      rw [show cs.take i = Own.rend (cs.take i) from (Own.rend_id hpre).symm] at B173
      rcases B173 with ⟨E173a, V173, C173, n173, m173, A173, hp173⟩ | ⟨t173, k173, gt173, E173a, V173, C173, n173, m173, A173⟩
      · skip
        refine Own.astoreN (q := 58) (L2 := #[.val (.ref a9), .val (.int (Int32.ofNat i)), .val (.ref a168), .unset, .unset, .unset]) P173 (dc s65 30 rfl) rfl rfl rfl ?_
        refine Own.iloadN (q := 59) P173 (dc s65 31 rfl) rfl rfl ?_
        refine Own.istoreN (q := 60) (L2 := #[.val (.ref a9), .val (.int (Int32.ofNat i)), .val (.ref a168), .val (.int (Int32.ofNat i)), .unset, .unset]) P173 (dc s65 32 rfl) rfl rfl ?_
        have E0_3_174 : Ext h0 h173 := (Own.Ext.kp E0_2_172 K173 (allS (Nat.le_of_eq ha168.symm) (allS (Nat.le_trans E0_1_169.1 gt171) all0)))
        have Hd175 := (H0.ext E0_3_174)
        have Hd176 := (H0.ext E0_1_169)
        have Sf177 := (Safe.keep K171 (sfS (Safe.exa P173.2.2.2.1.alike A168 (by decide) (by decide)) sf0) Hd176.2.1 (Safe.new gt171))
        have Hd178 := (Own.Hd.kp Hd176 K171 (sfS (Safe.exa P173.2.2.2.1.alike A168 (by decide) (by decide)) sf0))
        have Sf179 := (Safe.keep K173 (sfS (Safe.exa P173.2.2.2.1.alike E171a (by decide) (by decide)) (sfS Sf177 sf0)) Hd178.2.1 Sf177)
        exact J (cs.length + 1 - i) i _ _ (by omega) hi (by (try dsimp only); omega) (by (try dsimp only); omega) _ _ _ _ (.unset) (.unset) _ a168 t171 k171 P173 N173 E0_3_174 Hd175 (Or.inl rfl) (Or.inl rfl) (Nat.le_of_eq ha168.symm) (Nat.le_trans E0_1_169.1 gt171) Sf179 (Or.inl ⟨E173a, V173, C173, n173, m173, A173, hp173⟩)
      · skip
        refine Own.astoreN (q := 58) (L2 := #[.val (.ref a9), .val (.int (Int32.ofNat i)), .val (.ref a168), .unset, .unset, .unset]) P173 (dc s65 30 rfl) rfl rfl rfl ?_
        refine Own.iloadN (q := 59) P173 (dc s65 31 rfl) rfl rfl ?_
        refine Own.istoreN (q := 60) (L2 := #[.val (.ref a9), .val (.int (Int32.ofNat i)), .val (.ref a168), .val (.int (Int32.ofNat i)), .unset, .unset]) P173 (dc s65 32 rfl) rfl rfl ?_
        have E0_3_180 : Ext h0 h173 := (Own.Ext.kp E0_2_172 K173 (allS (Nat.le_of_eq ha168.symm) (allS (Nat.le_trans E0_1_169.1 gt171) all0)))
        have Hd181 := (H0.ext E0_3_180)
        have Hd182 := (H0.ext E0_1_169)
        have Sf183 := (Safe.keep K171 (sfS (Safe.exa P173.2.2.2.1.alike A168 (by decide) (by decide)) sf0) Hd182.2.1 (Safe.new gt171))
        have Hd184 := (Own.Hd.kp Hd182 K171 (sfS (Safe.exa P173.2.2.2.1.alike A168 (by decide) (by decide)) sf0))
        have Sf185 := (Safe.keep K173 (sfS (Safe.exa P173.2.2.2.1.alike E171a (by decide) (by decide)) (sfS Sf183 sf0)) Hd184.2.1 (Safe.new gt173))
        exact J (cs.length + 1 - i) i _ _ (by omega) hi (by (try dsimp only); omega) (by (try dsimp only); omega) _ _ _ _ (.unset) (.unset) _ a168 t173 k173 P173 N173 E0_3_180 Hd181 (Or.inl rfl) (Or.inl rfl) (Nat.le_of_eq ha168.symm) (Nat.le_trans E0_2_172.1 gt173) Sf185 (Or.inr ⟨E173a, V173, C173, n173, m173, ⟨A173.1, A173.2⟩⟩)
    · refine Own.aloadN (q := 36) P167 (dc s65 17 rfl) rfl rfl rfl ?_
      refine Own.retAH P167 hh (ew hw) H0 (dc s65 18 rfl) hret rfl rfl rfl hlk (by decide) (by decide) ?_
      exact ⟨a9, rfl, N167, (Own.Ext.rf h0), by rw [Own.rend_id (fun c q => hpre c (by rw [List.take_of_length_le (Nat.le_of_eq (Own.ofNat_inj (by have := hcl; omega) (by have := hcl; omega) q32).symm)]; exact q))]; exact X9⟩
  have l1 : ∀ (kk i : Nat), cs.length ≤ i + kk → i ≤ cs.length → (∀ c ∈ cs.take i, Own.escV c = 0) → ∀ (T186 : State) (lc186 : List Loc), Own.Wk Z "lifestack/util/Lines" prog_57_method_2_code h0 p l e (⟨9, 30, 1200, 145⟩ : Room) (s.setVm s.vm) m #[(.ref a9)] below meth c T186 lc186 0 0 → Fr n0 lc186 → Own.Goes p.tables e below (Own.KEH Z EL (QrmOne Z a9 cs zc fm fi h0 n0) s (⟨9, 30, 1200, 145⟩ : Room).cells (⟨9, 30, 1200, 145⟩ : Room).slots) (T186.setTop (mkF m 2 #[.val (.ref a9), .val (.int (Int32.ofNat i)), .unset, .unset, .unset, .unset] [])) := by
    intro kk
    induction kk with
    | zero =>
      intro i hk hi hpre T186 lc186 P186 N186
      refine Own.iloadN (q := 3) P186 (dc s65 2 rfl) rfl rfl ?_
      refine Own.aloadN (q := 4) P186 (dc s65 3 rfl) rfl rfl rfl ?_
      refine Own.cW (q := 7) (W := 1) (rest := [(.int (Int32.ofNat i))]) P186 (dc s65 4 rfl) (wd hw 27 rfl) (vw_24 hw) (Own.nfs P186 (wd hw 30 rfl)) X9.exa (lenT (W := 1) (n0 := n0) P186.2.2.2.1 hw X9 Z0 SC hzc (by decide) (by decide)) rfl (hml rfl) rfl rfl (by decide) (by decide) rfl ?_
      rintro v187 T187 h187 L187 ⟨rfl, N187q, e187⟩ P187
      rw [e187] at P187
      have N187 := Fr.app N186 N187q
      refine Own.icmp_ge (q := 10) (qy := 27) P187 (dc s65 5 rfl) (by decide) rfl (fun _ => ?_) (fun q => absurd q (by rw [Own.ofNat_lt (by omega) (by omega)]; omega))
      exact t27 i hi hpre _ _ P187 N187
    | succ kk ih =>
      intro i hk hi hpre T186 lc186 P186 N186
      refine Own.iloadN (q := 3) P186 (dc s65 2 rfl) rfl rfl ?_
      refine Own.aloadN (q := 4) P186 (dc s65 3 rfl) rfl rfl rfl ?_
      refine Own.cW (q := 7) (W := 1) (rest := [(.int (Int32.ofNat i))]) P186 (dc s65 4 rfl) (wd hw 27 rfl) (vw_24 hw) (Own.nfs P186 (wd hw 30 rfl)) X9.exa (lenT (W := 1) (n0 := n0) P186.2.2.2.1 hw X9 Z0 SC hzc (by decide) (by decide)) rfl (hml rfl) rfl rfl (by decide) (by decide) rfl ?_
      rintro v188 T188 h188 L188 ⟨rfl, N188q, e188⟩ P188
      rw [e188] at P188
      have N188 := Fr.app N186 N188q
      refine Own.icmp_ge (q := 10) (qy := 27) P188 (dc s65 5 rfl) (by decide) rfl (fun q7 => ?_) (fun q7 => ?_)
      · exact t27 i hi hpre _ _ P188 N188
      · have hi2 : i < cs.length := (Own.ofNat_lt (by omega) (by omega)).mp q7
        refine Own.aloadN (q := 11) P188 (dc s65 6 rfl) rfl rfl rfl ?_
        refine Own.iloadN (q := 12) P188 (dc s65 7 rfl) rfl rfl ?_
        refine Own.cW (q := 15) (W := 0) (rest := []) P188 (dc s65 8 rfl) (wd hw 49 rfl) (vw_27 hw) (Own.nfs P188 (wd hw 52 rfl)) X9.exa (chT (W := 0) (n0 := n0) (i := i) P188.2.2.2.1 hw X9 Z0 SC hzc SF hfm SA SH SL hi2 (by decide) (by decide)) rfl (hml rfl) rfl rfl (by decide) (by decide) rfl ?_
        rintro v189 T189 h189 L189 ⟨rfl, N189q, e189⟩ P189
        rw [e189] at P189
        have N189 := Fr.app N188 N189q
        refine Own.cS (q := 18) (W := 0) (rest := []) P189 (dc s65 9 rfl) (wd hw 71 rfl) (sw_44 hw) (rmEsc l Z a0 hw [] (cs.getD i 0) h0 n0 Z0 ) (by decide) (by decide) rfl (hml rfl) rfl rfl (by decide) (by decide) rfl ?_
        rintro v190 T190 h190 L190 ⟨rfl, N190q, e190⟩ P190
        rw [e190] at P190
        have N190 := Fr.app N189 N190q
        refine Own.if_ne (q := 21) (qy := 27) P190 (dc s65 10 rfl) (by decide) rfl (fun q18 => ?_) (fun q18 => ?_)
        · exact t27 i hi hpre _ _ P190 N190
        · refine Own.iinc (q := 24) (v := (1 : Int32)) (L2 := #[.val (.ref a9), .val (.int ((Int32.ofNat i) + (1 : Int32))), .unset, .unset, .unset, .unset]) P190 (dc s65 11 rfl) rfl rfl rfl rfl ?_
          rw [show (Int32.ofNat i + (1 : Int32)) = Int32.ofNat (i + 1) from (Int32.ofNat_add i 1).symm]
          refine Own.goto (q := 2) P190 (dc s65 12 rfl) (by decide) ?_
          exact ih (i + 1) (by omega) hi2 (Own.esc_take hpre hi2 q18) _ _ P190 N190
  exact l1 cs.length 0 (Nat.le_of_eq (Nat.zero_add _).symm) (Nat.zero_le _) (fun c q => by rw [List.take_zero] at q; nomatch q) _ _ P0 (Fr.nil n0)
theorem s66 : decs method_2_code [(0, .iload_n 0, 1), (1, .bipush 31, 2), (3, .if_icmp .gt 5, 3), (6, .iconst 1, 1), (7, .ireturn, 1), (8, .iload_n 0, 1), (9, .bipush 127, 2), (11, .if_icmp .lt 12, 3), (14, .iload_n 0, 1), (15, .sipush 159, 3), (18, .if_icmp .gt 5, 3), (21, .iconst 1, 1), (22, .ireturn, 1), (23, .iload_n 0, 1), (24, .sipush 8232, 3), (27, .if_icmp .eq 10, 3), (30, .iload_n 0, 1), (31, .sipush 8233, 3), (34, .if_icmp .ne 5, 3), (37, .iconst 1, 1), (38, .ireturn, 1), (39, .iconst 0, 1), (40, .ireturn, 1)] = true := by decide +kernel
theorem pn_45 : plainFor (⟨"lifestack/util/LinesOneLinePinLaw", "esc", "(C)Z"⟩ : MethodName) = true := by first | exact plainFor_of_name (by first | (simp [plainName, overriddenIn]; done) | decide +kernel) | decide +kernel
def QrmLe (Z : State) (c1 : Int32) (h0 : Heap) (n0 : Nat) (v : Option Value) (h : Heap) (L : List Loc) : Prop := v = some (.int (Own.escV c1)) ∧ Fr n0 L ∧ h = h0
theorem rmLe (l : Launch) (Z : State) (a0 : Array Value) (hw : HW a0 Z) (ws : List Jvm.Cond) (c1 : Int32) (h0 : Heap) (n0 : Nat) (Z0 : n0 ≤ h0.size)  :
    Own.MF l Z (⟨"lifestack/util/LinesOneLinePinLaw", "esc", "(C)Z"⟩ : MethodName) method_2_code 1 (some .boolean) ws (⟨0, 0, 0, 0⟩ : Room) #[(.int c1)] h0 (QrmLe Z c1 h0 n0) := by
  refine Own.MF.of (own := "lifestack/util/LinesOneLinePinLaw") (n := 1) rfl rfl pn_45 (fun p e s m below meth c s₁ hml hlk hret hnm P0 => ?_)
  rw [show entryFrame m #[(.int c1)] 1 = mkF m 0 #[.val (.int c1)] [] from by first | (simp [entryFrame, mkF, argsToLocals, Value.category]; done) | rfl]
  refine Own.iloadN (q := 1) P0 (dc s66 0 rfl) rfl rfl ?_
  refine Own.bipush (q := 3) (v := (31 : Int32)) P0 (dc s66 1 rfl) rfl rfl ?_
  refine Own.icmp_gt (q := 6) (qy := 8) P0 (dc s66 2 rfl) (by decide) rfl (fun q3 => ?_) (fun q3 => ?_)
  · refine Own.iloadN (q := 9) P0 (dc s66 5 rfl) rfl rfl ?_
    refine Own.bipush (q := 11) (v := (127 : Int32)) P0 (dc s66 6 rfl) rfl rfl ?_
    refine Own.icmp_lt (q := 14) (qy := 23) P0 (dc s66 7 rfl) (by decide) rfl (fun q11 => ?_) (fun q11 => ?_)
    · refine Own.iloadN (q := 24) P0 (dc s66 13 rfl) rfl rfl ?_
      refine Own.sipush (q := 27) (v := (8232 : Int32)) P0 (dc s66 14 rfl) rfl rfl ?_
      refine Own.icmp_eq (q := 30) (qy := 37) P0 (dc s66 15 rfl) (by decide) rfl (fun q => absurd q11 (by rw [q]; decide)) (fun _ => ?_)
      refine Own.iloadN (q := 31) P0 (dc s66 16 rfl) rfl rfl ?_
      refine Own.sipush (q := 34) (v := (8233 : Int32)) P0 (dc s66 17 rfl) rfl rfl ?_
      refine Own.icmp_ne (q := 37) (qy := 39) P0 (dc s66 18 rfl) (by decide) rfl (fun _ => ?_) (fun q => absurd q11 (by rw [q]; decide))
      refine Own.iconst (q := 40) (v := (0 : Int32)) P0 (dc s66 21 rfl) rfl rfl ?_
      refine Own.retZ P0 (dc s66 22 rfl) hret (by simp) hlk (by decide) (by decide) ?_
      exact ⟨by unfold Own.escV; first | (rw [if_pos (Own.lt32.mp q3)]; rfl) | (rw [if_neg (fun z => Own.lt32.mpr z q3), if_pos q11]; rfl) | (rw [if_neg (fun z => Own.lt32.mpr z q3), if_neg q11, if_pos q18]; rfl) | (rw [if_neg (fun z => Own.lt32.mpr z q3), if_neg q11, if_neg (fun z => z q18), if_pos q27]; rfl) | (rw [if_neg (fun z => Own.lt32.mpr z q3), if_neg q11, if_neg (fun z => z q18), if_neg q27, if_pos q34]; rfl) | (rw [if_neg (fun z => Own.lt32.mpr z q3), if_neg q11, if_neg (fun z => z q18), if_neg q27, if_neg q34]; rfl), (Fr.nil n0), rfl⟩
    · refine Own.iloadN (q := 15) P0 (dc s66 8 rfl) rfl rfl ?_
      refine Own.sipush (q := 18) (v := (159 : Int32)) P0 (dc s66 9 rfl) rfl rfl ?_
      refine Own.icmp_gt (q := 21) (qy := 23) P0 (dc s66 10 rfl) (by decide) rfl (fun q18 => ?_) (fun q18 => ?_)
      · refine Own.iloadN (q := 24) P0 (dc s66 13 rfl) rfl rfl ?_
        refine Own.sipush (q := 27) (v := (8232 : Int32)) P0 (dc s66 14 rfl) rfl rfl ?_
        refine Own.icmp_eq (q := 30) (qy := 37) P0 (dc s66 15 rfl) (by decide) rfl (fun q27 => ?_) (fun q27 => ?_)
        · refine Own.iconst (q := 38) (v := (1 : Int32)) P0 (dc s66 19 rfl) rfl rfl ?_
          refine Own.retZ P0 (dc s66 20 rfl) hret (by simp) hlk (by decide) (by decide) ?_
          exact ⟨by unfold Own.escV; first | (rw [if_pos (Own.lt32.mp q3)]; rfl) | (rw [if_neg (fun z => Own.lt32.mpr z q3), if_pos q11]; rfl) | (rw [if_neg (fun z => Own.lt32.mpr z q3), if_neg q11, if_pos q18]; rfl) | (rw [if_neg (fun z => Own.lt32.mpr z q3), if_neg q11, if_neg (fun z => z q18), if_pos q27]; rfl) | (rw [if_neg (fun z => Own.lt32.mpr z q3), if_neg q11, if_neg (fun z => z q18), if_neg q27, if_pos q34]; rfl) | (rw [if_neg (fun z => Own.lt32.mpr z q3), if_neg q11, if_neg (fun z => z q18), if_neg q27, if_neg q34]; rfl), (Fr.nil n0), rfl⟩
        · refine Own.iloadN (q := 31) P0 (dc s66 16 rfl) rfl rfl ?_
          refine Own.sipush (q := 34) (v := (8233 : Int32)) P0 (dc s66 17 rfl) rfl rfl ?_
          refine Own.icmp_ne (q := 37) (qy := 39) P0 (dc s66 18 rfl) (by decide) rfl (fun q34 => ?_) (fun q34 => ?_)
          · refine Own.iconst (q := 40) (v := (0 : Int32)) P0 (dc s66 21 rfl) rfl rfl ?_
            refine Own.retZ P0 (dc s66 22 rfl) hret (by simp) hlk (by decide) (by decide) ?_
            exact ⟨by unfold Own.escV; first | (rw [if_pos (Own.lt32.mp q3)]; rfl) | (rw [if_neg (fun z => Own.lt32.mpr z q3), if_pos q11]; rfl) | (rw [if_neg (fun z => Own.lt32.mpr z q3), if_neg q11, if_pos q18]; rfl) | (rw [if_neg (fun z => Own.lt32.mpr z q3), if_neg q11, if_neg (fun z => z q18), if_pos q27]; rfl) | (rw [if_neg (fun z => Own.lt32.mpr z q3), if_neg q11, if_neg (fun z => z q18), if_neg q27, if_pos q34]; rfl) | (rw [if_neg (fun z => Own.lt32.mpr z q3), if_neg q11, if_neg (fun z => z q18), if_neg q27, if_neg q34]; rfl), (Fr.nil n0), rfl⟩
          · refine Own.iconst (q := 38) (v := (1 : Int32)) P0 (dc s66 19 rfl) rfl rfl ?_
            refine Own.retZ P0 (dc s66 20 rfl) hret (by simp) hlk (by decide) (by decide) ?_
            exact ⟨by unfold Own.escV; first | (rw [if_pos (Own.lt32.mp q3)]; rfl) | (rw [if_neg (fun z => Own.lt32.mpr z q3), if_pos q11]; rfl) | (rw [if_neg (fun z => Own.lt32.mpr z q3), if_neg q11, if_pos q18]; rfl) | (rw [if_neg (fun z => Own.lt32.mpr z q3), if_neg q11, if_neg (fun z => z q18), if_pos q27]; rfl) | (rw [if_neg (fun z => Own.lt32.mpr z q3), if_neg q11, if_neg (fun z => z q18), if_neg q27, if_pos q34]; rfl) | (rw [if_neg (fun z => Own.lt32.mpr z q3), if_neg q11, if_neg (fun z => z q18), if_neg q27, if_neg q34]; rfl), (Fr.nil n0), rfl⟩
      · refine Own.iconst (q := 22) (v := (1 : Int32)) P0 (dc s66 11 rfl) rfl rfl ?_
        refine Own.retZ P0 (dc s66 12 rfl) hret (by simp) hlk (by decide) (by decide) ?_
        exact ⟨by unfold Own.escV; first | (rw [if_pos (Own.lt32.mp q3)]; rfl) | (rw [if_neg (fun z => Own.lt32.mpr z q3), if_pos q11]; rfl) | (rw [if_neg (fun z => Own.lt32.mpr z q3), if_neg q11, if_pos q18]; rfl) | (rw [if_neg (fun z => Own.lt32.mpr z q3), if_neg q11, if_neg (fun z => z q18), if_pos q27]; rfl) | (rw [if_neg (fun z => Own.lt32.mpr z q3), if_neg q11, if_neg (fun z => z q18), if_neg q27, if_pos q34]; rfl) | (rw [if_neg (fun z => Own.lt32.mpr z q3), if_neg q11, if_neg (fun z => z q18), if_neg q27, if_neg q34]; rfl), (Fr.nil n0), rfl⟩
  · refine Own.iconst (q := 7) (v := (1 : Int32)) P0 (dc s66 3 rfl) rfl rfl ?_
    refine Own.retZ P0 (dc s66 4 rfl) hret (by simp) hlk (by decide) (by decide) ?_
    exact ⟨by unfold Own.escV; first | (rw [if_pos (Own.lt32.mp q3)]; rfl) | (rw [if_neg (fun z => Own.lt32.mpr z q3), if_pos q11]; rfl) | (rw [if_neg (fun z => Own.lt32.mpr z q3), if_neg q11, if_pos q18]; rfl) | (rw [if_neg (fun z => Own.lt32.mpr z q3), if_neg q11, if_neg (fun z => z q18), if_pos q27]; rfl) | (rw [if_neg (fun z => Own.lt32.mpr z q3), if_neg q11, if_neg (fun z => z q18), if_neg q27, if_pos q34]; rfl) | (rw [if_neg (fun z => Own.lt32.mpr z q3), if_neg q11, if_neg (fun z => z q18), if_neg q27, if_neg q34]; rfl), (Fr.nil n0), rfl⟩
theorem s67 : decs method_4_code [(0, .iload_n 0, 1), (1, .bipush 10, 2), (3, .if_icmp .ge 9, 3), (6, .bipush 48, 2), (8, .iload_n 0, 1), (9, .iadd, 1), (10, .i2c, 1), (11, .ireturn, 1), (12, .bipush 97, 2), (14, .iload_n 0, 1), (15, .bipush 10, 2), (17, .isub, 1), (18, .iadd, 1), (19, .i2c, 1), (20, .ireturn, 1)] = true := by decide +kernel
theorem pn_47 : plainFor (⟨"lifestack/util/LinesOneLinePinLaw", "hex", "(I)C"⟩ : MethodName) = true := by first | exact plainFor_of_name (by first | (simp [plainName, overriddenIn]; done) | decide +kernel) | decide +kernel
def QrmLh (Z : State) (d1 : Int32) (h0 : Heap) (n0 : Nat) (v : Option Value) (h : Heap) (L : List Loc) : Prop := v = some (.int (Own.hxV d1)) ∧ Fr n0 L ∧ h = h0
theorem rmLh (l : Launch) (Z : State) (a0 : Array Value) (hw : HW a0 Z) (ws : List Jvm.Cond) (d1 : Int32) (h0 : Heap) (n0 : Nat) (Z0 : n0 ≤ h0.size) (hd : ¬ d1 < 0 ∧ d1 < 16) :
    Own.MF l Z (⟨"lifestack/util/LinesOneLinePinLaw", "hex", "(I)C"⟩ : MethodName) method_4_code 1 (some .char) ws (⟨0, 0, 0, 0⟩ : Room) #[(.int d1)] h0 (QrmLh Z d1 h0 n0) := by
  refine Own.MF.of (own := "lifestack/util/LinesOneLinePinLaw") (n := 1) rfl rfl pn_47 (fun p e s m below meth c s₁ hml hlk hret hnm P0 => ?_)
  rw [show entryFrame m #[(.int d1)] 1 = mkF m 0 #[.val (.int d1)] [] from by first | (simp [entryFrame, mkF, argsToLocals, Value.category]; done) | rfl]
  refine Own.iloadN (q := 1) P0 (dc s67 0 rfl) rfl rfl ?_
  refine Own.bipush (q := 3) (v := (10 : Int32)) P0 (dc s67 1 rfl) rfl rfl ?_
  refine Own.icmp_ge (q := 6) (qy := 12) P0 (dc s67 2 rfl) (by decide) rfl (fun q3 => ?_) (fun q3 => ?_)
  · refine Own.bipush (q := 14) (v := (97 : Int32)) P0 (dc s67 8 rfl) rfl rfl ?_
    refine Own.iloadN (q := 15) P0 (dc s67 9 rfl) rfl rfl ?_
    refine Own.bipush (q := 17) (v := (10 : Int32)) P0 (dc s67 10 rfl) rfl rfl ?_
    refine Own.isub (q := 18) P0 (dc s67 11 rfl)  rfl ?_
    refine Own.iadd (q := 19) P0 (dc s67 12 rfl)  rfl ?_
    refine Own.i2cV (q := 20) (v := ((97 : Int32) + (d1 - (10 : Int32)))) P0 (dc s67 13 rfl) (Own.i2c_id (by rw [Own.hx_law]; exact Own.hx_hi hd)) rfl ?_
    refine Own.retZ P0 (dc s67 14 rfl) hret (by simp) hlk (by decide) (by decide) ?_
    exact ⟨by unfold Own.hxV; first | (rw [if_pos q3]; exact congrArg (fun x => some (Value.int x)) (Own.nar_id (Own.hx_lo hd q3))) | (rw [if_neg q3, ← Own.hx_law]; exact congrArg (fun x => some (Value.int x)) (Own.nar_id (by rw [Own.hx_law]; exact Own.hx_hi hd))), (Fr.nil n0), rfl⟩
  · refine Own.bipush (q := 8) (v := (48 : Int32)) P0 (dc s67 3 rfl) rfl rfl ?_
    refine Own.iloadN (q := 9) P0 (dc s67 4 rfl) rfl rfl ?_
    refine Own.iadd (q := 10) P0 (dc s67 5 rfl)  rfl ?_
    refine Own.i2cV (q := 11) (v := ((48 : Int32) + d1)) P0 (dc s67 6 rfl) (Own.i2c_id (Own.hx_lo hd q3)) rfl ?_
    refine Own.retZ P0 (dc s67 7 rfl) hret (by simp) hlk (by decide) (by decide) ?_
    exact ⟨by unfold Own.hxV; first | (rw [if_pos q3]; exact congrArg (fun x => some (Value.int x)) (Own.nar_id (Own.hx_lo hd q3))) | (rw [if_neg q3, ← Own.hx_law]; exact congrArg (fun x => some (Value.int x)) (Own.nar_id (by rw [Own.hx_law]; exact Own.hx_hi hd))), (Fr.nil n0), rfl⟩
theorem sw_50 {Z : State} {a0 : Array Value} (hw : HW a0 Z) : Own.SW Z a0 ⟨"lifestack/util/LinesOneLinePinLaw", "esc", "(C)Z"⟩ method_2_code 1 (some .boolean) 1 := ⟨(wd hw 232 rfl), (wd hw 229 rfl), (wd hw 233 rfl), by decide, _, _, pd_15, rfl⟩
theorem s68 : decs method_3_code [(0, .iload_n 0, 1), (1, .bipush 13, 2), (3, .if_icmp .eq 9, 3), (6, .iload_n 0, 1), (7, .bipush 10, 2), (9, .if_icmp .ne 5, 3), (12, .iconst 2, 1), (13, .ireturn, 1), (14, .iload_n 0, 1), (15, .invokestatic 7, 3), (18, .ifCond .eq 6, 3), (21, .bipush 6, 2), (23, .ireturn, 1), (24, .iconst 1, 1), (25, .ireturn, 1)] = true := by decide +kernel
theorem pn_44 : plainFor (⟨"lifestack/util/LinesOneLinePinLaw", "width", "(C)I"⟩ : MethodName) = true := by first | exact plainFor_of_name (by first | (simp [plainName, overriddenIn]; done) | decide +kernel) | decide +kernel
def QrmLw (Z : State) (c1 : Int32) (h0 : Heap) (n0 : Nat) (v : Option Value) (h : Heap) (L : List Loc) : Prop := v = some (.int (Int32.ofNat (Own.rendC c1).length)) ∧ Fr n0 L ∧ h = h0
theorem rmLw (l : Launch) (Z : State) (a0 : Array Value) (hw : HW a0 Z) (ws : List Jvm.Cond) (c1 : Int32) (h0 : Heap) (n0 : Nat) (Z0 : n0 ≤ h0.size)  :
    Own.MF l Z (⟨"lifestack/util/LinesOneLinePinLaw", "width", "(C)I"⟩ : MethodName) method_3_code 1 (some .int) ws (⟨1, 0, 0, 12⟩ : Room) #[(.int c1)] h0 (QrmLw Z c1 h0 n0) := by
  refine Own.MF.of (own := "lifestack/util/LinesOneLinePinLaw") (n := 1) rfl rfl pn_44 (fun p e s m below meth c s₁ hml hlk hret hnm P0 => ?_)
  rw [show entryFrame m #[(.int c1)] 1 = mkF m 0 #[.val (.int c1)] [] from by first | (simp [entryFrame, mkF, argsToLocals, Value.category]; done) | rfl]
  refine Own.iloadN (q := 1) P0 (dc s68 0 rfl) rfl rfl ?_
  refine Own.bipush (q := 3) (v := (13 : Int32)) P0 (dc s68 1 rfl) rfl rfl ?_
  refine Own.icmp_eq (q := 6) (qy := 12) P0 (dc s68 2 rfl) (by decide) rfl (fun q3 => ?_) (fun q3 => ?_)
  · refine Own.iconst (q := 13) (v := (2 : Int32)) P0 (dc s68 6 rfl) rfl rfl ?_
    refine Own.retI P0 (dc s68 7 rfl) hret hlk (by decide) (by decide) ?_
    exact ⟨by unfold Own.rendC; first | (rw [if_pos q3]; rfl) | (rw [if_neg q3, if_pos q9]; rfl) | (rw [if_neg q3, if_neg q9, if_pos q18]; rfl) | (rw [if_neg q3, if_neg q9, if_neg q18]; rfl), (Fr.nil n0), rfl⟩
  · refine Own.iloadN (q := 7) P0 (dc s68 3 rfl) rfl rfl ?_
    refine Own.bipush (q := 9) (v := (10 : Int32)) P0 (dc s68 4 rfl) rfl rfl ?_
    refine Own.icmp_ne (q := 12) (qy := 14) P0 (dc s68 5 rfl) (by decide) rfl (fun q9 => ?_) (fun q9 => ?_)
    · refine Own.iloadN (q := 15) P0 (dc s68 8 rfl) rfl rfl ?_
      refine Own.cS (q := 18) (W := 0) (rest := []) P0 (dc s68 9 rfl) (wd hw 231 rfl) (sw_50 hw) (rmLe l Z a0 hw [] c1 h0 n0 Z0 ) (by decide) (by decide) rfl (hml rfl) rfl rfl (by decide) (by decide) rfl ?_
      rintro v21 T21 h21 L21 ⟨rfl, N21q, e21⟩ P21
      rw [e21] at P21
      have N21 := Fr.app (Fr.nil n0) N21q
      refine Own.if_eq (q := 21) (qy := 24) P21 (dc s68 10 rfl) (by decide) rfl (fun q18 => ?_) (fun q18 => ?_)
      · refine Own.iconst (q := 25) (v := (1 : Int32)) P21 (dc s68 13 rfl) rfl rfl ?_
        refine Own.retI P21 (dc s68 14 rfl) hret hlk (by decide) (by decide) ?_
        exact ⟨by unfold Own.rendC; first | (rw [if_pos q3]; rfl) | (rw [if_neg q3, if_pos q9]; rfl) | (rw [if_neg q3, if_neg q9, if_pos q18]; rfl) | (rw [if_neg q3, if_neg q9, if_neg q18]; rfl), N21, rfl⟩
      · refine Own.bipush (q := 23) (v := (6 : Int32)) P21 (dc s68 11 rfl) rfl rfl ?_
        refine Own.retI P21 (dc s68 12 rfl) hret hlk (by decide) (by decide) ?_
        exact ⟨by unfold Own.rendC; first | (rw [if_pos q3]; rfl) | (rw [if_neg q3, if_pos q9]; rfl) | (rw [if_neg q3, if_neg q9, if_pos q18]; rfl) | (rw [if_neg q3, if_neg q9, if_neg q18]; rfl), N21, rfl⟩
    · refine Own.iconst (q := 13) (v := (2 : Int32)) P0 (dc s68 6 rfl) rfl rfl ?_
      refine Own.retI P0 (dc s68 7 rfl) hret hlk (by decide) (by decide) ?_
      exact ⟨by unfold Own.rendC; first | (rw [if_pos q3]; rfl) | (rw [if_neg q3, if_pos q9]; rfl) | (rw [if_neg q3, if_neg q9, if_pos q18]; rfl) | (rw [if_neg q3, if_neg q9, if_neg q18]; rfl), (Fr.nil n0), rfl⟩
theorem sw_51 {Z : State} {a0 : Array Value} (hw : HW a0 Z) : Own.SW Z a0 ⟨"lifestack/util/LinesOneLinePinLaw", "hex", "(I)C"⟩ method_4_code 1 (some .char) 1 := ⟨(wd hw 239 rfl), (wd hw 229 rfl), (wd hw 240 rfl), by decide, _, _, pd_24, rfl⟩
theorem s69 : decs method_5_code [(0, .iload_n 2, 1), (1, .bipush 13, 2), (3, .if_icmp .ne 31, 3), (6, .aload_n 0, 1), (7, .iload_n 1, 1), (8, .invokevirtual 13, 3), (11, .bipush 92, 2), (13, .if_icmp .ne 19, 3), (16, .aload_n 0, 1), (17, .iload_n 1, 1), (18, .iconst 1, 1), (19, .iadd, 1), (20, .invokevirtual 13, 3), (23, .bipush 114, 2), (25, .if_icmp .ne 7, 3), (28, .iconst 1, 1), (29, .goto 4, 3), (33, .ireturn, 1), (34, .iload_n 2, 1), (35, .bipush 10, 2), (37, .if_icmp .ne 31, 3), (40, .aload_n 0, 1), (41, .iload_n 1, 1), (42, .invokevirtual 13, 3), (45, .bipush 92, 2), (47, .if_icmp .ne 19, 3), (50, .aload_n 0, 1), (51, .iload_n 1, 1), (52, .iconst 1, 1), (53, .iadd, 1), (54, .invokevirtual 13, 3), (57, .bipush 110, 2), (59, .if_icmp .ne 7, 3), (62, .iconst 1, 1), (63, .goto 4, 3), (67, .ireturn, 1), (68, .iload_n 2, 1), (69, .invokestatic 7, 3), (72, .ifCond .eq 107, 3), (75, .aload_n 0, 1), (76, .iload_n 1, 1), (77, .invokevirtual 13, 3), (80, .bipush 92, 2), (82, .if_icmp .ne 95, 3), (85, .aload_n 0, 1), (86, .iload_n 1, 1), (87, .iconst 1, 1), (88, .iadd, 1), (89, .invokevirtual 13, 3), (92, .bipush 117, 2), (94, .if_icmp .ne 83, 3), (97, .aload_n 0, 1), (98, .iload_n 1, 1), (99, .iconst 2, 1), (100, .iadd, 1), (101, .invokevirtual 13, 3), (104, .iload_n 2, 1), (105, .bipush 12, 2), (107, .ishr, 1), (108, .bipush 15, 2), (110, .iand, 1), (111, .invokestatic 19, 3), (114, .if_icmp .ne 63, 3), (117, .aload_n 0, 1), (118, .iload_n 1, 1), (119, .iconst 3, 1), (120, .iadd, 1), (121, .invokevirtual 13, 3), (124, .iload_n 2, 1), (125, .bipush 8, 2), (127, .ishr, 1), (128, .bipush 15, 2), (130, .iand, 1), (131, .invokestatic 19, 3), (134, .if_icmp .ne 43, 3), (137, .aload_n 0, 1), (138, .iload_n 1, 1), (139, .iconst 4, 1), (140, .iadd, 1), (141, .invokevirtual 13, 3), (144, .iload_n 2, 1), (145, .iconst 4, 1), (146, .ishr, 1), (147, .bipush 15, 2), (149, .iand, 1), (150, .invokestatic 19, 3), (153, .if_icmp .ne 24, 3), (156, .aload_n 0, 1), (157, .iload_n 1, 1), (158, .iconst 5, 1), (159, .iadd, 1), (160, .invokevirtual 13, 3), (163, .iload_n 2, 1), (164, .bipush 15, 2), (166, .iand, 1), (167, .invokestatic 19, 3), (170, .if_icmp .ne 7, 3), (173, .iconst 1, 1), (174, .goto 4, 3), (178, .ireturn, 1), (179, .aload_n 0, 1), (180, .iload_n 1, 1), (181, .invokevirtual 13, 3), (184, .iload_n 2, 1), (185, .if_icmp .ne 7, 3), (188, .iconst 1, 1), (189, .goto 4, 3), (193, .ireturn, 1)] = true := by decide +kernel
theorem pn_46 : plainFor (⟨"lifestack/util/LinesOneLinePinLaw", "check", "(Ljava/lang/String;IC)Z"⟩ : MethodName) = true := by first | exact plainFor_of_name (by first | (simp [plainName, overriddenIn]; done) | decide +kernel) | decide +kernel
def QrmCk (Z : State) (a1 : Addr) (rs : List Int32) (oo : Nat) (c1 : Int32) (zc : Int32) (fm : Value) (h0 : Heap) (n0 : Nat) (v : Option Value) (h : Heap) (L : List Loc) : Prop := v = some (.int 1) ∧ Fr n0 L ∧ h = h0
theorem rmCk (l : Launch) (Z : State) (a0 : Array Value) (hw : HW a0 Z) (ws : List Jvm.Cond) (a1 : Addr) (rs : List Int32) (oo : Nat) (c1 : Int32) (zc : Int32) (fm : Value) (h0 : Heap) (n0 : Nat) (Z0 : n0 ≤ h0.size) (SC : Own.Cst Z h0 zc) (hzc : ¬ zc = 0) (SF : Own.Fst Z h0 fm) (hfm : fm.isRef = true) (SA : Own.Ads Z h0) (SH : Own.Hib Z h0) (SL : Own.Lob Z h0) (X1 : Own.TX Z h0 a1 rs) (hlen : oo + (Own.rendC c1).length ≤ rs.length) (hat : ∀ k, k < (Own.rendC c1).length → rs.getD (oo + k) 0 = (Own.rendC c1).getD k 0) :
    Own.MF l Z (⟨"lifestack/util/LinesOneLinePinLaw", "check", "(Ljava/lang/String;IC)Z"⟩ : MethodName) method_5_code 3 (some .boolean) ws (⟨5, 0, 0, 68⟩ : Room) #[(.ref a1), (.int (Int32.ofNat oo)), (.int c1)] h0 (QrmCk Z a1 rs oo c1 zc fm h0 n0) := by
  refine Own.MF.of (own := "lifestack/util/LinesOneLinePinLaw") (n := 3) rfl rfl pn_46 (fun p e s m below meth c s₁ hml hlk hret hnm P0 => ?_)
  rw [show entryFrame m #[(.ref a1), (.int (Int32.ofNat oo)), (.int c1)] 3 = mkF m 0 #[.val (.ref a1), .val (.int (Int32.ofNat oo)), .val (.int c1)] [] from by first | (simp [entryFrame, mkF, argsToLocals, Value.category]; done) | rfl]
  refine Own.iloadN (q := 1) P0 (dc s69 0 rfl) rfl rfl ?_
  refine Own.bipush (q := 3) (v := (13 : Int32)) P0 (dc s69 1 rfl) rfl rfl ?_
  refine Own.icmp_ne (q := 6) (qy := 34) P0 (dc s69 2 rfl) (by decide) rfl (fun q3 => ?_) (fun q3 => ?_)
  · refine Own.iloadN (q := 35) P0 (dc s69 18 rfl) rfl rfl ?_
    refine Own.bipush (q := 37) (v := (10 : Int32)) P0 (dc s69 19 rfl) rfl rfl ?_
    refine Own.icmp_ne (q := 40) (qy := 68) P0 (dc s69 20 rfl) (by decide) rfl (fun q37 => ?_) (fun q37 => ?_)
    · refine Own.iloadN (q := 69) P0 (dc s69 36 rfl) rfl rfl ?_
      refine Own.cS (q := 72) (W := 0) (rest := []) P0 (dc s69 37 rfl) (wd hw 231 rfl) (sw_50 hw) (rmLe l Z a0 hw [] c1 h0 n0 Z0 ) (by decide) (by decide) rfl (hml rfl) rfl rfl (by decide) (by decide) rfl ?_
      rintro v21 T21 h21 L21 ⟨rfl, N21q, e21⟩ P21
      rw [e21] at P21
      have N21 := Fr.app (Fr.nil n0) N21q
      refine Own.if_eq (q := 75) (qy := 179) P21 (dc s69 38 rfl) (by decide) rfl (fun q72 => ?_) (fun q72 => ?_)
      · have hr : Own.rendC c1 = [c1] := by unfold Own.rendC; rw [if_neg q3, if_neg q37, if_pos q72]
        rw [hr] at hlen hat
        refine Own.aloadN (q := 180) P21 (dc s69 100 rfl) rfl rfl rfl ?_
        refine Own.iloadN (q := 181) P21 (dc s69 101 rfl) rfl rfl ?_
        refine Own.cW (q := 184) (W := 0) (rest := []) P21 (dc s69 102 rfl) (wd hw 237 rfl) (vw_27 hw) (Own.nfs P21 (wd hw 52 rfl)) X1.exa (chT (W := 0) (n0 := n0) (i := oo) P21.2.2.2.1 hw X1 Z0 SC hzc SF hfm SA SH SL (by have := hlen; simp at this; omega) (by decide) (by decide)) rfl (hml rfl) rfl rfl (by decide) (by decide) rfl ?_
        rintro v22 T22 h22 L22 ⟨rfl, N22q, e22⟩ P22
        rw [e22] at P22
        have N22 := Fr.app N21 N22q
        refine Own.iloadN (q := 185) P22 (dc s69 103 rfl) rfl rfl ?_
        refine Own.icmp_ne (q := 188) (qy := 192) P22 (dc s69 104 rfl) (by decide) rfl (fun q => absurd (by exact hat 0 (Own.ltb rfl)) q) (fun _ => ?_)
        refine Own.iconst (q := 189) (v := (1 : Int32)) P22 (dc s69 105 rfl) rfl rfl ?_
        refine Own.goto (q := 193) P22 (dc s69 106 rfl) (by decide) ?_
        refine Own.retZ P22 (dc s69 107 rfl) hret (by simp) hlk (by decide) (by decide) ?_
        exact ⟨rfl, N22, rfl⟩
      · have hr : Own.rendC c1 = [92, 117, Own.hxV ((c1 >>> ((12 : Int32) &&& 31)) &&& (15 : Int32)), Own.hxV ((c1 >>> ((8 : Int32) &&& 31)) &&& (15 : Int32)), Own.hxV ((c1 >>> ((4 : Int32) &&& 31)) &&& (15 : Int32)), Own.hxV ((c1 >>> ((0 : Int32) &&& 31)) &&& (15 : Int32))] := by unfold Own.rendC; rw [if_neg q3, if_neg q37, if_neg q72]
        rw [hr] at hlen hat
        refine Own.aloadN (q := 76) P21 (dc s69 39 rfl) rfl rfl rfl ?_
        refine Own.iloadN (q := 77) P21 (dc s69 40 rfl) rfl rfl ?_
        refine Own.cW (q := 80) (W := 0) (rest := []) P21 (dc s69 41 rfl) (wd hw 237 rfl) (vw_27 hw) (Own.nfs P21 (wd hw 52 rfl)) X1.exa (chT (W := 0) (n0 := n0) (i := oo) P21.2.2.2.1 hw X1 Z0 SC hzc SF hfm SA SH SL (by have := hlen; simp at this; omega) (by decide) (by decide)) rfl (hml rfl) rfl rfl (by decide) (by decide) rfl ?_
        rintro v23 T23 h23 L23 ⟨rfl, N23q, e23⟩ P23
        rw [e23] at P23
        have N23 := Fr.app N21 N23q
        refine Own.bipush (q := 82) (v := (92 : Int32)) P23 (dc s69 42 rfl) rfl rfl ?_
        refine Own.icmp_ne (q := 85) (qy := 177) P23 (dc s69 43 rfl) (by decide) rfl (fun q => absurd (by exact hat 0 (Own.ltb rfl)) q) (fun _ => ?_)
        refine Own.aloadN (q := 86) P23 (dc s69 44 rfl) rfl rfl rfl ?_
        refine Own.iloadN (q := 87) P23 (dc s69 45 rfl) rfl rfl ?_
        refine Own.iconst (q := 88) (v := (1 : Int32)) P23 (dc s69 46 rfl) rfl rfl ?_
        refine Own.iadd (q := 89) P23 (dc s69 47 rfl)  rfl ?_
        rw [show ((Int32.ofNat oo) + (1 : Int32)) = (Int32.ofNat (oo + 1)) from (Int32.ofNat_add oo 1).symm]
        refine Own.cW (q := 92) (W := 0) (rest := []) P23 (dc s69 48 rfl) (wd hw 237 rfl) (vw_27 hw) (Own.nfs P23 (wd hw 52 rfl)) X1.exa (chT (W := 0) (n0 := n0) (i := (oo + 1)) P23.2.2.2.1 hw X1 Z0 SC hzc SF hfm SA SH SL (by have := hlen; simp at this; omega) (by decide) (by decide)) rfl (hml rfl) rfl rfl (by decide) (by decide) rfl ?_
        rintro v24 T24 h24 L24 ⟨rfl, N24q, e24⟩ P24
        rw [e24] at P24
        have N24 := Fr.app N23 N24q
        refine Own.bipush (q := 94) (v := (117 : Int32)) P24 (dc s69 49 rfl) rfl rfl ?_
        refine Own.icmp_ne (q := 97) (qy := 177) P24 (dc s69 50 rfl) (by decide) rfl (fun q => absurd (by exact hat 1 (Own.ltb rfl)) q) (fun _ => ?_)
        refine Own.aloadN (q := 98) P24 (dc s69 51 rfl) rfl rfl rfl ?_
        refine Own.iloadN (q := 99) P24 (dc s69 52 rfl) rfl rfl ?_
        refine Own.iconst (q := 100) (v := (2 : Int32)) P24 (dc s69 53 rfl) rfl rfl ?_
        refine Own.iadd (q := 101) P24 (dc s69 54 rfl)  rfl ?_
        rw [show ((Int32.ofNat oo) + (2 : Int32)) = (Int32.ofNat (oo + 2)) from (Int32.ofNat_add oo 2).symm]
        refine Own.cW (q := 104) (W := 0) (rest := []) P24 (dc s69 55 rfl) (wd hw 237 rfl) (vw_27 hw) (Own.nfs P24 (wd hw 52 rfl)) X1.exa (chT (W := 0) (n0 := n0) (i := (oo + 2)) P24.2.2.2.1 hw X1 Z0 SC hzc SF hfm SA SH SL (by have := hlen; simp at this; omega) (by decide) (by decide)) rfl (hml rfl) rfl rfl (by decide) (by decide) rfl ?_
        rintro v25 T25 h25 L25 ⟨rfl, N25q, e25⟩ P25
        rw [e25] at P25
        have N25 := Fr.app N24 N25q
        refine Own.iloadN (q := 105) P25 (dc s69 56 rfl) rfl rfl ?_
        refine Own.bipush (q := 107) (v := (12 : Int32)) P25 (dc s69 57 rfl) rfl rfl ?_
        refine Own.ishr (q := 108) P25 (dc s69 58 rfl)  rfl ?_
        refine Own.bipush (q := 110) (v := (15 : Int32)) P25 (dc s69 59 rfl) rfl rfl ?_
        refine Own.iand (q := 111) P25 (dc s69 60 rfl)  rfl ?_
        refine Own.cS (q := 114) (W := 1) (rest := [(.int (rs.getD (oo + 2) 0))]) P25 (dc s69 61 rfl) (wd hw 238 rfl) (sw_51 hw) (rmLh l Z a0 hw [] ((c1 >>> ((12 : Int32) &&& 31)) &&& (15 : Int32)) h0 n0 Z0 (Own.dg _ _)) (by decide) (by decide) rfl (hml rfl) rfl rfl (by decide) (by decide) rfl ?_
        rintro v26 T26 h26 L26 ⟨rfl, N26q, e26⟩ P26
        rw [e26] at P26
        have N26 := Fr.app N25 N26q
        refine Own.icmp_ne (q := 117) (qy := 177) P26 (dc s69 62 rfl) (by decide) rfl (fun q => absurd (by exact hat 2 (Own.ltb rfl)) q) (fun _ => ?_)
        refine Own.aloadN (q := 118) P26 (dc s69 63 rfl) rfl rfl rfl ?_
        refine Own.iloadN (q := 119) P26 (dc s69 64 rfl) rfl rfl ?_
        refine Own.iconst (q := 120) (v := (3 : Int32)) P26 (dc s69 65 rfl) rfl rfl ?_
        refine Own.iadd (q := 121) P26 (dc s69 66 rfl)  rfl ?_
        rw [show ((Int32.ofNat oo) + (3 : Int32)) = (Int32.ofNat (oo + 3)) from (Int32.ofNat_add oo 3).symm]
        refine Own.cW (q := 124) (W := 0) (rest := []) P26 (dc s69 67 rfl) (wd hw 237 rfl) (vw_27 hw) (Own.nfs P26 (wd hw 52 rfl)) X1.exa (chT (W := 0) (n0 := n0) (i := (oo + 3)) P26.2.2.2.1 hw X1 Z0 SC hzc SF hfm SA SH SL (by have := hlen; simp at this; omega) (by decide) (by decide)) rfl (hml rfl) rfl rfl (by decide) (by decide) rfl ?_
        rintro v27 T27 h27 L27 ⟨rfl, N27q, e27⟩ P27
        rw [e27] at P27
        have N27 := Fr.app N26 N27q
        refine Own.iloadN (q := 125) P27 (dc s69 68 rfl) rfl rfl ?_
        refine Own.bipush (q := 127) (v := (8 : Int32)) P27 (dc s69 69 rfl) rfl rfl ?_
        refine Own.ishr (q := 128) P27 (dc s69 70 rfl)  rfl ?_
        refine Own.bipush (q := 130) (v := (15 : Int32)) P27 (dc s69 71 rfl) rfl rfl ?_
        refine Own.iand (q := 131) P27 (dc s69 72 rfl)  rfl ?_
        refine Own.cS (q := 134) (W := 1) (rest := [(.int (rs.getD (oo + 3) 0))]) P27 (dc s69 73 rfl) (wd hw 238 rfl) (sw_51 hw) (rmLh l Z a0 hw [] ((c1 >>> ((8 : Int32) &&& 31)) &&& (15 : Int32)) h0 n0 Z0 (Own.dg _ _)) (by decide) (by decide) rfl (hml rfl) rfl rfl (by decide) (by decide) rfl ?_
        rintro v28 T28 h28 L28 ⟨rfl, N28q, e28⟩ P28
        rw [e28] at P28
        have N28 := Fr.app N27 N28q
        refine Own.icmp_ne (q := 137) (qy := 177) P28 (dc s69 74 rfl) (by decide) rfl (fun q => absurd (by exact hat 3 (Own.ltb rfl)) q) (fun _ => ?_)
        refine Own.aloadN (q := 138) P28 (dc s69 75 rfl) rfl rfl rfl ?_
        refine Own.iloadN (q := 139) P28 (dc s69 76 rfl) rfl rfl ?_
        refine Own.iconst (q := 140) (v := (4 : Int32)) P28 (dc s69 77 rfl) rfl rfl ?_
        refine Own.iadd (q := 141) P28 (dc s69 78 rfl)  rfl ?_
        rw [show ((Int32.ofNat oo) + (4 : Int32)) = (Int32.ofNat (oo + 4)) from (Int32.ofNat_add oo 4).symm]
        refine Own.cW (q := 144) (W := 0) (rest := []) P28 (dc s69 79 rfl) (wd hw 237 rfl) (vw_27 hw) (Own.nfs P28 (wd hw 52 rfl)) X1.exa (chT (W := 0) (n0 := n0) (i := (oo + 4)) P28.2.2.2.1 hw X1 Z0 SC hzc SF hfm SA SH SL (by have := hlen; simp at this; omega) (by decide) (by decide)) rfl (hml rfl) rfl rfl (by decide) (by decide) rfl ?_
        rintro v29 T29 h29 L29 ⟨rfl, N29q, e29⟩ P29
        rw [e29] at P29
        have N29 := Fr.app N28 N29q
        refine Own.iloadN (q := 145) P29 (dc s69 80 rfl) rfl rfl ?_
        refine Own.iconst (q := 146) (v := (4 : Int32)) P29 (dc s69 81 rfl) rfl rfl ?_
        refine Own.ishr (q := 147) P29 (dc s69 82 rfl)  rfl ?_
        refine Own.bipush (q := 149) (v := (15 : Int32)) P29 (dc s69 83 rfl) rfl rfl ?_
        refine Own.iand (q := 150) P29 (dc s69 84 rfl)  rfl ?_
        refine Own.cS (q := 153) (W := 1) (rest := [(.int (rs.getD (oo + 4) 0))]) P29 (dc s69 85 rfl) (wd hw 238 rfl) (sw_51 hw) (rmLh l Z a0 hw [] ((c1 >>> ((4 : Int32) &&& 31)) &&& (15 : Int32)) h0 n0 Z0 (Own.dg _ _)) (by decide) (by decide) rfl (hml rfl) rfl rfl (by decide) (by decide) rfl ?_
        rintro v30 T30 h30 L30 ⟨rfl, N30q, e30⟩ P30
        rw [e30] at P30
        have N30 := Fr.app N29 N30q
        refine Own.icmp_ne (q := 156) (qy := 177) P30 (dc s69 86 rfl) (by decide) rfl (fun q => absurd (by exact hat 4 (Own.ltb rfl)) q) (fun _ => ?_)
        refine Own.aloadN (q := 157) P30 (dc s69 87 rfl) rfl rfl rfl ?_
        refine Own.iloadN (q := 158) P30 (dc s69 88 rfl) rfl rfl ?_
        refine Own.iconst (q := 159) (v := (5 : Int32)) P30 (dc s69 89 rfl) rfl rfl ?_
        refine Own.iadd (q := 160) P30 (dc s69 90 rfl)  rfl ?_
        rw [show ((Int32.ofNat oo) + (5 : Int32)) = (Int32.ofNat (oo + 5)) from (Int32.ofNat_add oo 5).symm]
        refine Own.cW (q := 163) (W := 0) (rest := []) P30 (dc s69 91 rfl) (wd hw 237 rfl) (vw_27 hw) (Own.nfs P30 (wd hw 52 rfl)) X1.exa (chT (W := 0) (n0 := n0) (i := (oo + 5)) P30.2.2.2.1 hw X1 Z0 SC hzc SF hfm SA SH SL (by have := hlen; simp at this; omega) (by decide) (by decide)) rfl (hml rfl) rfl rfl (by decide) (by decide) rfl ?_
        rintro v31 T31 h31 L31 ⟨rfl, N31q, e31⟩ P31
        rw [e31] at P31
        have N31 := Fr.app N30 N31q
        refine Own.iloadN (q := 164) P31 (dc s69 92 rfl) rfl rfl ?_
        refine Own.bipush (q := 166) (v := (15 : Int32)) P31 (dc s69 93 rfl) rfl rfl ?_
        refine Own.iand (q := 167) P31 (dc s69 94 rfl)  rfl ?_
        refine Own.cS (q := 170) (W := 1) (rest := [(.int (rs.getD (oo + 5) 0))]) P31 (dc s69 95 rfl) (wd hw 238 rfl) (sw_51 hw) (rmLh l Z a0 hw [] (c1 &&& (15 : Int32)) h0 n0 Z0 (by rw [Own.dg0]; exact Own.dg _ _)) (by decide) (by decide) rfl (hml rfl) rfl rfl (by decide) (by decide) rfl ?_
        rintro v32 T32 h32 L32 ⟨rfl, N32q, e32⟩ P32
        rw [e32] at P32
        have N32 := Fr.app N31 N32q
        refine Own.icmp_ne (q := 173) (qy := 177) P32 (dc s69 96 rfl) (by decide) rfl (fun q => absurd (by rw [Own.dg0]; exact hat 5 (Own.ltb rfl)) q) (fun _ => ?_)
        refine Own.iconst (q := 174) (v := (1 : Int32)) P32 (dc s69 97 rfl) rfl rfl ?_
        refine Own.goto (q := 178) P32 (dc s69 98 rfl) (by decide) ?_
        refine Own.retZ P32 (dc s69 99 rfl) hret (by simp) hlk (by decide) (by decide) ?_
        exact ⟨rfl, N32, rfl⟩
    · have hr : Own.rendC c1 = [92, 110] := by unfold Own.rendC; rw [if_neg q3, if_pos q37]
      rw [hr] at hlen hat
      refine Own.aloadN (q := 41) P0 (dc s69 21 rfl) rfl rfl rfl ?_
      refine Own.iloadN (q := 42) P0 (dc s69 22 rfl) rfl rfl ?_
      refine Own.cW (q := 45) (W := 0) (rest := []) P0 (dc s69 23 rfl) (wd hw 237 rfl) (vw_27 hw) (Own.nfs P0 (wd hw 52 rfl)) X1.exa (chT (W := 0) (n0 := n0) (i := oo) P0.2.2.2.1 hw X1 Z0 SC hzc SF hfm SA SH SL (by have := hlen; simp at this; omega) (by decide) (by decide)) rfl (hml rfl) rfl rfl (by decide) (by decide) rfl ?_
      rintro v33 T33 h33 L33 ⟨rfl, N33q, e33⟩ P33
      rw [e33] at P33
      have N33 := Fr.app (Fr.nil n0) N33q
      refine Own.bipush (q := 47) (v := (92 : Int32)) P33 (dc s69 24 rfl) rfl rfl ?_
      refine Own.icmp_ne (q := 50) (qy := 66) P33 (dc s69 25 rfl) (by decide) rfl (fun q => absurd (by exact hat 0 (Own.ltb rfl)) q) (fun _ => ?_)
      refine Own.aloadN (q := 51) P33 (dc s69 26 rfl) rfl rfl rfl ?_
      refine Own.iloadN (q := 52) P33 (dc s69 27 rfl) rfl rfl ?_
      refine Own.iconst (q := 53) (v := (1 : Int32)) P33 (dc s69 28 rfl) rfl rfl ?_
      refine Own.iadd (q := 54) P33 (dc s69 29 rfl)  rfl ?_
      rw [show ((Int32.ofNat oo) + (1 : Int32)) = (Int32.ofNat (oo + 1)) from (Int32.ofNat_add oo 1).symm]
      refine Own.cW (q := 57) (W := 0) (rest := []) P33 (dc s69 30 rfl) (wd hw 237 rfl) (vw_27 hw) (Own.nfs P33 (wd hw 52 rfl)) X1.exa (chT (W := 0) (n0 := n0) (i := (oo + 1)) P33.2.2.2.1 hw X1 Z0 SC hzc SF hfm SA SH SL (by have := hlen; simp at this; omega) (by decide) (by decide)) rfl (hml rfl) rfl rfl (by decide) (by decide) rfl ?_
      rintro v34 T34 h34 L34 ⟨rfl, N34q, e34⟩ P34
      rw [e34] at P34
      have N34 := Fr.app N33 N34q
      refine Own.bipush (q := 59) (v := (110 : Int32)) P34 (dc s69 31 rfl) rfl rfl ?_
      refine Own.icmp_ne (q := 62) (qy := 66) P34 (dc s69 32 rfl) (by decide) rfl (fun q => absurd (by exact hat 1 (Own.ltb rfl)) q) (fun _ => ?_)
      refine Own.iconst (q := 63) (v := (1 : Int32)) P34 (dc s69 33 rfl) rfl rfl ?_
      refine Own.goto (q := 67) P34 (dc s69 34 rfl) (by decide) ?_
      refine Own.retZ P34 (dc s69 35 rfl) hret (by simp) hlk (by decide) (by decide) ?_
      exact ⟨rfl, N34, rfl⟩
  · have hr : Own.rendC c1 = [92, 114] := by unfold Own.rendC; rw [if_pos q3]
    rw [hr] at hlen hat
    refine Own.aloadN (q := 7) P0 (dc s69 3 rfl) rfl rfl rfl ?_
    refine Own.iloadN (q := 8) P0 (dc s69 4 rfl) rfl rfl ?_
    refine Own.cW (q := 11) (W := 0) (rest := []) P0 (dc s69 5 rfl) (wd hw 237 rfl) (vw_27 hw) (Own.nfs P0 (wd hw 52 rfl)) X1.exa (chT (W := 0) (n0 := n0) (i := oo) P0.2.2.2.1 hw X1 Z0 SC hzc SF hfm SA SH SL (by have := hlen; simp at this; omega) (by decide) (by decide)) rfl (hml rfl) rfl rfl (by decide) (by decide) rfl ?_
    rintro v35 T35 h35 L35 ⟨rfl, N35q, e35⟩ P35
    rw [e35] at P35
    have N35 := Fr.app (Fr.nil n0) N35q
    refine Own.bipush (q := 13) (v := (92 : Int32)) P35 (dc s69 6 rfl) rfl rfl ?_
    refine Own.icmp_ne (q := 16) (qy := 32) P35 (dc s69 7 rfl) (by decide) rfl (fun q => absurd (by exact hat 0 (Own.ltb rfl)) q) (fun _ => ?_)
    refine Own.aloadN (q := 17) P35 (dc s69 8 rfl) rfl rfl rfl ?_
    refine Own.iloadN (q := 18) P35 (dc s69 9 rfl) rfl rfl ?_
    refine Own.iconst (q := 19) (v := (1 : Int32)) P35 (dc s69 10 rfl) rfl rfl ?_
    refine Own.iadd (q := 20) P35 (dc s69 11 rfl)  rfl ?_
    rw [show ((Int32.ofNat oo) + (1 : Int32)) = (Int32.ofNat (oo + 1)) from (Int32.ofNat_add oo 1).symm]
    refine Own.cW (q := 23) (W := 0) (rest := []) P35 (dc s69 12 rfl) (wd hw 237 rfl) (vw_27 hw) (Own.nfs P35 (wd hw 52 rfl)) X1.exa (chT (W := 0) (n0 := n0) (i := (oo + 1)) P35.2.2.2.1 hw X1 Z0 SC hzc SF hfm SA SH SL (by have := hlen; simp at this; omega) (by decide) (by decide)) rfl (hml rfl) rfl rfl (by decide) (by decide) rfl ?_
    rintro v36 T36 h36 L36 ⟨rfl, N36q, e36⟩ P36
    rw [e36] at P36
    have N36 := Fr.app N35 N36q
    refine Own.bipush (q := 25) (v := (114 : Int32)) P36 (dc s69 13 rfl) rfl rfl ?_
    refine Own.icmp_ne (q := 28) (qy := 32) P36 (dc s69 14 rfl) (by decide) rfl (fun q => absurd (by exact hat 1 (Own.ltb rfl)) q) (fun _ => ?_)
    refine Own.iconst (q := 29) (v := (1 : Int32)) P36 (dc s69 15 rfl) rfl rfl ?_
    refine Own.goto (q := 33) P36 (dc s69 16 rfl) (by decide) ?_
    refine Own.retZ P36 (dc s69 17 rfl) hret (by simp) hlk (by decide) (by decide) ?_
    exact ⟨rfl, N36, rfl⟩
namespace Own
theorem lt4 (y : Int32) : (y &&& 3) = 0 ∨ (y &&& 3) = 1 ∨ (y &&& 3) = 2 ∨ (y &&& 3) = 3 := by
  have h := c_mask y 3 2 (by decide) (by decide)
  have k0 : (0 : Int32).toInt = 0 := rfl
  have k1 : (1 : Int32).toInt = 1 := rfl
  have k2 : (2 : Int32).toInt = 2 := rfl
  have k3 : (3 : Int32).toInt = 3 := rfl
  have e : ∀ a b : Int32, a = b ↔ a.toInt = b.toInt := fun a b => Int32.toInt_inj.symm
  rw [e, e, e, e]
  omega
theorem ch_mask (x : Int32) : Ch (x &&& 65535) := by
  have h := c_mask x 65535 16 (by decide) (by decide)
  unfold Ch
  rw [Int32.lt_iff_toInt_lt, Int32.lt_iff_toInt_lt]
  have k0 : (0 : Int32).toInt = 0 := rfl
  have k1 : (65535 : Int32).toInt = 65535 := rfl
  omega
theorem fits16 {x : Int32} (h : Ch x) : fits .char (.int x) = true := by
  have q := fits_nar_char x
  rwa [nar_id16 h] at q
theorem rl1 (a : Int32) : Int32.ofNat (rend [a]).length = (Int32.ofNat (rendC a).length + 0) + 0 := by
  rw [show (rend [a]).length = (rendC a).length by simp [rend], Int32.add_zero, Int32.add_zero]
theorem rl2 (a b : Int32) : Int32.ofNat (rend [a, b]).length = (Int32.ofNat (rendC a).length + Int32.ofNat (rendC b).length) + 0 := by
  rw [show (rend [a, b]).length = (rendC a).length + (rendC b).length by simp [rend], Int32.add_zero, Int32.ofNat_add]
theorem rl3 (a b c : Int32) : Int32.ofNat (rend [a, b, c]).length = (Int32.ofNat (rendC a).length + Int32.ofNat (rendC b).length) + Int32.ofNat (rendC c).length := by
  rw [show (rend [a, b, c]).length = (rendC a).length + (rendC b).length + (rendC c).length by simp [rend, Nat.add_assoc], Int32.ofNat_add, Int32.ofNat_add]
theorem rend_cons (c : Int32) (cs : List Int32) : rend (c :: cs) = rendC c ++ rend cs := by
  unfold rend
  rw [List.flatMap_cons]
theorem ck {rs : List Int32} {oo : Nat} (P q S : List Int32) (h : rs = P ++ (q ++ S)) (ho : oo = P.length) : oo + q.length ≤ rs.length ∧ ∀ k, k < q.length → rs.getD (oo + k) 0 = q.getD k 0 := by
  subst h ho
  refine ⟨by simp only [List.length_append]; omega, fun k hk => ?_⟩
  rw [List.getD_eq_getElem?_getD, List.getD_eq_getElem?_getD, List.getElem?_append_right (by omega), List.getElem?_append_left (by omega)]
  simp
end Own
theorem s70 : decs jdk_42_method_149_code [(8, .aload_n 0, 1), (9, .ldc 7, 2), (11, .getfield 9, 3), (14, .putfield 9, 3), (17, .aload_n 0, 1), (18, .ldc 7, 2), (20, .getfield 15, 3), (23, .putfield 15, 3), (26, .return_, 1)] = true := by decide +kernel
def QrmE4 (Z : State) (a1 : Addr) (b1 : Addr) (u1 : Value) (u2 : Value) (h0 : Heap) (n0 : Nat) (v : Option Value) (h : Heap) (L : List Loc) : Prop := v = none ∧ Fr n0 L ∧ Keep h0 h [a1] ∧ Own.Str Z h a1 []
theorem rmE4 (l : Launch) (Z : State) (a0 : Array Value) (hw : HW a0 Z) (ws : List Jvm.Cond) (a1 : Addr) (b1 : Addr) (u1 : Value) (u2 : Value) (h0 : Heap) (n0 : Nat) (Z0 : n0 ≤ h0.size) (E_a1 : Exa Z h0 a1 "java/lang/String") (f1 : Fld Z h0 a1 "java/lang/String" "value" "[B" u1) (f2 : Fld Z h0 a1 "java/lang/String" "coder" "B" u2) (g_a1 : n0 ≤ a1) :
    Own.MFH l Z EL (⟨"java/lang/String", "<init>", "([CIILjava/lang/Void;)V"⟩ : MethodName) jdk_42_method_149_code 6 none ws (⟨1, 4, 8, 12⟩ : Room) #[(.ref a1), (.ref b1), (.int (0 : Int32)), (.int (0 : Int32)), .null] [a1] h0 (QrmE4 Z a1 b1 u1 u2 h0 n0) := by
  refine Own.MFH.of (own := "java/lang/String") (n := 6) rfl rfl pn_2 (fun p e s m below meth c s₁ hml hlk hret hnm hh H0 hSf P0 => ?_)
  rw [show entryFrame m #[(.ref a1), (.ref b1), (.int (0 : Int32)), (.int (0 : Int32)), .null] 6 = mkF m 0 #[.val (.ref a1), .val (.ref b1), .val (.int (0 : Int32)), .val (.int (0 : Int32)), .val .null, .unset] [] from by first | (simp [entryFrame, mkF, argsToLocals, Value.category]; done) | rfl]
  refine Own.aloadN (q := 1) P0 (dc s61 0 rfl) rfl rfl rfl ?_
  refine Own.objinit (q := 4) (W := 0) P0 (dc s61 1 rfl) (wd hw 12 rfl) (wd hw 13 rfl) (wd hw 14 rfl) (hml rfl) (by decide) (Own.w0 rfl) (by decide) rfl ?_
  intro T21 P21
  refine Own.iloadN (q := 5) P21 (dc s61 2 rfl) rfl rfl ?_
  refine Own.if_ne (q := 8) (qy := 27) P21 (dc s61 3 rfl) (by decide) rfl (fun q => absurd rfl q) (fun _ => ?_)
  refine Own.aloadN (q := 9) P21 (dc s70 0 rfl) rfl rfl rfl ?_
  refine Own.ldcStr (q := 11) (n := 0) (cs := []) P21 H0 (dc s70 1 rfl) (wd hw 15 rfl) (fun a ha => hw a (sub_str a ha)) (ew hw) (by decide) (by decide) Own.ch0 (by decide) (by decide) (by decide) (by decide) (by decide) (by decide) (by decide) rfl ?_
  intro T22 vm22 h22 a22 P22 H22 hr22 E22 St22
  obtain ⟨⟨t23, kb23, y23a, y23v, y23c, y23b⟩, -, -⟩ := id St22
  refine Own.getfield (q := 14) P22 (dc s70 2 rfl) (wd hw 21 rfl) y23v rfl ?_
  intro T24 P24
  have E0_1_25 : Ext h0 h22 := E22
  refine Own.putfield (q := 17) P24 (dc s70 3 rfl) (wd hw 21 rfl) (f1.ext E0_1_25) (E_a1.ext E0_1_25) (Or.inr ⟨(wd hw 17 rfl), rfl, hnm⟩) (wd hw 3 rfl) (ty := (.array .byte)) (by decide) rfl rfl rfl ?_
  intro T26 h26 lc26 hl26 P26 W26
  have c26_t23 := y23b.other W26 (Ne.symm (Exa.neArv (E_a1.ext E0_1_25) y23b (wd hw 3 rfl)))
  have F26_value := Fld.same W26 (f1.ext E0_1_25)
  have F26_coder := (f2.ext E0_1_25).other W26 (Or.inr (slot_ne (Or.inr (wd hw 18 rfl)) (Or.inr (wd hw 17 rfl)) (by decide) (t := .byte) (t' := (.array .byte)) (by decide) (by decide)))
  have A26 := (E_a1.ext E0_1_25).wr W26
  have N26 := Own.Fr.one (Fr.nil n0) hl26 g_a1
  refine Own.aloadN (q := 18) P26 (dc s70 4 rfl) rfl rfl rfl ?_
  have Hd27 := (Own.Hd.wr H22 W26 (CHr.safe H22.2 E_a1.lt (hSf _ (by simp))))
  refine Own.ldcStr (q := 20) (n := 0) (cs := []) P26 Hd27 (dc s70 5 rfl) (wd hw 15 rfl) (fun a ha => hw a (sub_str a ha)) (ew hw) (by decide) (by decide) Own.ch0 (by decide) (by decide) (by decide) (by decide) (by decide) (by decide) (by decide) rfl ?_
  intro T28 vm28 h28 a28 P28 H28 hr28 E28 St28
  obtain ⟨⟨t29, kb29, y29a, y29v, y29c, y29b⟩, -, -⟩ := id St28
  refine Own.getfield (q := 23) P28 (dc s70 6 rfl) (wd hw 22 rfl) y29c rfl ?_
  intro T30 P30
  have E2_3_31 : Ext h26 h28 := E28
  refine Own.putfield (q := 26) P30 (dc s70 7 rfl) (wd hw 22 rfl) (F26_coder.ext E2_3_31) (A26.ext E2_3_31) (Or.inr ⟨(wd hw 18 rfl), rfl, hnm⟩) (wd hw 3 rfl) (ty := .byte) (by decide) rfl rfl rfl ?_
  intro T32 h32 lc32 hl32 P32 W32
  have c32_t23 := (c26_t23.ext E2_3_31).other W32 (Ne.symm (Exa.neArv (A26.ext E2_3_31) (c26_t23.ext E2_3_31) (wd hw 3 rfl)))
  have F32_value := (F26_value.ext E2_3_31).other W32 (Or.inr (slot_ne (Or.inr (wd hw 17 rfl)) (Or.inr (wd hw 18 rfl)) (by decide) (t := (.array .byte)) (t' := .byte) (by decide) (by decide)))
  have F32_coder := Fld.same W32 (F26_coder.ext E2_3_31)
  have A32 := (A26.ext E2_3_31).wr W32
  have N32 := Own.Fr.one N26 hl32 g_a1
  have Hd33 := (Own.Hd.wr H28 W32 (CHr.safe H28.2 E_a1.lt (hSf _ (by simp))))
  refine Own.retVH P32 hh (ew hw) Hd33 (dc s70 8 rfl) hret hlk (by decide) (by decide) ?_
  exact ⟨rfl, N32, (Keep.wr (Keep.ext (Keep.wr (Keep.ext (Keep.refl h0 _) E22) W26 (Or.inl (by simp))) E28) W32 (Or.inl (by simp))), ⟨t23, _, A32, F32_value, F32_coder, c32_t23⟩, Own.ch0, by decide⟩

def QrmE1 (Z : State) (a1 : Addr) (b1 : Addr) (kc : ClassId) (u1 : Value) (u2 : Value) (d1 : Value) (h0 : Heap) (n0 : Nat) (v : Option Value) (h : Heap) (L : List Loc) : Prop := v = none ∧ Fr n0 L ∧ Keep h0 h [a1] ∧ Own.Str Z h a1 []
theorem rmE1 (l : Launch) (Z : State) (a0 : Array Value) (hw : HW a0 Z) (ws : List Jvm.Cond) (a1 : Addr) (b1 : Addr) (kc : ClassId) (u1 : Value) (u2 : Value) (d1 : Value) (h0 : Heap) (n0 : Nat) (Z0 : n0 ≤ h0.size) (E_a1 : Exa Z h0 a1 "java/lang/String") (f1 : Fld Z h0 a1 "java/lang/String" "value" "[B" u1) (f2 : Fld Z h0 a1 "java/lang/String" "coder" "B" u2) (g_a1 : n0 ≤ a1) (A_b1 : Arv Z h0 b1 kc .char 0 [] d1) :
    Own.MFH l Z EL (⟨"java/lang/String", "<init>", "([C)V"⟩ : MethodName) jdk_42_method_3_code 2 none ws (⟨2, 4, 8, 29⟩ : Room) #[(.ref a1), (.ref b1)] [a1] h0 (QrmE1 Z a1 b1 kc u1 u2 d1 h0 n0) := by
  refine Own.MFH.of (own := "java/lang/String") (n := 2) rfl rfl pn_1 (fun p e s m below meth c s₁ hml hlk hret hnm hh H0 hSf P0 => ?_)
  rw [show entryFrame m #[(.ref a1), (.ref b1)] 2 = mkF m 0 #[.val (.ref a1), .val (.ref b1)] [] from by first | (simp [entryFrame, mkF, argsToLocals, Value.category]; done) | rfl]
  refine Own.aloadN (q := 1) P0 (dc s62 0 rfl) rfl rfl rfl ?_
  refine Own.aloadN (q := 2) P0 (dc s62 1 rfl) rfl rfl rfl ?_
  refine Own.iconst (q := 3) (v := (0 : Int32)) P0 (dc s62 2 rfl) rfl rfl ?_
  refine Own.aloadN (q := 4) P0 (dc s62 3 rfl) rfl rfl rfl ?_
  refine Own.arraylength (q := 5) P0 (dc s62 4 rfl) A_b1 rfl ?_
  refine Own.aconst (q := 6) P0 (dc s62 5 rfl)  rfl ?_
  refine Own.cIH (q := 9) (W := 0) (rest := []) P0 H0 (dc s62 6 rfl) (wd hw 8 rfl) (iw_42 hw) (rmE4 l Z a0 hw [] a1 b1 u1 u2 h0 n0 Z0 E_a1 f1 f2 g_a1) (ew hw) (allS ⟨E_a1.lt, (CHr.safe H0.2 E_a1.lt (hSf _ (by simp)))⟩ all0) (by decide) (by decide) rfl (hml rfl) rfl rfl (by decide) (by decide) rfl ?_
  rintro v21 T21 vm21 h21 L21 ⟨rfl, N21q, K21, St21⟩ P21 H21 hr21
  have N21 := Fr.app (Fr.nil n0) N21q
  refine Own.retVH P21 hh (ew hw) H21 (dc s62 7 rfl) hret hlk (by decide) (by decide) ?_
  exact ⟨rfl, N21, K21, St21⟩
theorem pd_40 : parseMethodDescriptor "([C)V" = some ⟨[(.array .char)], none⟩ := by decide +kernel
theorem iw_52 {Z : State} {a0 : Array Value} (hw : HW a0 Z) : Own.IW Z a0 ⟨"java/lang/String", "<init>", "([C)V"⟩ jdk_42_method_3_code 2 1 := ⟨rfl, (wd hw 6 rfl), (wd hw 4 rfl), (wd hw 7 rfl), by decide, _, _, pd_40, rfl⟩
theorem pd_41 : parseMethodDescriptor "(Ljava/lang/String;)Ljava/lang/String;" = some ⟨[(.object "java/lang/String")], some (.object "java/lang/String")⟩ := by decide +kernel
theorem sw_53 {Z : State} {a0 : Array Value} (hw : HW a0 Z) : Own.SW Z a0 ⟨"lifestack/util/Lines", "oneLine", "(Ljava/lang/String;)Ljava/lang/String;"⟩ prog_57_method_2_code 6 (some (.object "java/lang/String")) 1 := ⟨(wd hw 24 rfl), (wd hw 25 rfl), (wd hw 26 rfl), by decide, _, _, pd_41, rfl⟩
theorem pd_42 : parseMethodDescriptor "(Ljava/lang/String;IC)Z" = some ⟨[(.object "java/lang/String"), .int, .char], some .boolean⟩ := by decide +kernel
theorem sw_54 {Z : State} {a0 : Array Value} (hw : HW a0 Z) : Own.SW Z a0 ⟨"lifestack/util/LinesOneLinePinLaw", "check", "(Ljava/lang/String;IC)Z"⟩ method_5_code 3 (some .boolean) 3 := ⟨(wd hw 235 rfl), (wd hw 229 rfl), (wd hw 236 rfl), by decide, _, _, pd_42, rfl⟩
theorem pd_43 : parseMethodDescriptor "(C)I" = some ⟨[.char], some .int⟩ := by decide +kernel
theorem sw_55 {Z : State} {a0 : Array Value} (hw : HW a0 Z) : Own.SW Z a0 ⟨"lifestack/util/LinesOneLinePinLaw", "width", "(C)I"⟩ method_3_code 1 (some .int) 1 := ⟨(wd hw 228 rfl), (wd hw 229 rfl), (wd hw 230 rfl), by decide, _, _, pd_43, rfl⟩
theorem pn_0 : plainFor x = true := by first | exact plainFor_of_name (by first | (simp [plainName, overriddenIn]; done) | decide +kernel) | decide +kernel
def QrmLaw (Z : State) (x0 : Int32) (x1 : Int32) (x2 : Int32) (x3 : Int32) (zc : Int32) (fm : Value) (fi : Value) (h0 : Heap) (n0 : Nat) (v : Option Value) (h : Heap) (L : List Loc) : Prop := v = some (.int 1) ∧ Fr n0 L
theorem rmLaw (l : Launch) (Z : State) (a0 : Array Value) (hw : HW a0 Z) (ws : List Jvm.Cond) (x0 : Int32) (x1 : Int32) (x2 : Int32) (x3 : Int32) (zc : Int32) (fm : Value) (fi : Value) (h0 : Heap) (n0 : Nat) (Z0 : n0 ≤ h0.size) (SC : Own.Cst Z h0 zc) (hzc : ¬ zc = 0) (SF : Own.Fst Z h0 fm) (hfm : fm.isRef = true) (SA : Own.Ads Z h0) (SH : Own.Hib Z h0) (SL : Own.Lob Z h0) (SI : Sta Z h0 "jdk/internal/util/Preconditions" "IOOBE_FORMATTER" "Ljava/util/function/BiFunction;" fi) (hfi : fi.isRef = true) :
    Own.MFH l Z EL x code maxLocals ret ws room_1 #[(.int x0), (.int x1), (.int x2), (.int x3)] [] h0 (QrmLaw Z x0 x1 x2 x3 zc fm fi h0 n0) := by
  refine Own.MFH.of (own := "lifestack/util/LinesOneLinePinLaw") (n := 14) rfl rfl pn_0 (fun p e s m below meth c s₁ hml hlk hret hnm hh H0 hSf P0 => ?_)
  rw [show entryFrame m #[(.int x0), (.int x1), (.int x2), (.int x3)] maxLocals = mkF m 0 #[.val (.int x0), .val (.int x1), .val (.int x2), .val (.int x3), .unset, .unset, .unset, .unset, .unset, .unset, .unset, .unset, .unset, .unset] [] from by first | (simp [entryFrame, mkF, argsToLocals, Value.category, maxLocals]; done) | rfl]
  refine Own.iloadN (q := 1) P0 at_0 rfl rfl ?_
  refine Own.iconst (q := 2) (v := (3 : Int32)) P0 at_1 rfl rfl ?_
  refine Own.iand (q := 3) P0 at_2  rfl ?_
  refine Own.istore (q := 5) (L2 := #[.val (.int x0), .val (.int x1), .val (.int x2), .val (.int x3), .val (.int (x0 &&& (3 : Int32))), .unset, .unset, .unset, .unset, .unset, .unset, .unset, .unset, .unset]) P0 at_3 rfl rfl ?_
  rcases Own.lt4 x0 with q4 | q4 | q4 | q4
  · rw [q4]
    refine Own.iload (q := 7) P0 at_5 rfl rfl ?_
    refine Own.iconst (q := 8) (v := (3 : Int32)) P0 at_7 rfl rfl ?_
    refine Own.icmp_ne (q := 11) (qy := 20) P0 at_8 (by decide) rfl (fun _ => ?_) (fun q => absurd q (by decide))
    refine Own.iloadN (q := 21) P0 at_20 rfl rfl ?_
    refine Own.ldcI (q := 23) (v := (65535 : Int32)) P0 at_21 (wd hw 0 rfl) rfl ?_
    refine Own.iand (q := 24) P0 at_23  rfl ?_
    refine Own.i2cV (q := 25) (v := (x1 &&& (65535 : Int32))) P0 at_24 (Own.i2c_id16 (Own.ch_mask _)) rfl ?_
    have hc0 := Own.ch_mask x1
    generalize (x1 &&& (65535 : Int32)) = c0 at hc0 ⊢
    refine Own.istore (q := 27) (L2 := #[.val (.int x0), .val (.int x1), .val (.int x2), .val (.int x3), .val (.int (0 : Int32)), .val (.int c0), .unset, .unset, .unset, .unset, .unset, .unset, .unset, .unset]) P0 at_25 rfl rfl ?_
    refine Own.iloadN (q := 28) P0 at_27 rfl rfl ?_
    refine Own.ldcI (q := 30) (v := (65535 : Int32)) P0 at_28 (wd hw 0 rfl) rfl ?_
    refine Own.iand (q := 31) P0 at_30  rfl ?_
    refine Own.i2cV (q := 32) (v := (x2 &&& (65535 : Int32))) P0 at_31 (Own.i2c_id16 (Own.ch_mask _)) rfl ?_
    have hc1 := Own.ch_mask x2
    generalize (x2 &&& (65535 : Int32)) = c1 at hc1 ⊢
    refine Own.istore (q := 34) (L2 := #[.val (.int x0), .val (.int x1), .val (.int x2), .val (.int x3), .val (.int (0 : Int32)), .val (.int c0), .val (.int c1), .unset, .unset, .unset, .unset, .unset, .unset, .unset]) P0 at_32 rfl rfl ?_
    refine Own.iloadN (q := 35) P0 at_34 rfl rfl ?_
    refine Own.ldcI (q := 37) (v := (65535 : Int32)) P0 at_35 (wd hw 0 rfl) rfl ?_
    refine Own.iand (q := 38) P0 at_37  rfl ?_
    refine Own.i2cV (q := 39) (v := (x3 &&& (65535 : Int32))) P0 at_38 (Own.i2c_id16 (Own.ch_mask _)) rfl ?_
    have hc2 := Own.ch_mask x3
    generalize (x3 &&& (65535 : Int32)) = c2 at hc2 ⊢
    refine Own.istore (q := 41) (L2 := #[.val (.int x0), .val (.int x1), .val (.int x2), .val (.int x3), .val (.int (0 : Int32)), .val (.int c0), .val (.int c1), .val (.int c2), .unset, .unset, .unset, .unset, .unset, .unset]) P0 at_39 rfl rfl ?_
    refine Own.iload (q := 43) P0 at_41 rfl rfl ?_
    refine Own.newarr (q := 45) (cap := 0) P0 at_43 (wd hw 1 rfl) (by decide) (by decide) (by decide) (by decide) (by decide) rfl ?_
    intro T21 h21 a21 k21 ha21 P21 E21 A21
    have V21 : Arv Z h21 a21 k21 .char (0 : Int32) [] (.int 0) := Arv.pad A21 (pad_rep [] _ 0)
    refine Own.astore (q := 47) (L2 := #[.val (.int x0), .val (.int x1), .val (.int x2), .val (.int x3), .val (.int (0 : Int32)), .val (.int c0), .val (.int c1), .val (.int c2), .val (.ref a21), .unset, .unset, .unset, .unset, .unset]) P21 at_45 rfl rfl rfl ?_
    refine Own.iload (q := 49) P21 at_47 rfl rfl ?_
    refine Own.if_le (q := 52) (qy := 58) P21 at_49 (by decide) rfl (fun _ => ?_) (fun q => absurd q (by decide))
    refine Own.iload (q := 60) P21 at_58 rfl rfl ?_
    refine Own.iconst (q := 61) (v := (1 : Int32)) P21 at_60 rfl rfl ?_
    refine Own.icmp_le (q := 64) (qy := 70) P21 at_61 (by decide) rfl (fun _ => ?_) (fun q => absurd q (by decide))
    refine Own.iload (q := 72) P21 at_70 rfl rfl ?_
    refine Own.iconst (q := 73) (v := (2 : Int32)) P21 at_72 rfl rfl ?_
    refine Own.icmp_le (q := 76) (qy := 82) P21 at_73 (by decide) rfl (fun _ => ?_) (fun q => absurd q (by decide))
    refine Own.newobj (q := 85) P21 at_82 (wd hw 2 rfl) (wd hw 3 rfl) (wd hw 4 rfl) (by decide) (by decide) rfl ?_
    intro T22 h22 a22 ha22 P22 E22 A22 D22
    have F22_value : Fld Z h22 a22 "java/lang/String" "value" "[B" .null := D22 (Or.inr (wd hw 17 rfl)) (ty := (.array .byte)) (by decide)
    have F22_coder : Fld Z h22 a22 "java/lang/String" "coder" "B" (.int (0 : Int32)) := D22 (Or.inr (wd hw 18 rfl)) (ty := .byte) (by decide)
    refine Own.dup (q := 86) P22 at_85 rfl rfl ?_
    refine Own.aload (q := 88) P22 at_86 rfl rfl rfl ?_
    have E0_1_23 : Ext h0 h21 := E21
    have E1_2_24 : Ext h21 h22 := E22
    have E0_2_25 : Ext h0 h22 := (Own.Ext.tr E0_1_23 E22)
    have Hd26 := (H0.ext E0_1_23)
    have Sf27 := (Safe.ext E22 Hd26.2.1 (Safe.new (Nat.le_of_eq ha22.symm)))
    have Hd28 := (Hd26.ext E1_2_24)
    refine Own.cIH (q := 91) (W := 1) (rest := [(.ref a22)]) P22 Hd28 at_88 (wd hw 5 rfl) (iw_52 hw) (rmE1 l Z a0 hw [] a22 a21 k21 .null (.int (0 : Int32)) _ h22 n0 (Nat.le_trans Z0 E0_2_25.1) A22 F22_value F22_coder (Nat.le_trans Z0 (Nat.le_trans E0_1_23.1 (Nat.le_of_eq ha22.symm))) (V21.ext E1_2_24)) (ew hw) (allS ⟨A22.lt, Sf27⟩ all0) (by decide) (by decide) rfl (hml rfl) rfl rfl (by decide) (by decide) rfl ?_
    rintro v29 T29 vm29 h29 L29 ⟨rfl, N29q, K29, St29⟩ P29 H29 hr29
    have N29 := Fr.app (Fr.nil n0) N29q
    refine Own.astore (q := 93) (L2 := #[.val (.int x0), .val (.int x1), .val (.int x2), .val (.int x3), .val (.int (0 : Int32)), .val (.int c0), .val (.int c1), .val (.int c2), .val (.ref a21), .val (.ref a22), .unset, .unset, .unset, .unset]) P29 at_91 rfl rfl rfl ?_
    refine Own.aload (q := 95) P29 at_93 rfl rfl rfl ?_
    have E0_3_30 : Ext h0 h29 := (Own.Ext.kp E0_2_25 K29 (allS (Nat.le_trans E0_1_23.1 (Nat.le_of_eq ha22.symm)) all0))
    refine Own.cSH (q := 98) (W := 0) (rest := []) P29 H29 at_95 (wd hw 23 rfl) (sw_53 hw) (rmOne l Z a0 hw [] a22 ([] : List Int32) zc fm fi h29 n0 (Nat.le_trans Z0 E0_3_30.1) (SC.ext E0_3_30) hzc (SF.ext E0_3_30) hfm (SA.ext E0_3_30) (SH.ext E0_3_30) (SL.ext E0_3_30) (SI.ext E0_3_30) hfi (Or.inl St29) (Own.leb rfl)) (ew hw) all0 (by decide) (by decide) rfl (hml rfl) rfl rfl (by decide) (by decide) rfl ?_
    rintro v31 T31 vm31 h31 L31 ⟨r31, rfl, N31q, E31, X31⟩ P31 H31 hr31
    have N31 := Fr.app N29 N31q
    refine Own.astore (q := 100) (L2 := #[.val (.int x0), .val (.int x1), .val (.int x2), .val (.int x3), .val (.int (0 : Int32)), .val (.int c0), .val (.int c1), .val (.int c2), .val (.ref a21), .val (.ref a22), .val (.ref r31), .unset, .unset, .unset]) P31 at_98 rfl rfl rfl ?_
    refine Own.iload (q := 102) P31 at_100 rfl rfl ?_
    refine Own.if_le (q := 105) (qy := 113) P31 at_102 (by decide) rfl (fun _ => ?_) (fun q => absurd q (by decide))
    refine Own.iconst (q := 114) (v := (0 : Int32)) P31 at_113 rfl rfl ?_
    refine Own.istore (q := 116) (L2 := #[.val (.int x0), .val (.int x1), .val (.int x2), .val (.int x3), .val (.int (0 : Int32)), .val (.int c0), .val (.int c1), .val (.int c2), .val (.ref a21), .val (.ref a22), .val (.ref r31), .val (.int (0 : Int32)), .unset, .unset]) P31 at_114 rfl rfl ?_
    refine Own.iload (q := 118) P31 at_116 rfl rfl ?_
    refine Own.iconst (q := 119) (v := (1 : Int32)) P31 at_118 rfl rfl ?_
    refine Own.icmp_le (q := 122) (qy := 130) P31 at_119 (by decide) rfl (fun _ => ?_) (fun q => absurd q (by decide))
    refine Own.iconst (q := 131) (v := (0 : Int32)) P31 at_130 rfl rfl ?_
    refine Own.istore (q := 133) (L2 := #[.val (.int x0), .val (.int x1), .val (.int x2), .val (.int x3), .val (.int (0 : Int32)), .val (.int c0), .val (.int c1), .val (.int c2), .val (.ref a21), .val (.ref a22), .val (.ref r31), .val (.int (0 : Int32)), .val (.int (0 : Int32)), .unset]) P31 at_131 rfl rfl ?_
    refine Own.iload (q := 135) P31 at_133 rfl rfl ?_
    refine Own.iconst (q := 136) (v := (2 : Int32)) P31 at_135 rfl rfl ?_
    refine Own.icmp_le (q := 139) (qy := 147) P31 at_136 (by decide) rfl (fun _ => ?_) (fun q => absurd q (by decide))
    refine Own.iconst (q := 148) (v := (0 : Int32)) P31 at_147 rfl rfl ?_
    refine Own.istore (q := 150) (L2 := #[.val (.int x0), .val (.int x1), .val (.int x2), .val (.int x3), .val (.int (0 : Int32)), .val (.int c0), .val (.int c1), .val (.int c2), .val (.ref a21), .val (.ref a22), .val (.ref r31), .val (.int (0 : Int32)), .val (.int (0 : Int32)), .val (.int (0 : Int32))]) P31 at_148 rfl rfl ?_
    refine Own.aload (q := 152) P31 at_150 rfl rfl rfl ?_
    have E0_4_32 : Ext h0 h31 := (Own.Ext.tr E0_3_30 E31)
    refine Own.cW (q := 155) (W := 0) (rest := []) P31 at_152 (wd hw 38 rfl) (vw_24 hw) (Own.nfs P31 (wd hw 30 rfl)) X31.exa (lenT (W := 0) (n0 := n0) P31.2.2.2.1 hw X31 (Nat.le_trans Z0 E0_4_32.1) (SC.ext E0_4_32) hzc (by decide) (by decide)) rfl (hml rfl) rfl rfl (by decide) (by decide) rfl ?_
    rintro v33 T33 h33 L33 ⟨rfl, N33q, e33⟩ P33
    rw [e33] at P33
    have N33 := Fr.app N31 N33q
    refine Own.iload (q := 157) P33 at_155 rfl rfl ?_
    refine Own.iload (q := 159) P33 at_157 rfl rfl ?_
    refine Own.iadd (q := 160) P33 at_159  rfl ?_
    refine Own.iload (q := 162) P33 at_160 rfl rfl ?_
    refine Own.iadd (q := 163) P33 at_162  rfl ?_
    refine Own.icmp_eq (q := 166) (qy := 168) P33 at_163 (by decide) rfl (fun _ => ?_) (fun q => absurd rfl q)
    refine Own.iload (q := 170) P33 at_168 rfl rfl ?_
    refine Own.if_le (q := 173) (qy := 186) P33 at_170 (by decide) rfl (fun _ => ?_) (fun q => absurd q (by decide))
    refine Own.iload (q := 188) P33 at_186 rfl rfl ?_
    refine Own.iconst (q := 189) (v := (1 : Int32)) P33 at_188 rfl rfl ?_
    refine Own.icmp_le (q := 192) (qy := 206) P33 at_189 (by decide) rfl (fun _ => ?_) (fun q => absurd q (by decide))
    refine Own.iload (q := 208) P33 at_206 rfl rfl ?_
    refine Own.iconst (q := 209) (v := (2 : Int32)) P33 at_208 rfl rfl ?_
    refine Own.icmp_le (q := 212) (qy := 229) P33 at_209 (by decide) rfl (fun _ => ?_) (fun q => absurd q (by decide))
    refine Own.iconst (q := 230) (v := (1 : Int32)) P33 at_229 rfl rfl ?_
    refine Own.retZH P33 hh (ew hw) H31 at_230 hret (by simp) hlk (by decide) (by decide) ?_
    exact ⟨rfl, N33⟩
  · rw [q4]
    refine Own.iload (q := 7) P0 at_5 rfl rfl ?_
    refine Own.iconst (q := 8) (v := (3 : Int32)) P0 at_7 rfl rfl ?_
    refine Own.icmp_ne (q := 11) (qy := 20) P0 at_8 (by decide) rfl (fun _ => ?_) (fun q => absurd q (by decide))
    refine Own.iloadN (q := 21) P0 at_20 rfl rfl ?_
    refine Own.ldcI (q := 23) (v := (65535 : Int32)) P0 at_21 (wd hw 0 rfl) rfl ?_
    refine Own.iand (q := 24) P0 at_23  rfl ?_
    refine Own.i2cV (q := 25) (v := (x1 &&& (65535 : Int32))) P0 at_24 (Own.i2c_id16 (Own.ch_mask _)) rfl ?_
    have hc0 := Own.ch_mask x1
    generalize (x1 &&& (65535 : Int32)) = c0 at hc0 ⊢
    refine Own.istore (q := 27) (L2 := #[.val (.int x0), .val (.int x1), .val (.int x2), .val (.int x3), .val (.int (1 : Int32)), .val (.int c0), .unset, .unset, .unset, .unset, .unset, .unset, .unset, .unset]) P0 at_25 rfl rfl ?_
    refine Own.iloadN (q := 28) P0 at_27 rfl rfl ?_
    refine Own.ldcI (q := 30) (v := (65535 : Int32)) P0 at_28 (wd hw 0 rfl) rfl ?_
    refine Own.iand (q := 31) P0 at_30  rfl ?_
    refine Own.i2cV (q := 32) (v := (x2 &&& (65535 : Int32))) P0 at_31 (Own.i2c_id16 (Own.ch_mask _)) rfl ?_
    have hc1 := Own.ch_mask x2
    generalize (x2 &&& (65535 : Int32)) = c1 at hc1 ⊢
    refine Own.istore (q := 34) (L2 := #[.val (.int x0), .val (.int x1), .val (.int x2), .val (.int x3), .val (.int (1 : Int32)), .val (.int c0), .val (.int c1), .unset, .unset, .unset, .unset, .unset, .unset, .unset]) P0 at_32 rfl rfl ?_
    refine Own.iloadN (q := 35) P0 at_34 rfl rfl ?_
    refine Own.ldcI (q := 37) (v := (65535 : Int32)) P0 at_35 (wd hw 0 rfl) rfl ?_
    refine Own.iand (q := 38) P0 at_37  rfl ?_
    refine Own.i2cV (q := 39) (v := (x3 &&& (65535 : Int32))) P0 at_38 (Own.i2c_id16 (Own.ch_mask _)) rfl ?_
    have hc2 := Own.ch_mask x3
    generalize (x3 &&& (65535 : Int32)) = c2 at hc2 ⊢
    refine Own.istore (q := 41) (L2 := #[.val (.int x0), .val (.int x1), .val (.int x2), .val (.int x3), .val (.int (1 : Int32)), .val (.int c0), .val (.int c1), .val (.int c2), .unset, .unset, .unset, .unset, .unset, .unset]) P0 at_39 rfl rfl ?_
    have J168 : ∀ (T34 : State) (lc34 : List Loc) (h34 : Heap) (vm34 : Vm) (b8 : Addr) (ab : Addr) (rr : Addr), Own.Wk Z "lifestack/util/LinesOneLinePinLaw" code h34 p l e room_1 (s.setVm vm34) m #[(.int x0), (.int x1), (.int x2), (.int x3)] below meth c T34 lc34 34 1260 → Fr n0 lc34 → Ext h0 h34 → Own.Hd Z EL s vm34 h0 h34 → Own.TX Z h34 rr (Own.rend [c0]) → Own.Goes p.tables e below (Own.KEH Z EL (QrmLaw Z x0 x1 x2 x3 zc fm fi h0 n0) s room_1.cells room_1.slots) (T34.setTop (mkF m 168 #[.val (.int x0), .val (.int x1), .val (.int x2), .val (.int x3), .val (.int (1 : Int32)), .val (.int c0), .val (.int c1), .val (.int c2), .val (.ref b8), .val (.ref ab), .val (.ref rr), .val (.int (Int32.ofNat (Own.rendC c0).length)), .val (.int (0 : Int32)), .val (.int (0 : Int32))] [])) := by
      intro T34 lc34 h34 vm34 b8 ab rr P34 N34 EJ34 H34 Xr
      generalize hL0 : (Own.rendC c0).length = e0
      refine Own.iload (q := 170) P34 at_168 rfl rfl ?_
      refine Own.if_le (q := 173) (qy := 186) P34 at_170 (by decide) rfl (fun q => absurd (by decide) q) (fun _ => ?_)
      refine Own.aload (q := 175) P34 at_173 rfl rfl rfl ?_
      refine Own.iconst (q := 176) (v := (0 : Int32)) P34 at_175 rfl rfl ?_
      refine Own.iload (q := 178) P34 at_176 rfl rfl ?_
      have ck35 := Own.ck (rs := Own.rend [c0]) (oo := 0) [] (Own.rendC c0) (Own.rend []) (by rw [List.nil_append]; exact Own.rend_cons _ _) rfl
      have E0_1_36 : Ext h0 h34 := EJ34
      refine Own.cS (q := 181) (W := 0) (rest := []) P34 at_178 (wd hw 234 rfl) (sw_54 hw) (rmCk l Z a0 hw [] rr (Own.rend [c0]) 0 c0 zc fm h34 n0 (Nat.le_trans Z0 E0_1_36.1) (SC.ext E0_1_36) hzc (SF.ext E0_1_36) hfm (SA.ext E0_1_36) (SH.ext E0_1_36) (SL.ext E0_1_36) Xr ck35.1 ck35.2) (by decide) (by decide) rfl (hml rfl) rfl rfl (by decide) (by decide) rfl ?_
      rintro v37 T37 h37 L37 ⟨rfl, N37q, e37⟩ P37
      rw [e37] at P37
      have N37 := Fr.app N34 N37q
      refine Own.if_ne (q := 184) (qy := 186) P37 at_181 (by decide) rfl (fun _ => ?_) (fun q => absurd q (by decide))
      refine Own.iload (q := 188) P37 at_186 rfl rfl ?_
      refine Own.iconst (q := 189) (v := (1 : Int32)) P37 at_188 rfl rfl ?_
      refine Own.icmp_le (q := 192) (qy := 206) P37 at_189 (by decide) rfl (fun _ => ?_) (fun q => absurd q (by decide))
      refine Own.iload (q := 208) P37 at_206 rfl rfl ?_
      refine Own.iconst (q := 209) (v := (2 : Int32)) P37 at_208 rfl rfl ?_
      refine Own.icmp_le (q := 212) (qy := 229) P37 at_209 (by decide) rfl (fun _ => ?_) (fun q => absurd q (by decide))
      refine Own.iconst (q := 230) (v := (1 : Int32)) P37 at_229 rfl rfl ?_
      refine Own.retZH P37 hh (ew hw) H34 at_230 hret (by simp) hlk (by decide) (by decide) ?_
      exact ⟨rfl, N37⟩
    have J91 : ∀ (T38 : State) (lc38 : List Loc) (h38 : Heap) (vm38 : Vm) (b8 : Addr) (ab : Addr), Own.Wk Z "lifestack/util/LinesOneLinePinLaw" code h38 p l e room_1 (s.setVm vm38) m #[(.int x0), (.int x1), (.int x2), (.int x3)] below meth c T38 lc38 4 60 → Fr n0 lc38 → Ext h0 h38 → Own.Hd Z EL s vm38 h0 h38 → Own.TX Z h38 ab [c0] → Own.Goes p.tables e below (Own.KEH Z EL (QrmLaw Z x0 x1 x2 x3 zc fm fi h0 n0) s room_1.cells room_1.slots) (T38.setTop (mkF m 91 #[.val (.int x0), .val (.int x1), .val (.int x2), .val (.int x3), .val (.int (1 : Int32)), .val (.int c0), .val (.int c1), .val (.int c2), .val (.ref b8), .unset, .unset, .unset, .unset, .unset] [(.ref ab)])) := by
      intro T38 lc38 h38 vm38 b8 ab P38 N38 EJ38 H38 X9
      refine Own.astore (q := 93) (L2 := #[.val (.int x0), .val (.int x1), .val (.int x2), .val (.int x3), .val (.int (1 : Int32)), .val (.int c0), .val (.int c1), .val (.int c2), .val (.ref b8), .val (.ref ab), .unset, .unset, .unset, .unset]) P38 at_91 rfl rfl rfl ?_
      refine Own.aload (q := 95) P38 at_93 rfl rfl rfl ?_
      have E0_1_39 : Ext h0 h38 := EJ38
      refine Own.cSH (q := 98) (W := 0) (rest := []) P38 H38 at_95 (wd hw 23 rfl) (sw_53 hw) (rmOne l Z a0 hw [] ab [c0] zc fm fi h38 n0 (Nat.le_trans Z0 E0_1_39.1) (SC.ext E0_1_39) hzc (SF.ext E0_1_39) hfm (SA.ext E0_1_39) (SH.ext E0_1_39) (SL.ext E0_1_39) (SI.ext E0_1_39) hfi X9 (Own.leb rfl)) (ew hw) all0 (by decide) (by decide) rfl (hml rfl) rfl rfl (by decide) (by decide) rfl ?_
      rintro v40 T40 vm40 h40 L40 ⟨r40, rfl, N40q, E40, X40⟩ P40 H40 hr40
      have N40 := Fr.app N38 N40q
      refine Own.astore (q := 100) (L2 := #[.val (.int x0), .val (.int x1), .val (.int x2), .val (.int x3), .val (.int (1 : Int32)), .val (.int c0), .val (.int c1), .val (.int c2), .val (.ref b8), .val (.ref ab), .val (.ref r40), .unset, .unset, .unset]) P40 at_98 rfl rfl rfl ?_
      refine Own.iload (q := 102) P40 at_100 rfl rfl ?_
      refine Own.if_le (q := 105) (qy := 113) P40 at_102 (by decide) rfl (fun q => absurd (by decide) q) (fun _ => ?_)
      refine Own.iload (q := 107) P40 at_105 rfl rfl ?_
      have E0_2_41 : Ext h0 h40 := (Own.Ext.tr E0_1_39 E40)
      refine Own.cS (q := 110) (W := 0) (rest := []) P40 at_107 (wd hw 227 rfl) (sw_55 hw) (rmLw l Z a0 hw [] c0 h40 n0 (Nat.le_trans Z0 E0_2_41.1) ) (by decide) (by decide) rfl (hml rfl) rfl rfl (by decide) (by decide) rfl ?_
      rintro v42 T42 h42 L42 ⟨rfl, N42q, e42⟩ P42
      rw [e42] at P42
      have N42 := Fr.app N40 N42q
      refine Own.goto (q := 114) P42 at_110 (by decide) ?_
      refine Own.istore (q := 116) (L2 := #[.val (.int x0), .val (.int x1), .val (.int x2), .val (.int x3), .val (.int (1 : Int32)), .val (.int c0), .val (.int c1), .val (.int c2), .val (.ref b8), .val (.ref ab), .val (.ref r40), .val (.int (Int32.ofNat (Own.rendC c0).length)), .unset, .unset]) P42 at_114 rfl rfl ?_
      refine Own.iload (q := 118) P42 at_116 rfl rfl ?_
      refine Own.iconst (q := 119) (v := (1 : Int32)) P42 at_118 rfl rfl ?_
      refine Own.icmp_le (q := 122) (qy := 130) P42 at_119 (by decide) rfl (fun _ => ?_) (fun q => absurd q (by decide))
      refine Own.iconst (q := 131) (v := (0 : Int32)) P42 at_130 rfl rfl ?_
      refine Own.istore (q := 133) (L2 := #[.val (.int x0), .val (.int x1), .val (.int x2), .val (.int x3), .val (.int (1 : Int32)), .val (.int c0), .val (.int c1), .val (.int c2), .val (.ref b8), .val (.ref ab), .val (.ref r40), .val (.int (Int32.ofNat (Own.rendC c0).length)), .val (.int (0 : Int32)), .unset]) P42 at_131 rfl rfl ?_
      refine Own.iload (q := 135) P42 at_133 rfl rfl ?_
      refine Own.iconst (q := 136) (v := (2 : Int32)) P42 at_135 rfl rfl ?_
      refine Own.icmp_le (q := 139) (qy := 147) P42 at_136 (by decide) rfl (fun _ => ?_) (fun q => absurd q (by decide))
      refine Own.iconst (q := 148) (v := (0 : Int32)) P42 at_147 rfl rfl ?_
      refine Own.istore (q := 150) (L2 := #[.val (.int x0), .val (.int x1), .val (.int x2), .val (.int x3), .val (.int (1 : Int32)), .val (.int c0), .val (.int c1), .val (.int c2), .val (.ref b8), .val (.ref ab), .val (.ref r40), .val (.int (Int32.ofNat (Own.rendC c0).length)), .val (.int (0 : Int32)), .val (.int (0 : Int32))]) P42 at_148 rfl rfl ?_
      refine Own.aload (q := 152) P42 at_150 rfl rfl rfl ?_
      refine Own.cW (q := 155) (W := 0) (rest := []) P42 at_152 (wd hw 38 rfl) (vw_24 hw) (Own.nfs P42 (wd hw 30 rfl)) X40.exa (lenT (W := 0) (n0 := n0) P42.2.2.2.1 hw X40 (Nat.le_trans Z0 E0_2_41.1) (SC.ext E0_2_41) hzc (by decide) (by decide)) rfl (hml rfl) rfl rfl (by decide) (by decide) rfl ?_
      rintro v43 T43 h43 L43 ⟨rfl, N43q, e43⟩ P43
      rw [e43] at P43
      have N43 := Fr.app N42 N43q
      refine Own.iload (q := 157) P43 at_155 rfl rfl ?_
      refine Own.iload (q := 159) P43 at_157 rfl rfl ?_
      refine Own.iadd (q := 160) P43 at_159  rfl ?_
      refine Own.iload (q := 162) P43 at_160 rfl rfl ?_
      refine Own.iadd (q := 163) P43 at_162  rfl ?_
      refine Own.icmp_eq (q := 166) (qy := 168) P43 at_163 (by decide) rfl (fun _ => ?_) (fun q => absurd (Own.rl1 _) q)
      exact J168 _ _ _ _ b8 ab r40 (Own.Wk.up P43 (by decide) (by decide)) N43 E0_2_41 H40 X40
    refine Own.iload (q := 43) P0 at_41 rfl rfl ?_
    refine Own.newarr (q := 45) (cap := 1) P0 at_43 (wd hw 1 rfl) (by decide) (by decide) (by decide) (by decide) (by decide) rfl ?_
    intro T44 h44 a44 k44 ha44 P44 E44 A44
    have V44 : Arv Z h44 a44 k44 .char (1 : Int32) [(.int 0)] (.int 0) := Arv.pad A44 (pad_rep [] _ 1)
    refine Own.astore (q := 47) (L2 := #[.val (.int x0), .val (.int x1), .val (.int x2), .val (.int x3), .val (.int (1 : Int32)), .val (.int c0), .val (.int c1), .val (.int c2), .val (.ref a44), .unset, .unset, .unset, .unset, .unset]) P44 at_45 rfl rfl rfl ?_
    refine Own.iload (q := 49) P44 at_47 rfl rfl ?_
    refine Own.if_le (q := 52) (qy := 58) P44 at_49 (by decide) rfl (fun q => absurd (by decide) q) (fun _ => ?_)
    refine Own.aload (q := 54) P44 at_52 rfl rfl rfl ?_
    refine Own.iconst (q := 55) (v := (0 : Int32)) P44 at_54 rfl rfl ?_
    refine Own.iload (q := 57) P44 at_55 rfl rfl ?_
    refine Own.castore (q := 58) (i := 0) (x2 := c0) P44 at_57 V44 (by decide) (by decide) (Own.nar_id16 hc0) (Own.fits16 hc0) (by decide) (Own.ltb rfl) rfl ?_
    intro T45 h45 lc45 hl45 P45 W45 A45
    have V45 : Arv Z h45 a44 k44 .char (1 : Int32) [(.int c0)] (.int 0) := A45
    have N45 := Own.Fr.one (Fr.nil n0) hl45 (Nat.le_trans Z0 (Nat.le_of_eq ha44.symm))
    refine Own.iload (q := 60) P45 at_58 rfl rfl ?_
    refine Own.iconst (q := 61) (v := (1 : Int32)) P45 at_60 rfl rfl ?_
    refine Own.icmp_le (q := 64) (qy := 70) P45 at_61 (by decide) rfl (fun _ => ?_) (fun q => absurd q (by decide))
    refine Own.iload (q := 72) P45 at_70 rfl rfl ?_
    refine Own.iconst (q := 73) (v := (2 : Int32)) P45 at_72 rfl rfl ?_
    refine Own.icmp_le (q := 76) (qy := 82) P45 at_73 (by decide) rfl (fun _ => ?_) (fun q => absurd q (by decide))
    refine Own.newobj (q := 85) P45 at_82 (wd hw 2 rfl) (wd hw 3 rfl) (wd hw 4 rfl) (by decide) (by decide) rfl ?_
    intro T46 h46 a46 ha46 P46 E46 A46 D46
    have F46_value : Fld Z h46 a46 "java/lang/String" "value" "[B" .null := D46 (Or.inr (wd hw 17 rfl)) (ty := (.array .byte)) (by decide)
    have F46_coder : Fld Z h46 a46 "java/lang/String" "coder" "B" (.int (0 : Int32)) := D46 (Or.inr (wd hw 18 rfl)) (ty := .byte) (by decide)
    refine Own.dup (q := 86) P46 at_85 rfl rfl ?_
    refine Own.aload (q := 88) P46 at_86 rfl rfl rfl ?_
    rcases Classical.em (∀ c ∈ ([c0] : List Int32), ¬ (255 : Int32) < c) with hsm | hbig
    · skip
      have E0_1_47 : Ext h0 h44 := E44
      have E0_2_48 : Ext h0 h45 := (Own.Ext.wr E0_1_47 W45 (Nat.le_of_eq ha44.symm))
      have E0_3_49 : Ext h0 h46 := (Own.Ext.tr E0_2_48 E46)
      have E2_3_50 : Ext h45 h46 := E46
      refine Own.invSpecial (q := 91) (W := 1) (y := (⟨"java/lang/String", "<init>", "([C)V"⟩ : MethodName)) (a := a46) (argsL := [(.ref a44)]) (rest := [(.ref a46)]) P46 at_88 rfl (wd hw 5 rfl) (wd hw 6 rfl) (wd hw 7 rfl) (by decide) (Own.newB (W := 1) (n0 := n0) (cs := [c0]) (n := 1) P46.2.2.2.1 (fun d hd => hw d (sub_backV d hd)) (wd hw 3 rfl) (Nat.le_trans Z0 (Nat.le_trans E0_2_48.1 (Nat.le_of_eq ha46.symm))) (Nat.le_trans Z0 E0_3_49.1) A46 F46_value F46_coder (V45.ext E2_3_50) (SC.ext E0_3_49) hzc rfl rfl (by decide) (by decide) (Own.chS ⟨hc0.1, hsm _ (by simp)⟩ Own.ch0) (by decide) (by decide)) rfl rfl (hml rfl) (lenOf pd_40 rfl) (Own.w0 rfl) (by decide) (by decide) rfl ?_
      rintro v51 T51 h51 L51 ⟨rfl, N51q, K51, St51⟩ P51
      have N51 := Fr.app N45 N51q
      have E0_4_52 : Ext h0 h51 := (Own.Ext.kp E0_3_49 K51 (allS (Nat.le_trans E0_2_48.1 (Nat.le_of_eq ha46.symm)) all0))
      have Hd53 := (H0.ext E0_4_52)
      exact J91 _ _ _ _ a44 a46 (Own.Wk.up P51 (by decide) (by decide)) N51 E0_4_52 Hd53 (Or.inl St51)
    · skip
      have E0_1_54 : Ext h0 h44 := E44
      have E0_2_55 : Ext h0 h45 := (Own.Ext.wr E0_1_54 W45 (Nat.le_of_eq ha44.symm))
      have E0_3_56 : Ext h0 h46 := (Own.Ext.tr E0_2_55 E46)
      have E2_3_57 : Ext h45 h46 := E46
      refine Own.cI (q := 91) (W := 1) (rest := [(.ref a46)]) P46 at_88 (wd hw 5 rfl) (iw_52 hw) (rmI11 l Z a0 hw [] a46 .null (.int (0 : Int32)) a44 k44 _ c0 zc h46 n0 (Nat.le_trans Z0 E0_3_56.1) (SC.ext E0_3_56) hzc (SA.ext E0_3_56) (SH.ext E0_3_56) (SL.ext E0_3_56) A46 F46_value F46_coder (Nat.le_trans Z0 (Nat.le_trans E0_2_55.1 (Nat.le_of_eq ha46.symm))) (V45.ext E2_3_57) hbig hc0) (by decide) (by decide) rfl (hml rfl) rfl rfl (by decide) (by decide) rfl ?_
      rintro v58 T58 h58 L58 ⟨rfl, N58q, K58, St58⟩ P58
      have N58 := Fr.app N45 N58q
      have E0_4_59 : Ext h0 h58 := (Own.Ext.kp E0_3_56 K58 (allS (Nat.le_trans E0_2_55.1 (Nat.le_of_eq ha46.symm)) all0))
      have Hd60 := (H0.ext E0_4_59)
      exact J91 _ _ _ _ a44 a46 (Own.Wk.up P58 (by decide) (by decide)) N58 E0_4_59 Hd60 (Or.inr St58)
  · rw [q4]
    refine Own.iload (q := 7) P0 at_5 rfl rfl ?_
    refine Own.iconst (q := 8) (v := (3 : Int32)) P0 at_7 rfl rfl ?_
    refine Own.icmp_ne (q := 11) (qy := 20) P0 at_8 (by decide) rfl (fun _ => ?_) (fun q => absurd q (by decide))
    refine Own.iloadN (q := 21) P0 at_20 rfl rfl ?_
    refine Own.ldcI (q := 23) (v := (65535 : Int32)) P0 at_21 (wd hw 0 rfl) rfl ?_
    refine Own.iand (q := 24) P0 at_23  rfl ?_
    refine Own.i2cV (q := 25) (v := (x1 &&& (65535 : Int32))) P0 at_24 (Own.i2c_id16 (Own.ch_mask _)) rfl ?_
    have hc0 := Own.ch_mask x1
    generalize (x1 &&& (65535 : Int32)) = c0 at hc0 ⊢
    refine Own.istore (q := 27) (L2 := #[.val (.int x0), .val (.int x1), .val (.int x2), .val (.int x3), .val (.int (2 : Int32)), .val (.int c0), .unset, .unset, .unset, .unset, .unset, .unset, .unset, .unset]) P0 at_25 rfl rfl ?_
    refine Own.iloadN (q := 28) P0 at_27 rfl rfl ?_
    refine Own.ldcI (q := 30) (v := (65535 : Int32)) P0 at_28 (wd hw 0 rfl) rfl ?_
    refine Own.iand (q := 31) P0 at_30  rfl ?_
    refine Own.i2cV (q := 32) (v := (x2 &&& (65535 : Int32))) P0 at_31 (Own.i2c_id16 (Own.ch_mask _)) rfl ?_
    have hc1 := Own.ch_mask x2
    generalize (x2 &&& (65535 : Int32)) = c1 at hc1 ⊢
    refine Own.istore (q := 34) (L2 := #[.val (.int x0), .val (.int x1), .val (.int x2), .val (.int x3), .val (.int (2 : Int32)), .val (.int c0), .val (.int c1), .unset, .unset, .unset, .unset, .unset, .unset, .unset]) P0 at_32 rfl rfl ?_
    refine Own.iloadN (q := 35) P0 at_34 rfl rfl ?_
    refine Own.ldcI (q := 37) (v := (65535 : Int32)) P0 at_35 (wd hw 0 rfl) rfl ?_
    refine Own.iand (q := 38) P0 at_37  rfl ?_
    refine Own.i2cV (q := 39) (v := (x3 &&& (65535 : Int32))) P0 at_38 (Own.i2c_id16 (Own.ch_mask _)) rfl ?_
    have hc2 := Own.ch_mask x3
    generalize (x3 &&& (65535 : Int32)) = c2 at hc2 ⊢
    refine Own.istore (q := 41) (L2 := #[.val (.int x0), .val (.int x1), .val (.int x2), .val (.int x3), .val (.int (2 : Int32)), .val (.int c0), .val (.int c1), .val (.int c2), .unset, .unset, .unset, .unset, .unset, .unset]) P0 at_39 rfl rfl ?_
    have J168 : ∀ (T61 : State) (lc61 : List Loc) (h61 : Heap) (vm61 : Vm) (b8 : Addr) (ab : Addr) (rr : Addr), Own.Wk Z "lifestack/util/LinesOneLinePinLaw" code h61 p l e room_1 (s.setVm vm61) m #[(.int x0), (.int x1), (.int x2), (.int x3)] below meth c T61 lc61 34 1260 → Fr n0 lc61 → Ext h0 h61 → Own.Hd Z EL s vm61 h0 h61 → Own.TX Z h61 rr (Own.rend [c0, c1]) → Own.Goes p.tables e below (Own.KEH Z EL (QrmLaw Z x0 x1 x2 x3 zc fm fi h0 n0) s room_1.cells room_1.slots) (T61.setTop (mkF m 168 #[.val (.int x0), .val (.int x1), .val (.int x2), .val (.int x3), .val (.int (2 : Int32)), .val (.int c0), .val (.int c1), .val (.int c2), .val (.ref b8), .val (.ref ab), .val (.ref rr), .val (.int (Int32.ofNat (Own.rendC c0).length)), .val (.int (Int32.ofNat (Own.rendC c1).length)), .val (.int (0 : Int32))] [])) := by
      intro T61 lc61 h61 vm61 b8 ab rr P61 N61 EJ61 H61 Xr
      generalize hL0 : (Own.rendC c0).length = e0
      generalize hL1 : (Own.rendC c1).length = e1
      refine Own.iload (q := 170) P61 at_168 rfl rfl ?_
      refine Own.if_le (q := 173) (qy := 186) P61 at_170 (by decide) rfl (fun q => absurd (by decide) q) (fun _ => ?_)
      refine Own.aload (q := 175) P61 at_173 rfl rfl rfl ?_
      refine Own.iconst (q := 176) (v := (0 : Int32)) P61 at_175 rfl rfl ?_
      refine Own.iload (q := 178) P61 at_176 rfl rfl ?_
      have ck62 := Own.ck (rs := Own.rend [c0, c1]) (oo := 0) [] (Own.rendC c0) (Own.rend [c1]) (by rw [List.nil_append]; exact Own.rend_cons _ _) rfl
      have E0_1_63 : Ext h0 h61 := EJ61
      refine Own.cS (q := 181) (W := 0) (rest := []) P61 at_178 (wd hw 234 rfl) (sw_54 hw) (rmCk l Z a0 hw [] rr (Own.rend [c0, c1]) 0 c0 zc fm h61 n0 (Nat.le_trans Z0 E0_1_63.1) (SC.ext E0_1_63) hzc (SF.ext E0_1_63) hfm (SA.ext E0_1_63) (SH.ext E0_1_63) (SL.ext E0_1_63) Xr ck62.1 ck62.2) (by decide) (by decide) rfl (hml rfl) rfl rfl (by decide) (by decide) rfl ?_
      rintro v64 T64 h64 L64 ⟨rfl, N64q, e64⟩ P64
      rw [e64] at P64
      have N64 := Fr.app N61 N64q
      refine Own.if_ne (q := 184) (qy := 186) P64 at_181 (by decide) rfl (fun _ => ?_) (fun q => absurd q (by decide))
      refine Own.iload (q := 188) P64 at_186 rfl rfl ?_
      refine Own.iconst (q := 189) (v := (1 : Int32)) P64 at_188 rfl rfl ?_
      refine Own.icmp_le (q := 192) (qy := 206) P64 at_189 (by decide) rfl (fun q => absurd (by decide) q) (fun _ => ?_)
      refine Own.aload (q := 194) P64 at_192 rfl rfl rfl ?_
      refine Own.iload (q := 196) P64 at_194 rfl rfl ?_
      refine Own.iload (q := 198) P64 at_196 rfl rfl ?_
      have ck65 := Own.ck (rs := Own.rend [c0, c1]) (oo := e0) (Own.rendC c0) (Own.rendC c1) (Own.rend []) (by rw [Own.rend_cons, Own.rend_cons]) hL0.symm
      refine Own.cS (q := 201) (W := 0) (rest := []) P64 at_198 (wd hw 234 rfl) (sw_54 hw) (rmCk l Z a0 hw [] rr (Own.rend [c0, c1]) e0 c1 zc fm h61 n0 (Nat.le_trans Z0 E0_1_63.1) (SC.ext E0_1_63) hzc (SF.ext E0_1_63) hfm (SA.ext E0_1_63) (SH.ext E0_1_63) (SL.ext E0_1_63) Xr ck65.1 ck65.2) (by decide) (by decide) rfl (hml rfl) rfl rfl (by decide) (by decide) rfl ?_
      rintro v66 T66 h66 L66 ⟨rfl, N66q, e66⟩ P66
      rw [e66] at P66
      have N66 := Fr.app N64 N66q
      refine Own.if_ne (q := 204) (qy := 206) P66 at_201 (by decide) rfl (fun _ => ?_) (fun q => absurd q (by decide))
      refine Own.iload (q := 208) P66 at_206 rfl rfl ?_
      refine Own.iconst (q := 209) (v := (2 : Int32)) P66 at_208 rfl rfl ?_
      refine Own.icmp_le (q := 212) (qy := 229) P66 at_209 (by decide) rfl (fun _ => ?_) (fun q => absurd q (by decide))
      refine Own.iconst (q := 230) (v := (1 : Int32)) P66 at_229 rfl rfl ?_
      refine Own.retZH P66 hh (ew hw) H61 at_230 hret (by simp) hlk (by decide) (by decide) ?_
      exact ⟨rfl, N66⟩
    have J91 : ∀ (T67 : State) (lc67 : List Loc) (h67 : Heap) (vm67 : Vm) (b8 : Addr) (ab : Addr), Own.Wk Z "lifestack/util/LinesOneLinePinLaw" code h67 p l e room_1 (s.setVm vm67) m #[(.int x0), (.int x1), (.int x2), (.int x3)] below meth c T67 lc67 4 60 → Fr n0 lc67 → Ext h0 h67 → Own.Hd Z EL s vm67 h0 h67 → Own.TX Z h67 ab [c0, c1] → Own.Goes p.tables e below (Own.KEH Z EL (QrmLaw Z x0 x1 x2 x3 zc fm fi h0 n0) s room_1.cells room_1.slots) (T67.setTop (mkF m 91 #[.val (.int x0), .val (.int x1), .val (.int x2), .val (.int x3), .val (.int (2 : Int32)), .val (.int c0), .val (.int c1), .val (.int c2), .val (.ref b8), .unset, .unset, .unset, .unset, .unset] [(.ref ab)])) := by
      intro T67 lc67 h67 vm67 b8 ab P67 N67 EJ67 H67 X9
      refine Own.astore (q := 93) (L2 := #[.val (.int x0), .val (.int x1), .val (.int x2), .val (.int x3), .val (.int (2 : Int32)), .val (.int c0), .val (.int c1), .val (.int c2), .val (.ref b8), .val (.ref ab), .unset, .unset, .unset, .unset]) P67 at_91 rfl rfl rfl ?_
      refine Own.aload (q := 95) P67 at_93 rfl rfl rfl ?_
      have E0_1_68 : Ext h0 h67 := EJ67
      refine Own.cSH (q := 98) (W := 0) (rest := []) P67 H67 at_95 (wd hw 23 rfl) (sw_53 hw) (rmOne l Z a0 hw [] ab [c0, c1] zc fm fi h67 n0 (Nat.le_trans Z0 E0_1_68.1) (SC.ext E0_1_68) hzc (SF.ext E0_1_68) hfm (SA.ext E0_1_68) (SH.ext E0_1_68) (SL.ext E0_1_68) (SI.ext E0_1_68) hfi X9 (Own.leb rfl)) (ew hw) all0 (by decide) (by decide) rfl (hml rfl) rfl rfl (by decide) (by decide) rfl ?_
      rintro v69 T69 vm69 h69 L69 ⟨r69, rfl, N69q, E69, X69⟩ P69 H69 hr69
      have N69 := Fr.app N67 N69q
      refine Own.astore (q := 100) (L2 := #[.val (.int x0), .val (.int x1), .val (.int x2), .val (.int x3), .val (.int (2 : Int32)), .val (.int c0), .val (.int c1), .val (.int c2), .val (.ref b8), .val (.ref ab), .val (.ref r69), .unset, .unset, .unset]) P69 at_98 rfl rfl rfl ?_
      refine Own.iload (q := 102) P69 at_100 rfl rfl ?_
      refine Own.if_le (q := 105) (qy := 113) P69 at_102 (by decide) rfl (fun q => absurd (by decide) q) (fun _ => ?_)
      refine Own.iload (q := 107) P69 at_105 rfl rfl ?_
      have E0_2_70 : Ext h0 h69 := (Own.Ext.tr E0_1_68 E69)
      refine Own.cS (q := 110) (W := 0) (rest := []) P69 at_107 (wd hw 227 rfl) (sw_55 hw) (rmLw l Z a0 hw [] c0 h69 n0 (Nat.le_trans Z0 E0_2_70.1) ) (by decide) (by decide) rfl (hml rfl) rfl rfl (by decide) (by decide) rfl ?_
      rintro v71 T71 h71 L71 ⟨rfl, N71q, e71⟩ P71
      rw [e71] at P71
      have N71 := Fr.app N69 N71q
      refine Own.goto (q := 114) P71 at_110 (by decide) ?_
      refine Own.istore (q := 116) (L2 := #[.val (.int x0), .val (.int x1), .val (.int x2), .val (.int x3), .val (.int (2 : Int32)), .val (.int c0), .val (.int c1), .val (.int c2), .val (.ref b8), .val (.ref ab), .val (.ref r69), .val (.int (Int32.ofNat (Own.rendC c0).length)), .unset, .unset]) P71 at_114 rfl rfl ?_
      refine Own.iload (q := 118) P71 at_116 rfl rfl ?_
      refine Own.iconst (q := 119) (v := (1 : Int32)) P71 at_118 rfl rfl ?_
      refine Own.icmp_le (q := 122) (qy := 130) P71 at_119 (by decide) rfl (fun q => absurd (by decide) q) (fun _ => ?_)
      refine Own.iload (q := 124) P71 at_122 rfl rfl ?_
      refine Own.cS (q := 127) (W := 0) (rest := []) P71 at_124 (wd hw 227 rfl) (sw_55 hw) (rmLw l Z a0 hw [] c1 h69 n0 (Nat.le_trans Z0 E0_2_70.1) ) (by decide) (by decide) rfl (hml rfl) rfl rfl (by decide) (by decide) rfl ?_
      rintro v72 T72 h72 L72 ⟨rfl, N72q, e72⟩ P72
      rw [e72] at P72
      have N72 := Fr.app N71 N72q
      refine Own.goto (q := 131) P72 at_127 (by decide) ?_
      refine Own.istore (q := 133) (L2 := #[.val (.int x0), .val (.int x1), .val (.int x2), .val (.int x3), .val (.int (2 : Int32)), .val (.int c0), .val (.int c1), .val (.int c2), .val (.ref b8), .val (.ref ab), .val (.ref r69), .val (.int (Int32.ofNat (Own.rendC c0).length)), .val (.int (Int32.ofNat (Own.rendC c1).length)), .unset]) P72 at_131 rfl rfl ?_
      refine Own.iload (q := 135) P72 at_133 rfl rfl ?_
      refine Own.iconst (q := 136) (v := (2 : Int32)) P72 at_135 rfl rfl ?_
      refine Own.icmp_le (q := 139) (qy := 147) P72 at_136 (by decide) rfl (fun _ => ?_) (fun q => absurd q (by decide))
      refine Own.iconst (q := 148) (v := (0 : Int32)) P72 at_147 rfl rfl ?_
      refine Own.istore (q := 150) (L2 := #[.val (.int x0), .val (.int x1), .val (.int x2), .val (.int x3), .val (.int (2 : Int32)), .val (.int c0), .val (.int c1), .val (.int c2), .val (.ref b8), .val (.ref ab), .val (.ref r69), .val (.int (Int32.ofNat (Own.rendC c0).length)), .val (.int (Int32.ofNat (Own.rendC c1).length)), .val (.int (0 : Int32))]) P72 at_148 rfl rfl ?_
      refine Own.aload (q := 152) P72 at_150 rfl rfl rfl ?_
      refine Own.cW (q := 155) (W := 0) (rest := []) P72 at_152 (wd hw 38 rfl) (vw_24 hw) (Own.nfs P72 (wd hw 30 rfl)) X69.exa (lenT (W := 0) (n0 := n0) P72.2.2.2.1 hw X69 (Nat.le_trans Z0 E0_2_70.1) (SC.ext E0_2_70) hzc (by decide) (by decide)) rfl (hml rfl) rfl rfl (by decide) (by decide) rfl ?_
      rintro v73 T73 h73 L73 ⟨rfl, N73q, e73⟩ P73
      rw [e73] at P73
      have N73 := Fr.app N72 N73q
      refine Own.iload (q := 157) P73 at_155 rfl rfl ?_
      refine Own.iload (q := 159) P73 at_157 rfl rfl ?_
      refine Own.iadd (q := 160) P73 at_159  rfl ?_
      refine Own.iload (q := 162) P73 at_160 rfl rfl ?_
      refine Own.iadd (q := 163) P73 at_162  rfl ?_
      refine Own.icmp_eq (q := 166) (qy := 168) P73 at_163 (by decide) rfl (fun _ => ?_) (fun q => absurd (Own.rl2 _ _) q)
      exact J168 _ _ _ _ b8 ab r69 (Own.Wk.up P73 (by decide) (by decide)) N73 E0_2_70 H69 X69
    refine Own.iload (q := 43) P0 at_41 rfl rfl ?_
    refine Own.newarr (q := 45) (cap := 2) P0 at_43 (wd hw 1 rfl) (by decide) (by decide) (by decide) (by decide) (by decide) rfl ?_
    intro T74 h74 a74 k74 ha74 P74 E74 A74
    have V74 : Arv Z h74 a74 k74 .char (2 : Int32) [(.int 0), (.int 0)] (.int 0) := Arv.pad A74 (pad_rep [] _ 2)
    refine Own.astore (q := 47) (L2 := #[.val (.int x0), .val (.int x1), .val (.int x2), .val (.int x3), .val (.int (2 : Int32)), .val (.int c0), .val (.int c1), .val (.int c2), .val (.ref a74), .unset, .unset, .unset, .unset, .unset]) P74 at_45 rfl rfl rfl ?_
    refine Own.iload (q := 49) P74 at_47 rfl rfl ?_
    refine Own.if_le (q := 52) (qy := 58) P74 at_49 (by decide) rfl (fun q => absurd (by decide) q) (fun _ => ?_)
    refine Own.aload (q := 54) P74 at_52 rfl rfl rfl ?_
    refine Own.iconst (q := 55) (v := (0 : Int32)) P74 at_54 rfl rfl ?_
    refine Own.iload (q := 57) P74 at_55 rfl rfl ?_
    refine Own.castore (q := 58) (i := 0) (x2 := c0) P74 at_57 V74 (by decide) (by decide) (Own.nar_id16 hc0) (Own.fits16 hc0) (by decide) (Own.ltb rfl) rfl ?_
    intro T75 h75 lc75 hl75 P75 W75 A75
    have V75 : Arv Z h75 a74 k74 .char (2 : Int32) [(.int c0), (.int 0)] (.int 0) := A75
    have N75 := Own.Fr.one (Fr.nil n0) hl75 (Nat.le_trans Z0 (Nat.le_of_eq ha74.symm))
    refine Own.iload (q := 60) P75 at_58 rfl rfl ?_
    refine Own.iconst (q := 61) (v := (1 : Int32)) P75 at_60 rfl rfl ?_
    refine Own.icmp_le (q := 64) (qy := 70) P75 at_61 (by decide) rfl (fun q => absurd (by decide) q) (fun _ => ?_)
    refine Own.aload (q := 66) P75 at_64 rfl rfl rfl ?_
    refine Own.iconst (q := 67) (v := (1 : Int32)) P75 at_66 rfl rfl ?_
    refine Own.iload (q := 69) P75 at_67 rfl rfl ?_
    refine Own.castore (q := 70) (i := 1) (x2 := c1) P75 at_69 V75 (by decide) (by decide) (Own.nar_id16 hc1) (Own.fits16 hc1) (by decide) (Own.ltb rfl) rfl ?_
    intro T76 h76 lc76 hl76 P76 W76 A76
    have V76 : Arv Z h76 a74 k74 .char (2 : Int32) [(.int c0), (.int c1)] (.int 0) := A76
    have N76 := Own.Fr.one N75 hl76 (Nat.le_trans Z0 (Nat.le_of_eq ha74.symm))
    refine Own.iload (q := 72) P76 at_70 rfl rfl ?_
    refine Own.iconst (q := 73) (v := (2 : Int32)) P76 at_72 rfl rfl ?_
    refine Own.icmp_le (q := 76) (qy := 82) P76 at_73 (by decide) rfl (fun _ => ?_) (fun q => absurd q (by decide))
    refine Own.newobj (q := 85) P76 at_82 (wd hw 2 rfl) (wd hw 3 rfl) (wd hw 4 rfl) (by decide) (by decide) rfl ?_
    intro T77 h77 a77 ha77 P77 E77 A77 D77
    have F77_value : Fld Z h77 a77 "java/lang/String" "value" "[B" .null := D77 (Or.inr (wd hw 17 rfl)) (ty := (.array .byte)) (by decide)
    have F77_coder : Fld Z h77 a77 "java/lang/String" "coder" "B" (.int (0 : Int32)) := D77 (Or.inr (wd hw 18 rfl)) (ty := .byte) (by decide)
    refine Own.dup (q := 86) P77 at_85 rfl rfl ?_
    refine Own.aload (q := 88) P77 at_86 rfl rfl rfl ?_
    rcases Classical.em (∀ c ∈ ([c0, c1] : List Int32), ¬ (255 : Int32) < c) with hsm | hbig
    · skip
      have E0_1_78 : Ext h0 h74 := E74
      have E0_2_79 : Ext h0 h75 := (Own.Ext.wr E0_1_78 W75 (Nat.le_of_eq ha74.symm))
      have E0_3_80 : Ext h0 h76 := (Own.Ext.wr E0_2_79 W76 (Nat.le_of_eq ha74.symm))
      have E0_4_81 : Ext h0 h77 := (Own.Ext.tr E0_3_80 E77)
      have E3_4_82 : Ext h76 h77 := E77
      refine Own.invSpecial (q := 91) (W := 1) (y := (⟨"java/lang/String", "<init>", "([C)V"⟩ : MethodName)) (a := a77) (argsL := [(.ref a74)]) (rest := [(.ref a77)]) P77 at_88 rfl (wd hw 5 rfl) (wd hw 6 rfl) (wd hw 7 rfl) (by decide) (Own.newB (W := 1) (n0 := n0) (cs := [c0, c1]) (n := 2) P77.2.2.2.1 (fun d hd => hw d (sub_backV d hd)) (wd hw 3 rfl) (Nat.le_trans Z0 (Nat.le_trans E0_3_80.1 (Nat.le_of_eq ha77.symm))) (Nat.le_trans Z0 E0_4_81.1) A77 F77_value F77_coder (V76.ext E3_4_82) (SC.ext E0_4_81) hzc rfl rfl (by decide) (by decide) (Own.chS ⟨hc0.1, hsm _ (by simp)⟩ (Own.chS ⟨hc1.1, hsm _ (by simp)⟩ Own.ch0)) (by decide) (by decide)) rfl rfl (hml rfl) (lenOf pd_40 rfl) (Own.w0 rfl) (by decide) (by decide) rfl ?_
      rintro v83 T83 h83 L83 ⟨rfl, N83q, K83, St83⟩ P83
      have N83 := Fr.app N76 N83q
      have E0_5_84 : Ext h0 h83 := (Own.Ext.kp E0_4_81 K83 (allS (Nat.le_trans E0_3_80.1 (Nat.le_of_eq ha77.symm)) all0))
      have Hd85 := (H0.ext E0_5_84)
      exact J91 _ _ _ _ a74 a77 (Own.Wk.up P83 (by decide) (by decide)) N83 E0_5_84 Hd85 (Or.inl St83)
    · skip
      have E0_1_86 : Ext h0 h74 := E74
      have E0_2_87 : Ext h0 h75 := (Own.Ext.wr E0_1_86 W75 (Nat.le_of_eq ha74.symm))
      have E0_3_88 : Ext h0 h76 := (Own.Ext.wr E0_2_87 W76 (Nat.le_of_eq ha74.symm))
      have E0_4_89 : Ext h0 h77 := (Own.Ext.tr E0_3_88 E77)
      have E3_4_90 : Ext h76 h77 := E77
      refine Own.cI (q := 91) (W := 1) (rest := [(.ref a77)]) P77 at_88 (wd hw 5 rfl) (iw_52 hw) (rmI12 l Z a0 hw [] a77 .null (.int (0 : Int32)) a74 k74 _ c0 c1 zc h77 n0 (Nat.le_trans Z0 E0_4_89.1) (SC.ext E0_4_89) hzc (SA.ext E0_4_89) (SH.ext E0_4_89) (SL.ext E0_4_89) A77 F77_value F77_coder (Nat.le_trans Z0 (Nat.le_trans E0_3_88.1 (Nat.le_of_eq ha77.symm))) (V76.ext E3_4_90) hbig hc0 hc1) (by decide) (by decide) rfl (hml rfl) rfl rfl (by decide) (by decide) rfl ?_
      rintro v91 T91 h91 L91 ⟨rfl, N91q, K91, St91⟩ P91
      have N91 := Fr.app N76 N91q
      have E0_5_92 : Ext h0 h91 := (Own.Ext.kp E0_4_89 K91 (allS (Nat.le_trans E0_3_88.1 (Nat.le_of_eq ha77.symm)) all0))
      have Hd93 := (H0.ext E0_5_92)
      exact J91 _ _ _ _ a74 a77 (Own.Wk.up P91 (by decide) (by decide)) N91 E0_5_92 Hd93 (Or.inr St91)
  · rw [q4]
    have j20 : ∀ (T94 : State) (lc94 : List Loc), Own.Wk Z "lifestack/util/LinesOneLinePinLaw" code h0 p l e room_1 (s.setVm s.vm) m #[(.int x0), (.int x1), (.int x2), (.int x3)] below meth c T94 lc94 0 0 → Fr n0 lc94 →  Own.Goes p.tables e below (Own.KEH Z EL (QrmLaw Z x0 x1 x2 x3 zc fm fi h0 n0) s room_1.cells room_1.slots) (T94.setTop (mkF m 20 #[.val (.int x0), .val (.int x1), .val (.int x2), .val (.int x3), .val (.int (3 : Int32)), .unset, .unset, .unset, .unset, .unset, .unset, .unset, .unset, .unset] [])) := by
      intro T94 lc94   P94 N94 
      refine Own.iloadN (q := 21) P94 at_20 rfl rfl ?_
      refine Own.ldcI (q := 23) (v := (65535 : Int32)) P94 at_21 (wd hw 0 rfl) rfl ?_
      refine Own.iand (q := 24) P94 at_23  rfl ?_
      refine Own.i2cV (q := 25) (v := (x1 &&& (65535 : Int32))) P94 at_24 (Own.i2c_id16 (Own.ch_mask _)) rfl ?_
      have hc0 := Own.ch_mask x1
      generalize (x1 &&& (65535 : Int32)) = c0 at hc0 ⊢
      refine Own.istore (q := 27) (L2 := #[.val (.int x0), .val (.int x1), .val (.int x2), .val (.int x3), .val (.int (3 : Int32)), .val (.int c0), .unset, .unset, .unset, .unset, .unset, .unset, .unset, .unset]) P94 at_25 rfl rfl ?_
      refine Own.iloadN (q := 28) P94 at_27 rfl rfl ?_
      refine Own.ldcI (q := 30) (v := (65535 : Int32)) P94 at_28 (wd hw 0 rfl) rfl ?_
      refine Own.iand (q := 31) P94 at_30  rfl ?_
      refine Own.i2cV (q := 32) (v := (x2 &&& (65535 : Int32))) P94 at_31 (Own.i2c_id16 (Own.ch_mask _)) rfl ?_
      have hc1 := Own.ch_mask x2
      generalize (x2 &&& (65535 : Int32)) = c1 at hc1 ⊢
      refine Own.istore (q := 34) (L2 := #[.val (.int x0), .val (.int x1), .val (.int x2), .val (.int x3), .val (.int (3 : Int32)), .val (.int c0), .val (.int c1), .unset, .unset, .unset, .unset, .unset, .unset, .unset]) P94 at_32 rfl rfl ?_
      refine Own.iloadN (q := 35) P94 at_34 rfl rfl ?_
      refine Own.ldcI (q := 37) (v := (65535 : Int32)) P94 at_35 (wd hw 0 rfl) rfl ?_
      refine Own.iand (q := 38) P94 at_37  rfl ?_
      refine Own.i2cV (q := 39) (v := (x3 &&& (65535 : Int32))) P94 at_38 (Own.i2c_id16 (Own.ch_mask _)) rfl ?_
      have hc2 := Own.ch_mask x3
      generalize (x3 &&& (65535 : Int32)) = c2 at hc2 ⊢
      refine Own.istore (q := 41) (L2 := #[.val (.int x0), .val (.int x1), .val (.int x2), .val (.int x3), .val (.int (3 : Int32)), .val (.int c0), .val (.int c1), .val (.int c2), .unset, .unset, .unset, .unset, .unset, .unset]) P94 at_39 rfl rfl ?_
      have J168 : ∀ (T95 : State) (lc95 : List Loc) (h95 : Heap) (vm95 : Vm) (b8 : Addr) (ab : Addr) (rr : Addr), Own.Wk Z "lifestack/util/LinesOneLinePinLaw" code h95 p l e room_1 (s.setVm vm95) m #[(.int x0), (.int x1), (.int x2), (.int x3)] below meth c T95 lc95 34 1260 → Fr n0 lc95 → Ext h0 h95 → Own.Hd Z EL s vm95 h0 h95 → Own.TX Z h95 rr (Own.rend [c0, c1, c2]) → Own.Goes p.tables e below (Own.KEH Z EL (QrmLaw Z x0 x1 x2 x3 zc fm fi h0 n0) s room_1.cells room_1.slots) (T95.setTop (mkF m 168 #[.val (.int x0), .val (.int x1), .val (.int x2), .val (.int x3), .val (.int (3 : Int32)), .val (.int c0), .val (.int c1), .val (.int c2), .val (.ref b8), .val (.ref ab), .val (.ref rr), .val (.int (Int32.ofNat (Own.rendC c0).length)), .val (.int (Int32.ofNat (Own.rendC c1).length)), .val (.int (Int32.ofNat (Own.rendC c2).length))] [])) := by
        intro T95 lc95 h95 vm95 b8 ab rr P95 N95 EJ95 H95 Xr
        generalize hL0 : (Own.rendC c0).length = e0
        generalize hL1 : (Own.rendC c1).length = e1
        generalize hL2 : (Own.rendC c2).length = e2
        refine Own.iload (q := 170) P95 at_168 rfl rfl ?_
        refine Own.if_le (q := 173) (qy := 186) P95 at_170 (by decide) rfl (fun q => absurd (by decide) q) (fun _ => ?_)
        refine Own.aload (q := 175) P95 at_173 rfl rfl rfl ?_
        refine Own.iconst (q := 176) (v := (0 : Int32)) P95 at_175 rfl rfl ?_
        refine Own.iload (q := 178) P95 at_176 rfl rfl ?_
        have ck96 := Own.ck (rs := Own.rend [c0, c1, c2]) (oo := 0) [] (Own.rendC c0) (Own.rend [c1, c2]) (by rw [List.nil_append]; exact Own.rend_cons _ _) rfl
        have E0_1_97 : Ext h0 h95 := EJ95
        refine Own.cS (q := 181) (W := 0) (rest := []) P95 at_178 (wd hw 234 rfl) (sw_54 hw) (rmCk l Z a0 hw [] rr (Own.rend [c0, c1, c2]) 0 c0 zc fm h95 n0 (Nat.le_trans Z0 E0_1_97.1) (SC.ext E0_1_97) hzc (SF.ext E0_1_97) hfm (SA.ext E0_1_97) (SH.ext E0_1_97) (SL.ext E0_1_97) Xr ck96.1 ck96.2) (by decide) (by decide) rfl (hml rfl) rfl rfl (by decide) (by decide) rfl ?_
        rintro v98 T98 h98 L98 ⟨rfl, N98q, e98⟩ P98
        rw [e98] at P98
        have N98 := Fr.app N95 N98q
        refine Own.if_ne (q := 184) (qy := 186) P98 at_181 (by decide) rfl (fun _ => ?_) (fun q => absurd q (by decide))
        refine Own.iload (q := 188) P98 at_186 rfl rfl ?_
        refine Own.iconst (q := 189) (v := (1 : Int32)) P98 at_188 rfl rfl ?_
        refine Own.icmp_le (q := 192) (qy := 206) P98 at_189 (by decide) rfl (fun q => absurd (by decide) q) (fun _ => ?_)
        refine Own.aload (q := 194) P98 at_192 rfl rfl rfl ?_
        refine Own.iload (q := 196) P98 at_194 rfl rfl ?_
        refine Own.iload (q := 198) P98 at_196 rfl rfl ?_
        have ck99 := Own.ck (rs := Own.rend [c0, c1, c2]) (oo := e0) (Own.rendC c0) (Own.rendC c1) (Own.rend [c2]) (by rw [Own.rend_cons, Own.rend_cons]) hL0.symm
        refine Own.cS (q := 201) (W := 0) (rest := []) P98 at_198 (wd hw 234 rfl) (sw_54 hw) (rmCk l Z a0 hw [] rr (Own.rend [c0, c1, c2]) e0 c1 zc fm h95 n0 (Nat.le_trans Z0 E0_1_97.1) (SC.ext E0_1_97) hzc (SF.ext E0_1_97) hfm (SA.ext E0_1_97) (SH.ext E0_1_97) (SL.ext E0_1_97) Xr ck99.1 ck99.2) (by decide) (by decide) rfl (hml rfl) rfl rfl (by decide) (by decide) rfl ?_
        rintro v100 T100 h100 L100 ⟨rfl, N100q, e100⟩ P100
        rw [e100] at P100
        have N100 := Fr.app N98 N100q
        refine Own.if_ne (q := 204) (qy := 206) P100 at_201 (by decide) rfl (fun _ => ?_) (fun q => absurd q (by decide))
        refine Own.iload (q := 208) P100 at_206 rfl rfl ?_
        refine Own.iconst (q := 209) (v := (2 : Int32)) P100 at_208 rfl rfl ?_
        refine Own.icmp_le (q := 212) (qy := 229) P100 at_209 (by decide) rfl (fun q => absurd (by decide) q) (fun _ => ?_)
        refine Own.aload (q := 214) P100 at_212 rfl rfl rfl ?_
        refine Own.iload (q := 216) P100 at_214 rfl rfl ?_
        refine Own.iload (q := 218) P100 at_216 rfl rfl ?_
        refine Own.iadd (q := 219) P100 at_218  rfl ?_
        rw [show ((Int32.ofNat e0) + (Int32.ofNat e1)) = (Int32.ofNat (e0 + e1)) from (Int32.ofNat_add _ _).symm]
        refine Own.iload (q := 221) P100 at_219 rfl rfl ?_
        have ck101 := Own.ck (rs := Own.rend [c0, c1, c2]) (oo := (e0 + e1)) (Own.rendC c0 ++ Own.rendC c1) (Own.rendC c2) (Own.rend []) (by rw [Own.rend_cons, Own.rend_cons, Own.rend_cons, List.append_assoc]) (by rw [List.length_append, hL0, hL1])
        refine Own.cS (q := 224) (W := 0) (rest := []) P100 at_221 (wd hw 234 rfl) (sw_54 hw) (rmCk l Z a0 hw [] rr (Own.rend [c0, c1, c2]) (e0 + e1) c2 zc fm h95 n0 (Nat.le_trans Z0 E0_1_97.1) (SC.ext E0_1_97) hzc (SF.ext E0_1_97) hfm (SA.ext E0_1_97) (SH.ext E0_1_97) (SL.ext E0_1_97) Xr ck101.1 ck101.2) (by decide) (by decide) rfl (hml rfl) rfl rfl (by decide) (by decide) rfl ?_
        rintro v102 T102 h102 L102 ⟨rfl, N102q, e102⟩ P102
        rw [e102] at P102
        have N102 := Fr.app N100 N102q
        refine Own.if_ne (q := 227) (qy := 229) P102 at_224 (by decide) rfl (fun _ => ?_) (fun q => absurd q (by decide))
        refine Own.iconst (q := 230) (v := (1 : Int32)) P102 at_229 rfl rfl ?_
        refine Own.retZH P102 hh (ew hw) H95 at_230 hret (by simp) hlk (by decide) (by decide) ?_
        exact ⟨rfl, N102⟩
      have J91 : ∀ (T103 : State) (lc103 : List Loc) (h103 : Heap) (vm103 : Vm) (b8 : Addr) (ab : Addr), Own.Wk Z "lifestack/util/LinesOneLinePinLaw" code h103 p l e room_1 (s.setVm vm103) m #[(.int x0), (.int x1), (.int x2), (.int x3)] below meth c T103 lc103 4 60 → Fr n0 lc103 → Ext h0 h103 → Own.Hd Z EL s vm103 h0 h103 → Own.TX Z h103 ab [c0, c1, c2] → Own.Goes p.tables e below (Own.KEH Z EL (QrmLaw Z x0 x1 x2 x3 zc fm fi h0 n0) s room_1.cells room_1.slots) (T103.setTop (mkF m 91 #[.val (.int x0), .val (.int x1), .val (.int x2), .val (.int x3), .val (.int (3 : Int32)), .val (.int c0), .val (.int c1), .val (.int c2), .val (.ref b8), .unset, .unset, .unset, .unset, .unset] [(.ref ab)])) := by
        intro T103 lc103 h103 vm103 b8 ab P103 N103 EJ103 H103 X9
        refine Own.astore (q := 93) (L2 := #[.val (.int x0), .val (.int x1), .val (.int x2), .val (.int x3), .val (.int (3 : Int32)), .val (.int c0), .val (.int c1), .val (.int c2), .val (.ref b8), .val (.ref ab), .unset, .unset, .unset, .unset]) P103 at_91 rfl rfl rfl ?_
        refine Own.aload (q := 95) P103 at_93 rfl rfl rfl ?_
        have E0_1_104 : Ext h0 h103 := EJ103
        refine Own.cSH (q := 98) (W := 0) (rest := []) P103 H103 at_95 (wd hw 23 rfl) (sw_53 hw) (rmOne l Z a0 hw [] ab [c0, c1, c2] zc fm fi h103 n0 (Nat.le_trans Z0 E0_1_104.1) (SC.ext E0_1_104) hzc (SF.ext E0_1_104) hfm (SA.ext E0_1_104) (SH.ext E0_1_104) (SL.ext E0_1_104) (SI.ext E0_1_104) hfi X9 (Own.leb rfl)) (ew hw) all0 (by decide) (by decide) rfl (hml rfl) rfl rfl (by decide) (by decide) rfl ?_
        rintro v105 T105 vm105 h105 L105 ⟨r105, rfl, N105q, E105, X105⟩ P105 H105 hr105
        have N105 := Fr.app N103 N105q
        refine Own.astore (q := 100) (L2 := #[.val (.int x0), .val (.int x1), .val (.int x2), .val (.int x3), .val (.int (3 : Int32)), .val (.int c0), .val (.int c1), .val (.int c2), .val (.ref b8), .val (.ref ab), .val (.ref r105), .unset, .unset, .unset]) P105 at_98 rfl rfl rfl ?_
        refine Own.iload (q := 102) P105 at_100 rfl rfl ?_
        refine Own.if_le (q := 105) (qy := 113) P105 at_102 (by decide) rfl (fun q => absurd (by decide) q) (fun _ => ?_)
        refine Own.iload (q := 107) P105 at_105 rfl rfl ?_
        have E0_2_106 : Ext h0 h105 := (Own.Ext.tr E0_1_104 E105)
        refine Own.cS (q := 110) (W := 0) (rest := []) P105 at_107 (wd hw 227 rfl) (sw_55 hw) (rmLw l Z a0 hw [] c0 h105 n0 (Nat.le_trans Z0 E0_2_106.1) ) (by decide) (by decide) rfl (hml rfl) rfl rfl (by decide) (by decide) rfl ?_
        rintro v107 T107 h107 L107 ⟨rfl, N107q, e107⟩ P107
        rw [e107] at P107
        have N107 := Fr.app N105 N107q
        refine Own.goto (q := 114) P107 at_110 (by decide) ?_
        refine Own.istore (q := 116) (L2 := #[.val (.int x0), .val (.int x1), .val (.int x2), .val (.int x3), .val (.int (3 : Int32)), .val (.int c0), .val (.int c1), .val (.int c2), .val (.ref b8), .val (.ref ab), .val (.ref r105), .val (.int (Int32.ofNat (Own.rendC c0).length)), .unset, .unset]) P107 at_114 rfl rfl ?_
        refine Own.iload (q := 118) P107 at_116 rfl rfl ?_
        refine Own.iconst (q := 119) (v := (1 : Int32)) P107 at_118 rfl rfl ?_
        refine Own.icmp_le (q := 122) (qy := 130) P107 at_119 (by decide) rfl (fun q => absurd (by decide) q) (fun _ => ?_)
        refine Own.iload (q := 124) P107 at_122 rfl rfl ?_
        refine Own.cS (q := 127) (W := 0) (rest := []) P107 at_124 (wd hw 227 rfl) (sw_55 hw) (rmLw l Z a0 hw [] c1 h105 n0 (Nat.le_trans Z0 E0_2_106.1) ) (by decide) (by decide) rfl (hml rfl) rfl rfl (by decide) (by decide) rfl ?_
        rintro v108 T108 h108 L108 ⟨rfl, N108q, e108⟩ P108
        rw [e108] at P108
        have N108 := Fr.app N107 N108q
        refine Own.goto (q := 131) P108 at_127 (by decide) ?_
        refine Own.istore (q := 133) (L2 := #[.val (.int x0), .val (.int x1), .val (.int x2), .val (.int x3), .val (.int (3 : Int32)), .val (.int c0), .val (.int c1), .val (.int c2), .val (.ref b8), .val (.ref ab), .val (.ref r105), .val (.int (Int32.ofNat (Own.rendC c0).length)), .val (.int (Int32.ofNat (Own.rendC c1).length)), .unset]) P108 at_131 rfl rfl ?_
        refine Own.iload (q := 135) P108 at_133 rfl rfl ?_
        refine Own.iconst (q := 136) (v := (2 : Int32)) P108 at_135 rfl rfl ?_
        refine Own.icmp_le (q := 139) (qy := 147) P108 at_136 (by decide) rfl (fun q => absurd (by decide) q) (fun _ => ?_)
        refine Own.iload (q := 141) P108 at_139 rfl rfl ?_
        refine Own.cS (q := 144) (W := 0) (rest := []) P108 at_141 (wd hw 227 rfl) (sw_55 hw) (rmLw l Z a0 hw [] c2 h105 n0 (Nat.le_trans Z0 E0_2_106.1) ) (by decide) (by decide) rfl (hml rfl) rfl rfl (by decide) (by decide) rfl ?_
        rintro v109 T109 h109 L109 ⟨rfl, N109q, e109⟩ P109
        rw [e109] at P109
        have N109 := Fr.app N108 N109q
        refine Own.goto (q := 148) P109 at_144 (by decide) ?_
        refine Own.istore (q := 150) (L2 := #[.val (.int x0), .val (.int x1), .val (.int x2), .val (.int x3), .val (.int (3 : Int32)), .val (.int c0), .val (.int c1), .val (.int c2), .val (.ref b8), .val (.ref ab), .val (.ref r105), .val (.int (Int32.ofNat (Own.rendC c0).length)), .val (.int (Int32.ofNat (Own.rendC c1).length)), .val (.int (Int32.ofNat (Own.rendC c2).length))]) P109 at_148 rfl rfl ?_
        refine Own.aload (q := 152) P109 at_150 rfl rfl rfl ?_
        refine Own.cW (q := 155) (W := 0) (rest := []) P109 at_152 (wd hw 38 rfl) (vw_24 hw) (Own.nfs P109 (wd hw 30 rfl)) X105.exa (lenT (W := 0) (n0 := n0) P109.2.2.2.1 hw X105 (Nat.le_trans Z0 E0_2_106.1) (SC.ext E0_2_106) hzc (by decide) (by decide)) rfl (hml rfl) rfl rfl (by decide) (by decide) rfl ?_
        rintro v110 T110 h110 L110 ⟨rfl, N110q, e110⟩ P110
        rw [e110] at P110
        have N110 := Fr.app N109 N110q
        refine Own.iload (q := 157) P110 at_155 rfl rfl ?_
        refine Own.iload (q := 159) P110 at_157 rfl rfl ?_
        refine Own.iadd (q := 160) P110 at_159  rfl ?_
        refine Own.iload (q := 162) P110 at_160 rfl rfl ?_
        refine Own.iadd (q := 163) P110 at_162  rfl ?_
        refine Own.icmp_eq (q := 166) (qy := 168) P110 at_163 (by decide) rfl (fun _ => ?_) (fun q => absurd (Own.rl3 _ _ _) q)
        exact J168 _ _ _ _ b8 ab r105 (Own.Wk.up P110 (by decide) (by decide)) N110 E0_2_106 H105 X105
      refine Own.iload (q := 43) P94 at_41 rfl rfl ?_
      refine Own.newarr (q := 45) (cap := 3) P94 at_43 (wd hw 1 rfl) (by decide) (by decide) (by decide) (by decide) (by decide) rfl ?_
      intro T111 h111 a111 k111 ha111 P111 E111 A111
      have V111 : Arv Z h111 a111 k111 .char (3 : Int32) [(.int 0), (.int 0), (.int 0)] (.int 0) := Arv.pad A111 (pad_rep [] _ 3)
      refine Own.astore (q := 47) (L2 := #[.val (.int x0), .val (.int x1), .val (.int x2), .val (.int x3), .val (.int (3 : Int32)), .val (.int c0), .val (.int c1), .val (.int c2), .val (.ref a111), .unset, .unset, .unset, .unset, .unset]) P111 at_45 rfl rfl rfl ?_
      refine Own.iload (q := 49) P111 at_47 rfl rfl ?_
      refine Own.if_le (q := 52) (qy := 58) P111 at_49 (by decide) rfl (fun q => absurd (by decide) q) (fun _ => ?_)
      refine Own.aload (q := 54) P111 at_52 rfl rfl rfl ?_
      refine Own.iconst (q := 55) (v := (0 : Int32)) P111 at_54 rfl rfl ?_
      refine Own.iload (q := 57) P111 at_55 rfl rfl ?_
      refine Own.castore (q := 58) (i := 0) (x2 := c0) P111 at_57 V111 (by decide) (by decide) (Own.nar_id16 hc0) (Own.fits16 hc0) (by decide) (Own.ltb rfl) rfl ?_
      intro T112 h112 lc112 hl112 P112 W112 A112
      have V112 : Arv Z h112 a111 k111 .char (3 : Int32) [(.int c0), (.int 0), (.int 0)] (.int 0) := A112
      have N112 := Own.Fr.one N94 hl112 (Nat.le_trans Z0 (Nat.le_of_eq ha111.symm))
      refine Own.iload (q := 60) P112 at_58 rfl rfl ?_
      refine Own.iconst (q := 61) (v := (1 : Int32)) P112 at_60 rfl rfl ?_
      refine Own.icmp_le (q := 64) (qy := 70) P112 at_61 (by decide) rfl (fun q => absurd (by decide) q) (fun _ => ?_)
      refine Own.aload (q := 66) P112 at_64 rfl rfl rfl ?_
      refine Own.iconst (q := 67) (v := (1 : Int32)) P112 at_66 rfl rfl ?_
      refine Own.iload (q := 69) P112 at_67 rfl rfl ?_
      refine Own.castore (q := 70) (i := 1) (x2 := c1) P112 at_69 V112 (by decide) (by decide) (Own.nar_id16 hc1) (Own.fits16 hc1) (by decide) (Own.ltb rfl) rfl ?_
      intro T113 h113 lc113 hl113 P113 W113 A113
      have V113 : Arv Z h113 a111 k111 .char (3 : Int32) [(.int c0), (.int c1), (.int 0)] (.int 0) := A113
      have N113 := Own.Fr.one N112 hl113 (Nat.le_trans Z0 (Nat.le_of_eq ha111.symm))
      refine Own.iload (q := 72) P113 at_70 rfl rfl ?_
      refine Own.iconst (q := 73) (v := (2 : Int32)) P113 at_72 rfl rfl ?_
      refine Own.icmp_le (q := 76) (qy := 82) P113 at_73 (by decide) rfl (fun q => absurd (by decide) q) (fun _ => ?_)
      refine Own.aload (q := 78) P113 at_76 rfl rfl rfl ?_
      refine Own.iconst (q := 79) (v := (2 : Int32)) P113 at_78 rfl rfl ?_
      refine Own.iload (q := 81) P113 at_79 rfl rfl ?_
      refine Own.castore (q := 82) (i := 2) (x2 := c2) P113 at_81 V113 (by decide) (by decide) (Own.nar_id16 hc2) (Own.fits16 hc2) (by decide) (Own.ltb rfl) rfl ?_
      intro T114 h114 lc114 hl114 P114 W114 A114
      have V114 : Arv Z h114 a111 k111 .char (3 : Int32) [(.int c0), (.int c1), (.int c2)] (.int 0) := A114
      have N114 := Own.Fr.one N113 hl114 (Nat.le_trans Z0 (Nat.le_of_eq ha111.symm))
      refine Own.newobj (q := 85) P114 at_82 (wd hw 2 rfl) (wd hw 3 rfl) (wd hw 4 rfl) (by decide) (by decide) rfl ?_
      intro T115 h115 a115 ha115 P115 E115 A115 D115
      have F115_value : Fld Z h115 a115 "java/lang/String" "value" "[B" .null := D115 (Or.inr (wd hw 17 rfl)) (ty := (.array .byte)) (by decide)
      have F115_coder : Fld Z h115 a115 "java/lang/String" "coder" "B" (.int (0 : Int32)) := D115 (Or.inr (wd hw 18 rfl)) (ty := .byte) (by decide)
      refine Own.dup (q := 86) P115 at_85 rfl rfl ?_
      refine Own.aload (q := 88) P115 at_86 rfl rfl rfl ?_
      rcases Classical.em (∀ c ∈ ([c0, c1, c2] : List Int32), ¬ (255 : Int32) < c) with hsm | hbig
      · skip
        have E0_1_116 : Ext h0 h111 := E111
        have E0_2_117 : Ext h0 h112 := (Own.Ext.wr E0_1_116 W112 (Nat.le_of_eq ha111.symm))
        have E0_3_118 : Ext h0 h113 := (Own.Ext.wr E0_2_117 W113 (Nat.le_of_eq ha111.symm))
        have E0_4_119 : Ext h0 h114 := (Own.Ext.wr E0_3_118 W114 (Nat.le_of_eq ha111.symm))
        have E0_5_120 : Ext h0 h115 := (Own.Ext.tr E0_4_119 E115)
        have E4_5_121 : Ext h114 h115 := E115
        refine Own.invSpecial (q := 91) (W := 1) (y := (⟨"java/lang/String", "<init>", "([C)V"⟩ : MethodName)) (a := a115) (argsL := [(.ref a111)]) (rest := [(.ref a115)]) P115 at_88 rfl (wd hw 5 rfl) (wd hw 6 rfl) (wd hw 7 rfl) (by decide) (Own.newB (W := 1) (n0 := n0) (cs := [c0, c1, c2]) (n := 3) P115.2.2.2.1 (fun d hd => hw d (sub_backV d hd)) (wd hw 3 rfl) (Nat.le_trans Z0 (Nat.le_trans E0_4_119.1 (Nat.le_of_eq ha115.symm))) (Nat.le_trans Z0 E0_5_120.1) A115 F115_value F115_coder (V114.ext E4_5_121) (SC.ext E0_5_120) hzc rfl rfl (by decide) (by decide) (Own.chS ⟨hc0.1, hsm _ (by simp)⟩ (Own.chS ⟨hc1.1, hsm _ (by simp)⟩ (Own.chS ⟨hc2.1, hsm _ (by simp)⟩ Own.ch0))) (by decide) (by decide)) rfl rfl (hml rfl) (lenOf pd_40 rfl) (Own.w0 rfl) (by decide) (by decide) rfl ?_
        rintro v122 T122 h122 L122 ⟨rfl, N122q, K122, St122⟩ P122
        have N122 := Fr.app N114 N122q
        have E0_6_123 : Ext h0 h122 := (Own.Ext.kp E0_5_120 K122 (allS (Nat.le_trans E0_4_119.1 (Nat.le_of_eq ha115.symm)) all0))
        have Hd124 := (H0.ext E0_6_123)
        exact J91 _ _ _ _ a111 a115 (Own.Wk.up P122 (by decide) (by decide)) N122 E0_6_123 Hd124 (Or.inl St122)
      · skip
        have E0_1_125 : Ext h0 h111 := E111
        have E0_2_126 : Ext h0 h112 := (Own.Ext.wr E0_1_125 W112 (Nat.le_of_eq ha111.symm))
        have E0_3_127 : Ext h0 h113 := (Own.Ext.wr E0_2_126 W113 (Nat.le_of_eq ha111.symm))
        have E0_4_128 : Ext h0 h114 := (Own.Ext.wr E0_3_127 W114 (Nat.le_of_eq ha111.symm))
        have E0_5_129 : Ext h0 h115 := (Own.Ext.tr E0_4_128 E115)
        have E4_5_130 : Ext h114 h115 := E115
        refine Own.cI (q := 91) (W := 1) (rest := [(.ref a115)]) P115 at_88 (wd hw 5 rfl) (iw_52 hw) (rmI13 l Z a0 hw [] a115 .null (.int (0 : Int32)) a111 k111 _ c0 c1 c2 zc h115 n0 (Nat.le_trans Z0 E0_5_129.1) (SC.ext E0_5_129) hzc (SA.ext E0_5_129) (SH.ext E0_5_129) (SL.ext E0_5_129) A115 F115_value F115_coder (Nat.le_trans Z0 (Nat.le_trans E0_4_128.1 (Nat.le_of_eq ha115.symm))) (V114.ext E4_5_130) hbig hc0 hc1 hc2) (by decide) (by decide) rfl (hml rfl) rfl rfl (by decide) (by decide) rfl ?_
        rintro v131 T131 h131 L131 ⟨rfl, N131q, K131, St131⟩ P131
        have N131 := Fr.app N114 N131q
        have E0_6_132 : Ext h0 h131 := (Own.Ext.kp E0_5_129 K131 (allS (Nat.le_trans E0_4_128.1 (Nat.le_of_eq ha115.symm)) all0))
        have Hd133 := (H0.ext E0_6_132)
        exact J91 _ _ _ _ a111 a115 (Own.Wk.up P131 (by decide) (by decide)) N131 E0_6_132 Hd133 (Or.inr St131)
    refine Own.iload (q := 7) P0 at_5 rfl rfl ?_
    refine Own.iconst (q := 8) (v := (3 : Int32)) P0 at_7 rfl rfl ?_
    refine Own.icmp_ne (q := 11) (qy := 20) P0 at_8 (by decide) rfl (fun q => absurd rfl q) (fun _ => ?_)
    refine Own.iloadN (q := 12) P0 at_11 rfl rfl ?_
    refine Own.iconst (q := 13) (v := (4 : Int32)) P0 at_12 rfl rfl ?_
    refine Own.iand (q := 14) P0 at_13  rfl ?_
    refine Own.if_eq (q := 17) (qy := 20) P0 at_14 (by decide) rfl (fun q14 => ?_) (fun q14 => ?_)
    · exact j20 _ _   P0 (Fr.nil n0) 
    · refine Own.iconst (q := 18) (v := (3 : Int32)) P0 at_17 rfl rfl ?_
      refine Own.istore (q := 20) (L2 := #[.val (.int x0), .val (.int x1), .val (.int x2), .val (.int x3), .val (.int (3 : Int32)), .unset, .unset, .unset, .unset, .unset, .unset, .unset, .unset, .unset]) P0 at_18 rfl rfl ?_
      exact j20 _ _   P0 (Fr.nil n0) 
theorem comes_1 {Post : Tables → Env → Array Value → State → Outcome → State → Prop} (hpost : ∀ tb e args s v u, (limb_1_1.after args s (.returned v) u = true ∧ limb_1_2.after args s (.returned v) u = true ∧ True) → ReturnedEndW s (.returned v) u (Jvm.fieldLocs frame_1_writes args s ++ Jvm.arrayLocs frame_1_arrays args s ++ Jvm.staticLocs frame_1_statics s) 40 4416 → Post tb e args s (.returned v) u) :
    ArmFor flags0 classFile x code maxLocals ret World_1 tables_1 room_1 Calls_1 rest_1 Pre_1 Post := by
  intro l hfl _ _ p e ha hc hk s m args below hf hA hF happ hP
  obtain ⟨hcalls, hrest, hpre⟩ := hP
  obtain ⟨-, -, -, hnamed, -, -, -, hat⟩ := (Spec.applies_iff hf).mp happ
  obtain ⟨hg, hn⟩ := and_e (Cond.before_iff.mp (show (Jvm.Cond.and given_1 narrow_1).before args s = true from hpre))
  obtain ⟨hg0, hg1⟩ := and_e hg
  obtain ⟨hi1, hg2⟩ := and_e hg1
  obtain ⟨hi2, hg3⟩ := and_e hg2
  obtain ⟨hi3, hg4⟩ := and_e hg3
  obtain ⟨w0, w1, w2, w3, rfl⟩ : ∃ w0 w1 w2 w3 : Value, args = #[w0, w1, w2, w3] := by
    have hs : args.size = 4 := by simpa [Cond.value, given_1] using hg0
    obtain ⟨L⟩ := args
    match L, hs with
    | [w0, w1, w2, w3], _ => exact ⟨w0, w1, w2, w3, rfl⟩
  have hw := fun d (hd : d ∈ tables_1) => atoms_spec (ws := Jvm.Cond.code x code maxLocals ret :: tables_1) hat d (List.mem_cons_of_mem _ hd)
  obtain ⟨hsets, hown0⟩ := atoms_of _ (rest_1_c_eq ▸ (show rest_1_c.before _ s = true from hrest))
  have hfit : Fit s := fun {y c} hc i hi => by
    obtain ⟨ha, rfl⟩ := Array.getElem?_eq_some_iff.mp hc
    have q := List.all_eq_true.mp ((Array.all_eq_true_iff_forall_mem.mp hF) _ (Array.getElem_mem ha)) i (List.mem_range.mpr hi)
    simpa [Array.getElem?_eq_getElem hi] using q
  obtain ⟨i0, ei0⟩ := is_v hi1
  obtain rfl : w0 = (.int i0) := Option.some.inj ei0
  obtain ⟨i1, ei1⟩ := is_v hi2
  obtain rfl : w1 = (.int i1) := Option.some.inj ei1
  obtain ⟨i2, ei2⟩ := is_v hi3
  obtain rfl : w2 = (.int i2) := Option.some.inj ei2
  obtain ⟨i3, ei3⟩ := is_v hg4
  obtain rfl : w3 = (.int i3) := Option.some.inj ei3
  have n5 := not_v (Cond.before_iff.mp (hsets _ (List.mem_of_getElem? (i := 2) rfl)))
  obtain ⟨zc, ezc⟩ := is_v (Cond.before_iff.mp (hsets _ (List.mem_of_getElem? (i := 1) rfl)))
  have SC : Sta s s.heap "java/lang/String" "COMPACT_STRINGS" "Z" (.int zc) := Sta.start ezc (Or.inl (hsets _ (List.mem_of_getElem? (i := 0) rfl)))
  have hzc : ¬ (zc = (0 : Int32)) := gotF (Cond.eq_ints ezc (Term.int_eval (0))) n5
  obtain ⟨fm, efm, rfm⟩ := isR_v (Cond.before_iff.mp (hsets _ (List.mem_of_getElem? (i := 8) rfl)))
  have SF : Sta s s.heap "jdk/internal/util/Preconditions" "SIOOBE_FORMATTER" "Ljava/util/function/BiFunction;" fm := Sta.start efm (Or.inl (hsets _ (List.mem_of_getElem? (i := 7) rfl)))
  obtain ⟨vA, eA, fA⟩ := static_fit (ty := .boolean) hfit (hsets _ (List.mem_of_getElem? (i := 10) rfl)) (by decide)
  obtain ⟨yA, rfl⟩ := fit_I fA (by simp)
  obtain rfl : yA = 1 := gotT (Cond.eq_ints eA (Term.int_eval (1))) (Cond.before_iff.mp (hsets _ (List.mem_of_getElem? (i := 12) rfl)))
  have SA : Own.Ads s s.heap := Sta.start eA (Or.inl (hsets _ (List.mem_of_getElem? (i := 11) rfl)))
  obtain ⟨vH, eH, fH⟩ := static_fit (ty := .int) hfit (hsets _ (List.mem_of_getElem? (i := 13) rfl)) (by decide)
  obtain ⟨yH, rfl⟩ := fit_I fH (by simp)
  obtain rfl : yH = 0 := gotT (Cond.eq_ints eH (Term.int_eval (0))) (Cond.before_iff.mp (hsets _ (List.mem_of_getElem? (i := 15) rfl)))
  have SH : Own.Hib s s.heap := Sta.start eH (Or.inl (hsets _ (List.mem_of_getElem? (i := 14) rfl)))
  obtain ⟨vL, eL, fL⟩ := static_fit (ty := .int) hfit (hsets _ (List.mem_of_getElem? (i := 16) rfl)) (by decide)
  obtain ⟨yL, rfl⟩ := fit_I fL (by simp)
  obtain rfl : yL = 8 := gotT (Cond.eq_ints eL (Term.int_eval (8))) (Cond.before_iff.mp (hsets _ (List.mem_of_getElem? (i := 18) rfl)))
  have SL : Own.Lob s s.heap := Sta.start eL (Or.inl (hsets _ (List.mem_of_getElem? (i := 17) rfl)))
  obtain ⟨fi, eI, fI⟩ := static_fit (ty := (.object "java/util/function/BiFunction")) hfit (wd hw 110 rfl) (by decide)
  have SI : Sta s s.heap "jdk/internal/util/Preconditions" "IOOBE_FORMATTER" "Ljava/util/function/BiFunction;" fi := Sta.start eI (Or.inr ⟨hsets _ (List.mem_of_getElem? (i := 5) rfl), (wd hw 110 rfl)⟩)
  have hCH : CHv s EL s.vm s.heap := CHv.start (ew hw) (fun p hp => hcalls.1 p hp) (a0 := #[.int i0, .int i1, .int i2, .int i3]) (hsets _ (List.mem_of_getElem? (i := 2) rfl)) (wd hw 16 rfl) (wd hw 3 rfl)
  obtain ⟨n, o, h1, h2, h3, _, L, rfl, ⟨rfl, N⟩, -, hq⟩ := rmLaw l s _ hw tables_1 i0 i1 i2 i3 zc fm fi s.heap s.heap.size (Nat.le_refl _) SC hzc SF rfm SA SH SL SI (fit_R fI rfl) p e ha hc hk s m _ below hf ((Spec.applies_iff_loose hf).mp happ).1 ⟨rfl, State.Warmed39.refl s, rfl, hCH, fun _ q => nomatch q⟩ trivial
  refine ⟨n, _, h1, h2, h3, hpost _ _ _ _ _ _ ⟨Cond.after_iff.mpr rfl, Cond.after_iff.mpr (eq_i res_at (Term.int_eval (1)) rfl), trivial⟩ ⟨hq.1, hq.2.1, hq.2.2.1, (hq.2.2.2.sift fun y hy => Or.inr (N y hy)).mono (by decide) (by decide)⟩⟩
theorem main_1_1 : Claimed_1_1 := comes_1 fun _ _ _ _ _ _ h hF => ⟨h.1, hF⟩
theorem main_1_2 : Claimed_1_2 := comes_1 fun _ _ _ _ _ _ h hF => ⟨h.2.1, hF⟩

end Jvm.Pilot.@@N@@
namespace Jvm.Pilot.@@N@@
open Jvm Jvm.ClassFile Sem Op Lib Jvm.Free Jvm.Stand Jvm.Pilot.@@N@@.Jvm.D
/-! MADE BY PROGRAM (witnessworld.py) out of the Statement's table words and the real class files: 27 classes; the members and pool entries that the words name. The judged class is class 1, her method 5. -/
namespace start1
open Jvm.ClassFile
def u (s : String) : CpInfo := .utf8 (stringToUtf16 s)
/-- a pool by its gaps: so many unusable entries, then the entry; so many at the end -/
def gap : Nat → List CpInfo → List CpInfo
  | 0, r => r
  | n + 1, r => .unusable :: gap n r
def poolList (es : List (Nat × CpInfo)) (last : Nat) : List CpInfo := es.foldr (fun e r => gap e.1 (e.2 :: r)) (gap last [])
def pool (es : List (Nat × CpInfo)) (last : Nat) : Array CpInfo := ⟨poolList es last⟩
def fileOf (pool : Array CpInfo) (this : Nat) (attrs : Array Attribute := #[]) (ms : Array MethodInfo := #[]) (fl : Nat := 33) (sup : Nat := 0) (ifs : Array Nat := #[]) (fds : Array FieldInfo := #[]) : ClassFile where
  minorVersion := 0
  majorVersion := 65
  constantPool := pool
  accessFlags := fl
  thisClass := this
  superClass := sup
  interfaces := ifs
  fields := fds
  methods := ms
  attributes := attrs
def plain (name : String) (sup : Option ClassId) : Class where
  name := name
  kind := .ordinary
  loader := none
  accessFlags := 33
  super := sup
  interfaces := #[]
  cf := none
  fields := #[]
  methods := #[]
  instanceTypes := #[]
  staticTypes := #[]
  resolved := #[]
  callSites := []
  init := .initialized
  statics := none
  mirror := none

def pool0 : Array CpInfo := pool [(5, u "<init>"), (0, u "()V"), (1, .class_ 10), (1, u "java/lang/Object")] 113

def k0c0 : Code := { maxStack := 0, maxLocals := 1, code := object_method_1_code, exceptionTable := #[], attributes := #[] }
def k0m0 : Method := { name := "<init>", desc := "()V", sig := { parameters := [], returnType := none }, accessFlags := 1, code := some k0c0 }
/-- java/lang/Object -/
def k0 : Class := { plain "java/lang/Object" none with
  accessFlags := 33
  interfaces := #[]
  cf := some (fileOf pool0 8 #[] #[{ accessFlags := 1, nameIndex := 5, descriptorIndex := 6, attributes := #[] }] 33 0 #[] #[])
  fields := #[]
  methods := #[k0m0]
  instanceTypes := #[]
  staticTypes := #[]
  resolved := Array.replicate 124 none
  statics := none }

def pool1 : Array CpInfo := pool [(2, .class_ 4), (1, u "java/lang/Object"), (0, u "<init>"), (0, u "()V"), (0, .methodref 8 9), (0, .class_ 10), (0, .nameAndType 11 12), (0, u "lifestack/util/LinesOneLinePinLaw"), (0, u "esc"), (0, u "(C)Z"), (0, .methodref 14 15), (0, .class_ 16), (0, .nameAndType 17 18), (0, u "java/lang/String"), (0, u "charAt"), (0, u "(I)C"), (0, .methodref 8 20), (0, .nameAndType 21 18), (0, u "hex"), (0, .integer 65535), (0, .methodref 14 24), (0, .nameAndType 5 25), (0, u "([C)V"), (0, .methodref 27 28), (0, .class_ 29), (0, .nameAndType 30 31), (0, u "lifestack/util/Lines"), (0, u "oneLine"), (0, u "(Ljava/lang/String;)Ljava/lang/String;"), (0, .methodref 8 33), (0, .nameAndType 34 35), (0, u "width"), (0, u "(C)I"), (0, .methodref 14 37), (0, .nameAndType 38 39), (0, u "length"), (0, u "()I"), (0, .methodref 8 41), (0, .nameAndType 42 43), (0, u "check"), (0, u "(Ljava/lang/String;IC)Z"), (3, u "law"), (0, u "(IIII)Z")] 4

def k1m0 : Method := { name := "<init>", desc := "()V", sig := { parameters := [], returnType := none }, accessFlags := 2, code := none }
def k1c1 : Code := { maxStack := 2, maxLocals := 1, code := method_2_code, exceptionTable := #[], attributes := #[] }
def k1m1 : Method := { name := "esc", desc := "(C)Z", sig := { parameters := [.char], returnType := some .boolean }, accessFlags := 10, code := some k1c1 }
def k1c2 : Code := { maxStack := 2, maxLocals := 1, code := method_3_code, exceptionTable := #[], attributes := #[] }
def k1m2 : Method := { name := "width", desc := "(C)I", sig := { parameters := [.char], returnType := some .int }, accessFlags := 10, code := some k1c2 }
def k1c3 : Code := { maxStack := 3, maxLocals := 1, code := method_4_code, exceptionTable := #[], attributes := #[] }
def k1m3 : Method := { name := "hex", desc := "(I)C", sig := { parameters := [.int], returnType := some .char }, accessFlags := 10, code := some k1c3 }
def k1c4 : Code := { maxStack := 3, maxLocals := 3, code := method_5_code, exceptionTable := #[], attributes := #[] }
def k1m4 : Method := { name := "check", desc := "(Ljava/lang/String;IC)Z", sig := { parameters := [(.object "java/lang/String"), .int, .char], returnType := some .boolean }, accessFlags := 10, code := some k1c4 }
def k1c5 : Code := { maxStack := 3, maxLocals := 14, code := code, exceptionTable := #[], attributes := #[] }
def k1m5 : Method := { name := "law", desc := "(IIII)Z", sig := { parameters := [.int, .int, .int, .int], returnType := some .boolean }, accessFlags := 9, code := some k1c5 }
/-- lifestack/util/LinesOneLinePinLaw -/
def k1 : Class := { plain "lifestack/util/LinesOneLinePinLaw" (some 0) with
  accessFlags := 49
  interfaces := #[]
  cf := some (fileOf pool1 8 #[] #[{ accessFlags := 2, nameIndex := 5, descriptorIndex := 6, attributes := #[] }, { accessFlags := 10, nameIndex := 11, descriptorIndex := 12, attributes := #[] }, { accessFlags := 10, nameIndex := 34, descriptorIndex := 35, attributes := #[] }, { accessFlags := 10, nameIndex := 21, descriptorIndex := 18, attributes := #[] }, { accessFlags := 10, nameIndex := 42, descriptorIndex := 43, attributes := #[] }, { accessFlags := 9, nameIndex := 47, descriptorIndex := 48, attributes := #[] }] 49 2 #[] #[])
  fields := #[]
  methods := #[k1m0, k1m1, k1m2, k1m3, k1m4, k1m5]
  instanceTypes := #[]
  staticTypes := #[]
  resolved := Array.replicate 53 none
  statics := none }

def pool2 : Array CpInfo := pool [(1, .class_ 2), (0, u "java/io/Serializable"), (0, .class_ 4), (0, u "java/lang/Object")] 2

/-- java/io/Serializable -/
def k2 : Class := { plain "java/io/Serializable" (some 0) with
  accessFlags := 1537
  interfaces := #[]
  cf := some (fileOf pool2 1 #[] #[] 1537 3 #[] #[])
  fields := #[]
  methods := #[]
  instanceTypes := #[]
  staticTypes := #[]
  resolved := Array.replicate 7 none
  statics := none }

def pool3 : Array CpInfo := pool [(1, .class_ 2), (0, u "java/lang/Comparable"), (0, .class_ 4), (0, u "java/lang/Object")] 7

/-- java/lang/Comparable -/
def k3 : Class := { plain "java/lang/Comparable" (some 0) with
  accessFlags := 1537
  interfaces := #[]
  cf := some (fileOf pool3 1 #[] #[] 1537 3 #[] #[])
  fields := #[]
  methods := #[]
  instanceTypes := #[]
  staticTypes := #[]
  resolved := Array.replicate 12 none
  statics := none }

def pool4 : Array CpInfo := pool [(2, .class_ 4), (1, u "java/lang/CharSequence"), (0, u "length"), (0, u "()I"), (40, .class_ 48), (0, u "java/lang/CharSequence$1CodePointIterator"), (10, .class_ 60), (0, u "java/lang/CharSequence$1CharIterator"), (5, .class_ 67), (0, u "java/lang/Object")] 63

def k4m0 : Method := { name := "length", desc := "()I", sig := { parameters := [], returnType := some .int }, accessFlags := 1025, code := none }
/-- java/lang/CharSequence -/
def k4 : Class := { plain "java/lang/CharSequence" (some 0) with
  accessFlags := 1537
  interfaces := #[]
  cf := some (fileOf pool4 2 #[.nestMembers #[47, 59]] #[{ accessFlags := 1025, nameIndex := 5, descriptorIndex := 6, attributes := #[] }] 1537 66 #[] #[])
  fields := #[]
  methods := #[k4m0]
  instanceTypes := #[]
  staticTypes := #[]
  resolved := Array.replicate 131 none
  statics := none }

def pool5 : Array CpInfo := pool [(1, .class_ 2), (0, u "java/lang/constant/Constable"), (0, .class_ 4), (0, u "java/lang/Object")] 6

/-- java/lang/constant/Constable -/
def k5 : Class := { plain "java/lang/constant/Constable" (some 0) with
  accessFlags := 1537
  interfaces := #[]
  cf := some (fileOf pool5 1 #[] #[] 1537 3 #[] #[])
  fields := #[]
  methods := #[]
  instanceTypes := #[]
  staticTypes := #[]
  resolved := Array.replicate 11 none
  statics := none }

def pool6 : Array CpInfo := pool [(1, .class_ 2), (0, u "java/lang/constant/ConstantDesc"), (0, .class_ 4), (0, u "java/lang/Object")] 32

/-- java/lang/constant/ConstantDesc -/
def k6 : Class := { plain "java/lang/constant/ConstantDesc" (some 0) with
  accessFlags := 1537
  interfaces := #[]
  cf := some (fileOf pool6 1 #[] #[] 1537 3 #[] #[])
  fields := #[]
  methods := #[]
  instanceTypes := #[]
  staticTypes := #[]
  resolved := Array.replicate 37 none
  statics := none }

def pool7 : Array CpInfo := pool [(1, .methodref 2 3), (0, .class_ 4), (0, .nameAndType 5 6), (0, u "java/lang/Object"), (0, u "<init>"), (0, u "()V"), (0, .string 8), (0, u ""), (0, .fieldref 10 11), (0, .class_ 12), (0, .nameAndType 13 14), (0, u "java/lang/String"), (0, u "value"), (0, u "[B"), (0, .fieldref 10 16), (0, .nameAndType 17 18), (0, u "coder"), (0, u "B"), (2, u "hash"), (0, u "I"), (2, u "hashIsZero"), (0, u "Z"), (0, .methodref 10 28), (0, .nameAndType 5 29), (0, u "([CIILjava/lang/Void;)V"), (6, u "checkBoundsOffCount"), (0, u "(III)I"), (0, .fieldref 10 39), (0, .nameAndType 40 26), (0, u "COMPACT_STRINGS"), (1, .class_ 44), (1, u "java/lang/StringUTF16"), (0, u "compress"), (1, .methodref 42 48), (0, .nameAndType 49 50), (0, u "coderFromArrayLen"), (0, u "([BI)B"), (3, .methodref 55 56), (0, .class_ 57), (0, .nameAndType 58 59), (0, u "java/util/Arrays"), (0, u "copyOfRange"), (0, u "([BII)[B"), (46, .methodref 107 108), (0, .class_ 109), (0, .nameAndType 110 111), (0, u "java/lang/StringLatin1"), (0, u "inflate"), (0, u "([BI[BII)V"), (30, u "()Z"), (34, .methodref 42 178), (0, .nameAndType 45 179), (0, u "([CII)[B"), (13, .class_ 195), (1, u "java/lang/System"), (16, .methodref 193 213), (0, .nameAndType 214 215), (0, u "arraycopy"), (0, u "(Ljava/lang/Object;ILjava/lang/Object;II)V"), (118, u "()I"), (0, .methodref 10 336), (0, .nameAndType 17 337), (0, u "()B"), (2, u "()[B"), (22, u "([BI)C"), (27, u "(II)V"), (35, u "(I)C"), (61, .methodref 10 490), (0, .nameAndType 5 491), (0, u "(Ljava/lang/AbstractStringBuilder;Ljava/lang/Void;)V"), (0, .methodref 10 493), (0, .nameAndType 494 142), (0, u "isLatin1"), (0, .methodref 107 496), (0, .nameAndType 497 363), (0, u "charAt"), (0, .methodref 42 496), (2, u "checkIndex"), (4, .nameAndType 507 334), (0, u "length"), (24, u "getBytes"), (16, .methodref 550 506), (0, .class_ 551), (0, u "java/lang/AbstractStringBuilder"), (0, .methodref 550 553), (0, .nameAndType 554 340), (0, u "getValue"), (20, .class_ 576), (0, u "java/lang/CharSequence"), (22, u "CASE_INSENSITIVE_ORDER"), (0, u "Ljava/util/Comparator;"), (220, u "([BIB)V"), (188, u "([C)V"), (36, .methodref 550 493), (0, .fieldref 550 1049), (0, .nameAndType 1050 26), (0, u "maybeLatin1"), (2, .fieldref 1054 1055), (0, .class_ 1056), (0, .nameAndType 1057 1058), (0, u "jdk/internal/util/Preconditions"), (0, u "SIOOBE_FORMATTER"), (0, u "Ljava/util/function/BiFunction;"), (0, .methodref 1054 1060), (0, .nameAndType 501 1061), (0, u "(IILjava/util/function/BiFunction;)I"), (2, u "(IIILjava/util/function/BiFunction;)I"), (0, .methodref 1054 1066), (0, .nameAndType 1067 1064), (0, u "checkFromIndexSize"), (33, u "serialPersistentFields"), (0, u "[Ljava/io/ObjectStreamField;"), (0, .class_ 1104), (0, u "java/lang/String$CaseInsensitiveComparator"), (1, .class_ 1107), (0, u "java/io/Serializable"), (0, .class_ 1109), (0, u "java/lang/Comparable"), (0, .class_ 1111), (0, u "java/lang/constant/Constable"), (0, .class_ 1113), (0, u "java/lang/constant/ConstantDesc"), (2, u "serialVersionUID"), (0, u "J"), (3, u "REPL"), (0, u "C"), (2, u "LATIN1"), (1, u "UTF16"), (105, u "(Ljava/lang/StringBuilder;)V")] 217

def k7m0 : Method := { name := "<init>", desc := "()V", sig := { parameters := [], returnType := none }, accessFlags := 1, code := none }
def k7c1 : Code := { maxStack := 5, maxLocals := 2, code := jdk_42_method_3_code, exceptionTable := #[], attributes := #[] }
def k7m1 : Method := { name := "<init>", desc := "([C)V", sig := { parameters := [(.array .char)], returnType := none }, accessFlags := 1, code := some k7c1 }
def k7c2 : Code := { maxStack := 3, maxLocals := 2, code := jdk_42_method_53_code, exceptionTable := #[], attributes := #[] }
def k7m2 : Method := { name := "<init>", desc := "(Ljava/lang/StringBuilder;)V", sig := { parameters := [(.object "java/lang/StringBuilder")], returnType := none }, accessFlags := 1, code := some k7c2 }
def k7c3 : Code := { maxStack := 2, maxLocals := 1, code := jdk_42_method_54_code, exceptionTable := #[], attributes := #[] }
def k7m3 : Method := { name := "length", desc := "()I", sig := { parameters := [], returnType := some .int }, accessFlags := 1, code := some k7c3 }
def k7c4 : Code := { maxStack := 2, maxLocals := 2, code := jdk_42_method_56_code, exceptionTable := #[], attributes := #[] }
def k7m4 : Method := { name := "charAt", desc := "(I)C", sig := { parameters := [.int], returnType := some .char }, accessFlags := 1, code := some k7c4 }
def k7c5 : Code := { maxStack := 5, maxLocals := 4, code := jdk_42_method_147_code, exceptionTable := #[], attributes := #[] }
def k7m5 : Method := { name := "getBytes", desc := "([BIB)V", sig := { parameters := [(.array .byte), .int, .byte], returnType := none }, accessFlags := 0, code := some k7c5 }
def k7c6 : Code := { maxStack := 4, maxLocals := 6, code := jdk_42_method_149_code, exceptionTable := #[], attributes := #[] }
def k7m6 : Method := { name := "<init>", desc := "([CIILjava/lang/Void;)V", sig := { parameters := [(.array .char), .int, .int, (.object "java/lang/Void")], returnType := none }, accessFlags := 2, code := some k7c6 }
def k7c7 : Code := { maxStack := 5, maxLocals := 5, code := jdk_42_method_150_code, exceptionTable := #[], attributes := #[] }
def k7m7 : Method := { name := "<init>", desc := "(Ljava/lang/AbstractStringBuilder;Ljava/lang/Void;)V", sig := { parameters := [(.object "java/lang/AbstractStringBuilder"), (.object "java/lang/Void")], returnType := none }, accessFlags := 0, code := some k7c7 }
def k7c8 : Code := { maxStack := 1, maxLocals := 1, code := jdk_42_method_152_code, exceptionTable := #[], attributes := #[] }
def k7m8 : Method := { name := "coder", desc := "()B", sig := { parameters := [], returnType := some .byte }, accessFlags := 0, code := some k7c8 }
def k7c9 : Code := { maxStack := 1, maxLocals := 1, code := jdk_42_method_153_code, exceptionTable := #[], attributes := #[] }
def k7m9 : Method := { name := "value", desc := "()[B", sig := { parameters := [], returnType := some (.array .byte) }, accessFlags := 0, code := some k7c9 }
def k7c10 : Code := { maxStack := 1, maxLocals := 1, code := jdk_42_method_154_code, exceptionTable := #[], attributes := #[] }
def k7m10 : Method := { name := "isLatin1", desc := "()Z", sig := { parameters := [], returnType := some .boolean }, accessFlags := 0, code := some k7c10 }
def k7c11 : Code := { maxStack := 3, maxLocals := 2, code := jdk_42_method_155_code, exceptionTable := #[], attributes := #[] }
def k7m11 : Method := { name := "checkIndex", desc := "(II)V", sig := { parameters := [.int, .int], returnType := none }, accessFlags := 8, code := some k7c11 }
def k7c12 : Code := { maxStack := 4, maxLocals := 3, code := jdk_42_method_157_code, exceptionTable := #[], attributes := #[] }
def k7m12 : Method := { name := "checkBoundsOffCount", desc := "(III)I", sig := { parameters := [.int, .int, .int], returnType := some .int }, accessFlags := 8, code := some k7c12 }
/-- java/lang/String -/
def k7 : Class := { plain "java/lang/String" (some 0) with
  accessFlags := 49
  interfaces := #[2, 3, 4, 5, 6]
  cf := some (fileOf pool7 10 #[.nestMembers #[1103]] #[{ accessFlags := 1, nameIndex := 5, descriptorIndex := 6, attributes := #[] }, { accessFlags := 1, nameIndex := 5, descriptorIndex := 1010, attributes := #[] }, { accessFlags := 1, nameIndex := 5, descriptorIndex := 1233, attributes := #[] }, { accessFlags := 1, nameIndex := 507, descriptorIndex := 334, attributes := #[] }, { accessFlags := 1, nameIndex := 497, descriptorIndex := 427, attributes := #[] }, { accessFlags := 0, nameIndex := 532, descriptorIndex := 821, attributes := #[] }, { accessFlags := 2, nameIndex := 5, descriptorIndex := 29, attributes := #[] }, { accessFlags := 0, nameIndex := 5, descriptorIndex := 491, attributes := #[] }, { accessFlags := 0, nameIndex := 17, descriptorIndex := 337, attributes := #[] }, { accessFlags := 0, nameIndex := 13, descriptorIndex := 340, attributes := #[] }, { accessFlags := 0, nameIndex := 494, descriptorIndex := 142, attributes := #[] }, { accessFlags := 8, nameIndex := 501, descriptorIndex := 391, attributes := #[] }, { accessFlags := 8, nameIndex := 36, descriptorIndex := 37, attributes := #[] }] 49 2 #[1106, 1108, 575, 1110, 1112] #[{ accessFlags := 18, nameIndex := 13, descriptorIndex := 14, attributes := #[] }, { accessFlags := 18, nameIndex := 17, descriptorIndex := 18, attributes := #[] }, { accessFlags := 2, nameIndex := 21, descriptorIndex := 22, attributes := #[] }, { accessFlags := 2, nameIndex := 25, descriptorIndex := 26, attributes := #[] }, { accessFlags := 26, nameIndex := 1116, descriptorIndex := 1117, attributes := #[] }, { accessFlags := 24, nameIndex := 40, descriptorIndex := 26, attributes := #[] }, { accessFlags := 26, nameIndex := 1101, descriptorIndex := 1102, attributes := #[] }, { accessFlags := 26, nameIndex := 1121, descriptorIndex := 1122, attributes := #[] }, { accessFlags := 25, nameIndex := 599, descriptorIndex := 600, attributes := #[] }, { accessFlags := 24, nameIndex := 1125, descriptorIndex := 18, attributes := #[] }, { accessFlags := 24, nameIndex := 1127, descriptorIndex := 18, attributes := #[] }])
  fields := #[{ name := "value", type := (.array .byte), accessFlags := 18, slot := 0, constantValue := 0 }, { name := "coder", type := .byte, accessFlags := 18, slot := 1, constantValue := 0 }, { name := "hash", type := .int, accessFlags := 2, slot := 2, constantValue := 0 }, { name := "hashIsZero", type := .boolean, accessFlags := 2, slot := 3, constantValue := 0 }, { name := "serialVersionUID", type := .long, accessFlags := 26, slot := 0, constantValue := 0 }, { name := "COMPACT_STRINGS", type := .boolean, accessFlags := 24, slot := 1, constantValue := 0 }, { name := "serialPersistentFields", type := (.array (.object "java/io/ObjectStreamField")), accessFlags := 26, slot := 2, constantValue := 0 }, { name := "REPL", type := .char, accessFlags := 26, slot := 3, constantValue := 0 }, { name := "CASE_INSENSITIVE_ORDER", type := (.object "java/util/Comparator"), accessFlags := 25, slot := 4, constantValue := 0 }, { name := "LATIN1", type := .byte, accessFlags := 24, slot := 5, constantValue := 0 }, { name := "UTF16", type := .byte, accessFlags := 24, slot := 6, constantValue := 0 }]
  methods := #[k7m0, k7m1, k7m2, k7m3, k7m4, k7m5, k7m6, k7m7, k7m8, k7m9, k7m10, k7m11, k7m12]
  instanceTypes := #[(.array .byte), .byte, .int, .boolean]
  staticTypes := #[.long, .boolean, (.array (.object "java/io/ObjectStreamField")), .char, (.object "java/util/Comparator"), .byte, .byte]
  resolved := Array.replicate 1451 none
  statics := some 0 }

def pool8 : Array CpInfo := pool [(2, .class_ 4), (1, u "java/lang/Object"), (0, u "<init>"), (0, u "()V"), (0, .methodref 8 9), (0, .class_ 10), (0, .nameAndType 11 12), (0, u "java/lang/String"), (0, u "length"), (0, u "()I"), (0, .methodref 8 14), (0, .nameAndType 15 16), (0, u "charAt"), (0, u "(I)C"), (0, .methodref 18 19), (0, .class_ 20), (0, .nameAndType 21 22), (0, u "lifestack/util/Lines"), (0, u "isEscaped"), (0, u "(C)Z"), (0, .class_ 24), (0, u "java/lang/StringBuilder"), (0, .methodref 23 26), (0, .nameAndType 5 27), (0, u "(I)V"), (0, .methodref 23 29), (0, .nameAndType 30 31), (0, u "append"), (0, u "(Ljava/lang/CharSequence;II)Ljava/lang/StringBuilder;"), (0, .string 33), (0, u "\\r"), (0, .methodref 23 35), (0, .nameAndType 30 36), (0, u "(Ljava/lang/String;)Ljava/lang/StringBuilder;"), (0, .string 38), (0, u "\\n"), (0, .string 40), (0, u "\\u"), (0, .methodref 42 43), (0, .class_ 44), (0, .nameAndType 45 46), (0, u "java/lang/Character"), (0, u "forDigit"), (0, u "(II)C"), (0, .methodref 23 48), (0, .nameAndType 30 49), (0, u "(C)Ljava/lang/StringBuilder;"), (0, .methodref 23 51), (0, .nameAndType 52 53), (0, u "toString"), (0, u "()Ljava/lang/String;"), (0, u "LINE_SEPARATOR"), (0, u "C"), (2, u "PARAGRAPH_SEPARATOR"), (3, u "oneLine"), (0, u "(Ljava/lang/String;)Ljava/lang/String;")] 3

def k8m0 : Method := { name := "<init>", desc := "()V", sig := { parameters := [], returnType := none }, accessFlags := 2, code := none }
def k8c1 : Code := { maxStack := 4, maxLocals := 6, code := prog_57_method_2_code, exceptionTable := #[], attributes := #[] }
def k8m1 : Method := { name := "oneLine", desc := "(Ljava/lang/String;)Ljava/lang/String;", sig := { parameters := [(.object "java/lang/String")], returnType := some (.object "java/lang/String") }, accessFlags := 9, code := some k8c1 }
def k8c2 : Code := { maxStack := 2, maxLocals := 1, code := prog_57_method_3_code, exceptionTable := #[], attributes := #[] }
def k8m2 : Method := { name := "isEscaped", desc := "(C)Z", sig := { parameters := [.char], returnType := some .boolean }, accessFlags := 10, code := some k8c2 }
/-- lifestack/util/Lines -/
def k8 : Class := { plain "lifestack/util/Lines" (some 0) with
  accessFlags := 49
  interfaces := #[]
  cf := some (fileOf pool8 18 #[] #[{ accessFlags := 2, nameIndex := 5, descriptorIndex := 6, attributes := #[] }, { accessFlags := 9, nameIndex := 62, descriptorIndex := 63, attributes := #[] }, { accessFlags := 10, nameIndex := 21, descriptorIndex := 22, attributes := #[] }] 49 2 #[] #[{ accessFlags := 26, nameIndex := 54, descriptorIndex := 55, attributes := #[] }, { accessFlags := 26, nameIndex := 58, descriptorIndex := 55, attributes := #[] }])
  fields := #[{ name := "LINE_SEPARATOR", type := .char, accessFlags := 26, slot := 0, constantValue := 0 }, { name := "PARAGRAPH_SEPARATOR", type := .char, accessFlags := 26, slot := 1, constantValue := 0 }]
  methods := #[k8m0, k8m1, k8m2]
  instanceTypes := #[]
  staticTypes := #[.char, .char]
  resolved := Array.replicate 67 none
  statics := none }

def pool9 : Array CpInfo := pool [(3, .class_ 4), (0, u "java/lang/String"), (1, .class_ 8), (1, u "java/lang/Object"), (0, u "<init>"), (0, u "()V"), (0, .methodref 12 13), (0, .class_ 14), (0, .nameAndType 15 16), (0, u "java/lang/StringUTF16"), (0, u "newBytesLength"), (0, u "(I)I"), (3, .integer 1073741823), (23, .fieldref 12 45), (0, .nameAndType 46 47), (0, u "$assertionsDisabled"), (0, u "Z"), (0, .methodref 12 49), (0, .nameAndType 50 51), (0, u "length"), (0, u "([B)I"), (7, .fieldref 12 60), (0, .nameAndType 61 62), (0, u "HI_BYTE_SHIFT"), (0, u "I"), (0, .fieldref 12 64), (0, .nameAndType 65 62), (0, u "LO_BYTE_SHIFT"), (1, .methodref 12 68), (0, .nameAndType 69 70), (0, u "checkIndex"), (0, u "(I[B)V"), (0, .methodref 12 72), (0, .nameAndType 73 74), (0, u "getChar"), (0, u "([BI)C"), (24, u "(II[B)V"), (7, .methodref 12 108), (0, .nameAndType 109 110), (0, u "newBytesFor"), (0, u "(I)[B"), (0, .methodref 12 112), (0, .nameAndType 113 114), (0, u "putChar"), (0, u "([BII)V"), (0, .methodref 12 116), (0, .nameAndType 117 118), (0, u "compress"), (0, u "([CI[BII)I"), (0, .methodref 12 120), (0, .nameAndType 121 122), (0, u "toBytes"), (0, u "([CII)[B"), (17, u "inflate"), (0, u "([BI[BII)V"), (31, .methodref 12 174), (0, .nameAndType 175 99), (0, u "checkBoundsOffCount"), (85, u "coderFromArrayLen"), (0, u "([BI)B"), (18, u "(III)I"), (87, .class_ 371), (1, u "java/lang/StringUTF16$LinesSpliterator"), (20, u "charAt"), (21, .methodref 3 415), (0, .nameAndType 69 416), (0, u "(II)V"), (2, .methodref 3 420), (0, .nameAndType 175 281), (9, u "MAX_LENGTH"), (155, u "putCharSB"), (40, .class_ 628), (0, u "java/lang/StringUTF16$CodePointsSpliterator"), (0, .class_ 630), (0, u "java/lang/StringUTF16$CharsSpliterator")] 4

def k9m0 : Method := { name := "<init>", desc := "()V", sig := { parameters := [], returnType := none }, accessFlags := 0, code := none }
def k9c1 : Code := { maxStack := 1, maxLocals := 1, code := jdk_52_method_2_code, exceptionTable := #[], attributes := #[] }
def k9m1 : Method := { name := "newBytesFor", desc := "(I)[B", sig := { parameters := [.int], returnType := some (.array .byte) }, accessFlags := 9, code := some k9c1 }
def k9c2 : Code := { maxStack := 4, maxLocals := 1, code := jdk_52_method_3_code, exceptionTable := #[], attributes := #[] }
def k9m2 : Method := { name := "newBytesLength", desc := "(I)I", sig := { parameters := [.int], returnType := some .int }, accessFlags := 9, code := some k9c2 }
def k9c3 : Code := { maxStack := 4, maxLocals := 3, code := jdk_52_method_4_code, exceptionTable := #[], attributes := #[] }
def k9m3 : Method := { name := "putChar", desc := "([BII)V", sig := { parameters := [(.array .byte), .int, .int], returnType := none }, accessFlags := 8, code := some k9c3 }
def k9c4 : Code := { maxStack := 3, maxLocals := 2, code := jdk_52_method_5_code, exceptionTable := #[], attributes := #[] }
def k9m4 : Method := { name := "getChar", desc := "([BI)C", sig := { parameters := [(.array .byte), .int], returnType := some .char }, accessFlags := 8, code := some k9c4 }
def k9c5 : Code := { maxStack := 2, maxLocals := 1, code := jdk_52_method_6_code, exceptionTable := #[], attributes := #[] }
def k9m5 : Method := { name := "length", desc := "([B)I", sig := { parameters := [(.array .byte)], returnType := some .int }, accessFlags := 9, code := some k9c5 }
def k9c6 : Code := { maxStack := 4, maxLocals := 5, code := jdk_52_method_14_code, exceptionTable := #[], attributes := #[] }
def k9m6 : Method := { name := "toBytes", desc := "([CII)[B", sig := { parameters := [(.array .char), .int, .int], returnType := some (.array .byte) }, accessFlags := 9, code := some k9c6 }
def k9c7 : Code := { maxStack := 2, maxLocals := 2, code := jdk_52_method_15_code, exceptionTable := #[], attributes := #[] }
def k9m7 : Method := { name := "coderFromArrayLen", desc := "([BI)B", sig := { parameters := [(.array .byte), .int], returnType := some .byte }, accessFlags := 8, code := some k9c7 }
def k9c8 : Code := { maxStack := 5, maxLocals := 6, code := jdk_52_method_16_code, exceptionTable := #[], attributes := #[] }
def k9m8 : Method := { name := "compress", desc := "([CII)[B", sig := { parameters := [(.array .char), .int, .int], returnType := some (.array .byte) }, accessFlags := 9, code := some k9c8 }
def k9c9 : Code := { maxStack := 3, maxLocals := 7, code := jdk_52_method_21_code, exceptionTable := #[], attributes := #[] }
def k9m9 : Method := { name := "compress", desc := "([CI[BII)I", sig := { parameters := [(.array .char), .int, (.array .byte), .int, .int], returnType := some .int }, accessFlags := 9, code := some k9c9 }
def k9c10 : Code := { maxStack := 3, maxLocals := 3, code := jdk_52_method_71_code, exceptionTable := #[], attributes := #[] }
def k9m10 : Method := { name := "putCharSB", desc := "([BII)V", sig := { parameters := [(.array .byte), .int, .int], returnType := none }, accessFlags := 9, code := some k9c10 }
def k9c11 : Code := { maxStack := 2, maxLocals := 2, code := jdk_52_method_83_code, exceptionTable := #[], attributes := #[] }
def k9m11 : Method := { name := "charAt", desc := "([BI)C", sig := { parameters := [(.array .byte), .int], returnType := some .char }, accessFlags := 9, code := some k9c11 }
def k9c12 : Code := { maxStack := 4, maxLocals := 6, code := jdk_52_method_86_code, exceptionTable := #[], attributes := #[] }
def k9m12 : Method := { name := "inflate", desc := "([BI[BII)V", sig := { parameters := [(.array .byte), .int, (.array .byte), .int, .int], returnType := none }, accessFlags := 9, code := some k9c12 }
def k9c13 : Code := { maxStack := 2, maxLocals := 2, code := jdk_52_method_91_code, exceptionTable := #[], attributes := #[] }
def k9m13 : Method := { name := "checkIndex", desc := "(I[B)V", sig := { parameters := [.int, (.array .byte)], returnType := none }, accessFlags := 9, code := some k9c13 }
def k9c14 : Code := { maxStack := 3, maxLocals := 3, code := jdk_52_method_94_code, exceptionTable := #[], attributes := #[] }
def k9m14 : Method := { name := "checkBoundsOffCount", desc := "(II[B)V", sig := { parameters := [.int, .int, (.array .byte)], returnType := none }, accessFlags := 9, code := some k9c14 }
/-- java/lang/StringUTF16 -/
def k9 : Class := { plain "java/lang/StringUTF16" (some 0) with
  accessFlags := 48
  interfaces := #[]
  cf := some (fileOf pool9 12 #[.nestMembers #[627, 629, 369]] #[{ accessFlags := 0, nameIndex := 9, descriptorIndex := 10, attributes := #[] }, { accessFlags := 9, nameIndex := 109, descriptorIndex := 110, attributes := #[] }, { accessFlags := 9, nameIndex := 15, descriptorIndex := 16, attributes := #[] }, { accessFlags := 8, nameIndex := 113, descriptorIndex := 114, attributes := #[] }, { accessFlags := 8, nameIndex := 73, descriptorIndex := 74, attributes := #[] }, { accessFlags := 9, nameIndex := 50, descriptorIndex := 51, attributes := #[] }, { accessFlags := 9, nameIndex := 121, descriptorIndex := 122, attributes := #[] }, { accessFlags := 8, nameIndex := 261, descriptorIndex := 262, attributes := #[] }, { accessFlags := 9, nameIndex := 117, descriptorIndex := 122, attributes := #[] }, { accessFlags := 9, nameIndex := 117, descriptorIndex := 118, attributes := #[] }, { accessFlags := 9, nameIndex := 586, descriptorIndex := 114, attributes := #[] }, { accessFlags := 9, nameIndex := 392, descriptorIndex := 74, attributes := #[] }, { accessFlags := 9, nameIndex := 140, descriptorIndex := 141, attributes := #[] }, { accessFlags := 9, nameIndex := 69, descriptorIndex := 70, attributes := #[] }, { accessFlags := 9, nameIndex := 175, descriptorIndex := 99, attributes := #[] }] 48 6 #[] #[{ accessFlags := 26, nameIndex := 61, descriptorIndex := 62, attributes := #[] }, { accessFlags := 26, nameIndex := 65, descriptorIndex := 62, attributes := #[] }, { accessFlags := 24, nameIndex := 430, descriptorIndex := 62, attributes := #[] }, { accessFlags := 4120, nameIndex := 46, descriptorIndex := 47, attributes := #[] }])
  fields := #[{ name := "HI_BYTE_SHIFT", type := .int, accessFlags := 26, slot := 0, constantValue := 0 }, { name := "LO_BYTE_SHIFT", type := .int, accessFlags := 26, slot := 1, constantValue := 0 }, { name := "MAX_LENGTH", type := .int, accessFlags := 24, slot := 2, constantValue := 0 }, { name := "$assertionsDisabled", type := .boolean, accessFlags := 4120, slot := 3, constantValue := 0 }]
  methods := #[k9m0, k9m1, k9m2, k9m3, k9m4, k9m5, k9m6, k9m7, k9m8, k9m9, k9m10, k9m11, k9m12, k9m13, k9m14]
  instanceTypes := #[]
  staticTypes := #[.int, .int, .int, .boolean]
  resolved := Array.replicate 635 none
  statics := some 1 }

def pool10 : Array CpInfo := pool [(1, .class_ 2), (0, u "java/lang/String"), (1, .class_ 6), (1, u "java/lang/Object"), (0, u "<init>"), (0, u "()V"), (0, .methodref 1 10), (0, .nameAndType 11 12), (0, u "checkIndex"), (0, u "(II)V"), (1, .class_ 16), (1, u "java/lang/StringLatin1"), (0, u "inflate"), (2, .class_ 22), (1, u "java/lang/StringUTF16"), (3, .nameAndType 17 27), (0, u "([BI[BII)V"), (25, u "([BI)C"), (36, u "canEncode"), (14, u "(C)Z"), (15, u "$assertionsDisabled"), (0, u "Z"), (98, .class_ 223), (1, u "java/lang/StringLatin1$LinesSpliterator"), (16, .methodref 20 26), (11, u "charAt"), (137, .class_ 391), (0, u "java/lang/StringLatin1$CharsSpliterator")] 3

def k10m0 : Method := { name := "<init>", desc := "()V", sig := { parameters := [], returnType := none }, accessFlags := 0, code := none }
def k10c1 : Code := { maxStack := 2, maxLocals := 2, code := jdk_43_method_2_code, exceptionTable := #[], attributes := #[] }
def k10m1 : Method := { name := "charAt", desc := "([BI)C", sig := { parameters := [(.array .byte), .int], returnType := some .char }, accessFlags := 9, code := some k10c1 }
def k10c2 : Code := { maxStack := 2, maxLocals := 1, code := jdk_43_method_3_code, exceptionTable := #[], attributes := #[] }
def k10m2 : Method := { name := "canEncode", desc := "(C)Z", sig := { parameters := [.char], returnType := some .boolean }, accessFlags := 9, code := some k10c2 }
def k10c3 : Code := { maxStack := 5, maxLocals := 5, code := jdk_43_method_50_code, exceptionTable := #[], attributes := #[] }
def k10m3 : Method := { name := "inflate", desc := "([BI[BII)V", sig := { parameters := [(.array .byte), .int, (.array .byte), .int, .int], returnType := none }, accessFlags := 9, code := some k10c3 }
/-- java/lang/StringLatin1 -/
def k10 : Class := { plain "java/lang/StringLatin1" (some 0) with
  accessFlags := 48
  interfaces := #[]
  cf := some (fileOf pool10 14 #[.nestMembers #[390, 221]] #[{ accessFlags := 0, nameIndex := 7, descriptorIndex := 8, attributes := #[] }, { accessFlags := 9, nameIndex := 252, descriptorIndex := 53, attributes := #[] }, { accessFlags := 9, nameIndex := 90, descriptorIndex := 105, attributes := #[] }, { accessFlags := 9, nameIndex := 17, descriptorIndex := 27, attributes := #[] }] 48 4 #[] #[{ accessFlags := 4120, nameIndex := 121, descriptorIndex := 122, attributes := #[] }])
  fields := #[{ name := "$assertionsDisabled", type := .boolean, accessFlags := 4120, slot := 0, constantValue := 0 }]
  methods := #[k10m0, k10m1, k10m2, k10m3]
  instanceTypes := #[]
  staticTypes := #[.boolean]
  resolved := Array.replicate 395 none
  statics := none }

def pool11 : Array CpInfo := pool [(2, .class_ 4), (1, u "java/lang/Object"), (0, u "<init>"), (0, u "()V"), (17, .class_ 26), (1, u "jdk/internal/util/Preconditions"), (6, u "checkIndex"), (13, u "checkFromToIndex"), (1, u "checkFromIndexSize"), (5, .class_ 56), (0, u "jdk/internal/util/Preconditions$4"), (57, .class_ 115), (0, u "jdk/internal/util/Preconditions$1"), (7, u "SIOOBE_FORMATTER"), (0, u "Ljava/util/function/BiFunction;"), (0, .class_ 126), (0, u "jdk/internal/util/Preconditions$2"), (3, u "AIOOBE_FORMATTER"), (0, .class_ 132), (0, u "jdk/internal/util/Preconditions$3"), (3, u "IOOBE_FORMATTER"), (41, u "(IILjava/util/function/BiFunction;)I"), (4, u "(IIILjava/util/function/BiFunction;)I")] 10

def k11m0 : Method := { name := "<init>", desc := "()V", sig := { parameters := [], returnType := none }, accessFlags := 1, code := none }
def k11c1 : Code := { maxStack := 3, maxLocals := 3, code := jdk_41_method_11_code, exceptionTable := #[], attributes := #[] }
def k11m1 : Method := { name := "checkIndex", desc := "(IILjava/util/function/BiFunction;)I", sig := { parameters := [.int, .int, (.object "java/util/function/BiFunction")], returnType := some .int }, accessFlags := 9, code := some k11c1 }
def k11c2 : Code := { maxStack := 4, maxLocals := 4, code := jdk_41_method_12_code, exceptionTable := #[], attributes := #[] }
def k11m2 : Method := { name := "checkFromToIndex", desc := "(IIILjava/util/function/BiFunction;)I", sig := { parameters := [.int, .int, .int, (.object "java/util/function/BiFunction")], returnType := some .int }, accessFlags := 9, code := some k11c2 }
def k11c3 : Code := { maxStack := 4, maxLocals := 4, code := jdk_41_method_13_code, exceptionTable := #[], attributes := #[] }
def k11m3 : Method := { name := "checkFromIndexSize", desc := "(IIILjava/util/function/BiFunction;)I", sig := { parameters := [.int, .int, .int, (.object "java/util/function/BiFunction")], returnType := some .int }, accessFlags := 9, code := some k11c3 }
/-- jdk/internal/util/Preconditions -/
def k11 : Class := { plain "jdk/internal/util/Preconditions" (some 0) with
  accessFlags := 33
  interfaces := #[]
  cf := some (fileOf pool11 24 #[.nestMembers #[55, 131, 125, 114]] #[{ accessFlags := 1, nameIndex := 5, descriptorIndex := 6, attributes := #[] }, { accessFlags := 9, nameIndex := 33, descriptorIndex := 178, attributes := #[] }, { accessFlags := 9, nameIndex := 47, descriptorIndex := 183, attributes := #[] }, { accessFlags := 9, nameIndex := 49, descriptorIndex := 183, attributes := #[] }] 33 2 #[] #[{ accessFlags := 25, nameIndex := 123, descriptorIndex := 124, attributes := #[] }, { accessFlags := 25, nameIndex := 130, descriptorIndex := 124, attributes := #[] }, { accessFlags := 25, nameIndex := 136, descriptorIndex := 124, attributes := #[] }])
  fields := #[{ name := "SIOOBE_FORMATTER", type := (.object "java/util/function/BiFunction"), accessFlags := 25, slot := 0, constantValue := 0 }, { name := "AIOOBE_FORMATTER", type := (.object "java/util/function/BiFunction"), accessFlags := 25, slot := 1, constantValue := 0 }, { name := "IOOBE_FORMATTER", type := (.object "java/util/function/BiFunction"), accessFlags := 25, slot := 2, constantValue := 0 }]
  methods := #[k11m0, k11m1, k11m2, k11m3]
  instanceTypes := #[]
  staticTypes := #[(.object "java/util/function/BiFunction"), (.object "java/util/function/BiFunction"), (.object "java/util/function/BiFunction")]
  resolved := Array.replicate 194 none
  statics := some 2 }

def pool12 : Array CpInfo := pool [(1, .class_ 2), (0, u "java/lang/Appendable"), (0, .class_ 4), (0, u "java/lang/Object")] 9

/-- java/lang/Appendable -/
def k12 : Class := { plain "java/lang/Appendable" (some 0) with
  accessFlags := 1537
  interfaces := #[]
  cf := some (fileOf pool12 1 #[] #[] 1537 3 #[] #[])
  fields := #[]
  methods := #[]
  instanceTypes := #[]
  staticTypes := #[]
  resolved := Array.replicate 14 none
  statics := none }

def pool13 : Array CpInfo := pool [(1, .class_ 2), (0, u "java/lang/String"), (0, .methodref 4 5), (0, .class_ 6), (0, .nameAndType 7 8), (0, u "java/lang/Object"), (0, u "<init>"), (0, u "()V"), (1, .class_ 12), (1, u "java/lang/AbstractStringBuilder"), (0, u "EMPTYVALUE"), (0, u "[B"), (0, .fieldref 10 16), (0, .nameAndType 17 14), (0, u "value"), (0, .fieldref 1 19), (0, .nameAndType 20 21), (0, u "COMPACT_STRINGS"), (0, u "Z"), (0, .fieldref 10 23), (0, .nameAndType 24 25), (0, u "coder"), (0, u "B"), (0, .methodref 27 28), (0, .class_ 29), (0, .nameAndType 30 31), (0, u "java/lang/StringUTF16"), (0, u "newBytesFor"), (0, u "(I)[B"), (0, .methodref 1 33), (0, .nameAndType 34 35), (0, u "length"), (0, u "()I"), (4, .methodref 1 41), (0, .nameAndType 24 42), (0, u "()B"), (2, u "append"), (0, u "(Ljava/lang/String;)Ljava/lang/AbstractStringBuilder;"), (0, .interfaceMethodref 48 33), (0, .class_ 49), (0, u "java/lang/CharSequence"), (19, u "(Ljava/lang/String;)V"), (5, u "maybeLatin1"), (3, .fieldref 10 80), (0, .nameAndType 81 82), (0, u "count"), (0, u "I"), (0, .methodref 10 84), (0, .nameAndType 85 86), (0, u "isLatin1"), (0, u "()Z"), (1, .class_ 90), (1, u "java/lang/StringLatin1"), (9, .methodref 10 101), (0, .nameAndType 102 103), (0, u "ensureCapacityInternal"), (0, u "(I)V"), (21, .methodref 88 126), (0, .nameAndType 127 128), (0, u "inflate"), (0, u "([BI[BII)V"), (7, u "([BII)V"), (24, .methodref 162 163), (0, .class_ 164), (0, .nameAndType 165 166), (0, u "jdk/internal/util/Preconditions"), (0, u "checkFromToIndex"), (0, u "(IIILjava/util/function/BiFunction;)I"), (15, u "Ljava/util/function/BiFunction;"), (0, .fieldref 162 184), (0, .nameAndType 185 182), (0, u "IOOBE_FORMATTER"), (5, .methodref 88 192), (0, .nameAndType 193 194), (0, u "canEncode"), (0, u "(C)Z"), (0, .methodref 10 196), (0, .nameAndType 127 8), (0, .methodref 27 198), (0, .nameAndType 199 136), (0, u "putCharSB"), (8, .methodref 10 209), (0, .nameAndType 210 211), (0, u "putStringAt"), (0, u "(ILjava/lang/String;)V"), (5, u "inflateIfNeededFor"), (2, .nameAndType 221 222), (0, u "getBytes"), (0, u "([BIB)V"), (2, u "(Ljava/lang/CharSequence;II)Ljava/lang/AbstractStringBuilder;"), (6, .methodref 10 233), (0, .nameAndType 234 235), (0, u "appendChars"), (0, u "(Ljava/lang/String;II)V"), (56, u "(C)Ljava/lang/AbstractStringBuilder;"), (16, .methodref 310 311), (0, .class_ 312), (0, .nameAndType 313 314), (0, u "java/lang/System"), (0, u "arraycopy"), (0, u "(Ljava/lang/Object;ILjava/lang/Object;II)V"), (76, .nameAndType 392 393), (0, u "charAt"), (0, u "(I)C"), (3, .methodref 10 398), (0, .nameAndType 217 69), (0, .methodref 1 220), (0, .methodref 1 84), (0, .methodref 1 402), (0, .nameAndType 17 403), (0, u "()[B"), (0, .methodref 1 391), (39, .class_ 445), (0, u "java/lang/Appendable"), (106, u "getValue")] 56

def k13m0 : Method := { name := "<init>", desc := "()V", sig := { parameters := [], returnType := none }, accessFlags := 0, code := none }
def k13c1 : Code := { maxStack := 2, maxLocals := 2, code := jdk_68_method_2_code, exceptionTable := #[], attributes := #[] }
def k13m1 : Method := { name := "<init>", desc := "(I)V", sig := { parameters := [.int], returnType := none }, accessFlags := 0, code := some k13c1 }
def k13c2 : Code := { maxStack := 1, maxLocals := 1, code := jdk_68_method_6_code, exceptionTable := #[], attributes := #[] }
def k13m2 : Method := { name := "length", desc := "()I", sig := { parameters := [], returnType := some .int }, accessFlags := 1, code := some k13c2 }
def k13c3 : Code := { maxStack := 4, maxLocals := 3, code := jdk_68_method_9_code, exceptionTable := #[], attributes := #[] }
def k13m3 : Method := { name := "ensureCapacityInternal", desc := "(I)V", sig := { parameters := [.int], returnType := none }, accessFlags := 2, code := some k13c3 }
def k13c4 : Code := { maxStack := 5, maxLocals := 2, code := jdk_68_method_11_code, exceptionTable := #[], attributes := #[] }
def k13m4 : Method := { name := "inflate", desc := "()V", sig := { parameters := [], returnType := none }, accessFlags := 2, code := some k13c4 }
def k13c5 : Code := { maxStack := 3, maxLocals := 3, code := jdk_68_method_22_code, exceptionTable := #[], attributes := #[] }
def k13m5 : Method := { name := "append", desc := "(Ljava/lang/String;)Ljava/lang/AbstractStringBuilder;", sig := { parameters := [(.object "java/lang/String")], returnType := some (.object "java/lang/AbstractStringBuilder") }, accessFlags := 1, code := some k13c5 }
def k13c6 : Code := { maxStack := 4, maxLocals := 5, code := jdk_68_method_27_code, exceptionTable := #[], attributes := #[] }
def k13m6 : Method := { name := "append", desc := "(Ljava/lang/CharSequence;II)Ljava/lang/AbstractStringBuilder;", sig := { parameters := [(.object "java/lang/CharSequence"), .int, .int], returnType := some (.object "java/lang/AbstractStringBuilder") }, accessFlags := 1, code := some k13c6 }
def k13c7 : Code := { maxStack := 5, maxLocals := 2, code := jdk_68_method_31_code, exceptionTable := #[], attributes := #[] }
def k13m7 : Method := { name := "append", desc := "(C)Ljava/lang/AbstractStringBuilder;", sig := { parameters := [.char], returnType := some (.object "java/lang/AbstractStringBuilder") }, accessFlags := 1, code := some k13c7 }
def k13c8 : Code := { maxStack := 1, maxLocals := 1, code := jdk_68_method_64_code, exceptionTable := #[], attributes := #[] }
def k13m8 : Method := { name := "getValue", desc := "()[B", sig := { parameters := [], returnType := some (.array .byte) }, accessFlags := 16, code := some k13c8 }
def k13c9 : Code := { maxStack := 1, maxLocals := 1, code := jdk_68_method_68_code, exceptionTable := #[], attributes := #[] }
def k13m9 : Method := { name := "isLatin1", desc := "()Z", sig := { parameters := [], returnType := some .boolean }, accessFlags := 16, code := some k13c9 }
def k13c10 : Code := { maxStack := 2, maxLocals := 2, code := jdk_68_method_71_code, exceptionTable := #[], attributes := #[] }
def k13m10 : Method := { name := "inflateIfNeededFor", desc := "(Ljava/lang/String;)V", sig := { parameters := [(.object "java/lang/String")], returnType := none }, accessFlags := 2, code := some k13c10 }
def k13c11 : Code := { maxStack := 4, maxLocals := 3, code := jdk_68_method_73_code, exceptionTable := #[], attributes := #[] }
def k13m11 : Method := { name := "putStringAt", desc := "(ILjava/lang/String;)V", sig := { parameters := [.int, (.object "java/lang/String")], returnType := none }, accessFlags := 2, code := some k13c11 }
def k13c12 : Code := { maxStack := 6, maxLocals := 8, code := jdk_68_method_75_code, exceptionTable := #[], attributes := #[] }
def k13m12 : Method := { name := "appendChars", desc := "(Ljava/lang/String;II)V", sig := { parameters := [(.object "java/lang/String"), .int, .int], returnType := none }, accessFlags := 18, code := some k13c12 }
/-- java/lang/AbstractStringBuilder -/
def k13 : Class := { plain "java/lang/AbstractStringBuilder" (some 0) with
  accessFlags := 1056
  interfaces := #[12, 4]
  cf := some (fileOf pool13 10 #[] #[{ accessFlags := 0, nameIndex := 7, descriptorIndex := 8, attributes := #[] }, { accessFlags := 0, nameIndex := 7, descriptorIndex := 103, attributes := #[] }, { accessFlags := 1, nameIndex := 34, descriptorIndex := 35, attributes := #[] }, { accessFlags := 2, nameIndex := 102, descriptorIndex := 103, attributes := #[] }, { accessFlags := 2, nameIndex := 127, descriptorIndex := 8, attributes := #[] }, { accessFlags := 1, nameIndex := 45, descriptorIndex := 46, attributes := #[] }, { accessFlags := 1, nameIndex := 45, descriptorIndex := 225, attributes := #[] }, { accessFlags := 1, nameIndex := 45, descriptorIndex := 292, attributes := #[] }, { accessFlags := 16, nameIndex := 552, descriptorIndex := 403, attributes := #[] }, { accessFlags := 16, nameIndex := 85, descriptorIndex := 86, attributes := #[] }, { accessFlags := 2, nameIndex := 217, descriptorIndex := 69, attributes := #[] }, { accessFlags := 2, nameIndex := 210, descriptorIndex := 211, attributes := #[] }, { accessFlags := 18, nameIndex := 234, descriptorIndex := 235, attributes := #[] }] 1056 4 #[444, 48] #[{ accessFlags := 0, nameIndex := 17, descriptorIndex := 14, attributes := #[] }, { accessFlags := 0, nameIndex := 24, descriptorIndex := 25, attributes := #[] }, { accessFlags := 0, nameIndex := 75, descriptorIndex := 21, attributes := #[] }, { accessFlags := 0, nameIndex := 81, descriptorIndex := 82, attributes := #[] }, { accessFlags := 26, nameIndex := 13, descriptorIndex := 14, attributes := #[] }])
  fields := #[{ name := "value", type := (.array .byte), accessFlags := 0, slot := 0, constantValue := 0 }, { name := "coder", type := .byte, accessFlags := 0, slot := 1, constantValue := 0 }, { name := "maybeLatin1", type := .boolean, accessFlags := 0, slot := 2, constantValue := 0 }, { name := "count", type := .int, accessFlags := 0, slot := 3, constantValue := 0 }, { name := "EMPTYVALUE", type := (.array .byte), accessFlags := 26, slot := 0, constantValue := 0 }]
  methods := #[k13m0, k13m1, k13m2, k13m3, k13m4, k13m5, k13m6, k13m7, k13m8, k13m9, k13m10, k13m11, k13m12]
  instanceTypes := #[(.array .byte), .byte, .boolean, .int]
  staticTypes := #[(.array .byte)]
  resolved := Array.replicate 609 none
  statics := none }

def pool14 : Array CpInfo := pool [(1, .methodref 2 3), (0, .class_ 4), (0, .nameAndType 5 6), (0, u "java/lang/AbstractStringBuilder"), (0, u "<init>"), (0, u "(I)V"), (11, .class_ 20), (1, u "java/lang/String"), (3, .class_ 26), (1, u "java/lang/StringBuilder"), (0, u "append"), (0, u "(Ljava/lang/String;)Ljava/lang/StringBuilder;"), (0, .methodref 2 30), (0, .nameAndType 27 31), (0, u "(Ljava/lang/String;)Ljava/lang/AbstractStringBuilder;"), (6, .methodref 2 39), (0, .nameAndType 27 40), (0, u "(Ljava/lang/CharSequence;II)Ljava/lang/AbstractStringBuilder;"), (9, .methodref 2 51), (0, .nameAndType 27 52), (0, u "(C)Ljava/lang/AbstractStringBuilder;"), (84, .methodref 18 138), (0, .nameAndType 5 139), (0, u "(Ljava/lang/StringBuilder;)V"), (5, u "()V"), (10, u "()I"), (129, u "(C)Ljava/lang/StringBuilder;"), (11, u "(Ljava/lang/CharSequence;II)Ljava/lang/StringBuilder;"), (44, .methodref 2 344), (0, .nameAndType 345 156), (0, u "length"), (3, .class_ 350), (0, u "java/lang/Appendable"), (0, .class_ 352), (0, u "java/io/Serializable"), (0, .class_ 354), (0, u "java/lang/Comparable"), (0, .class_ 356), (0, u "java/lang/CharSequence"), (0, u "serialVersionUID"), (0, u "J"), (40, u "toString"), (0, u "()Ljava/lang/String;")] 21

def k14m0 : Method := { name := "<init>", desc := "()V", sig := { parameters := [], returnType := none }, accessFlags := 1, code := none }
def k14c1 : Code := { maxStack := 2, maxLocals := 2, code := jdk_67_method_2_code, exceptionTable := #[], attributes := #[] }
def k14m1 : Method := { name := "<init>", desc := "(I)V", sig := { parameters := [.int], returnType := none }, accessFlags := 1, code := some k14c1 }
def k14c2 : Code := { maxStack := 2, maxLocals := 2, code := jdk_67_method_7_code, exceptionTable := #[], attributes := #[] }
def k14m2 : Method := { name := "append", desc := "(Ljava/lang/String;)Ljava/lang/StringBuilder;", sig := { parameters := [(.object "java/lang/String")], returnType := some (.object "java/lang/StringBuilder") }, accessFlags := 1, code := some k14c2 }
def k14c3 : Code := { maxStack := 4, maxLocals := 4, code := jdk_67_method_10_code, exceptionTable := #[], attributes := #[] }
def k14m3 : Method := { name := "append", desc := "(Ljava/lang/CharSequence;II)Ljava/lang/StringBuilder;", sig := { parameters := [(.object "java/lang/CharSequence"), .int, .int], returnType := some (.object "java/lang/StringBuilder") }, accessFlags := 1, code := some k14c3 }
def k14c4 : Code := { maxStack := 2, maxLocals := 2, code := jdk_67_method_14_code, exceptionTable := #[], attributes := #[] }
def k14m4 : Method := { name := "append", desc := "(C)Ljava/lang/StringBuilder;", sig := { parameters := [.char], returnType := some (.object "java/lang/StringBuilder") }, accessFlags := 1, code := some k14c4 }
def k14c5 : Code := { maxStack := 3, maxLocals := 1, code := jdk_67_method_42_code, exceptionTable := #[], attributes := #[] }
def k14m5 : Method := { name := "toString", desc := "()Ljava/lang/String;", sig := { parameters := [], returnType := some (.object "java/lang/String") }, accessFlags := 1, code := some k14c5 }
def k14c6 : Code := { maxStack := 1, maxLocals := 1, code := jdk_67_method_93_code, exceptionTable := #[], attributes := #[] }
def k14m6 : Method := { name := "length", desc := "()I", sig := { parameters := [], returnType := some .int }, accessFlags := 4161, code := some k14c6 }
/-- java/lang/StringBuilder -/
def k14 : Class := { plain "java/lang/StringBuilder" (some 13) with
  accessFlags := 49
  interfaces := #[12, 2, 3, 4]
  cf := some (fileOf pool14 24 #[] #[{ accessFlags := 1, nameIndex := 5, descriptorIndex := 145, attributes := #[] }, { accessFlags := 1, nameIndex := 5, descriptorIndex := 6, attributes := #[] }, { accessFlags := 1, nameIndex := 27, descriptorIndex := 28, attributes := #[] }, { accessFlags := 1, nameIndex := 27, descriptorIndex := 298, attributes := #[] }, { accessFlags := 1, nameIndex := 27, descriptorIndex := 286, attributes := #[] }, { accessFlags := 1, nameIndex := 399, descriptorIndex := 400, attributes := #[] }, { accessFlags := 4161, nameIndex := 345, descriptorIndex := 156, attributes := #[] }] 49 2 #[349, 351, 353, 355] #[{ accessFlags := 24, nameIndex := 357, descriptorIndex := 358, attributes := #[] }])
  fields := #[{ name := "serialVersionUID", type := .long, accessFlags := 24, slot := 0, constantValue := 0 }]
  methods := #[k14m0, k14m1, k14m2, k14m3, k14m4, k14m5, k14m6]
  instanceTypes := #[(.array .byte), .byte, .boolean, .int]
  staticTypes := #[.long]
  resolved := Array.replicate 422 none
  statics := none }

def pool15 : Array CpInfo := pool [(2, .class_ 4), (1, u "java/lang/Object"), (0, u "<init>"), (0, u "()V"), (1, .class_ 10), (1, u "java/lang/System"), (0, u "allowSecurityManager"), (0, u "I"), (16, u "cons"), (0, u "Ljava/io/Console;"), (77, .class_ 110), (1, u "java/lang/System$CallersHolder"), (43, u "initialErrStream"), (0, u "Ljava/io/PrintStream;"), (19, u "security"), (0, u "Ljava/lang/SecurityManager;"), (31, .class_ 209), (0, u "java/lang/System$1"), (7, u "props"), (0, u "Ljava/util/Properties;"), (2, u "lineSeparator"), (0, u "Ljava/lang/String;"), (96, .class_ 321), (1, u "java/lang/System$LoggerFinder"), (5, .class_ 328), (0, u "java/lang/System$Logger"), (67, u "err"), (2, u "out"), (91, u "notSupportedJnuEncoding"), (15, u "in"), (17, u "initialIn"), (0, u "Ljava/io/InputStream;"), (35, u "bootLayer"), (0, u "Ljava/lang/ModuleLayer;"), (99, .class_ 664), (0, u "java/lang/System$2"), (9, u "NEVER"), (2, u "MAYBE"), (49, u "arraycopy"), (0, u "(Ljava/lang/Object;ILjava/lang/Object;II)V"), (72, .class_ 802), (0, u "java/lang/System$Logger$Level")] 31

def k15m0 : Method := { name := "<init>", desc := "()V", sig := { parameters := [], returnType := none }, accessFlags := 2, code := none }
def k15m1 : Method := { name := "arraycopy", desc := "(Ljava/lang/Object;ILjava/lang/Object;II)V", sig := { parameters := [(.object "java/lang/Object"), .int, (.object "java/lang/Object"), .int, .int], returnType := none }, accessFlags := 265, code := none }
/-- java/lang/System -/
def k15 : Class := { plain "java/lang/System" (some 0) with
  accessFlags := 49
  interfaces := #[]
  cf := some (fileOf pool15 8 #[.nestMembers #[319, 327, 801, 108, 663, 208]] #[{ accessFlags := 2, nameIndex := 5, descriptorIndex := 6, attributes := #[] }, { accessFlags := 265, nameIndex := 727, descriptorIndex := 728, attributes := #[] }] 49 2 #[] #[{ accessFlags := 25, nameIndex := 507, descriptorIndex := 526, attributes := #[] }, { accessFlags := 25, nameIndex := 399, descriptorIndex := 155, attributes := #[] }, { accessFlags := 25, nameIndex := 396, descriptorIndex := 155, attributes := #[] }, { accessFlags := 10, nameIndex := 525, descriptorIndex := 526, attributes := #[] }, { accessFlags := 26, nameIndex := 674, descriptorIndex := 12, attributes := #[] }, { accessFlags := 26, nameIndex := 677, descriptorIndex := 12, attributes := #[] }, { accessFlags := 10, nameIndex := 11, descriptorIndex := 12, attributes := #[] }, { accessFlags := 74, nameIndex := 175, descriptorIndex := 176, attributes := #[] }, { accessFlags := 10, nameIndex := 491, descriptorIndex := 222, attributes := #[] }, { accessFlags := 74, nameIndex := 29, descriptorIndex := 30, attributes := #[] }, { accessFlags := 74, nameIndex := 154, descriptorIndex := 155, attributes := #[] }, { accessFlags := 10, nameIndex := 217, descriptorIndex := 218, attributes := #[] }, { accessFlags := 10, nameIndex := 221, descriptorIndex := 222, attributes := #[] }, { accessFlags := 8, nameIndex := 562, descriptorIndex := 563, attributes := #[] }])
  fields := #[{ name := "in", type := (.object "java/io/InputStream"), accessFlags := 25, slot := 0, constantValue := 0 }, { name := "out", type := (.object "java/io/PrintStream"), accessFlags := 25, slot := 1, constantValue := 0 }, { name := "err", type := (.object "java/io/PrintStream"), accessFlags := 25, slot := 2, constantValue := 0 }, { name := "initialIn", type := (.object "java/io/InputStream"), accessFlags := 10, slot := 3, constantValue := 0 }, { name := "NEVER", type := .int, accessFlags := 26, slot := 4, constantValue := 0 }, { name := "MAYBE", type := .int, accessFlags := 26, slot := 5, constantValue := 0 }, { name := "allowSecurityManager", type := .int, accessFlags := 10, slot := 6, constantValue := 0 }, { name := "security", type := (.object "java/lang/SecurityManager"), accessFlags := 74, slot := 7, constantValue := 0 }, { name := "notSupportedJnuEncoding", type := (.object "java/lang/String"), accessFlags := 10, slot := 8, constantValue := 0 }, { name := "cons", type := (.object "java/io/Console"), accessFlags := 74, slot := 9, constantValue := 0 }, { name := "initialErrStream", type := (.object "java/io/PrintStream"), accessFlags := 74, slot := 10, constantValue := 0 }, { name := "props", type := (.object "java/util/Properties"), accessFlags := 10, slot := 11, constantValue := 0 }, { name := "lineSeparator", type := (.object "java/lang/String"), accessFlags := 10, slot := 12, constantValue := 0 }, { name := "bootLayer", type := (.object "java/lang/ModuleLayer"), accessFlags := 8, slot := 13, constantValue := 0 }]
  methods := #[k15m0, k15m1]
  instanceTypes := #[]
  staticTypes := #[(.object "java/io/InputStream"), (.object "java/io/PrintStream"), (.object "java/io/PrintStream"), (.object "java/io/InputStream"), .int, .int, .int, (.object "java/lang/SecurityManager"), (.object "java/lang/String"), (.object "java/io/Console"), (.object "java/io/PrintStream"), (.object "java/util/Properties"), (.object "java/lang/String"), (.object "java/lang/ModuleLayer")]
  resolved := Array.replicate 834 none
  statics := none }

def pool16 : Array CpInfo := pool [(1, .class_ 2), (0, u "java/lang/Character"), (18, u "value"), (0, u "C"), (19, .class_ 44), (1, u "java/lang/Object"), (3, .class_ 50), (1, u "java/lang/Character$CharacterCache"), (233, u "$assertionsDisabled"), (0, u "Z"), (21, .class_ 309), (1, u "java/lang/Character$UnicodeBlock"), (73, u "TYPE"), (0, u "Ljava/lang/Class;"), (0, .class_ 386), (0, u "java/io/Serializable"), (0, .class_ 388), (0, u "java/lang/Comparable"), (0, .class_ 390), (0, u "java/lang/constant/Constable"), (0, u "MIN_RADIX"), (0, u "I"), (2, u "MAX_RADIX"), (1, u "MIN_VALUE"), (1, u "MAX_VALUE"), (3, u "UNASSIGNED"), (0, u "B"), (0, u "UPPERCASE_LETTER"), (1, u "LOWERCASE_LETTER"), (0, u "TITLECASE_LETTER"), (1, u "MODIFIER_LETTER"), (1, u "OTHER_LETTER"), (1, u "NON_SPACING_MARK"), (1, u "ENCLOSING_MARK"), (1, u "COMBINING_SPACING_MARK"), (1, u "DECIMAL_DIGIT_NUMBER"), (1, u "LETTER_NUMBER"), (1, u "OTHER_NUMBER"), (1, u "SPACE_SEPARATOR"), (1, u "LINE_SEPARATOR"), (1, u "PARAGRAPH_SEPARATOR"), (1, u "CONTROL"), (1, u "FORMAT"), (1, u "PRIVATE_USE"), (1, u "SURROGATE"), (1, u "DASH_PUNCTUATION"), (1, u "START_PUNCTUATION"), (1, u "END_PUNCTUATION"), (1, u "CONNECTOR_PUNCTUATION"), (1, u "OTHER_PUNCTUATION"), (1, u "MATH_SYMBOL"), (1, u "CURRENCY_SYMBOL"), (1, u "MODIFIER_SYMBOL"), (1, u "OTHER_SYMBOL"), (1, u "INITIAL_QUOTE_PUNCTUATION"), (1, u "FINAL_QUOTE_PUNCTUATION"), (1, u "ERROR"), (1, u "DIRECTIONALITY_UNDEFINED"), (0, u "DIRECTIONALITY_LEFT_TO_RIGHT"), (0, u "DIRECTIONALITY_RIGHT_TO_LEFT"), (0, u "DIRECTIONALITY_RIGHT_TO_LEFT_ARABIC"), (0, u "DIRECTIONALITY_EUROPEAN_NUMBER"), (0, u "DIRECTIONALITY_EUROPEAN_NUMBER_SEPARATOR"), (0, u "DIRECTIONALITY_EUROPEAN_NUMBER_TERMINATOR"), (0, u "DIRECTIONALITY_ARABIC_NUMBER"), (0, u "DIRECTIONALITY_COMMON_NUMBER_SEPARATOR"), (0, u "DIRECTIONALITY_NONSPACING_MARK"), (0, u "DIRECTIONALITY_BOUNDARY_NEUTRAL"), (0, u "DIRECTIONALITY_PARAGRAPH_SEPARATOR"), (0, u "DIRECTIONALITY_SEGMENT_SEPARATOR"), (0, u "DIRECTIONALITY_WHITESPACE"), (0, u "DIRECTIONALITY_OTHER_NEUTRALS"), (0, u "DIRECTIONALITY_LEFT_TO_RIGHT_EMBEDDING"), (0, u "DIRECTIONALITY_LEFT_TO_RIGHT_OVERRIDE"), (0, u "DIRECTIONALITY_RIGHT_TO_LEFT_EMBEDDING"), (0, u "DIRECTIONALITY_RIGHT_TO_LEFT_OVERRIDE"), (1, u "DIRECTIONALITY_POP_DIRECTIONAL_FORMAT"), (0, u "DIRECTIONALITY_LEFT_TO_RIGHT_ISOLATE"), (0, u "DIRECTIONALITY_RIGHT_TO_LEFT_ISOLATE"), (0, u "DIRECTIONALITY_FIRST_STRONG_ISOLATE"), (0, u "DIRECTIONALITY_POP_DIRECTIONAL_ISOLATE"), (0, u "MIN_HIGH_SURROGATE"), (0, u "MAX_HIGH_SURROGATE"), (1, u "MIN_LOW_SURROGATE"), (0, u "MAX_LOW_SURROGATE"), (1, u "MIN_SURROGATE"), (0, u "MAX_SURROGATE"), (0, u "MIN_SUPPLEMENTARY_CODE_POINT"), (0, u "MIN_CODE_POINT"), (0, u "MAX_CODE_POINT"), (1, u "serialVersionUID"), (0, u "J"), (2, u "SIZE"), (0, u "BYTES"), (67, u "forDigit"), (0, u "(II)C"), (19, .class_ 596), (0, u "java/lang/Character$UnicodeScript"), (0, .class_ 598), (0, u "java/lang/Character$Subset")] 5

def k16c0 : Code := { maxStack := 2, maxLocals := 2, code := jdk_89_method_92_code, exceptionTable := #[], attributes := #[] }
def k16m0 : Method := { name := "forDigit", desc := "(II)C", sig := { parameters := [.int, .int], returnType := some .char }, accessFlags := 9, code := some k16c0 }
/-- java/lang/Character -/
def k16 : Class := { plain "java/lang/Character" (some 0) with
  accessFlags := 49
  interfaces := #[2, 3, 5]
  cf := some (fileOf pool16 1 #[.nestMembers #[48, 595, 307, 597]] #[{ accessFlags := 9, nameIndex := 574, descriptorIndex := 575, attributes := #[] }] 49 42 #[385, 387, 389] #[{ accessFlags := 25, nameIndex := 391, descriptorIndex := 392, attributes := #[] }, { accessFlags := 25, nameIndex := 395, descriptorIndex := 392, attributes := #[] }, { accessFlags := 25, nameIndex := 397, descriptorIndex := 22, attributes := #[] }, { accessFlags := 25, nameIndex := 399, descriptorIndex := 22, attributes := #[] }, { accessFlags := 25, nameIndex := 383, descriptorIndex := 384, attributes := #[] }, { accessFlags := 25, nameIndex := 403, descriptorIndex := 404, attributes := #[] }, { accessFlags := 25, nameIndex := 405, descriptorIndex := 404, attributes := #[] }, { accessFlags := 25, nameIndex := 407, descriptorIndex := 404, attributes := #[] }, { accessFlags := 25, nameIndex := 408, descriptorIndex := 404, attributes := #[] }, { accessFlags := 25, nameIndex := 410, descriptorIndex := 404, attributes := #[] }, { accessFlags := 25, nameIndex := 412, descriptorIndex := 404, attributes := #[] }, { accessFlags := 25, nameIndex := 414, descriptorIndex := 404, attributes := #[] }, { accessFlags := 25, nameIndex := 416, descriptorIndex := 404, attributes := #[] }, { accessFlags := 25, nameIndex := 418, descriptorIndex := 404, attributes := #[] }, { accessFlags := 25, nameIndex := 420, descriptorIndex := 404, attributes := #[] }, { accessFlags := 25, nameIndex := 422, descriptorIndex := 404, attributes := #[] }, { accessFlags := 25, nameIndex := 424, descriptorIndex := 404, attributes := #[] }, { accessFlags := 25, nameIndex := 426, descriptorIndex := 404, attributes := #[] }, { accessFlags := 25, nameIndex := 428, descriptorIndex := 404, attributes := #[] }, { accessFlags := 25, nameIndex := 430, descriptorIndex := 404, attributes := #[] }, { accessFlags := 25, nameIndex := 432, descriptorIndex := 404, attributes := #[] }, { accessFlags := 25, nameIndex := 434, descriptorIndex := 404, attributes := #[] }, { accessFlags := 25, nameIndex := 436, descriptorIndex := 404, attributes := #[] }, { accessFlags := 25, nameIndex := 438, descriptorIndex := 404, attributes := #[] }, { accessFlags := 25, nameIndex := 440, descriptorIndex := 404, attributes := #[] }, { accessFlags := 25, nameIndex := 442, descriptorIndex := 404, attributes := #[] }, { accessFlags := 25, nameIndex := 444, descriptorIndex := 404, attributes := #[] }, { accessFlags := 25, nameIndex := 446, descriptorIndex := 404, attributes := #[] }, { accessFlags := 25, nameIndex := 448, descriptorIndex := 404, attributes := #[] }, { accessFlags := 25, nameIndex := 450, descriptorIndex := 404, attributes := #[] }, { accessFlags := 25, nameIndex := 452, descriptorIndex := 404, attributes := #[] }, { accessFlags := 25, nameIndex := 454, descriptorIndex := 404, attributes := #[] }, { accessFlags := 25, nameIndex := 456, descriptorIndex := 404, attributes := #[] }, { accessFlags := 25, nameIndex := 458, descriptorIndex := 404, attributes := #[] }, { accessFlags := 25, nameIndex := 460, descriptorIndex := 404, attributes := #[] }, { accessFlags := 24, nameIndex := 462, descriptorIndex := 392, attributes := #[] }, { accessFlags := 25, nameIndex := 464, descriptorIndex := 404, attributes := #[] }, { accessFlags := 25, nameIndex := 465, descriptorIndex := 404, attributes := #[] }, { accessFlags := 25, nameIndex := 466, descriptorIndex := 404, attributes := #[] }, { accessFlags := 25, nameIndex := 467, descriptorIndex := 404, attributes := #[] }, { accessFlags := 25, nameIndex := 468, descriptorIndex := 404, attributes := #[] }, { accessFlags := 25, nameIndex := 469, descriptorIndex := 404, attributes := #[] }, { accessFlags := 25, nameIndex := 470, descriptorIndex := 404, attributes := #[] }, { accessFlags := 25, nameIndex := 471, descriptorIndex := 404, attributes := #[] }, { accessFlags := 25, nameIndex := 472, descriptorIndex := 404, attributes := #[] }, { accessFlags := 25, nameIndex := 473, descriptorIndex := 404, attributes := #[] }, { accessFlags := 25, nameIndex := 474, descriptorIndex := 404, attributes := #[] }, { accessFlags := 25, nameIndex := 475, descriptorIndex := 404, attributes := #[] }, { accessFlags := 25, nameIndex := 476, descriptorIndex := 404, attributes := #[] }, { accessFlags := 25, nameIndex := 477, descriptorIndex := 404, attributes := #[] }, { accessFlags := 25, nameIndex := 478, descriptorIndex := 404, attributes := #[] }, { accessFlags := 25, nameIndex := 479, descriptorIndex := 404, attributes := #[] }, { accessFlags := 25, nameIndex := 480, descriptorIndex := 404, attributes := #[] }, { accessFlags := 25, nameIndex := 481, descriptorIndex := 404, attributes := #[] }, { accessFlags := 25, nameIndex := 482, descriptorIndex := 404, attributes := #[] }, { accessFlags := 25, nameIndex := 484, descriptorIndex := 404, attributes := #[] }, { accessFlags := 25, nameIndex := 485, descriptorIndex := 404, attributes := #[] }, { accessFlags := 25, nameIndex := 486, descriptorIndex := 404, attributes := #[] }, { accessFlags := 25, nameIndex := 487, descriptorIndex := 404, attributes := #[] }, { accessFlags := 25, nameIndex := 488, descriptorIndex := 404, attributes := #[] }, { accessFlags := 25, nameIndex := 489, descriptorIndex := 22, attributes := #[] }, { accessFlags := 25, nameIndex := 490, descriptorIndex := 22, attributes := #[] }, { accessFlags := 25, nameIndex := 492, descriptorIndex := 22, attributes := #[] }, { accessFlags := 25, nameIndex := 493, descriptorIndex := 22, attributes := #[] }, { accessFlags := 25, nameIndex := 495, descriptorIndex := 22, attributes := #[] }, { accessFlags := 25, nameIndex := 496, descriptorIndex := 22, attributes := #[] }, { accessFlags := 25, nameIndex := 497, descriptorIndex := 392, attributes := #[] }, { accessFlags := 25, nameIndex := 498, descriptorIndex := 392, attributes := #[] }, { accessFlags := 25, nameIndex := 499, descriptorIndex := 392, attributes := #[] }, { accessFlags := 18, nameIndex := 21, descriptorIndex := 22, attributes := #[] }, { accessFlags := 26, nameIndex := 501, descriptorIndex := 502, attributes := #[] }, { accessFlags := 25, nameIndex := 505, descriptorIndex := 392, attributes := #[] }, { accessFlags := 25, nameIndex := 506, descriptorIndex := 392, attributes := #[] }, { accessFlags := 4120, nameIndex := 284, descriptorIndex := 285, attributes := #[] }])
  fields := #[{ name := "MIN_RADIX", type := .int, accessFlags := 25, slot := 0, constantValue := 0 }, { name := "MAX_RADIX", type := .int, accessFlags := 25, slot := 1, constantValue := 0 }, { name := "MIN_VALUE", type := .char, accessFlags := 25, slot := 2, constantValue := 0 }, { name := "MAX_VALUE", type := .char, accessFlags := 25, slot := 3, constantValue := 0 }, { name := "TYPE", type := (.object "java/lang/Class"), accessFlags := 25, slot := 4, constantValue := 0 }, { name := "UNASSIGNED", type := .byte, accessFlags := 25, slot := 5, constantValue := 0 }, { name := "UPPERCASE_LETTER", type := .byte, accessFlags := 25, slot := 6, constantValue := 0 }, { name := "LOWERCASE_LETTER", type := .byte, accessFlags := 25, slot := 7, constantValue := 0 }, { name := "TITLECASE_LETTER", type := .byte, accessFlags := 25, slot := 8, constantValue := 0 }, { name := "MODIFIER_LETTER", type := .byte, accessFlags := 25, slot := 9, constantValue := 0 }, { name := "OTHER_LETTER", type := .byte, accessFlags := 25, slot := 10, constantValue := 0 }, { name := "NON_SPACING_MARK", type := .byte, accessFlags := 25, slot := 11, constantValue := 0 }, { name := "ENCLOSING_MARK", type := .byte, accessFlags := 25, slot := 12, constantValue := 0 }, { name := "COMBINING_SPACING_MARK", type := .byte, accessFlags := 25, slot := 13, constantValue := 0 }, { name := "DECIMAL_DIGIT_NUMBER", type := .byte, accessFlags := 25, slot := 14, constantValue := 0 }, { name := "LETTER_NUMBER", type := .byte, accessFlags := 25, slot := 15, constantValue := 0 }, { name := "OTHER_NUMBER", type := .byte, accessFlags := 25, slot := 16, constantValue := 0 }, { name := "SPACE_SEPARATOR", type := .byte, accessFlags := 25, slot := 17, constantValue := 0 }, { name := "LINE_SEPARATOR", type := .byte, accessFlags := 25, slot := 18, constantValue := 0 }, { name := "PARAGRAPH_SEPARATOR", type := .byte, accessFlags := 25, slot := 19, constantValue := 0 }, { name := "CONTROL", type := .byte, accessFlags := 25, slot := 20, constantValue := 0 }, { name := "FORMAT", type := .byte, accessFlags := 25, slot := 21, constantValue := 0 }, { name := "PRIVATE_USE", type := .byte, accessFlags := 25, slot := 22, constantValue := 0 }, { name := "SURROGATE", type := .byte, accessFlags := 25, slot := 23, constantValue := 0 }, { name := "DASH_PUNCTUATION", type := .byte, accessFlags := 25, slot := 24, constantValue := 0 }, { name := "START_PUNCTUATION", type := .byte, accessFlags := 25, slot := 25, constantValue := 0 }, { name := "END_PUNCTUATION", type := .byte, accessFlags := 25, slot := 26, constantValue := 0 }, { name := "CONNECTOR_PUNCTUATION", type := .byte, accessFlags := 25, slot := 27, constantValue := 0 }, { name := "OTHER_PUNCTUATION", type := .byte, accessFlags := 25, slot := 28, constantValue := 0 }, { name := "MATH_SYMBOL", type := .byte, accessFlags := 25, slot := 29, constantValue := 0 }, { name := "CURRENCY_SYMBOL", type := .byte, accessFlags := 25, slot := 30, constantValue := 0 }, { name := "MODIFIER_SYMBOL", type := .byte, accessFlags := 25, slot := 31, constantValue := 0 }, { name := "OTHER_SYMBOL", type := .byte, accessFlags := 25, slot := 32, constantValue := 0 }, { name := "INITIAL_QUOTE_PUNCTUATION", type := .byte, accessFlags := 25, slot := 33, constantValue := 0 }, { name := "FINAL_QUOTE_PUNCTUATION", type := .byte, accessFlags := 25, slot := 34, constantValue := 0 }, { name := "ERROR", type := .int, accessFlags := 24, slot := 35, constantValue := 0 }, { name := "DIRECTIONALITY_UNDEFINED", type := .byte, accessFlags := 25, slot := 36, constantValue := 0 }, { name := "DIRECTIONALITY_LEFT_TO_RIGHT", type := .byte, accessFlags := 25, slot := 37, constantValue := 0 }, { name := "DIRECTIONALITY_RIGHT_TO_LEFT", type := .byte, accessFlags := 25, slot := 38, constantValue := 0 }, { name := "DIRECTIONALITY_RIGHT_TO_LEFT_ARABIC", type := .byte, accessFlags := 25, slot := 39, constantValue := 0 }, { name := "DIRECTIONALITY_EUROPEAN_NUMBER", type := .byte, accessFlags := 25, slot := 40, constantValue := 0 }, { name := "DIRECTIONALITY_EUROPEAN_NUMBER_SEPARATOR", type := .byte, accessFlags := 25, slot := 41, constantValue := 0 }, { name := "DIRECTIONALITY_EUROPEAN_NUMBER_TERMINATOR", type := .byte, accessFlags := 25, slot := 42, constantValue := 0 }, { name := "DIRECTIONALITY_ARABIC_NUMBER", type := .byte, accessFlags := 25, slot := 43, constantValue := 0 }, { name := "DIRECTIONALITY_COMMON_NUMBER_SEPARATOR", type := .byte, accessFlags := 25, slot := 44, constantValue := 0 }, { name := "DIRECTIONALITY_NONSPACING_MARK", type := .byte, accessFlags := 25, slot := 45, constantValue := 0 }, { name := "DIRECTIONALITY_BOUNDARY_NEUTRAL", type := .byte, accessFlags := 25, slot := 46, constantValue := 0 }, { name := "DIRECTIONALITY_PARAGRAPH_SEPARATOR", type := .byte, accessFlags := 25, slot := 47, constantValue := 0 }, { name := "DIRECTIONALITY_SEGMENT_SEPARATOR", type := .byte, accessFlags := 25, slot := 48, constantValue := 0 }, { name := "DIRECTIONALITY_WHITESPACE", type := .byte, accessFlags := 25, slot := 49, constantValue := 0 }, { name := "DIRECTIONALITY_OTHER_NEUTRALS", type := .byte, accessFlags := 25, slot := 50, constantValue := 0 }, { name := "DIRECTIONALITY_LEFT_TO_RIGHT_EMBEDDING", type := .byte, accessFlags := 25, slot := 51, constantValue := 0 }, { name := "DIRECTIONALITY_LEFT_TO_RIGHT_OVERRIDE", type := .byte, accessFlags := 25, slot := 52, constantValue := 0 }, { name := "DIRECTIONALITY_RIGHT_TO_LEFT_EMBEDDING", type := .byte, accessFlags := 25, slot := 53, constantValue := 0 }, { name := "DIRECTIONALITY_RIGHT_TO_LEFT_OVERRIDE", type := .byte, accessFlags := 25, slot := 54, constantValue := 0 }, { name := "DIRECTIONALITY_POP_DIRECTIONAL_FORMAT", type := .byte, accessFlags := 25, slot := 55, constantValue := 0 }, { name := "DIRECTIONALITY_LEFT_TO_RIGHT_ISOLATE", type := .byte, accessFlags := 25, slot := 56, constantValue := 0 }, { name := "DIRECTIONALITY_RIGHT_TO_LEFT_ISOLATE", type := .byte, accessFlags := 25, slot := 57, constantValue := 0 }, { name := "DIRECTIONALITY_FIRST_STRONG_ISOLATE", type := .byte, accessFlags := 25, slot := 58, constantValue := 0 }, { name := "DIRECTIONALITY_POP_DIRECTIONAL_ISOLATE", type := .byte, accessFlags := 25, slot := 59, constantValue := 0 }, { name := "MIN_HIGH_SURROGATE", type := .char, accessFlags := 25, slot := 60, constantValue := 0 }, { name := "MAX_HIGH_SURROGATE", type := .char, accessFlags := 25, slot := 61, constantValue := 0 }, { name := "MIN_LOW_SURROGATE", type := .char, accessFlags := 25, slot := 62, constantValue := 0 }, { name := "MAX_LOW_SURROGATE", type := .char, accessFlags := 25, slot := 63, constantValue := 0 }, { name := "MIN_SURROGATE", type := .char, accessFlags := 25, slot := 64, constantValue := 0 }, { name := "MAX_SURROGATE", type := .char, accessFlags := 25, slot := 65, constantValue := 0 }, { name := "MIN_SUPPLEMENTARY_CODE_POINT", type := .int, accessFlags := 25, slot := 66, constantValue := 0 }, { name := "MIN_CODE_POINT", type := .int, accessFlags := 25, slot := 67, constantValue := 0 }, { name := "MAX_CODE_POINT", type := .int, accessFlags := 25, slot := 68, constantValue := 0 }, { name := "value", type := .char, accessFlags := 18, slot := 0, constantValue := 0 }, { name := "serialVersionUID", type := .long, accessFlags := 26, slot := 69, constantValue := 0 }, { name := "SIZE", type := .int, accessFlags := 25, slot := 70, constantValue := 0 }, { name := "BYTES", type := .int, accessFlags := 25, slot := 71, constantValue := 0 }, { name := "$assertionsDisabled", type := .boolean, accessFlags := 4120, slot := 72, constantValue := 0 }]
  methods := #[k16m0]
  instanceTypes := #[.char]
  staticTypes := #[.int, .int, .char, .char, (.object "java/lang/Class"), .byte, .byte, .byte, .byte, .byte, .byte, .byte, .byte, .byte, .byte, .byte, .byte, .byte, .byte, .byte, .byte, .byte, .byte, .byte, .byte, .byte, .byte, .byte, .byte, .byte, .byte, .byte, .byte, .byte, .byte, .int, .byte, .byte, .byte, .byte, .byte, .byte, .byte, .byte, .byte, .byte, .byte, .byte, .byte, .byte, .byte, .byte, .byte, .byte, .byte, .byte, .byte, .byte, .byte, .byte, .char, .char, .char, .char, .char, .char, .int, .int, .int, .long, .int, .int, .boolean]
  resolved := Array.replicate 604 none
  statics := none }

def pool17 : Array CpInfo := pool [(2, .class_ 4), (1, u "java/lang/Object"), (0, u "<init>"), (0, u "()V"), (7, .class_ 16), (1, u "java/util/Arrays"), (57, .class_ 76), (1, u "java/util/Arrays$NaturalOrder"), (36, .class_ 115), (1, u "java/util/Arrays$LegacyMergeSort"), (1, u "Z"), (21, u "copyOfRange"), (10, .methodref 151 152), (0, .class_ 153), (0, .nameAndType 154 155), (0, u "java/lang/System"), (0, u "arraycopy"), (0, u "(Ljava/lang/Object;ILjava/lang/Object;II)V"), (148, .methodref 305 306), (0, .class_ 307), (0, .nameAndType 308 309), (0, u "java/lang/Math"), (0, u "min"), (0, u "(II)I"), (29, .methodref 14 340), (0, .nameAndType 341 342), (0, u "copyOfRangeByte"), (0, u "([BII)[B"), (0, .methodref 14 344), (0, .nameAndType 345 346), (0, u "checkLength"), (0, u "(II)V"), (28, .class_ 376), (0, u "java/util/Arrays$ArrayList"), (68, u "$assertionsDisabled"), (269, u "MIN_ARRAY_SORT_GRAN"), (0, u "I"), (2, u "INSERTIONSORT_THRESHOLD"), (255, .class_ 976), (0, u "java/util/Arrays$ArrayItr")] 52

def k17m0 : Method := { name := "<init>", desc := "()V", sig := { parameters := [], returnType := none }, accessFlags := 2, code := none }
def k17c1 : Code := { maxStack := 4, maxLocals := 2, code := jdk_65_method_131_code, exceptionTable := #[], attributes := #[] }
def k17m1 : Method := { name := "checkLength", desc := "(II)V", sig := { parameters := [.int, .int], returnType := none }, accessFlags := 10, code := some k17c1 }
def k17c2 : Code := { maxStack := 3, maxLocals := 3, code := jdk_65_method_132_code, exceptionTable := #[], attributes := #[] }
def k17m2 : Method := { name := "copyOfRange", desc := "([BII)[B", sig := { parameters := [(.array .byte), .int, .int], returnType := some (.array .byte) }, accessFlags := 9, code := some k17c2 }
def k17c3 : Code := { maxStack := 6, maxLocals := 5, code := jdk_65_method_133_code, exceptionTable := #[], attributes := #[] }
def k17m3 : Method := { name := "copyOfRangeByte", desc := "([BII)[B", sig := { parameters := [(.array .byte), .int, .int], returnType := some (.array .byte) }, accessFlags := 10, code := some k17c3 }
/-- java/util/Arrays -/
def k17 : Class := { plain "java/util/Arrays" (some 0) with
  accessFlags := 49
  interfaces := #[]
  cf := some (fileOf pool17 14 #[.nestMembers #[975, 375, 113, 74]] #[{ accessFlags := 2, nameIndex := 5, descriptorIndex := 6, attributes := #[] }, { accessFlags := 10, nameIndex := 345, descriptorIndex := 346, attributes := #[] }, { accessFlags := 9, nameIndex := 139, descriptorIndex := 342, attributes := #[] }, { accessFlags := 10, nameIndex := 341, descriptorIndex := 342, attributes := #[] }] 49 2 #[] #[{ accessFlags := 26, nameIndex := 715, descriptorIndex := 716, attributes := #[] }, { accessFlags := 26, nameIndex := 719, descriptorIndex := 716, attributes := #[] }, { accessFlags := 4120, nameIndex := 445, descriptorIndex := 117, attributes := #[] }])
  fields := #[{ name := "MIN_ARRAY_SORT_GRAN", type := .int, accessFlags := 26, slot := 0, constantValue := 0 }, { name := "INSERTIONSORT_THRESHOLD", type := .int, accessFlags := 26, slot := 1, constantValue := 0 }, { name := "$assertionsDisabled", type := .boolean, accessFlags := 4120, slot := 2, constantValue := 0 }]
  methods := #[k17m0, k17m1, k17m2, k17m3]
  instanceTypes := #[]
  staticTypes := #[.int, .int, .boolean]
  resolved := Array.replicate 1029 none
  statics := none }

def pool18 : Array CpInfo := pool [(1, .class_ 2), (0, u "java/lang/Math"), (1, .class_ 6), (1, u "java/lang/Object"), (0, u "<init>"), (0, u "()V"), (89, .class_ 100), (1, u "java/lang/Math$RandomNumberGeneratorHolder"), (71, u "negativeZeroFloatBits"), (0, u "J"), (2, u "negativeZeroDoubleBits"), (24, u "min"), (43, u "$assertionsDisabled"), (0, u "Z"), (88, u "(II)I"), (2, u "twoToTheDoubleScaleDown"), (0, u "D"), (4, u "twoToTheDoubleScaleUp"), (9, u "E"), (3, u "PI"), (2, u "TAU"), (2, u "DEGREES_TO_RADIANS"), (0, u "RADIANS_TO_DEGREES")] 94

def k18m0 : Method := { name := "<init>", desc := "()V", sig := { parameters := [], returnType := none }, accessFlags := 2, code := none }
def k18c1 : Code := { maxStack := 2, maxLocals := 2, code := jdk_29_method_69_code, exceptionTable := #[], attributes := #[] }
def k18m1 : Method := { name := "min", desc := "(II)I", sig := { parameters := [.int, .int], returnType := some .int }, accessFlags := 9, code := some k18c1 }
/-- java/lang/Math -/
def k18 : Class := { plain "java/lang/Math" (some 0) with
  accessFlags := 49
  interfaces := #[]
  cf := some (fileOf pool18 1 #[.nestMembers #[98]] #[{ accessFlags := 2, nameIndex := 7, descriptorIndex := 8, attributes := #[] }, { accessFlags := 9, nameIndex := 201, descriptorIndex := 335, attributes := #[] }] 49 4 #[] #[{ accessFlags := 25, nameIndex := 354, descriptorIndex := 339, attributes := #[] }, { accessFlags := 25, nameIndex := 358, descriptorIndex := 339, attributes := #[] }, { accessFlags := 25, nameIndex := 361, descriptorIndex := 339, attributes := #[] }, { accessFlags := 26, nameIndex := 364, descriptorIndex := 339, attributes := #[] }, { accessFlags := 26, nameIndex := 365, descriptorIndex := 339, attributes := #[] }, { accessFlags := 26, nameIndex := 172, descriptorIndex := 173, attributes := #[] }, { accessFlags := 26, nameIndex := 176, descriptorIndex := 173, attributes := #[] }, { accessFlags := 8, nameIndex := 344, descriptorIndex := 339, attributes := #[] }, { accessFlags := 8, nameIndex := 338, descriptorIndex := 339, attributes := #[] }, { accessFlags := 4120, nameIndex := 245, descriptorIndex := 246, attributes := #[] }])
  fields := #[{ name := "E", type := .double, accessFlags := 25, slot := 0, constantValue := 0 }, { name := "PI", type := .double, accessFlags := 25, slot := 1, constantValue := 0 }, { name := "TAU", type := .double, accessFlags := 25, slot := 2, constantValue := 0 }, { name := "DEGREES_TO_RADIANS", type := .double, accessFlags := 26, slot := 3, constantValue := 0 }, { name := "RADIANS_TO_DEGREES", type := .double, accessFlags := 26, slot := 4, constantValue := 0 }, { name := "negativeZeroFloatBits", type := .long, accessFlags := 26, slot := 5, constantValue := 0 }, { name := "negativeZeroDoubleBits", type := .long, accessFlags := 26, slot := 6, constantValue := 0 }, { name := "twoToTheDoubleScaleUp", type := .double, accessFlags := 8, slot := 7, constantValue := 0 }, { name := "twoToTheDoubleScaleDown", type := .double, accessFlags := 8, slot := 8, constantValue := 0 }, { name := "$assertionsDisabled", type := .boolean, accessFlags := 4120, slot := 9, constantValue := 0 }]
  methods := #[k18m0, k18m1]
  instanceTypes := #[]
  staticTypes := #[.double, .double, .double, .double, .double, .long, .long, .double, .double, .boolean]
  resolved := Array.replicate 460 none
  statics := none }

def pool19 : Array CpInfo := pool [(9, u "<init>"), (6, .class_ 18), (1, u "java/lang/Object"), (0, u "()V"), (1, .class_ 23), (1, u "jdk/internal/util/ArraysSupport"), (0, u "LOG2_ARRAY_LONG_INDEX_SCALE"), (0, u "I"), (2, u "U"), (0, u "Ljdk/internal/misc/Unsafe;"), (8, u "BIG_ENDIAN"), (0, u "Z"), (8, u "LOG2_BYTE_BIT_SIZE"), (4, u "LOG2_ARRAY_INT_INDEX_SCALE"), (54, u "JLA"), (0, u "Ljdk/internal/access/JavaLangAccess;"), (11, u "LOG2_ARRAY_BOOLEAN_INDEX_SCALE"), (9, u "LOG2_ARRAY_BYTE_INDEX_SCALE"), (5, u "LOG2_ARRAY_CHAR_INDEX_SCALE"), (5, u "LOG2_ARRAY_SHORT_INDEX_SCALE"), (18, u "LOG2_ARRAY_FLOAT_INDEX_SCALE"), (24, u "LOG2_ARRAY_DOUBLE_INDEX_SCALE"), (89, u "T_BOOLEAN"), (2, u "T_CHAR"), (1, u "T_FLOAT"), (1, u "T_DOUBLE"), (1, u "T_BYTE"), (1, u "T_SHORT"), (1, u "T_INT"), (1, u "T_LONG"), (1, u "SOFT_MAX_ARRAY_LENGTH")] 83

def k19m0 : Method := { name := "<init>", desc := "()V", sig := { parameters := [], returnType := none }, accessFlags := 2, code := none }
/-- jdk/internal/util/ArraysSupport -/
def k19 : Class := { plain "jdk/internal/util/ArraysSupport" (some 0) with
  accessFlags := 33
  interfaces := #[]
  cf := some (fileOf pool19 21 #[] #[{ accessFlags := 2, nameIndex := 9, descriptorIndex := 19, attributes := #[] }] 33 16 #[] #[{ accessFlags := 24, nameIndex := 28, descriptorIndex := 29, attributes := #[] }, { accessFlags := 26, nameIndex := 38, descriptorIndex := 39, attributes := #[] }, { accessFlags := 25, nameIndex := 121, descriptorIndex := 25, attributes := #[] }, { accessFlags := 25, nameIndex := 131, descriptorIndex := 25, attributes := #[] }, { accessFlags := 25, nameIndex := 137, descriptorIndex := 25, attributes := #[] }, { accessFlags := 25, nameIndex := 143, descriptorIndex := 25, attributes := #[] }, { accessFlags := 25, nameIndex := 53, descriptorIndex := 25, attributes := #[] }, { accessFlags := 25, nameIndex := 24, descriptorIndex := 25, attributes := #[] }, { accessFlags := 25, nameIndex := 162, descriptorIndex := 25, attributes := #[] }, { accessFlags := 25, nameIndex := 187, descriptorIndex := 25, attributes := #[] }, { accessFlags := 26, nameIndex := 48, descriptorIndex := 25, attributes := #[] }, { accessFlags := 25, nameIndex := 277, descriptorIndex := 25, attributes := #[] }, { accessFlags := 25, nameIndex := 280, descriptorIndex := 25, attributes := #[] }, { accessFlags := 25, nameIndex := 282, descriptorIndex := 25, attributes := #[] }, { accessFlags := 25, nameIndex := 284, descriptorIndex := 25, attributes := #[] }, { accessFlags := 25, nameIndex := 286, descriptorIndex := 25, attributes := #[] }, { accessFlags := 25, nameIndex := 288, descriptorIndex := 25, attributes := #[] }, { accessFlags := 25, nameIndex := 290, descriptorIndex := 25, attributes := #[] }, { accessFlags := 25, nameIndex := 292, descriptorIndex := 25, attributes := #[] }, { accessFlags := 26, nameIndex := 108, descriptorIndex := 109, attributes := #[] }, { accessFlags := 25, nameIndex := 294, descriptorIndex := 25, attributes := #[] }])
  fields := #[{ name := "U", type := (.object "jdk/internal/misc/Unsafe"), accessFlags := 24, slot := 0, constantValue := 0 }, { name := "BIG_ENDIAN", type := .boolean, accessFlags := 26, slot := 1, constantValue := 0 }, { name := "LOG2_ARRAY_BOOLEAN_INDEX_SCALE", type := .int, accessFlags := 25, slot := 2, constantValue := 0 }, { name := "LOG2_ARRAY_BYTE_INDEX_SCALE", type := .int, accessFlags := 25, slot := 3, constantValue := 0 }, { name := "LOG2_ARRAY_CHAR_INDEX_SCALE", type := .int, accessFlags := 25, slot := 4, constantValue := 0 }, { name := "LOG2_ARRAY_SHORT_INDEX_SCALE", type := .int, accessFlags := 25, slot := 5, constantValue := 0 }, { name := "LOG2_ARRAY_INT_INDEX_SCALE", type := .int, accessFlags := 25, slot := 6, constantValue := 0 }, { name := "LOG2_ARRAY_LONG_INDEX_SCALE", type := .int, accessFlags := 25, slot := 7, constantValue := 0 }, { name := "LOG2_ARRAY_FLOAT_INDEX_SCALE", type := .int, accessFlags := 25, slot := 8, constantValue := 0 }, { name := "LOG2_ARRAY_DOUBLE_INDEX_SCALE", type := .int, accessFlags := 25, slot := 9, constantValue := 0 }, { name := "LOG2_BYTE_BIT_SIZE", type := .int, accessFlags := 26, slot := 10, constantValue := 0 }, { name := "T_BOOLEAN", type := .int, accessFlags := 25, slot := 11, constantValue := 0 }, { name := "T_CHAR", type := .int, accessFlags := 25, slot := 12, constantValue := 0 }, { name := "T_FLOAT", type := .int, accessFlags := 25, slot := 13, constantValue := 0 }, { name := "T_DOUBLE", type := .int, accessFlags := 25, slot := 14, constantValue := 0 }, { name := "T_BYTE", type := .int, accessFlags := 25, slot := 15, constantValue := 0 }, { name := "T_SHORT", type := .int, accessFlags := 25, slot := 16, constantValue := 0 }, { name := "T_INT", type := .int, accessFlags := 25, slot := 17, constantValue := 0 }, { name := "T_LONG", type := .int, accessFlags := 25, slot := 18, constantValue := 0 }, { name := "JLA", type := (.object "jdk/internal/access/JavaLangAccess"), accessFlags := 26, slot := 19, constantValue := 0 }, { name := "SOFT_MAX_ARRAY_LENGTH", type := .int, accessFlags := 25, slot := 20, constantValue := 0 }]
  methods := #[k19m0]
  instanceTypes := #[]
  staticTypes := #[(.object "jdk/internal/misc/Unsafe"), .boolean, .int, .int, .int, .int, .int, .int, .int, .int, .int, .int, .int, .int, .int, .int, .int, .int, .int, (.object "jdk/internal/access/JavaLangAccess"), .int]
  resolved := Array.replicate 378 none
  statics := none }

def pool20 : Array CpInfo := pool [(1, u "java/lang/Cloneable"), (0, .class_ 1), (0, u "java/lang/Object"), (0, .class_ 3)] 3

/-- java/lang/Cloneable -/
def k20 : Class := { plain "java/lang/Cloneable" (some 0) with
  accessFlags := 1537
  interfaces := #[]
  cf := some (fileOf pool20 2 #[] #[] 1537 4 #[] #[])
  fields := #[]
  methods := #[]
  instanceTypes := #[]
  staticTypes := #[]
  resolved := Array.replicate 8 none
  statics := none }

/-- the primitive byte -/
def k21 : Class := { plain "byte" none with kind := .primitive 'B', accessFlags := 0x411 }
/-- [B -/
def k22 : Class := { plain "[B" (some 0) with kind := .array 21 .byte, interfaces := #[20, 2], accessFlags := 1041 }

/-- the primitive char -/
def k23 : Class := { plain "char" none with kind := .primitive 'C', accessFlags := 0x411 }
/-- [C -/
def k24 : Class := { plain "[C" (some 0) with kind := .array 23 .char, interfaces := #[20, 2], accessFlags := 1041 }

/-- the primitive int -/
def k25 : Class := { plain "int" none with kind := .primitive 'I', accessFlags := 0x411 }
/-- [I -/
def k26 : Class := { plain "[I" (some 0) with kind := .array 25 .int, interfaces := #[20, 2], accessFlags := 1041 }

def heap : Heap := #[{ cls := 7, slots := #[.long 0, .int 1, .null, .int 0, .null, .int 0, .int 0], vm := .statics 7 },
  { cls := 9, slots := #[.int 0, .int 8, .int 0, .int 1], vm := .statics 9 },
  { cls := 11, slots := #[.null, .null, .null], vm := .statics 11 }]
def classes : Array Class := #[k0, k1, k2, k3, k4, k5, k6, k7, k8, k9, k10, k11, k12, k13, k14, k15, k16, k17, k18, k19, k20, k21, k22, k23, k24, k25, k26]
def interned : List (Array UInt16 × Addr) := []
def slotsUsed : Nat := 14
def theMethod : MethodId := ⟨1, 5⟩
def args0 : Array Value := #[.int 3, .int 65, .int 8232, .int 13]
def aboutOver (below : List Frame) : State where
  vm := { classes := classes, interned := interned.toArray }
  heap := heap
  slotsUsed := slotsUsed
  threads := #[{ frames := .invoking theMethod args0 :: below }]
def below0 : List Frame := [.native { method := ⟨0, 0⟩, args := #[] }]
def about1 : State := aboutOver below0
def p0 : Program := .bare "" "" ""
def e0 : Env := launch0.env 0 0 0
theorem w_frames : about1.frames = Frame.invoking theMethod args0 :: below0 := rfl
set_option maxRecDepth 65536 in
theorem w_args : argsFit about1.vm theMethod args0 = true := by decide +kernel
set_option maxRecDepth 65536 in
theorem w_heap : heapFits about1 = true := by decide +kernel
set_option maxRecDepth 65536 in
theorem w_runnable : about1.curStatus? = some .runnable := by decide +kernel
set_option maxRecDepth 65536 in
theorem w_alone : about1.alone = true := by decide +kernel
set_option maxRecDepth 65536 in
theorem w_named : about1.methodNamed? x = some theMethod := by decide +kernel
set_option maxRecDepth 65536 in
theorem w_hears : about1.hears theMethod below0 = true := by decide +kernel
set_option maxRecDepth 65536 in
theorem w_ripe : about1.ripe theMethod args0 below0 = true := by decide +kernel
theorem w_running : about1.status = .running := rfl
set_option maxRecDepth 65536 in
theorem w_room : about1.hasRoom e0.platform room_1 = true :=
  launch0.hasRoom_least _ room_1 (by decide +kernel) (by decide +kernel) (by decide +kernel) (by decide +kernel) (by decide +kernel) (by decide +kernel)
theorem allAtoms_all (ts : List Jvm.Cond) (a : Array Jvm.Value) (st : Jvm.State) : (allAtoms ts).before a st = ts.all (fun c => c.before a st) := by
  induction ts with
  | nil => rfl
  | cons c t ih =>
    show (Jvm.Cond.and c (allAtoms t)).before a st = _
    rw [Jvm.Cond.before_and, ih, List.all_cons]
def words1 : List Jvm.Cond := Jvm.Cond.code x code maxLocals ret :: tables_1
/-- a 'code' word, met by the world's own term for the bytes: nothing is compared byte by byte -/
theorem code_word {y : MethodName} {bytes : ByteArray} {mx : Nat} {rt : Option FieldType} {a : Array Value} {s : State} {m : MethodId} {meth : Method} {c : Code} (h1 : s.methodNamed? y = some m) (h2 : s.vm.method? m = some meth) (h3 : meth.code = some c) (h4 : c.code = bytes)
    (h5 : (c.maxLocals == mx && c.exceptionTable.isEmpty && decide (c.maxStack ≤ mostOperands) && decide (meth.sig.returnType = rt) && !meth.locks && decide (parseMethodDescriptor y.desc = some meth.sig)) = true) : (Jvm.Cond.code y bytes mx rt).before a s = true := by
  simp only [Bool.and_eq_true, beq_iff_eq, Bool.not_eq_true', decide_eq_true_eq] at h5
  obtain ⟨⟨⟨⟨⟨g1, g2⟩, g3⟩, g4⟩, g5⟩, g6⟩ := h5
  simp [Cond.before, Cond.holds, Cond.value, h1, h2, h3, h4, g1, g2, g3, g4, g5, g6]
def isCode : Jvm.Cond → Bool
  | .code _ _ _ _ => true
  | _ => false
theorem all_split {L : List Jvm.Cond} {P : Jvm.Cond → Bool} (h1 : L.all (fun c => isCode c || P c) = true) (h2 : ∀ c ∈ L.filter isCode, P c = true) : L.all P = true := by
  refine List.all_eq_true.mpr fun c hc => ?_
  have h := List.all_eq_true.mp h1 c hc
  rcases Bool.eq_false_or_eq_true (isCode c) with hi | hi
  · exact h2 c (List.mem_filter.mpr ⟨hc, hi⟩)
  · simpa [hi] using h
set_option maxRecDepth 65536 in
theorem w_c0 : (Jvm.Cond.code x code maxLocals ret).before args0 about1 = true := code_word (m := ⟨1, 5⟩) (meth := k1m5) (c := k1c5) (by decide +kernel) rfl rfl rfl (by decide +kernel)
set_option maxRecDepth 65536 in
theorem w_c1 : (Jvm.Cond.code ({ cls := "java/lang/String", name := "<init>", desc := "([C)V" } : Jvm.MethodName) jdk_42_method_3_code (2 : Nat) (Option.none : Option Jvm.ClassFile.FieldType)).before args0 about1 = true := code_word (m := ⟨7, 1⟩) (meth := k7m1) (c := k7c1) (by decide +kernel) rfl rfl rfl (by decide +kernel)
set_option maxRecDepth 65536 in
theorem w_c2 : (Jvm.Cond.code ({ cls := "java/lang/String", name := "<init>", desc := "([CIILjava/lang/Void;)V" } : Jvm.MethodName) jdk_42_method_149_code (6 : Nat) (Option.none : Option Jvm.ClassFile.FieldType)).before args0 about1 = true := code_word (m := ⟨7, 6⟩) (meth := k7m6) (c := k7c6) (by decide +kernel) rfl rfl rfl (by decide +kernel)
set_option maxRecDepth 65536 in
theorem w_c3 : (Jvm.Cond.code ({ cls := "java/lang/Object", name := "<init>", desc := "()V" } : Jvm.MethodName) object_method_1_code (1 : Nat) (Option.none : Option Jvm.ClassFile.FieldType)).before args0 about1 = true := code_word (m := ⟨0, 0⟩) (meth := k0m0) (c := k0c0) (by decide +kernel) rfl rfl rfl (by decide +kernel)
set_option maxRecDepth 65536 in
theorem w_c4 : (Jvm.Cond.code ({ cls := "lifestack/util/Lines", name := "oneLine", desc := "(Ljava/lang/String;)Ljava/lang/String;" } : Jvm.MethodName) prog_57_method_2_code (6 : Nat) (Option.some (Jvm.ClassFile.FieldType.object "java/lang/String"))).before args0 about1 = true := code_word (m := ⟨8, 1⟩) (meth := k8m1) (c := k8c1) (by decide +kernel) rfl rfl rfl (by decide +kernel)
set_option maxRecDepth 65536 in
theorem w_c5 : (Jvm.Cond.code ({ cls := "java/lang/String", name := "length", desc := "()I" } : Jvm.MethodName) jdk_42_method_54_code (1 : Nat) (Option.some Jvm.ClassFile.FieldType.int)).before args0 about1 = true := code_word (m := ⟨7, 3⟩) (meth := k7m3) (c := k7c3) (by decide +kernel) rfl rfl rfl (by decide +kernel)
set_option maxRecDepth 65536 in
theorem w_c6 : (Jvm.Cond.code ({ cls := "java/lang/String", name := "coder", desc := "()B" } : Jvm.MethodName) jdk_42_method_152_code (1 : Nat) (Option.some Jvm.ClassFile.FieldType.byte)).before args0 about1 = true := code_word (m := ⟨7, 8⟩) (meth := k7m8) (c := k7c8) (by decide +kernel) rfl rfl rfl (by decide +kernel)
set_option maxRecDepth 65536 in
theorem w_c7 : (Jvm.Cond.code ({ cls := "java/lang/StringUTF16", name := "compress", desc := "([CII)[B" } : Jvm.MethodName) jdk_52_method_16_code (6 : Nat) (Option.some (Jvm.ClassFile.FieldType.array Jvm.ClassFile.FieldType.byte))).before args0 about1 = true := code_word (m := ⟨9, 8⟩) (meth := k9m8) (c := k9c8) (by decide +kernel) rfl rfl rfl (by decide +kernel)
set_option maxRecDepth 65536 in
theorem w_c8 : (Jvm.Cond.code ({ cls := "java/lang/StringUTF16", name := "compress", desc := "([CI[BII)I" } : Jvm.MethodName) jdk_52_method_21_code (7 : Nat) (Option.some Jvm.ClassFile.FieldType.int)).before args0 about1 = true := code_word (m := ⟨9, 9⟩) (meth := k9m9) (c := k9c9) (by decide +kernel) rfl rfl rfl (by decide +kernel)
set_option maxRecDepth 65536 in
theorem w_c9 : (Jvm.Cond.code ({ cls := "java/lang/StringUTF16", name := "coderFromArrayLen", desc := "([BI)B" } : Jvm.MethodName) jdk_52_method_15_code (2 : Nat) (Option.some Jvm.ClassFile.FieldType.byte)).before args0 about1 = true := code_word (m := ⟨9, 7⟩) (meth := k9m7) (c := k9c7) (by decide +kernel) rfl rfl rfl (by decide +kernel)
set_option maxRecDepth 65536 in
theorem w_c10 : (Jvm.Cond.code ({ cls := "java/lang/String", name := "charAt", desc := "(I)C" } : Jvm.MethodName) jdk_42_method_56_code (2 : Nat) (Option.some Jvm.ClassFile.FieldType.char)).before args0 about1 = true := code_word (m := ⟨7, 4⟩) (meth := k7m4) (c := k7c4) (by decide +kernel) rfl rfl rfl (by decide +kernel)
set_option maxRecDepth 65536 in
theorem w_c11 : (Jvm.Cond.code ({ cls := "java/lang/String", name := "isLatin1", desc := "()Z" } : Jvm.MethodName) jdk_42_method_154_code (1 : Nat) (Option.some Jvm.ClassFile.FieldType.boolean)).before args0 about1 = true := code_word (m := ⟨7, 10⟩) (meth := k7m10) (c := k7c10) (by decide +kernel) rfl rfl rfl (by decide +kernel)
set_option maxRecDepth 65536 in
theorem w_c12 : (Jvm.Cond.code ({ cls := "java/lang/StringLatin1", name := "charAt", desc := "([BI)C" } : Jvm.MethodName) jdk_43_method_2_code (2 : Nat) (Option.some Jvm.ClassFile.FieldType.char)).before args0 about1 = true := code_word (m := ⟨10, 1⟩) (meth := k10m1) (c := k10c1) (by decide +kernel) rfl rfl rfl (by decide +kernel)
set_option maxRecDepth 65536 in
theorem w_c13 : (Jvm.Cond.code ({ cls := "java/lang/String", name := "checkIndex", desc := "(II)V" } : Jvm.MethodName) jdk_42_method_155_code (2 : Nat) (Option.none : Option Jvm.ClassFile.FieldType)).before args0 about1 = true := code_word (m := ⟨7, 11⟩) (meth := k7m11) (c := k7c11) (by decide +kernel) rfl rfl rfl (by decide +kernel)
set_option maxRecDepth 65536 in
theorem w_c14 : (Jvm.Cond.code ({ cls := "jdk/internal/util/Preconditions", name := "checkIndex", desc := "(IILjava/util/function/BiFunction;)I" } : Jvm.MethodName) jdk_41_method_11_code (3 : Nat) (Option.some Jvm.ClassFile.FieldType.int)).before args0 about1 = true := code_word (m := ⟨11, 1⟩) (meth := k11m1) (c := k11c1) (by decide +kernel) rfl rfl rfl (by decide +kernel)
set_option maxRecDepth 65536 in
theorem w_c15 : (Jvm.Cond.code ({ cls := "lifestack/util/Lines", name := "isEscaped", desc := "(C)Z" } : Jvm.MethodName) prog_57_method_3_code (1 : Nat) (Option.some Jvm.ClassFile.FieldType.boolean)).before args0 about1 = true := code_word (m := ⟨8, 2⟩) (meth := k8m2) (c := k8c2) (by decide +kernel) rfl rfl rfl (by decide +kernel)
set_option maxRecDepth 65536 in
theorem w_c16 : (Jvm.Cond.code ({ cls := "java/lang/StringBuilder", name := "<init>", desc := "(I)V" } : Jvm.MethodName) jdk_67_method_2_code (2 : Nat) (Option.none : Option Jvm.ClassFile.FieldType)).before args0 about1 = true := code_word (m := ⟨14, 1⟩) (meth := k14m1) (c := k14c1) (by decide +kernel) rfl rfl rfl (by decide +kernel)
set_option maxRecDepth 65536 in
theorem w_c17 : (Jvm.Cond.code ({ cls := "java/lang/AbstractStringBuilder", name := "<init>", desc := "(I)V" } : Jvm.MethodName) jdk_68_method_2_code (2 : Nat) (Option.none : Option Jvm.ClassFile.FieldType)).before args0 about1 = true := code_word (m := ⟨13, 1⟩) (meth := k13m1) (c := k13c1) (by decide +kernel) rfl rfl rfl (by decide +kernel)
set_option maxRecDepth 65536 in
theorem w_c18 : (Jvm.Cond.code ({ cls := "java/lang/StringBuilder", name := "append", desc := "(Ljava/lang/CharSequence;II)Ljava/lang/StringBuilder;" } : Jvm.MethodName) jdk_67_method_10_code (4 : Nat) (Option.some (Jvm.ClassFile.FieldType.object "java/lang/StringBuilder"))).before args0 about1 = true := code_word (m := ⟨14, 3⟩) (meth := k14m3) (c := k14c3) (by decide +kernel) rfl rfl rfl (by decide +kernel)
set_option maxRecDepth 65536 in
theorem w_c19 : (Jvm.Cond.code ({ cls := "java/lang/AbstractStringBuilder", name := "append", desc := "(Ljava/lang/CharSequence;II)Ljava/lang/AbstractStringBuilder;" } : Jvm.MethodName) jdk_68_method_27_code (5 : Nat) (Option.some (Jvm.ClassFile.FieldType.object "java/lang/AbstractStringBuilder"))).before args0 about1 = true := code_word (m := ⟨13, 6⟩) (meth := k13m6) (c := k13c6) (by decide +kernel) rfl rfl rfl (by decide +kernel)
set_option maxRecDepth 65536 in
theorem w_c20 : (Jvm.Cond.code ({ cls := "jdk/internal/util/Preconditions", name := "checkFromToIndex", desc := "(IIILjava/util/function/BiFunction;)I" } : Jvm.MethodName) jdk_41_method_12_code (4 : Nat) (Option.some Jvm.ClassFile.FieldType.int)).before args0 about1 = true := code_word (m := ⟨11, 2⟩) (meth := k11m2) (c := k11c2) (by decide +kernel) rfl rfl rfl (by decide +kernel)
set_option maxRecDepth 65536 in
theorem w_c21 : (Jvm.Cond.code ({ cls := "java/lang/AbstractStringBuilder", name := "ensureCapacityInternal", desc := "(I)V" } : Jvm.MethodName) jdk_68_method_9_code (3 : Nat) (Option.none : Option Jvm.ClassFile.FieldType)).before args0 about1 = true := code_word (m := ⟨13, 3⟩) (meth := k13m3) (c := k13c3) (by decide +kernel) rfl rfl rfl (by decide +kernel)
set_option maxRecDepth 65536 in
theorem w_c22 : (Jvm.Cond.code ({ cls := "java/lang/AbstractStringBuilder", name := "appendChars", desc := "(Ljava/lang/String;II)V" } : Jvm.MethodName) jdk_68_method_75_code (8 : Nat) (Option.none : Option Jvm.ClassFile.FieldType)).before args0 about1 = true := code_word (m := ⟨13, 12⟩) (meth := k13m12) (c := k13c12) (by decide +kernel) rfl rfl rfl (by decide +kernel)
set_option maxRecDepth 65536 in
theorem w_c23 : (Jvm.Cond.code ({ cls := "java/lang/AbstractStringBuilder", name := "isLatin1", desc := "()Z" } : Jvm.MethodName) jdk_68_method_68_code (1 : Nat) (Option.some Jvm.ClassFile.FieldType.boolean)).before args0 about1 = true := code_word (m := ⟨13, 9⟩) (meth := k13m9) (c := k13c9) (by decide +kernel) rfl rfl rfl (by decide +kernel)
set_option maxRecDepth 65536 in
theorem w_c24 : (Jvm.Cond.code ({ cls := "java/lang/String", name := "value", desc := "()[B" } : Jvm.MethodName) jdk_42_method_153_code (1 : Nat) (Option.some (Jvm.ClassFile.FieldType.array Jvm.ClassFile.FieldType.byte))).before args0 about1 = true := code_word (m := ⟨7, 9⟩) (meth := k7m9) (c := k7c9) (by decide +kernel) rfl rfl rfl (by decide +kernel)
set_option maxRecDepth 65536 in
theorem w_c25 : (Jvm.Cond.code ({ cls := "java/lang/StringBuilder", name := "append", desc := "(Ljava/lang/String;)Ljava/lang/StringBuilder;" } : Jvm.MethodName) jdk_67_method_7_code (2 : Nat) (Option.some (Jvm.ClassFile.FieldType.object "java/lang/StringBuilder"))).before args0 about1 = true := code_word (m := ⟨14, 2⟩) (meth := k14m2) (c := k14c2) (by decide +kernel) rfl rfl rfl (by decide +kernel)
set_option maxRecDepth 65536 in
theorem w_c26 : (Jvm.Cond.code ({ cls := "java/lang/AbstractStringBuilder", name := "append", desc := "(Ljava/lang/String;)Ljava/lang/AbstractStringBuilder;" } : Jvm.MethodName) jdk_68_method_22_code (3 : Nat) (Option.some (Jvm.ClassFile.FieldType.object "java/lang/AbstractStringBuilder"))).before args0 about1 = true := code_word (m := ⟨13, 5⟩) (meth := k13m5) (c := k13c5) (by decide +kernel) rfl rfl rfl (by decide +kernel)
set_option maxRecDepth 65536 in
theorem w_c27 : (Jvm.Cond.code ({ cls := "java/lang/AbstractStringBuilder", name := "putStringAt", desc := "(ILjava/lang/String;)V" } : Jvm.MethodName) jdk_68_method_73_code (3 : Nat) (Option.none : Option Jvm.ClassFile.FieldType)).before args0 about1 = true := code_word (m := ⟨13, 11⟩) (meth := k13m11) (c := k13c11) (by decide +kernel) rfl rfl rfl (by decide +kernel)
set_option maxRecDepth 65536 in
theorem w_c28 : (Jvm.Cond.code ({ cls := "java/lang/AbstractStringBuilder", name := "inflateIfNeededFor", desc := "(Ljava/lang/String;)V" } : Jvm.MethodName) jdk_68_method_71_code (2 : Nat) (Option.none : Option Jvm.ClassFile.FieldType)).before args0 about1 = true := code_word (m := ⟨13, 10⟩) (meth := k13m10) (c := k13c10) (by decide +kernel) rfl rfl rfl (by decide +kernel)
set_option maxRecDepth 65536 in
theorem w_c29 : (Jvm.Cond.code ({ cls := "java/lang/String", name := "getBytes", desc := "([BIB)V" } : Jvm.MethodName) jdk_42_method_147_code (4 : Nat) (Option.none : Option Jvm.ClassFile.FieldType)).before args0 about1 = true := code_word (m := ⟨7, 5⟩) (meth := k7m5) (c := k7c5) (by decide +kernel) rfl rfl rfl (by decide +kernel)
set_option maxRecDepth 65536 in
theorem w_c30 : (Jvm.Cond.code ({ cls := "java/lang/Character", name := "forDigit", desc := "(II)C" } : Jvm.MethodName) jdk_89_method_92_code (2 : Nat) (Option.some Jvm.ClassFile.FieldType.char)).before args0 about1 = true := code_word (m := ⟨16, 0⟩) (meth := k16m0) (c := k16c0) (by decide +kernel) rfl rfl rfl (by decide +kernel)
set_option maxRecDepth 65536 in
theorem w_c31 : (Jvm.Cond.code ({ cls := "java/lang/StringBuilder", name := "append", desc := "(C)Ljava/lang/StringBuilder;" } : Jvm.MethodName) jdk_67_method_14_code (2 : Nat) (Option.some (Jvm.ClassFile.FieldType.object "java/lang/StringBuilder"))).before args0 about1 = true := code_word (m := ⟨14, 4⟩) (meth := k14m4) (c := k14c4) (by decide +kernel) rfl rfl rfl (by decide +kernel)
set_option maxRecDepth 65536 in
theorem w_c32 : (Jvm.Cond.code ({ cls := "java/lang/AbstractStringBuilder", name := "append", desc := "(C)Ljava/lang/AbstractStringBuilder;" } : Jvm.MethodName) jdk_68_method_31_code (2 : Nat) (Option.some (Jvm.ClassFile.FieldType.object "java/lang/AbstractStringBuilder"))).before args0 about1 = true := code_word (m := ⟨13, 7⟩) (meth := k13m7) (c := k13c7) (by decide +kernel) rfl rfl rfl (by decide +kernel)
set_option maxRecDepth 65536 in
theorem w_c33 : (Jvm.Cond.code ({ cls := "java/lang/StringLatin1", name := "canEncode", desc := "(C)Z" } : Jvm.MethodName) jdk_43_method_3_code (1 : Nat) (Option.some Jvm.ClassFile.FieldType.boolean)).before args0 about1 = true := code_word (m := ⟨10, 2⟩) (meth := k10m2) (c := k10c2) (by decide +kernel) rfl rfl rfl (by decide +kernel)
set_option maxRecDepth 65536 in
theorem w_c34 : (Jvm.Cond.code ({ cls := "java/lang/StringBuilder", name := "toString", desc := "()Ljava/lang/String;" } : Jvm.MethodName) jdk_67_method_42_code (1 : Nat) (Option.some (Jvm.ClassFile.FieldType.object "java/lang/String"))).before args0 about1 = true := code_word (m := ⟨14, 5⟩) (meth := k14m5) (c := k14c5) (by decide +kernel) rfl rfl rfl (by decide +kernel)
set_option maxRecDepth 65536 in
theorem w_c35 : (Jvm.Cond.code ({ cls := "java/lang/String", name := "<init>", desc := "(Ljava/lang/StringBuilder;)V" } : Jvm.MethodName) jdk_42_method_53_code (2 : Nat) (Option.none : Option Jvm.ClassFile.FieldType)).before args0 about1 = true := code_word (m := ⟨7, 2⟩) (meth := k7m2) (c := k7c2) (by decide +kernel) rfl rfl rfl (by decide +kernel)
set_option maxRecDepth 65536 in
theorem w_c36 : (Jvm.Cond.code ({ cls := "java/lang/String", name := "<init>", desc := "(Ljava/lang/AbstractStringBuilder;Ljava/lang/Void;)V" } : Jvm.MethodName) jdk_42_method_150_code (5 : Nat) (Option.none : Option Jvm.ClassFile.FieldType)).before args0 about1 = true := code_word (m := ⟨7, 7⟩) (meth := k7m7) (c := k7c7) (by decide +kernel) rfl rfl rfl (by decide +kernel)
set_option maxRecDepth 65536 in
theorem w_c37 : (Jvm.Cond.code ({ cls := "java/lang/AbstractStringBuilder", name := "getValue", desc := "()[B" } : Jvm.MethodName) jdk_68_method_64_code (1 : Nat) (Option.some (Jvm.ClassFile.FieldType.array Jvm.ClassFile.FieldType.byte))).before args0 about1 = true := code_word (m := ⟨13, 8⟩) (meth := k13m8) (c := k13c8) (by decide +kernel) rfl rfl rfl (by decide +kernel)
set_option maxRecDepth 65536 in
theorem w_c38 : (Jvm.Cond.code ({ cls := "java/lang/StringBuilder", name := "length", desc := "()I" } : Jvm.MethodName) jdk_67_method_93_code (1 : Nat) (Option.some Jvm.ClassFile.FieldType.int)).before args0 about1 = true := code_word (m := ⟨14, 6⟩) (meth := k14m6) (c := k14c6) (by decide +kernel) rfl rfl rfl (by decide +kernel)
set_option maxRecDepth 65536 in
theorem w_c39 : (Jvm.Cond.code ({ cls := "java/lang/AbstractStringBuilder", name := "length", desc := "()I" } : Jvm.MethodName) jdk_68_method_6_code (1 : Nat) (Option.some Jvm.ClassFile.FieldType.int)).before args0 about1 = true := code_word (m := ⟨13, 2⟩) (meth := k13m2) (c := k13c2) (by decide +kernel) rfl rfl rfl (by decide +kernel)
set_option maxRecDepth 65536 in
theorem w_c40 : (Jvm.Cond.code ({ cls := "java/util/Arrays", name := "copyOfRange", desc := "([BII)[B" } : Jvm.MethodName) jdk_65_method_132_code (3 : Nat) (Option.some (Jvm.ClassFile.FieldType.array Jvm.ClassFile.FieldType.byte))).before args0 about1 = true := code_word (m := ⟨17, 2⟩) (meth := k17m2) (c := k17c2) (by decide +kernel) rfl rfl rfl (by decide +kernel)
set_option maxRecDepth 65536 in
theorem w_c41 : (Jvm.Cond.code ({ cls := "java/util/Arrays", name := "copyOfRangeByte", desc := "([BII)[B" } : Jvm.MethodName) jdk_65_method_133_code (5 : Nat) (Option.some (Jvm.ClassFile.FieldType.array Jvm.ClassFile.FieldType.byte))).before args0 about1 = true := code_word (m := ⟨17, 3⟩) (meth := k17m3) (c := k17c3) (by decide +kernel) rfl rfl rfl (by decide +kernel)
set_option maxRecDepth 65536 in
theorem w_c42 : (Jvm.Cond.code ({ cls := "java/util/Arrays", name := "checkLength", desc := "(II)V" } : Jvm.MethodName) jdk_65_method_131_code (2 : Nat) (Option.none : Option Jvm.ClassFile.FieldType)).before args0 about1 = true := code_word (m := ⟨17, 1⟩) (meth := k17m1) (c := k17c1) (by decide +kernel) rfl rfl rfl (by decide +kernel)
set_option maxRecDepth 65536 in
theorem w_c43 : (Jvm.Cond.code ({ cls := "java/lang/Math", name := "min", desc := "(II)I" } : Jvm.MethodName) jdk_29_method_69_code (2 : Nat) (Option.some Jvm.ClassFile.FieldType.int)).before args0 about1 = true := code_word (m := ⟨18, 1⟩) (meth := k18m1) (c := k18c1) (by decide +kernel) rfl rfl rfl (by decide +kernel)
set_option maxRecDepth 65536 in
theorem w_c44 : (Jvm.Cond.code ({ cls := "lifestack/util/LinesOneLinePinLaw", name := "width", desc := "(C)I" } : Jvm.MethodName) method_3_code (1 : Nat) (Option.some Jvm.ClassFile.FieldType.int)).before args0 about1 = true := code_word (m := ⟨1, 2⟩) (meth := k1m2) (c := k1c2) (by decide +kernel) rfl rfl rfl (by decide +kernel)
set_option maxRecDepth 65536 in
theorem w_c45 : (Jvm.Cond.code ({ cls := "lifestack/util/LinesOneLinePinLaw", name := "esc", desc := "(C)Z" } : Jvm.MethodName) method_2_code (1 : Nat) (Option.some Jvm.ClassFile.FieldType.boolean)).before args0 about1 = true := code_word (m := ⟨1, 1⟩) (meth := k1m1) (c := k1c1) (by decide +kernel) rfl rfl rfl (by decide +kernel)
set_option maxRecDepth 65536 in
theorem w_c46 : (Jvm.Cond.code ({ cls := "lifestack/util/LinesOneLinePinLaw", name := "check", desc := "(Ljava/lang/String;IC)Z" } : Jvm.MethodName) method_5_code (3 : Nat) (Option.some Jvm.ClassFile.FieldType.boolean)).before args0 about1 = true := code_word (m := ⟨1, 4⟩) (meth := k1m4) (c := k1c4) (by decide +kernel) rfl rfl rfl (by decide +kernel)
set_option maxRecDepth 65536 in
theorem w_c47 : (Jvm.Cond.code ({ cls := "lifestack/util/LinesOneLinePinLaw", name := "hex", desc := "(I)C" } : Jvm.MethodName) method_4_code (1 : Nat) (Option.some Jvm.ClassFile.FieldType.char)).before args0 about1 = true := code_word (m := ⟨1, 3⟩) (meth := k1m3) (c := k1c3) (by decide +kernel) rfl rfl rfl (by decide +kernel)
set_option maxRecDepth 65536 in
theorem w_c48 : (Jvm.Cond.code ({ cls := "java/lang/StringUTF16", name := "toBytes", desc := "([CII)[B" } : Jvm.MethodName) jdk_52_method_14_code (5 : Nat) (Option.some (Jvm.ClassFile.FieldType.array Jvm.ClassFile.FieldType.byte))).before args0 about1 = true := code_word (m := ⟨9, 6⟩) (meth := k9m6) (c := k9c6) (by decide +kernel) rfl rfl rfl (by decide +kernel)
set_option maxRecDepth 65536 in
theorem w_c49 : (Jvm.Cond.code ({ cls := "java/lang/StringUTF16", name := "newBytesFor", desc := "(I)[B" } : Jvm.MethodName) jdk_52_method_2_code (1 : Nat) (Option.some (Jvm.ClassFile.FieldType.array Jvm.ClassFile.FieldType.byte))).before args0 about1 = true := code_word (m := ⟨9, 1⟩) (meth := k9m1) (c := k9c1) (by decide +kernel) rfl rfl rfl (by decide +kernel)
set_option maxRecDepth 65536 in
theorem w_c50 : (Jvm.Cond.code ({ cls := "java/lang/StringUTF16", name := "newBytesLength", desc := "(I)I" } : Jvm.MethodName) jdk_52_method_3_code (1 : Nat) (Option.some Jvm.ClassFile.FieldType.int)).before args0 about1 = true := code_word (m := ⟨9, 2⟩) (meth := k9m2) (c := k9c2) (by decide +kernel) rfl rfl rfl (by decide +kernel)
set_option maxRecDepth 65536 in
theorem w_c51 : (Jvm.Cond.code ({ cls := "java/lang/StringUTF16", name := "putChar", desc := "([BII)V" } : Jvm.MethodName) jdk_52_method_4_code (3 : Nat) (Option.none : Option Jvm.ClassFile.FieldType)).before args0 about1 = true := code_word (m := ⟨9, 3⟩) (meth := k9m3) (c := k9c3) (by decide +kernel) rfl rfl rfl (by decide +kernel)
set_option maxRecDepth 65536 in
theorem w_c52 : (Jvm.Cond.code ({ cls := "java/lang/StringUTF16", name := "getChar", desc := "([BI)C" } : Jvm.MethodName) jdk_52_method_5_code (2 : Nat) (Option.some Jvm.ClassFile.FieldType.char)).before args0 about1 = true := code_word (m := ⟨9, 4⟩) (meth := k9m4) (c := k9c4) (by decide +kernel) rfl rfl rfl (by decide +kernel)
set_option maxRecDepth 65536 in
theorem w_c53 : (Jvm.Cond.code ({ cls := "java/lang/StringUTF16", name := "charAt", desc := "([BI)C" } : Jvm.MethodName) jdk_52_method_83_code (2 : Nat) (Option.some Jvm.ClassFile.FieldType.char)).before args0 about1 = true := code_word (m := ⟨9, 11⟩) (meth := k9m11) (c := k9c11) (by decide +kernel) rfl rfl rfl (by decide +kernel)
set_option maxRecDepth 65536 in
theorem w_c54 : (Jvm.Cond.code ({ cls := "java/lang/StringUTF16", name := "checkIndex", desc := "(I[B)V" } : Jvm.MethodName) jdk_52_method_91_code (2 : Nat) (Option.none : Option Jvm.ClassFile.FieldType)).before args0 about1 = true := code_word (m := ⟨9, 13⟩) (meth := k9m13) (c := k9c13) (by decide +kernel) rfl rfl rfl (by decide +kernel)
set_option maxRecDepth 65536 in
theorem w_c55 : (Jvm.Cond.code ({ cls := "java/lang/StringUTF16", name := "length", desc := "([B)I" } : Jvm.MethodName) jdk_52_method_6_code (1 : Nat) (Option.some Jvm.ClassFile.FieldType.int)).before args0 about1 = true := code_word (m := ⟨9, 5⟩) (meth := k9m5) (c := k9c5) (by decide +kernel) rfl rfl rfl (by decide +kernel)
set_option maxRecDepth 65536 in
theorem w_c56 : (Jvm.Cond.code ({ cls := "java/lang/AbstractStringBuilder", name := "inflate", desc := "()V" } : Jvm.MethodName) jdk_68_method_11_code (2 : Nat) (Option.none : Option Jvm.ClassFile.FieldType)).before args0 about1 = true := code_word (m := ⟨13, 4⟩) (meth := k13m4) (c := k13c4) (by decide +kernel) rfl rfl rfl (by decide +kernel)
set_option maxRecDepth 65536 in
theorem w_c57 : (Jvm.Cond.code ({ cls := "java/lang/StringLatin1", name := "inflate", desc := "([BI[BII)V" } : Jvm.MethodName) jdk_43_method_50_code (5 : Nat) (Option.none : Option Jvm.ClassFile.FieldType)).before args0 about1 = true := code_word (m := ⟨10, 3⟩) (meth := k10m3) (c := k10c3) (by decide +kernel) rfl rfl rfl (by decide +kernel)
set_option maxRecDepth 65536 in
theorem w_c58 : (Jvm.Cond.code ({ cls := "java/lang/StringUTF16", name := "inflate", desc := "([BI[BII)V" } : Jvm.MethodName) jdk_52_method_86_code (6 : Nat) (Option.none : Option Jvm.ClassFile.FieldType)).before args0 about1 = true := code_word (m := ⟨9, 12⟩) (meth := k9m12) (c := k9c12) (by decide +kernel) rfl rfl rfl (by decide +kernel)
set_option maxRecDepth 65536 in
theorem w_c59 : (Jvm.Cond.code ({ cls := "java/lang/StringUTF16", name := "checkBoundsOffCount", desc := "(II[B)V" } : Jvm.MethodName) jdk_52_method_94_code (3 : Nat) (Option.none : Option Jvm.ClassFile.FieldType)).before args0 about1 = true := code_word (m := ⟨9, 14⟩) (meth := k9m14) (c := k9c14) (by decide +kernel) rfl rfl rfl (by decide +kernel)
set_option maxRecDepth 65536 in
theorem w_c60 : (Jvm.Cond.code ({ cls := "java/lang/String", name := "checkBoundsOffCount", desc := "(III)I" } : Jvm.MethodName) jdk_42_method_157_code (3 : Nat) (Option.some Jvm.ClassFile.FieldType.int)).before args0 about1 = true := code_word (m := ⟨7, 12⟩) (meth := k7m12) (c := k7c12) (by decide +kernel) rfl rfl rfl (by decide +kernel)
set_option maxRecDepth 65536 in
theorem w_c61 : (Jvm.Cond.code ({ cls := "jdk/internal/util/Preconditions", name := "checkFromIndexSize", desc := "(IIILjava/util/function/BiFunction;)I" } : Jvm.MethodName) jdk_41_method_13_code (4 : Nat) (Option.some Jvm.ClassFile.FieldType.int)).before args0 about1 = true := code_word (m := ⟨11, 3⟩) (meth := k11m3) (c := k11c3) (by decide +kernel) rfl rfl rfl (by decide +kernel)
set_option maxRecDepth 65536 in
theorem w_c62 : (Jvm.Cond.code ({ cls := "java/lang/StringUTF16", name := "putCharSB", desc := "([BII)V" } : Jvm.MethodName) jdk_52_method_71_code (3 : Nat) (Option.none : Option Jvm.ClassFile.FieldType)).before args0 about1 = true := code_word (m := ⟨9, 10⟩) (meth := k9m10) (c := k9c10) (by decide +kernel) rfl rfl rfl (by decide +kernel)
def codes1 : List Jvm.Cond := [Jvm.Cond.code x code maxLocals ret, Jvm.Cond.code ({ cls := "java/lang/String", name := "<init>", desc := "([C)V" } : Jvm.MethodName) jdk_42_method_3_code (2 : Nat) (Option.none : Option Jvm.ClassFile.FieldType), Jvm.Cond.code ({ cls := "java/lang/String", name := "<init>", desc := "([CIILjava/lang/Void;)V" } : Jvm.MethodName) jdk_42_method_149_code (6 : Nat) (Option.none : Option Jvm.ClassFile.FieldType), Jvm.Cond.code ({ cls := "java/lang/Object", name := "<init>", desc := "()V" } : Jvm.MethodName) object_method_1_code (1 : Nat) (Option.none : Option Jvm.ClassFile.FieldType), Jvm.Cond.code ({ cls := "lifestack/util/Lines", name := "oneLine", desc := "(Ljava/lang/String;)Ljava/lang/String;" } : Jvm.MethodName) prog_57_method_2_code (6 : Nat) (Option.some (Jvm.ClassFile.FieldType.object "java/lang/String")), Jvm.Cond.code ({ cls := "java/lang/String", name := "length", desc := "()I" } : Jvm.MethodName) jdk_42_method_54_code (1 : Nat) (Option.some Jvm.ClassFile.FieldType.int), Jvm.Cond.code ({ cls := "java/lang/String", name := "coder", desc := "()B" } : Jvm.MethodName) jdk_42_method_152_code (1 : Nat) (Option.some Jvm.ClassFile.FieldType.byte), Jvm.Cond.code ({ cls := "java/lang/StringUTF16", name := "compress", desc := "([CII)[B" } : Jvm.MethodName) jdk_52_method_16_code (6 : Nat) (Option.some (Jvm.ClassFile.FieldType.array Jvm.ClassFile.FieldType.byte)), Jvm.Cond.code ({ cls := "java/lang/StringUTF16", name := "compress", desc := "([CI[BII)I" } : Jvm.MethodName) jdk_52_method_21_code (7 : Nat) (Option.some Jvm.ClassFile.FieldType.int), Jvm.Cond.code ({ cls := "java/lang/StringUTF16", name := "coderFromArrayLen", desc := "([BI)B" } : Jvm.MethodName) jdk_52_method_15_code (2 : Nat) (Option.some Jvm.ClassFile.FieldType.byte), Jvm.Cond.code ({ cls := "java/lang/String", name := "charAt", desc := "(I)C" } : Jvm.MethodName) jdk_42_method_56_code (2 : Nat) (Option.some Jvm.ClassFile.FieldType.char), Jvm.Cond.code ({ cls := "java/lang/String", name := "isLatin1", desc := "()Z" } : Jvm.MethodName) jdk_42_method_154_code (1 : Nat) (Option.some Jvm.ClassFile.FieldType.boolean), Jvm.Cond.code ({ cls := "java/lang/StringLatin1", name := "charAt", desc := "([BI)C" } : Jvm.MethodName) jdk_43_method_2_code (2 : Nat) (Option.some Jvm.ClassFile.FieldType.char), Jvm.Cond.code ({ cls := "java/lang/String", name := "checkIndex", desc := "(II)V" } : Jvm.MethodName) jdk_42_method_155_code (2 : Nat) (Option.none : Option Jvm.ClassFile.FieldType), Jvm.Cond.code ({ cls := "jdk/internal/util/Preconditions", name := "checkIndex", desc := "(IILjava/util/function/BiFunction;)I" } : Jvm.MethodName) jdk_41_method_11_code (3 : Nat) (Option.some Jvm.ClassFile.FieldType.int), Jvm.Cond.code ({ cls := "lifestack/util/Lines", name := "isEscaped", desc := "(C)Z" } : Jvm.MethodName) prog_57_method_3_code (1 : Nat) (Option.some Jvm.ClassFile.FieldType.boolean), Jvm.Cond.code ({ cls := "java/lang/StringBuilder", name := "<init>", desc := "(I)V" } : Jvm.MethodName) jdk_67_method_2_code (2 : Nat) (Option.none : Option Jvm.ClassFile.FieldType), Jvm.Cond.code ({ cls := "java/lang/AbstractStringBuilder", name := "<init>", desc := "(I)V" } : Jvm.MethodName) jdk_68_method_2_code (2 : Nat) (Option.none : Option Jvm.ClassFile.FieldType), Jvm.Cond.code ({ cls := "java/lang/StringBuilder", name := "append", desc := "(Ljava/lang/CharSequence;II)Ljava/lang/StringBuilder;" } : Jvm.MethodName) jdk_67_method_10_code (4 : Nat) (Option.some (Jvm.ClassFile.FieldType.object "java/lang/StringBuilder")), Jvm.Cond.code ({ cls := "java/lang/AbstractStringBuilder", name := "append", desc := "(Ljava/lang/CharSequence;II)Ljava/lang/AbstractStringBuilder;" } : Jvm.MethodName) jdk_68_method_27_code (5 : Nat) (Option.some (Jvm.ClassFile.FieldType.object "java/lang/AbstractStringBuilder")), Jvm.Cond.code ({ cls := "jdk/internal/util/Preconditions", name := "checkFromToIndex", desc := "(IIILjava/util/function/BiFunction;)I" } : Jvm.MethodName) jdk_41_method_12_code (4 : Nat) (Option.some Jvm.ClassFile.FieldType.int), Jvm.Cond.code ({ cls := "java/lang/AbstractStringBuilder", name := "ensureCapacityInternal", desc := "(I)V" } : Jvm.MethodName) jdk_68_method_9_code (3 : Nat) (Option.none : Option Jvm.ClassFile.FieldType), Jvm.Cond.code ({ cls := "java/lang/AbstractStringBuilder", name := "appendChars", desc := "(Ljava/lang/String;II)V" } : Jvm.MethodName) jdk_68_method_75_code (8 : Nat) (Option.none : Option Jvm.ClassFile.FieldType), Jvm.Cond.code ({ cls := "java/lang/AbstractStringBuilder", name := "isLatin1", desc := "()Z" } : Jvm.MethodName) jdk_68_method_68_code (1 : Nat) (Option.some Jvm.ClassFile.FieldType.boolean), Jvm.Cond.code ({ cls := "java/lang/String", name := "value", desc := "()[B" } : Jvm.MethodName) jdk_42_method_153_code (1 : Nat) (Option.some (Jvm.ClassFile.FieldType.array Jvm.ClassFile.FieldType.byte)), Jvm.Cond.code ({ cls := "java/lang/StringBuilder", name := "append", desc := "(Ljava/lang/String;)Ljava/lang/StringBuilder;" } : Jvm.MethodName) jdk_67_method_7_code (2 : Nat) (Option.some (Jvm.ClassFile.FieldType.object "java/lang/StringBuilder")), Jvm.Cond.code ({ cls := "java/lang/AbstractStringBuilder", name := "append", desc := "(Ljava/lang/String;)Ljava/lang/AbstractStringBuilder;" } : Jvm.MethodName) jdk_68_method_22_code (3 : Nat) (Option.some (Jvm.ClassFile.FieldType.object "java/lang/AbstractStringBuilder")), Jvm.Cond.code ({ cls := "java/lang/AbstractStringBuilder", name := "putStringAt", desc := "(ILjava/lang/String;)V" } : Jvm.MethodName) jdk_68_method_73_code (3 : Nat) (Option.none : Option Jvm.ClassFile.FieldType), Jvm.Cond.code ({ cls := "java/lang/AbstractStringBuilder", name := "inflateIfNeededFor", desc := "(Ljava/lang/String;)V" } : Jvm.MethodName) jdk_68_method_71_code (2 : Nat) (Option.none : Option Jvm.ClassFile.FieldType), Jvm.Cond.code ({ cls := "java/lang/String", name := "getBytes", desc := "([BIB)V" } : Jvm.MethodName) jdk_42_method_147_code (4 : Nat) (Option.none : Option Jvm.ClassFile.FieldType), Jvm.Cond.code ({ cls := "java/lang/Character", name := "forDigit", desc := "(II)C" } : Jvm.MethodName) jdk_89_method_92_code (2 : Nat) (Option.some Jvm.ClassFile.FieldType.char), Jvm.Cond.code ({ cls := "java/lang/StringBuilder", name := "append", desc := "(C)Ljava/lang/StringBuilder;" } : Jvm.MethodName) jdk_67_method_14_code (2 : Nat) (Option.some (Jvm.ClassFile.FieldType.object "java/lang/StringBuilder")), Jvm.Cond.code ({ cls := "java/lang/AbstractStringBuilder", name := "append", desc := "(C)Ljava/lang/AbstractStringBuilder;" } : Jvm.MethodName) jdk_68_method_31_code (2 : Nat) (Option.some (Jvm.ClassFile.FieldType.object "java/lang/AbstractStringBuilder")), Jvm.Cond.code ({ cls := "java/lang/StringLatin1", name := "canEncode", desc := "(C)Z" } : Jvm.MethodName) jdk_43_method_3_code (1 : Nat) (Option.some Jvm.ClassFile.FieldType.boolean), Jvm.Cond.code ({ cls := "java/lang/StringBuilder", name := "toString", desc := "()Ljava/lang/String;" } : Jvm.MethodName) jdk_67_method_42_code (1 : Nat) (Option.some (Jvm.ClassFile.FieldType.object "java/lang/String")), Jvm.Cond.code ({ cls := "java/lang/String", name := "<init>", desc := "(Ljava/lang/StringBuilder;)V" } : Jvm.MethodName) jdk_42_method_53_code (2 : Nat) (Option.none : Option Jvm.ClassFile.FieldType), Jvm.Cond.code ({ cls := "java/lang/String", name := "<init>", desc := "(Ljava/lang/AbstractStringBuilder;Ljava/lang/Void;)V" } : Jvm.MethodName) jdk_42_method_150_code (5 : Nat) (Option.none : Option Jvm.ClassFile.FieldType), Jvm.Cond.code ({ cls := "java/lang/AbstractStringBuilder", name := "getValue", desc := "()[B" } : Jvm.MethodName) jdk_68_method_64_code (1 : Nat) (Option.some (Jvm.ClassFile.FieldType.array Jvm.ClassFile.FieldType.byte)), Jvm.Cond.code ({ cls := "java/lang/StringBuilder", name := "length", desc := "()I" } : Jvm.MethodName) jdk_67_method_93_code (1 : Nat) (Option.some Jvm.ClassFile.FieldType.int), Jvm.Cond.code ({ cls := "java/lang/AbstractStringBuilder", name := "length", desc := "()I" } : Jvm.MethodName) jdk_68_method_6_code (1 : Nat) (Option.some Jvm.ClassFile.FieldType.int), Jvm.Cond.code ({ cls := "java/util/Arrays", name := "copyOfRange", desc := "([BII)[B" } : Jvm.MethodName) jdk_65_method_132_code (3 : Nat) (Option.some (Jvm.ClassFile.FieldType.array Jvm.ClassFile.FieldType.byte)), Jvm.Cond.code ({ cls := "java/util/Arrays", name := "copyOfRangeByte", desc := "([BII)[B" } : Jvm.MethodName) jdk_65_method_133_code (5 : Nat) (Option.some (Jvm.ClassFile.FieldType.array Jvm.ClassFile.FieldType.byte)), Jvm.Cond.code ({ cls := "java/util/Arrays", name := "checkLength", desc := "(II)V" } : Jvm.MethodName) jdk_65_method_131_code (2 : Nat) (Option.none : Option Jvm.ClassFile.FieldType), Jvm.Cond.code ({ cls := "java/lang/Math", name := "min", desc := "(II)I" } : Jvm.MethodName) jdk_29_method_69_code (2 : Nat) (Option.some Jvm.ClassFile.FieldType.int), Jvm.Cond.code ({ cls := "lifestack/util/LinesOneLinePinLaw", name := "width", desc := "(C)I" } : Jvm.MethodName) method_3_code (1 : Nat) (Option.some Jvm.ClassFile.FieldType.int), Jvm.Cond.code ({ cls := "lifestack/util/LinesOneLinePinLaw", name := "esc", desc := "(C)Z" } : Jvm.MethodName) method_2_code (1 : Nat) (Option.some Jvm.ClassFile.FieldType.boolean), Jvm.Cond.code ({ cls := "lifestack/util/LinesOneLinePinLaw", name := "check", desc := "(Ljava/lang/String;IC)Z" } : Jvm.MethodName) method_5_code (3 : Nat) (Option.some Jvm.ClassFile.FieldType.boolean), Jvm.Cond.code ({ cls := "lifestack/util/LinesOneLinePinLaw", name := "hex", desc := "(I)C" } : Jvm.MethodName) method_4_code (1 : Nat) (Option.some Jvm.ClassFile.FieldType.char), Jvm.Cond.code ({ cls := "java/lang/StringUTF16", name := "toBytes", desc := "([CII)[B" } : Jvm.MethodName) jdk_52_method_14_code (5 : Nat) (Option.some (Jvm.ClassFile.FieldType.array Jvm.ClassFile.FieldType.byte)), Jvm.Cond.code ({ cls := "java/lang/StringUTF16", name := "newBytesFor", desc := "(I)[B" } : Jvm.MethodName) jdk_52_method_2_code (1 : Nat) (Option.some (Jvm.ClassFile.FieldType.array Jvm.ClassFile.FieldType.byte)), Jvm.Cond.code ({ cls := "java/lang/StringUTF16", name := "newBytesLength", desc := "(I)I" } : Jvm.MethodName) jdk_52_method_3_code (1 : Nat) (Option.some Jvm.ClassFile.FieldType.int), Jvm.Cond.code ({ cls := "java/lang/StringUTF16", name := "putChar", desc := "([BII)V" } : Jvm.MethodName) jdk_52_method_4_code (3 : Nat) (Option.none : Option Jvm.ClassFile.FieldType), Jvm.Cond.code ({ cls := "java/lang/StringUTF16", name := "getChar", desc := "([BI)C" } : Jvm.MethodName) jdk_52_method_5_code (2 : Nat) (Option.some Jvm.ClassFile.FieldType.char), Jvm.Cond.code ({ cls := "java/lang/StringUTF16", name := "charAt", desc := "([BI)C" } : Jvm.MethodName) jdk_52_method_83_code (2 : Nat) (Option.some Jvm.ClassFile.FieldType.char), Jvm.Cond.code ({ cls := "java/lang/StringUTF16", name := "checkIndex", desc := "(I[B)V" } : Jvm.MethodName) jdk_52_method_91_code (2 : Nat) (Option.none : Option Jvm.ClassFile.FieldType), Jvm.Cond.code ({ cls := "java/lang/StringUTF16", name := "length", desc := "([B)I" } : Jvm.MethodName) jdk_52_method_6_code (1 : Nat) (Option.some Jvm.ClassFile.FieldType.int), Jvm.Cond.code ({ cls := "java/lang/AbstractStringBuilder", name := "inflate", desc := "()V" } : Jvm.MethodName) jdk_68_method_11_code (2 : Nat) (Option.none : Option Jvm.ClassFile.FieldType), Jvm.Cond.code ({ cls := "java/lang/StringLatin1", name := "inflate", desc := "([BI[BII)V" } : Jvm.MethodName) jdk_43_method_50_code (5 : Nat) (Option.none : Option Jvm.ClassFile.FieldType), Jvm.Cond.code ({ cls := "java/lang/StringUTF16", name := "inflate", desc := "([BI[BII)V" } : Jvm.MethodName) jdk_52_method_86_code (6 : Nat) (Option.none : Option Jvm.ClassFile.FieldType), Jvm.Cond.code ({ cls := "java/lang/StringUTF16", name := "checkBoundsOffCount", desc := "(II[B)V" } : Jvm.MethodName) jdk_52_method_94_code (3 : Nat) (Option.none : Option Jvm.ClassFile.FieldType), Jvm.Cond.code ({ cls := "java/lang/String", name := "checkBoundsOffCount", desc := "(III)I" } : Jvm.MethodName) jdk_42_method_157_code (3 : Nat) (Option.some Jvm.ClassFile.FieldType.int), Jvm.Cond.code ({ cls := "jdk/internal/util/Preconditions", name := "checkFromIndexSize", desc := "(IIILjava/util/function/BiFunction;)I" } : Jvm.MethodName) jdk_41_method_13_code (4 : Nat) (Option.some Jvm.ClassFile.FieldType.int), Jvm.Cond.code ({ cls := "java/lang/StringUTF16", name := "putCharSB", desc := "([BII)V" } : Jvm.MethodName) jdk_52_method_71_code (3 : Nat) (Option.none : Option Jvm.ClassFile.FieldType)]
set_option maxRecDepth 65536 in
theorem codes_eq : words1.filter isCode = codes1 := rfl
theorem w_codes : ∀ c ∈ words1.filter isCode, c.before args0 about1 = true := by
  rw [codes_eq]
  intro c hc
  simp only [codes1, List.mem_cons, List.not_mem_nil, or_false] at hc
  rcases hc with rfl | rfl | rfl | rfl | rfl | rfl | rfl | rfl | rfl | rfl | rfl | rfl | rfl | rfl | rfl | rfl | rfl | rfl | rfl | rfl | rfl | rfl | rfl | rfl | rfl | rfl | rfl | rfl | rfl | rfl | rfl | rfl | rfl | rfl | rfl | rfl | rfl | rfl | rfl | rfl | rfl | rfl | rfl | rfl | rfl | rfl | rfl | rfl | rfl | rfl | rfl | rfl | rfl | rfl | rfl | rfl | rfl | rfl | rfl | rfl | rfl | rfl | rfl
  · exact w_c0
  · exact w_c1
  · exact w_c2
  · exact w_c3
  · exact w_c4
  · exact w_c5
  · exact w_c6
  · exact w_c7
  · exact w_c8
  · exact w_c9
  · exact w_c10
  · exact w_c11
  · exact w_c12
  · exact w_c13
  · exact w_c14
  · exact w_c15
  · exact w_c16
  · exact w_c17
  · exact w_c18
  · exact w_c19
  · exact w_c20
  · exact w_c21
  · exact w_c22
  · exact w_c23
  · exact w_c24
  · exact w_c25
  · exact w_c26
  · exact w_c27
  · exact w_c28
  · exact w_c29
  · exact w_c30
  · exact w_c31
  · exact w_c32
  · exact w_c33
  · exact w_c34
  · exact w_c35
  · exact w_c36
  · exact w_c37
  · exact w_c38
  · exact w_c39
  · exact w_c40
  · exact w_c41
  · exact w_c42
  · exact w_c43
  · exact w_c44
  · exact w_c45
  · exact w_c46
  · exact w_c47
  · exact w_c48
  · exact w_c49
  · exact w_c50
  · exact w_c51
  · exact w_c52
  · exact w_c53
  · exact w_c54
  · exact w_c55
  · exact w_c56
  · exact w_c57
  · exact w_c58
  · exact w_c59
  · exact w_c60
  · exact w_c61
  · exact w_c62
set_option maxRecDepth 65536 in
theorem w_t1 : (words1.take 24).all (fun c => isCode c || c.before args0 about1) = true := by decide +kernel
set_option maxRecDepth 65536 in
theorem w_t2 : ((words1.drop 24).take 24).all (fun c => isCode c || c.before args0 about1) = true := by decide +kernel
set_option maxRecDepth 65536 in
theorem w_t3 : (((words1.drop 24).drop 24).take 24).all (fun c => isCode c || c.before args0 about1) = true := by decide +kernel
set_option maxRecDepth 65536 in
theorem w_t4 : ((((words1.drop 24).drop 24).drop 24).take 24).all (fun c => isCode c || c.before args0 about1) = true := by decide +kernel
set_option maxRecDepth 65536 in
theorem w_t5 : (((((words1.drop 24).drop 24).drop 24).drop 24).take 24).all (fun c => isCode c || c.before args0 about1) = true := by decide +kernel
set_option maxRecDepth 65536 in
theorem w_t6 : ((((((words1.drop 24).drop 24).drop 24).drop 24).drop 24).take 24).all (fun c => isCode c || c.before args0 about1) = true := by decide +kernel
set_option maxRecDepth 65536 in
theorem w_t7 : (((((((words1.drop 24).drop 24).drop 24).drop 24).drop 24).drop 24).take 24).all (fun c => isCode c || c.before args0 about1) = true := by decide +kernel
set_option maxRecDepth 65536 in
theorem w_t8 : ((((((((words1.drop 24).drop 24).drop 24).drop 24).drop 24).drop 24).drop 24).take 24).all (fun c => isCode c || c.before args0 about1) = true := by decide +kernel
set_option maxRecDepth 65536 in
theorem w_t9 : (((((((((words1.drop 24).drop 24).drop 24).drop 24).drop 24).drop 24).drop 24).drop 24).take 24).all (fun c => isCode c || c.before args0 about1) = true := by decide +kernel
set_option maxRecDepth 65536 in
theorem w_t10 : ((((((((((words1.drop 24).drop 24).drop 24).drop 24).drop 24).drop 24).drop 24).drop 24).drop 24).take 24).all (fun c => isCode c || c.before args0 about1) = true := by decide +kernel
set_option maxRecDepth 65536 in
theorem w_t11 : (((((((((((words1.drop 24).drop 24).drop 24).drop 24).drop 24).drop 24).drop 24).drop 24).drop 24).drop 24).take 24).all (fun c => isCode c || c.before args0 about1) = true := by decide +kernel
set_option maxRecDepth 65536 in
theorem w_t12 : ((((((((((((words1.drop 24).drop 24).drop 24).drop 24).drop 24).drop 24).drop 24).drop 24).drop 24).drop 24).drop 24).take 24).all (fun c => isCode c || c.before args0 about1) = true := by decide +kernel
set_option maxRecDepth 65536 in
theorem w_t13 : ((((((((((((words1.drop 24).drop 24).drop 24).drop 24).drop 24).drop 24).drop 24).drop 24).drop 24).drop 24).drop 24).drop 24).all (fun c => isCode c || c.before args0 about1) = true := by decide +kernel
theorem w_tables : (allAtoms (Jvm.Cond.code x code maxLocals ret :: tables_1)).before args0 about1 = true := by
  rw [allAtoms_all]
  show words1.all (fun c => c.before args0 about1) = true
  refine all_split ?_ w_codes
  rw [← List.take_append_drop 24 words1, List.all_append, w_t1, ← List.take_append_drop 24 (words1.drop 24), List.all_append, w_t2, ← List.take_append_drop 24 ((words1.drop 24).drop 24), List.all_append, w_t3, ← List.take_append_drop 24 (((words1.drop 24).drop 24).drop 24), List.all_append, w_t4, ← List.take_append_drop 24 ((((words1.drop 24).drop 24).drop 24).drop 24), List.all_append, w_t5, ← List.take_append_drop 24 (((((words1.drop 24).drop 24).drop 24).drop 24).drop 24), List.all_append, w_t6, ← List.take_append_drop 24 ((((((words1.drop 24).drop 24).drop 24).drop 24).drop 24).drop 24), List.all_append, w_t7, ← List.take_append_drop 24 (((((((words1.drop 24).drop 24).drop 24).drop 24).drop 24).drop 24).drop 24), List.all_append, w_t8, ← List.take_append_drop 24 ((((((((words1.drop 24).drop 24).drop 24).drop 24).drop 24).drop 24).drop 24).drop 24), List.all_append, w_t9, ← List.take_append_drop 24 (((((((((words1.drop 24).drop 24).drop 24).drop 24).drop 24).drop 24).drop 24).drop 24).drop 24), List.all_append, w_t10, ← List.take_append_drop 24 ((((((((((words1.drop 24).drop 24).drop 24).drop 24).drop 24).drop 24).drop 24).drop 24).drop 24).drop 24), List.all_append, w_t11, ← List.take_append_drop 24 (((((((((((words1.drop 24).drop 24).drop 24).drop 24).drop 24).drop 24).drop 24).drop 24).drop 24).drop 24).drop 24), List.all_append, w_t12, w_t13]
  rfl
set_option maxRecDepth 65536 in
theorem w_rest : rest_1_c.before args0 about1 = true := by decide +kernel
set_option maxRecDepth 65536 in
theorem w_case : (Jvm.Cond.and given_1 narrow_1).before args0 about1 = true := by decide +kernel
set_option maxRecDepth 65536 in
theorem w_consts : constsHeld consts_1 about1 := Jvm.Lit.constsHeldB_iff.mp (by decide +kernel)
theorem w_applies : (headSpec (Jvm.Cond.code x code maxLocals ret :: tables_1) room_1).applies x e0.platform about1 = true :=
  (Spec.applies_iff w_frames).mpr ⟨w_running, w_runnable, w_alone, w_named, w_hears, w_ripe, w_room, w_tables⟩
theorem atStart : AtStart classFile x code maxLocals ret World_1 tables_1 room_1 Calls_1 rest_1 Pre_1 launch0 p0 e0 about1 theMethod args0 below0 :=
  ⟨lists_1, trivial, launch0.admits_env _ _ _, launch0.least_env, fairChoices_fair.cas, fairChoices_fair.clock, w_frames, w_args, w_heap, w_applies, ⟨w_consts, trivial⟩, w_rest, w_case⟩
end start1
theorem witness_1 : WitnessClaimed_1 := ⟨start1.p0, start1.e0, start1.about1, start1.theMethod, start1.args0, start1.below0, start1.atStart⟩
end Jvm.Pilot.@@N@@
