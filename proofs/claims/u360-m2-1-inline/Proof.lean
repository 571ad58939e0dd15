import JvmDerived
import JvmDerived.Pilot.@@N@@Statement
import JvmDerived.Pilot.@@N@@Code
set_option linter.unusedVariables false
set_option linter.unusedSimpArgs false
namespace Jvm.Pilot.@@N@@
namespace Own
open Jvm Jvm.ClassFile Sem Op Lib Jvm.Free Jvm.Stand Jvm.LawKit Jvm.RoadKit Bundle
/-- from the state s the invocation comes to its end, and K holds there -/
def Goes (tb : Tables) (e : Env) (below : List Frame) (K : State → Outcome → Prop) (s : State) : Prop := ∃ s₂ o, Steps tb e below s s₂ ∧ s₂.status = .running ∧ Ended s₂ below o ∧ K s₂ o
theorem Goes.go {tb : Tables} {e : Env} {below : List Frame} {K : State → Outcome → Prop} {s s' : State} (st : ∀ t, Steps tb e below s' t → Steps tb e below s t) (h : Goes tb e below K s') : Goes tb e below K s := by
  obtain ⟨s₂, o, h1, h2⟩ := h
  exact ⟨s₂, o, st _ h1, h2⟩
theorem Goes.tr {tb : Tables} {e : Env} {below : List Frame} {K : State → Outcome → Prop} {s s' : State} (st : Steps tb e below s s') (h : Goes tb e below K s') : Goes tb e below K s := Goes.go (fun _ k => st.trans k) h
/-- where the walk stands, with all that the laws ask beside it -/
def Wk (Z : State) (own : String) (bytes : ByteArray) (h : Heap) (p : Program) (l : Launch) (e : Env) (R : Room) (s : State) (m : MethodId) (args : Array Value) (below : List Frame) (meth : Method) (c : Code) (T : State) (locs : List Loc) (cells slots : Nat) : Prop :=
  Stand p l e R s m args below meth c T locs cells slots ∧ p.tables.exec = Jvm.exec ∧ c.code = bytes ∧ Z.Warmed39 s.vm ∧ s.vm.findClass own = some m.cls ∧ T.heap = h
/-- how an invocation ends that keeps its promise Q -/
abbrev KE (Q : Option Value → Heap → List Loc → Prop) (s : State) (kc ks : Nat) : State → Outcome → Prop := fun s₂ o => ∃ v L, o = .returned v ∧ Q v s₂.heap L ∧ FrameEnd s o s₂ L kc ks
/-- a contract: from the heap h0, with these arguments, the method keeps Q -/
def MF (l : Launch) (Z : State) (y : MethodName) (cb : ByteArray) (mx : Nat) (rt : Option FieldType) (ws : List Jvm.Cond) (R : Room) (as' : Array Value) (h0 : Heap) (Q : Option Value → Heap → List Loc → Prop) : Prop :=
  MetFree l y (head1 (Jvm.Cond.code y cb mx rt :: ws) R) (fun a U => a = as' ∧ Z.Warmed39 U.vm ∧ U.heap = h0) (fun _ _ _ _ _ => True) (fun _ U o U' => ∃ v L, o = .returned v ∧ Q v U'.heap L ∧ FrameEnd U o U' L R.cells R.slots)
theorem MF.of {l : Launch} {Z : State} {y : MethodName} {cb : ByteArray} {mx : Nat} {rt : Option FieldType} {ws : List Jvm.Cond} {R : Room} {as' : Array Value} {h0 : Heap} {Q : Option Value → Heap → List Loc → Prop} {own : String} {n : Nat} (ho : y.cls = own) (hn : mx = n) (pn : plainFor y = true)
    (k : ∀ (p : Program) (e : Env) (s : State) (m : MethodId) (below : List Frame) (meth : Method) (c : Code) (s₁ : State), (∀ {j : Nat}, j = n → j = c.maxLocals) → meth.locks = false → meth.sig.returnType = rt → meth.name = y.name → Wk Z own cb h0 p l e R s m as' below meth c s₁ [] 0 0 → Goes p.tables e below (KE Q s R.cells R.slots) (s₁.setTop (entryFrame m as' mx))) : MF l Z y cb mx rt ws R as' h0 Q := by
  subst ho hn
  refine MetFree.of_bodySF pn hisR ?_
  intro p e s m args below meth c s₁ Bd hml0 hP hK
  obtain ⟨rfl, hZ, hh⟩ := hP
  exact k p e s m below meth c s₁ (fun q => q.trans hml0.symm) Bd.notSynchronized Bd.returns (name_of_methodNamed Bd.named Bd.method).1 ⟨Stand.of_body Bd, Bd.exec, Bd.bytes, hZ, findClass_of_methodNamed Bd.named, by rw [← hh, Bd.state]; rfl⟩
abbrev Cst (Z : State) (h : Heap) (zc : Int32) : Prop := Sta Z h "java/lang/String" "COMPACT_STRINGS" "Z" (.int zc)
abbrev Fst (Z : State) (h : Heap) (fm : Value) : Prop := Sta Z h "jdk/internal/util/Preconditions" "SIOOBE_FORMATTER" "Ljava/util/function/BiFunction;" fm
abbrev Bf (Z : State) (h : Heap) (a : Addr) (n d : String) (v : Value) : Prop := Fld Z h a "java/lang/AbstractStringBuilder" n d v
theorem w0 {x W : Nat} (h : x = W) : 2 * 0 + x ≤ W := by omega
/-- the words of a callee -/
def SW (Z : State) (a0 : Array Value) (y : MethodName) (cb : ByteArray) (mL : Nat) (ret : Option FieldType) (n : Nat) : Prop := (Cond.static y).before a0 Z = true ∧ (Cond.initialized y.cls).before a0 Z = true ∧ (Cond.code y cb mL ret).before a0 Z = true ∧ (y.cls ≠ "java/lang/invoke/MethodHandle" ∧ y.cls ≠ "java/lang/invoke/VarHandle") ∧ ∃ r ps, parseMethodDescriptor y.desc = some ⟨ps, r⟩ ∧ ps.length = n
def IW (Z : State) (a0 : Array Value) (y : MethodName) (cb : ByteArray) (mL : Nat) (n : Nat) : Prop := y.name = "<init>" ∧ (Cond.instanceMethod y).before a0 Z = true ∧ (Cond.initialized y.cls).before a0 Z = true ∧ (Cond.code y cb mL none).before a0 Z = true ∧ (y.cls ≠ "java/lang/invoke/MethodHandle" ∧ y.cls ≠ "java/lang/invoke/VarHandle") ∧ ∃ r ps, parseMethodDescriptor y.desc = some ⟨ps, r⟩ ∧ ps.length = n
def VW (Z : State) (a0 : Array Value) (C : String) (y z : MethodName) (cb : ByteArray) (mL : Nat) (ret : Option FieldType) (n : Nat) : Prop := (Cond.declares y).before a0 Z = true ∧ (Cond.selects C y z).before a0 Z = true ∧ (Cond.instanceMethod z).before a0 Z = true ∧ (Cond.initialized z.cls).before a0 Z = true ∧ (Cond.code z cb mL ret).before a0 Z = true ∧ (y.cls ≠ "java/lang/invoke/MethodHandle" ∧ y.cls ≠ "java/lang/invoke/VarHandle") ∧ ∃ r ps, parseMethodDescriptor y.desc = some ⟨ps, r⟩ ∧ ps.length = n
theorem lenW {d : String} {L : List Value} {n : Nat} (h : ∃ r ps, parseMethodDescriptor d = some ⟨ps, r⟩ ∧ ps.length = n) (hn : L.length = n) : ∀ sig, parseMethodDescriptor d = some sig → L.length = sig.parameters.length := by
  obtain ⟨r, ps, h1, h2⟩ := h
  exact lenOf h1 (hn.trans h2.symm)
section Steps
variable {Z : State} {own : String} {bytes : ByteArray} {h : Heap} {p : Program} {l : Launch} {e : Env} {R : Room} {s : State} {m : MethodId} {args : Array Value} {below : List Frame} {meth : Method} {c : Code} {T : State} {locs : List Loc} {cells slots : Nat}
  {K : State → Outcome → Prop} {a0 : Array Value} {pc q : Nat} {Ls : Array Slot} {st : List Value}
theorem iconst {i : Int} {v : Int32} (P : Wk Z own bytes h p l e R s m args below meth c T locs cells slots) (hd : decode bytes pc = .ok (.iconst i, 1)) (hv : Int32.ofInt i = v) (hq : pc + 1 = q) (k : Goes p.tables e below K (T.setTop (mkF m q Ls (.int v :: st)))) : Goes p.tables e below K (T.setTop (mkF m pc Ls (st))) := by
  subst hq
  exact Goes.go (fun _ r => XS.iconst P.1.here P.2.1 rfl (hb P.2.2.1 hd) (hv ▸ r)) k
theorem bipush {i : Int} {v : Int32} (P : Wk Z own bytes h p l e R s m args below meth c T locs cells slots) (hd : decode bytes pc = .ok (.bipush i, 2)) (hv : (Int8.ofInt i).toInt32 = v) (hq : pc + 2 = q) (k : Goes p.tables e below K (T.setTop (mkF m q Ls (.int v :: st)))) : Goes p.tables e below K (T.setTop (mkF m pc Ls (st))) := by
  subst hq
  exact Goes.go (fun _ r => XS.bipush P.1.here P.2.1 rfl (hb P.2.2.1 hd) (hv ▸ r)) k
theorem sipush {i : Int} {v : Int32} (P : Wk Z own bytes h p l e R s m args below meth c T locs cells slots) (hd : decode bytes pc = .ok (.sipush i, 3)) (hv : (Int16.ofInt i).toInt32 = v) (hq : pc + 3 = q) (k : Goes p.tables e below K (T.setTop (mkF m q Ls (.int v :: st)))) : Goes p.tables e below K (T.setTop (mkF m pc Ls (st))) := by
  subst hq
  exact Goes.go (fun _ r => XS.sipush P.1.here P.2.1 rfl (hb P.2.2.1 hd) (hv ▸ r)) k
theorem aconst  (P : Wk Z own bytes h p l e R s m args below meth c T locs cells slots) (hd : decode bytes pc = .ok (.aconst_null, 1))  (hq : pc + 1 = q) (k : Goes p.tables e below K (T.setTop (mkF m q Ls (.null :: st)))) : Goes p.tables e below K (T.setTop (mkF m pc Ls (st))) := by
  subst hq
  exact Goes.go (fun _ r => XS.aconstNull P.1.here P.2.1 rfl (hb P.2.2.1 hd) r) k
theorem iload {k : Nat} {v : Int32} (P : Wk Z own bytes h p l e R s m args below meth c T locs cells slots) (hd : decode bytes pc = .ok (.iload k, 2)) (hl : Ls[k]? = some (.val (.int v))) (hq : pc + 2 = q) (k : Goes p.tables e below K (T.setTop (mkF m q Ls (.int v :: st)))) : Goes p.tables e below K (T.setTop (mkF m pc Ls (st))) := by
  subst hq
  exact Goes.go (fun _ r => XS.iload P.1.here P.2.1 rfl (hb P.2.2.1 hd) hl r) k
theorem iloadN {k : _} {v : Int32} (P : Wk Z own bytes h p l e R s m args below meth c T locs cells slots) (hd : decode bytes pc = .ok (.iload_n k, 1)) (hl : Ls[k.val]? = some (.val (.int v))) (hq : pc + 1 = q) (k : Goes p.tables e below K (T.setTop (mkF m q Ls (.int v :: st)))) : Goes p.tables e below K (T.setTop (mkF m pc Ls (st))) := by
  subst hq
  exact Goes.go (fun _ r => XS.iloadN P.1.here P.2.1 rfl (hb P.2.2.1 hd) hl r) k
theorem aload {k : Nat} {v : Value} (P : Wk Z own bytes h p l e R s m args below meth c T locs cells slots) (hd : decode bytes pc = .ok (.aload k, 2)) (hl : Ls[k]? = some (.val v)) (hv : v.isRef = true) (hq : pc + 2 = q) (k : Goes p.tables e below K (T.setTop (mkF m q Ls (v :: st)))) : Goes p.tables e below K (T.setTop (mkF m pc Ls (st))) := by
  subst hq
  exact Goes.go (fun _ r => XS.aload P.1.here P.2.1 rfl (hb P.2.2.1 hd) hl hv r) k
theorem aloadN {k : _} {v : Value} (P : Wk Z own bytes h p l e R s m args below meth c T locs cells slots) (hd : decode bytes pc = .ok (.aload_n k, 1)) (hl : Ls[k.val]? = some (.val v)) (hv : v.isRef = true) (hq : pc + 1 = q) (k : Goes p.tables e below K (T.setTop (mkF m q Ls (v :: st)))) : Goes p.tables e below K (T.setTop (mkF m pc Ls (st))) := by
  subst hq
  exact Goes.go (fun _ r => XS.aloadN P.1.here P.2.1 rfl (hb P.2.2.1 hd) hl hv r) k
theorem lload {k : Nat} {v : Int64} (P : Wk Z own bytes h p l e R s m args below meth c T locs cells slots) (hd : decode bytes pc = .ok (.lload k, 2)) (hl : Ls[k]? = some (.val (.long v))) (hq : pc + 2 = q) (k : Goes p.tables e below K (T.setTop (mkF m q Ls (.long v :: st)))) : Goes p.tables e below K (T.setTop (mkF m pc Ls (st))) := by
  subst hq
  exact Goes.go (fun _ r => XT.lload P.1.here P.2.1 rfl (hb P.2.2.1 hd) hl r) k
theorem lloadN {k : _} {v : Int64} (P : Wk Z own bytes h p l e R s m args below meth c T locs cells slots) (hd : decode bytes pc = .ok (.lload_n k, 1)) (hl : Ls[k.val]? = some (.val (.long v))) (hq : pc + 1 = q) (k : Goes p.tables e below K (T.setTop (mkF m q Ls (.long v :: st)))) : Goes p.tables e below K (T.setTop (mkF m pc Ls (st))) := by
  subst hq
  exact Goes.go (fun _ r => XT.lloadN P.1.here P.2.1 rfl (hb P.2.2.1 hd) hl r) k
theorem istore {k : Nat} {x : Int32} {L2 : Array Slot} (P : Wk Z own bytes h p l e R s m args below meth c T locs cells slots) (hd : decode bytes pc = .ok (.istore k, 2)) (hl : storeLocals Ls k (.int x) = some L2) (hq : pc + 2 = q) (k : Goes p.tables e below K (T.setTop (mkF m q L2 (st)))) : Goes p.tables e below K (T.setTop (mkF m pc Ls (.int x :: st))) := by
  subst hq
  exact Goes.go (fun _ r => XS.istore P.1.here P.2.1 rfl (hb P.2.2.1 hd) rfl hl r) k
theorem istoreN {k : _} {x : Int32} {L2 : Array Slot} (P : Wk Z own bytes h p l e R s m args below meth c T locs cells slots) (hd : decode bytes pc = .ok (.istore_n k, 1)) (hl : storeLocals Ls k.val (.int x) = some L2) (hq : pc + 1 = q) (k : Goes p.tables e below K (T.setTop (mkF m q L2 (st)))) : Goes p.tables e below K (T.setTop (mkF m pc Ls (.int x :: st))) := by
  subst hq
  exact Goes.go (fun _ r => XS.istoreN P.1.here P.2.1 rfl (hb P.2.2.1 hd) rfl hl r) k
theorem astore {k : Nat} {x : Value} {L2 : Array Slot} (P : Wk Z own bytes h p l e R s m args below meth c T locs cells slots) (hd : decode bytes pc = .ok (.astore k, 2)) (hv : x.isRef = true) (hl : storeLocals Ls k x = some L2) (hq : pc + 2 = q) (k : Goes p.tables e below K (T.setTop (mkF m q L2 (st)))) : Goes p.tables e below K (T.setTop (mkF m pc Ls (x :: st))) := by
  subst hq
  exact Goes.go (fun _ r => XS.astore P.1.here P.2.1 rfl (hb P.2.2.1 hd) rfl hv hl r) k
theorem astoreN {k : _} {x : Value} {L2 : Array Slot} (P : Wk Z own bytes h p l e R s m args below meth c T locs cells slots) (hd : decode bytes pc = .ok (.astore_n k, 1)) (hv : x.isRef = true) (hl : storeLocals Ls k.val x = some L2) (hq : pc + 1 = q) (k : Goes p.tables e below K (T.setTop (mkF m q L2 (st)))) : Goes p.tables e below K (T.setTop (mkF m pc Ls (x :: st))) := by
  subst hq
  exact Goes.go (fun _ r => XS.astoreN P.1.here P.2.1 rfl (hb P.2.2.1 hd) rfl hv hl r) k
theorem iinc {k : Nat} {i : Int} {x v : Int32} {L2 : Array Slot} (P : Wk Z own bytes h p l e R s m args below meth c T locs cells slots) (hd : decode bytes pc = .ok (.iinc k i, 3)) (hl : Ls[k]? = some (.val (.int x))) (hv : Int32.ofInt i = v) (hs : storeLocals Ls k (.int (x + v)) = some L2) (hq : pc + 3 = q) (k : Goes p.tables e below K (T.setTop (mkF m q L2 (st)))) : Goes p.tables e below K (T.setTop (mkF m pc Ls (st))) := by
  subst hq
  exact Goes.go (fun _ r => XS.iinc P.1.here P.2.1 rfl (hb P.2.2.1 hd) hl (hv ▸ hs) r) k
theorem dup {x : Value} (P : Wk Z own bytes h p l e R s m args below meth c T locs cells slots) (hd : decode bytes pc = .ok (.dup, 1)) (hc : x.category = 1) (hq : pc + 1 = q) (k : Goes p.tables e below K (T.setTop (mkF m q Ls (x :: x :: st)))) : Goes p.tables e below K (T.setTop (mkF m pc Ls (x :: st))) := by
  subst hq
  exact Goes.go (fun _ r => XS.dup P.1.here P.2.1 rfl (hb P.2.2.1 hd) rfl hc r) k
theorem pop {x : Value} (P : Wk Z own bytes h p l e R s m args below meth c T locs cells slots) (hd : decode bytes pc = .ok (.pop, 1)) (hc : x.category = 1) (hq : pc + 1 = q) (k : Goes p.tables e below K (T.setTop (mkF m q Ls (st)))) : Goes p.tables e below K (T.setTop (mkF m pc Ls (x :: st))) := by
  subst hq
  exact Goes.go (fun _ r => XT.pop P.1.here P.2.1 rfl (hb P.2.2.1 hd) rfl hc r) k
theorem iadd {x y : Int32} (P : Wk Z own bytes h p l e R s m args below meth c T locs cells slots) (hd : decode bytes pc = .ok (.iadd, 1))  (hq : pc + 1 = q) (k : Goes p.tables e below K (T.setTop (mkF m q Ls (.int (x + y) :: st)))) : Goes p.tables e below K (T.setTop (mkF m pc Ls (.int y :: .int x :: st))) := by
  subst hq
  exact Goes.go (fun _ r => XS.iadd P.1.here P.2.1 rfl (hb P.2.2.1 hd) rfl r) k
theorem isub {x y : Int32} (P : Wk Z own bytes h p l e R s m args below meth c T locs cells slots) (hd : decode bytes pc = .ok (.isub, 1))  (hq : pc + 1 = q) (k : Goes p.tables e below K (T.setTop (mkF m q Ls (.int (x - y) :: st)))) : Goes p.tables e below K (T.setTop (mkF m pc Ls (.int y :: .int x :: st))) := by
  subst hq
  exact Goes.go (fun _ r => XS.isub P.1.here P.2.1 rfl (hb P.2.2.1 hd) rfl r) k
theorem iand {x y : Int32} (P : Wk Z own bytes h p l e R s m args below meth c T locs cells slots) (hd : decode bytes pc = .ok (.iand, 1))  (hq : pc + 1 = q) (k : Goes p.tables e below K (T.setTop (mkF m q Ls (.int (x &&& y) :: st)))) : Goes p.tables e below K (T.setTop (mkF m pc Ls (.int y :: .int x :: st))) := by
  subst hq
  exact Goes.go (fun _ r => XS.iand P.1.here P.2.1 rfl (hb P.2.2.1 hd) rfl r) k
theorem imul {x y : Int32} (P : Wk Z own bytes h p l e R s m args below meth c T locs cells slots) (hd : decode bytes pc = .ok (.imul, 1))  (hq : pc + 1 = q) (k : Goes p.tables e below K (T.setTop (mkF m q Ls (.int (x * y) :: st)))) : Goes p.tables e below K (T.setTop (mkF m pc Ls (.int y :: .int x :: st))) := by
  subst hq
  exact Goes.go (fun _ r => XS.imul P.1.here P.2.1 rfl (hb P.2.2.1 hd) rfl r) k
theorem ixor {x y : Int32} (P : Wk Z own bytes h p l e R s m args below meth c T locs cells slots) (hd : decode bytes pc = .ok (.ixor, 1))  (hq : pc + 1 = q) (k : Goes p.tables e below K (T.setTop (mkF m q Ls (.int (x ^^^ y) :: st)))) : Goes p.tables e below K (T.setTop (mkF m pc Ls (.int y :: .int x :: st))) := by
  subst hq
  exact Goes.go (fun _ r => XT.ixor P.1.here P.2.1 rfl (hb P.2.2.1 hd) rfl r) k
theorem ior {x y : Int32} (P : Wk Z own bytes h p l e R s m args below meth c T locs cells slots) (hd : decode bytes pc = .ok (.ior, 1))  (hq : pc + 1 = q) (k : Goes p.tables e below K (T.setTop (mkF m q Ls (.int (x ||| y) :: st)))) : Goes p.tables e below K (T.setTop (mkF m pc Ls (.int y :: .int x :: st))) := by
  subst hq
  exact Goes.go (fun _ r => XT.ior P.1.here P.2.1 rfl (hb P.2.2.1 hd) rfl r) k
theorem ishl {x y : Int32} (P : Wk Z own bytes h p l e R s m args below meth c T locs cells slots) (hd : decode bytes pc = .ok (.ishl, 1))  (hq : pc + 1 = q) (k : Goes p.tables e below K (T.setTop (mkF m q Ls (.int (x <<< (y &&& 31)) :: st)))) : Goes p.tables e below K (T.setTop (mkF m pc Ls (.int y :: .int x :: st))) := by
  subst hq
  exact Goes.go (fun _ r => XT.ishl P.1.here P.2.1 rfl (hb P.2.2.1 hd) rfl r) k
theorem ishr {x y : Int32} (P : Wk Z own bytes h p l e R s m args below meth c T locs cells slots) (hd : decode bytes pc = .ok (.ishr, 1))  (hq : pc + 1 = q) (k : Goes p.tables e below K (T.setTop (mkF m q Ls (.int (x >>> (y &&& 31)) :: st)))) : Goes p.tables e below K (T.setTop (mkF m pc Ls (.int y :: .int x :: st))) := by
  subst hq
  exact Goes.go (fun _ r => XT.ishr P.1.here P.2.1 rfl (hb P.2.2.1 hd) rfl r) k
theorem iushr {x y : Int32} (P : Wk Z own bytes h p l e R s m args below meth c T locs cells slots) (hd : decode bytes pc = .ok (.iushr, 1))  (hq : pc + 1 = q) (k : Goes p.tables e below K (T.setTop (mkF m q Ls (.int (XT.ushr x y) :: st)))) : Goes p.tables e below K (T.setTop (mkF m pc Ls (.int y :: .int x :: st))) := by
  subst hq
  exact Goes.go (fun _ r => XT.iushr P.1.here P.2.1 rfl (hb P.2.2.1 hd) rfl r) k
theorem irem {x y : Int32} (P : Wk Z own bytes h p l e R s m args below meth c T locs cells slots) (hd : decode bytes pc = .ok (.irem, 1)) (hy : y ≠ 0) (hq : pc + 1 = q) (k : Goes p.tables e below K (T.setTop (mkF m q Ls (.int (x % y) :: st)))) : Goes p.tables e below K (T.setTop (mkF m pc Ls (.int y :: .int x :: st))) := by
  subst hq
  exact Goes.go (fun _ r => iremM P.1 P.2.1 rfl (hb P.2.2.1 hd) rfl hy r) k
theorem idiv {x y : Int32} (P : Wk Z own bytes h p l e R s m args below meth c T locs cells slots) (hd : decode bytes pc = .ok (.idiv, 1)) (hy : y ≠ 0) (hq : pc + 1 = q) (k : Goes p.tables e below K (T.setTop (mkF m q Ls (.int (x / y) :: st)))) : Goes p.tables e below K (T.setTop (mkF m pc Ls (.int y :: .int x :: st))) := by
  subst hq
  exact Goes.go (fun _ r => XS.idiv P.1.here P.2.1 rfl (hb P.2.2.1 hd) rfl hy r) k
theorem i2c {x : Int32} (P : Wk Z own bytes h p l e R s m args below meth c T locs cells slots) (hd : decode bytes pc = .ok (.i2c, 1))  (hq : pc + 1 = q) (k : Goes p.tables e below K (T.setTop (mkF m q Ls (.int x.toUInt32.toUInt16.toUInt32.toInt32 :: st)))) : Goes p.tables e below K (T.setTop (mkF m pc Ls (.int x :: st))) := by
  subst hq
  exact Goes.go (fun _ r => XT.i2c P.1.here P.2.1 rfl (hb P.2.2.1 hd) rfl r) k
theorem i2cV {x v : Int32} (P : Wk Z own bytes h p l e R s m args below meth c T locs cells slots) (hd : decode bytes pc = .ok (.i2c, 1)) (hv : x.toUInt32.toUInt16.toUInt32.toInt32 = v) (hq : pc + 1 = q) (k : Goes p.tables e below K (T.setTop (mkF m q Ls (.int v :: st)))) : Goes p.tables e below K (T.setTop (mkF m pc Ls (.int x :: st))) := by
  subst hq
  exact Goes.go (fun _ r => XT.i2c P.1.here P.2.1 rfl (hb P.2.2.1 hd) rfl (hv ▸ r)) k
theorem i2b {x : Int32} (P : Wk Z own bytes h p l e R s m args below meth c T locs cells slots) (hd : decode bytes pc = .ok (.i2b, 1))  (hq : pc + 1 = q) (k : Goes p.tables e below K (T.setTop (mkF m q Ls (.int x.toInt8.toInt32 :: st)))) : Goes p.tables e below K (T.setTop (mkF m pc Ls (.int x :: st))) := by
  subst hq
  exact Goes.go (fun _ r => XT.i2b P.1.here P.2.1 rfl (hb P.2.2.1 hd) rfl r) k
theorem i2l {x : Int32} (P : Wk Z own bytes h p l e R s m args below meth c T locs cells slots) (hd : decode bytes pc = .ok (.i2l, 1))  (hq : pc + 1 = q) (k : Goes p.tables e below K (T.setTop (mkF m q Ls (.long x.toInt64 :: st)))) : Goes p.tables e below K (T.setTop (mkF m pc Ls (.int x :: st))) := by
  subst hq
  exact Goes.go (fun _ r => XT.i2l P.1.here P.2.1 rfl (hb P.2.2.1 hd) rfl r) k
theorem l2i {x : Int64} (P : Wk Z own bytes h p l e R s m args below meth c T locs cells slots) (hd : decode bytes pc = .ok (.l2i, 1))  (hq : pc + 1 = q) (k : Goes p.tables e below K (T.setTop (mkF m q Ls (.int x.toInt32 :: st)))) : Goes p.tables e below K (T.setTop (mkF m pc Ls (.long x :: st))) := by
  subst hq
  exact Goes.go (fun _ r => XT.l2i P.1.here P.2.1 rfl (hb P.2.2.1 hd) rfl r) k
theorem lushr {x : Int64} {y : Int32} (P : Wk Z own bytes h p l e R s m args below meth c T locs cells slots) (hd : decode bytes pc = .ok (.lushr, 1))  (hq : pc + 1 = q) (k : Goes p.tables e below K (T.setTop (mkF m q Ls (.long (XT.ushrL x y) :: st)))) : Goes p.tables e below K (T.setTop (mkF m pc Ls (.int y :: .long x :: st))) := by
  subst hq
  exact Goes.go (fun _ r => XT.lushr P.1.here P.2.1 rfl (hb P.2.2.1 hd) rfl r) k
theorem lmul {x y : Int64} (P : Wk Z own bytes h p l e R s m args below meth c T locs cells slots) (hd : decode bytes pc = .ok (.lmul, 1))  (hq : pc + 1 = q) (k : Goes p.tables e below K (T.setTop (mkF m q Ls (.long (x * y) :: st)))) : Goes p.tables e below K (T.setTop (mkF m pc Ls (.long y :: .long x :: st))) := by
  subst hq
  exact Goes.go (fun _ r => XT.lmul P.1.here P.2.1 rfl (hb P.2.2.1 hd) rfl r) k
theorem ladd {x y : Int64} (P : Wk Z own bytes h p l e R s m args below meth c T locs cells slots) (hd : decode bytes pc = .ok (.ladd, 1))  (hq : pc + 1 = q) (k : Goes p.tables e below K (T.setTop (mkF m q Ls (.long (x + y) :: st)))) : Goes p.tables e below K (T.setTop (mkF m pc Ls (.long y :: .long x :: st))) := by
  subst hq
  exact Goes.go (fun _ r => XT.ladd P.1.here P.2.1 rfl (hb P.2.2.1 hd) rfl r) k
theorem ldiv {x y : Int64} (P : Wk Z own bytes h p l e R s m args below meth c T locs cells slots) (hd : decode bytes pc = .ok (.ldiv, 1)) (hy : y ≠ 0) (hq : pc + 1 = q) (k : Goes p.tables e below K (T.setTop (mkF m q Ls (.long (x / y) :: st)))) : Goes p.tables e below K (T.setTop (mkF m pc Ls (.long y :: .long x :: st))) := by
  subst hq
  exact Goes.go (fun _ r => XT.ldiv P.1.here P.2.1 rfl (hb P.2.2.1 hd) rfl hy r) k
theorem lstoreN {k : _} {x : Int64} {L2 : Array Slot} (P : Wk Z own bytes h p l e R s m args below meth c T locs cells slots) (hd : decode bytes pc = .ok (.lstore_n k, 1)) (hl : storeLocals Ls k.val (.long x) = some L2) (hq : pc + 1 = q) (k : Goes p.tables e below K (T.setTop (mkF m q L2 (st)))) : Goes p.tables e below K (T.setTop (mkF m pc Ls (.long x :: st))) := by
  subst hq
  exact Goes.go (fun _ r => XT.lstoreN P.1.here P.2.1 rfl (hb P.2.2.1 hd) rfl hl r) k
theorem lcmp {x y : Int64} (P : Wk Z own bytes h p l e R s m args below meth c T locs cells slots) (hd : decode bytes pc = .ok (.lcmp, 1))  (hq : pc + 1 = q) (k : Goes p.tables e below K (T.setTop (mkF m q Ls (.int (XT.cmpL x y) :: st)))) : Goes p.tables e below K (T.setTop (mkF m pc Ls (.long y :: .long x :: st))) := by
  subst hq
  exact Goes.go (fun _ r => XT.lcmp P.1.here P.2.1 rfl (hb P.2.2.1 hd) rfl r) k
theorem ldcI {i : Nat} {v : Int32} (P : Wk Z own bytes h p l e R s m args below meth c T locs cells slots) (hd : decode bytes pc = .ok (.ldc i, 2)) (w : (Cond.constant own i v).before a0 Z = true) (hq : pc + 2 = q) (k : Goes p.tables e below K (T.setTop (mkF m q Ls (.int v :: st)))) : Goes p.tables e below K (T.setTop (mkF m pc Ls (st))) := by
  subst hq
  exact Goes.go (fun _ r => Jvm.Stand.ldcI P.1 P.2.1 P.2.2.2.2.1 (mvT P.2.2.2.1 w) rfl (hb P.2.2.1 hd) r) k
theorem ldcJ {i : Nat} {v : Int64} (P : Wk Z own bytes h p l e R s m args below meth c T locs cells slots) (hd : decode bytes pc = .ok (.ldc2_w i, 3)) (w : (Cond.constantLong own i v).before a0 Z = true) (hq : pc + 3 = q) (k : Goes p.tables e below K (T.setTop (mkF m q Ls (.long v :: st)))) : Goes p.tables e below K (T.setTop (mkF m pc Ls (st))) := by
  subst hq
  exact Goes.go (fun _ r => Jvm.Stand.ldc2J P.1 P.2.1 P.2.2.2.2.1 (mvT P.2.2.2.1 w) rfl (hb P.2.2.1 hd) r) k
theorem jmp {o : Int} {n : Nat} (h : (n : Int) + o = (q : Int)) : 0 ≤ (n : Int) + o ∧ ((n : Int) + o).toNat = q := by omega
theorem goto {o : Int} (P : Wk Z own bytes h p l e R s m args below meth c T locs cells slots) (hd : decode bytes pc = .ok (.goto o, 3)) (hq : (pc : Int) + o = (q : Int)) (k : Goes p.tables e below K (T.setTop (mkF m q Ls (st)))) : Goes p.tables e below K (T.setTop (mkF m pc Ls (st))) :=
  Goes.go (fun _ r => XS.goto P.1.here P.2.1 rfl (pc0 := pc) rfl (hb P.2.2.1 hd) (jmp hq).1 (jmp hq).2 r) k
theorem icmp_eq {x y : Int32} {o : Int} {qy : Nat} (P : Wk Z own bytes h p l e R s m args below meth c T locs cells slots) (hd : decode bytes pc = .ok (.if_icmp .eq o, 3)) (hy : (pc : Int) + o = (qy : Int)) (hq : pc + 3 = q) (ky : x = y → Goes p.tables e below K (T.setTop (mkF m qy Ls (st)))) (kn : ¬ x = y → Goes p.tables e below K (T.setTop (mkF m q Ls (st)))) : Goes p.tables e below K (T.setTop (mkF m pc Ls (.int y :: .int x :: st))) := by
  subst hq
  by_cases c0 : x = y
  · exact Goes.go (fun _ r => XS.icmpYes P.1.here P.2.1 rfl (pc0 := pc) rfl (hb P.2.2.1 hd) rfl (XT.ii_eq_t c0) (jmp hy).1 (jmp hy).2 r) (ky c0)
  · exact Goes.go (fun _ r => XS.icmpNo P.1.here P.2.1 rfl (hb P.2.2.1 hd) rfl (XT.ii_eq_f c0) r) (kn c0)
theorem if_eq {x : Int32} {o : Int} {qy : Nat} (P : Wk Z own bytes h p l e R s m args below meth c T locs cells slots) (hd : decode bytes pc = .ok (.ifCond .eq o, 3)) (hy : (pc : Int) + o = (qy : Int)) (hq : pc + 3 = q) (ky : x = 0 → Goes p.tables e below K (T.setTop (mkF m qy Ls (st)))) (kn : ¬ x = 0 → Goes p.tables e below K (T.setTop (mkF m q Ls (st)))) : Goes p.tables e below K (T.setTop (mkF m pc Ls (.int x :: st))) := by
  subst hq
  by_cases c0 : x = 0
  · exact Goes.go (fun _ r => XS.ifYes P.1.here P.2.1 rfl (pc0 := pc) rfl (hb P.2.2.1 hd) rfl (XT.i0_eq_t c0) (jmp hy).1 (jmp hy).2 r) (ky c0)
  · exact Goes.go (fun _ r => XS.ifNo P.1.here P.2.1 rfl (hb P.2.2.1 hd) rfl (XT.i0_eq_f c0) r) (kn c0)
theorem icmp_ne {x y : Int32} {o : Int} {qy : Nat} (P : Wk Z own bytes h p l e R s m args below meth c T locs cells slots) (hd : decode bytes pc = .ok (.if_icmp .ne o, 3)) (hy : (pc : Int) + o = (qy : Int)) (hq : pc + 3 = q) (ky : ¬ x = y → Goes p.tables e below K (T.setTop (mkF m qy Ls (st)))) (kn : x = y → Goes p.tables e below K (T.setTop (mkF m q Ls (st)))) : Goes p.tables e below K (T.setTop (mkF m pc Ls (.int y :: .int x :: st))) := by
  subst hq
  by_cases c0 : x = y
  · exact Goes.go (fun _ r => XS.icmpNo P.1.here P.2.1 rfl (hb P.2.2.1 hd) rfl (XT.ii_ne_f c0) r) (kn c0)
  · exact Goes.go (fun _ r => XS.icmpYes P.1.here P.2.1 rfl (pc0 := pc) rfl (hb P.2.2.1 hd) rfl (XT.ii_ne_t c0) (jmp hy).1 (jmp hy).2 r) (ky c0)
theorem if_ne {x : Int32} {o : Int} {qy : Nat} (P : Wk Z own bytes h p l e R s m args below meth c T locs cells slots) (hd : decode bytes pc = .ok (.ifCond .ne o, 3)) (hy : (pc : Int) + o = (qy : Int)) (hq : pc + 3 = q) (ky : ¬ x = 0 → Goes p.tables e below K (T.setTop (mkF m qy Ls (st)))) (kn : x = 0 → Goes p.tables e below K (T.setTop (mkF m q Ls (st)))) : Goes p.tables e below K (T.setTop (mkF m pc Ls (.int x :: st))) := by
  subst hq
  by_cases c0 : x = 0
  · exact Goes.go (fun _ r => XS.ifNo P.1.here P.2.1 rfl (hb P.2.2.1 hd) rfl (XT.i0_ne_f c0) r) (kn c0)
  · exact Goes.go (fun _ r => XS.ifYes P.1.here P.2.1 rfl (pc0 := pc) rfl (hb P.2.2.1 hd) rfl (XT.i0_ne_t c0) (jmp hy).1 (jmp hy).2 r) (ky c0)
theorem icmp_lt {x y : Int32} {o : Int} {qy : Nat} (P : Wk Z own bytes h p l e R s m args below meth c T locs cells slots) (hd : decode bytes pc = .ok (.if_icmp .lt o, 3)) (hy : (pc : Int) + o = (qy : Int)) (hq : pc + 3 = q) (ky : x < y → Goes p.tables e below K (T.setTop (mkF m qy Ls (st)))) (kn : ¬ x < y → Goes p.tables e below K (T.setTop (mkF m q Ls (st)))) : Goes p.tables e below K (T.setTop (mkF m pc Ls (.int y :: .int x :: st))) := by
  subst hq
  by_cases c0 : x < y
  · exact Goes.go (fun _ r => XS.icmpYes P.1.here P.2.1 rfl (pc0 := pc) rfl (hb P.2.2.1 hd) rfl (XT.ii_lt_t c0) (jmp hy).1 (jmp hy).2 r) (ky c0)
  · exact Goes.go (fun _ r => XS.icmpNo P.1.here P.2.1 rfl (hb P.2.2.1 hd) rfl (XT.ii_lt_f c0) r) (kn c0)
theorem if_lt {x : Int32} {o : Int} {qy : Nat} (P : Wk Z own bytes h p l e R s m args below meth c T locs cells slots) (hd : decode bytes pc = .ok (.ifCond .lt o, 3)) (hy : (pc : Int) + o = (qy : Int)) (hq : pc + 3 = q) (ky : x < 0 → Goes p.tables e below K (T.setTop (mkF m qy Ls (st)))) (kn : ¬ x < 0 → Goes p.tables e below K (T.setTop (mkF m q Ls (st)))) : Goes p.tables e below K (T.setTop (mkF m pc Ls (.int x :: st))) := by
  subst hq
  by_cases c0 : x < 0
  · exact Goes.go (fun _ r => XS.ifYes P.1.here P.2.1 rfl (pc0 := pc) rfl (hb P.2.2.1 hd) rfl (XT.i0_lt_t c0) (jmp hy).1 (jmp hy).2 r) (ky c0)
  · exact Goes.go (fun _ r => XS.ifNo P.1.here P.2.1 rfl (hb P.2.2.1 hd) rfl (XT.i0_lt_f c0) r) (kn c0)
theorem icmp_ge {x y : Int32} {o : Int} {qy : Nat} (P : Wk Z own bytes h p l e R s m args below meth c T locs cells slots) (hd : decode bytes pc = .ok (.if_icmp .ge o, 3)) (hy : (pc : Int) + o = (qy : Int)) (hq : pc + 3 = q) (ky : ¬ x < y → Goes p.tables e below K (T.setTop (mkF m qy Ls (st)))) (kn : x < y → Goes p.tables e below K (T.setTop (mkF m q Ls (st)))) : Goes p.tables e below K (T.setTop (mkF m pc Ls (.int y :: .int x :: st))) := by
  subst hq
  by_cases c0 : x < y
  · exact Goes.go (fun _ r => XS.icmpNo P.1.here P.2.1 rfl (hb P.2.2.1 hd) rfl (XT.ii_ge_f c0) r) (kn c0)
  · exact Goes.go (fun _ r => XS.icmpYes P.1.here P.2.1 rfl (pc0 := pc) rfl (hb P.2.2.1 hd) rfl (XT.ii_ge_t c0) (jmp hy).1 (jmp hy).2 r) (ky c0)
theorem if_ge {x : Int32} {o : Int} {qy : Nat} (P : Wk Z own bytes h p l e R s m args below meth c T locs cells slots) (hd : decode bytes pc = .ok (.ifCond .ge o, 3)) (hy : (pc : Int) + o = (qy : Int)) (hq : pc + 3 = q) (ky : ¬ x < 0 → Goes p.tables e below K (T.setTop (mkF m qy Ls (st)))) (kn : x < 0 → Goes p.tables e below K (T.setTop (mkF m q Ls (st)))) : Goes p.tables e below K (T.setTop (mkF m pc Ls (.int x :: st))) := by
  subst hq
  by_cases c0 : x < 0
  · exact Goes.go (fun _ r => XS.ifNo P.1.here P.2.1 rfl (hb P.2.2.1 hd) rfl (XT.i0_ge_f c0) r) (kn c0)
  · exact Goes.go (fun _ r => XS.ifYes P.1.here P.2.1 rfl (pc0 := pc) rfl (hb P.2.2.1 hd) rfl (XT.i0_ge_t c0) (jmp hy).1 (jmp hy).2 r) (ky c0)
theorem icmp_gt {x y : Int32} {o : Int} {qy : Nat} (P : Wk Z own bytes h p l e R s m args below meth c T locs cells slots) (hd : decode bytes pc = .ok (.if_icmp .gt o, 3)) (hy : (pc : Int) + o = (qy : Int)) (hq : pc + 3 = q) (ky : y < x → Goes p.tables e below K (T.setTop (mkF m qy Ls (st)))) (kn : ¬ y < x → Goes p.tables e below K (T.setTop (mkF m q Ls (st)))) : Goes p.tables e below K (T.setTop (mkF m pc Ls (.int y :: .int x :: st))) := by
  subst hq
  by_cases c0 : y < x
  · exact Goes.go (fun _ r => XS.icmpYes P.1.here P.2.1 rfl (pc0 := pc) rfl (hb P.2.2.1 hd) rfl (XT.ii_gt_t c0) (jmp hy).1 (jmp hy).2 r) (ky c0)
  · exact Goes.go (fun _ r => XS.icmpNo P.1.here P.2.1 rfl (hb P.2.2.1 hd) rfl (XT.ii_gt_f c0) r) (kn c0)
theorem icmp_le {x y : Int32} {o : Int} {qy : Nat} (P : Wk Z own bytes h p l e R s m args below meth c T locs cells slots) (hd : decode bytes pc = .ok (.if_icmp .le o, 3)) (hy : (pc : Int) + o = (qy : Int)) (hq : pc + 3 = q) (ky : ¬ y < x → Goes p.tables e below K (T.setTop (mkF m qy Ls (st)))) (kn : y < x → Goes p.tables e below K (T.setTop (mkF m q Ls (st)))) : Goes p.tables e below K (T.setTop (mkF m pc Ls (.int y :: .int x :: st))) := by
  subst hq
  by_cases c0 : y < x
  · exact Goes.go (fun _ r => XS.icmpNo P.1.here P.2.1 rfl (hb P.2.2.1 hd) rfl (XT.ii_le_f c0) r) (kn c0)
  · exact Goes.go (fun _ r => XS.icmpYes P.1.here P.2.1 rfl (pc0 := pc) rfl (hb P.2.2.1 hd) rfl (XT.ii_le_t c0) (jmp hy).1 (jmp hy).2 r) (ky c0)
theorem if_le {x : Int32} {o : Int} {qy : Nat} (P : Wk Z own bytes h p l e R s m args below meth c T locs cells slots) (hd : decode bytes pc = .ok (.ifCond .le o, 3)) (hy : (pc : Int) + o = (qy : Int)) (hq : pc + 3 = q) (ky : ¬ 0 < x → Goes p.tables e below K (T.setTop (mkF m qy Ls (st)))) (kn : 0 < x → Goes p.tables e below K (T.setTop (mkF m q Ls (st)))) : Goes p.tables e below K (T.setTop (mkF m pc Ls (.int x :: st))) := by
  subst hq
  by_cases c0 : 0 < x
  · exact Goes.go (fun _ r => XS.ifNo P.1.here P.2.1 rfl (hb P.2.2.1 hd) rfl (XT.i0_le_f c0) r) (kn c0)
  · exact Goes.go (fun _ r => XS.ifYes P.1.here P.2.1 rfl (pc0 := pc) rfl (hb P.2.2.1 hd) rfl (XT.i0_le_t c0) (jmp hy).1 (jmp hy).2 r) (ky c0)
theorem acmp_ne {x y : Value} {o : Int} {qy : Nat} (P : Wk Z own bytes h p l e R s m args below meth c T locs cells slots) (hd : decode bytes pc = .ok (.if_acmp .ne o, 3)) (h1 : x.isRef = true) (h2 : y.isRef = true) (hy : (pc : Int) + o = (qy : Int)) (hq : pc + 3 = q) (ky : ¬ x = y → Goes p.tables e below K (T.setTop (mkF m qy Ls (st)))) (kn : x = y → Goes p.tables e below K (T.setTop (mkF m q Ls (st)))) : Goes p.tables e below K (T.setTop (mkF m pc Ls (y :: x :: st))) := by
  subst hq
  by_cases c0 : x = y
  · exact Goes.go (fun _ r => XT.acmpNo P.1.here P.2.1 rfl (hb P.2.2.1 hd) rfl h1 h2 (XT.aa_ne_f c0) r) (kn c0)
  · exact Goes.go (fun _ r => XT.acmpYes P.1.here P.2.1 rfl (pc0 := pc) rfl (hb P.2.2.1 hd) rfl h1 h2 (XT.aa_ne_t c0) (jmp hy).1 (jmp hy).2 r) (ky c0)
theorem nonnullY {o : Int} {b : Addr} (P : Wk Z own bytes h p l e R s m args below meth c T locs cells slots) (hd : decode bytes pc = .ok (.ifnonnull o, 3)) (hy : (pc : Int) + o = (q : Int)) (k : Goes p.tables e below K (T.setTop (mkF m q Ls (st)))) : Goes p.tables e below K (T.setTop (mkF m pc Ls (.ref b :: st))) := Goes.go (fun _ r => XT.ifnonnullYes P.1.here P.2.1 rfl (pc0 := pc) rfl (hb P.2.2.1 hd) rfl (jmp hy).1 (jmp hy).2 r) k
theorem getfield {O n d : String} {i : Nat} {a : Addr} {v : Value} (P : Wk Z own bytes h p l e R s m args below meth c T locs cells slots) (hd : decode bytes pc = .ok (.getfield i, 3)) (w : (Cond.fieldLink own i O n d).before a0 Z = true) (F : Fld Z h a O n d v) (hq : pc + 3 = q) (k : ∀ T₂, Wk Z own bytes h p l e R s m args below meth c T₂ locs cells slots → Goes p.tables e below K (T₂.setTop (mkF m q Ls (v :: st)))) : Goes p.tables e below K (T.setTop (mkF m pc Ls (.ref a :: st))) := by
  subst hq
  obtain ⟨T₂, X2, e2, st2⟩ := getF P.1 P.2.1 P.2.2.2.1 P.2.2.2.2.1 (host := "") (Or.inl w) Via.refl P.2.2.2.2.2 F (g := mkF m pc Ls (.ref a :: st)) rfl rfl (hb P.2.2.1 hd)
  exact Goes.go st2 (k T₂ ⟨X2, P.2.1, P.2.2.1, P.2.2.2.1, P.2.2.2.2.1, e2⟩)
theorem getstatic {O n d : String} {i : Nat} {v : Value} (P : Wk Z own bytes h p l e R s m args below meth c T locs cells slots) (hd : decode bytes pc = .ok (.getstatic i, 3)) (w : (Cond.fieldLink own i O n d).before a0 Z = true) (F : Sta Z h O n d v) (hq : pc + 3 = q) (k : ∀ T₂, Wk Z own bytes h p l e R s m args below meth c T₂ locs cells slots → Goes p.tables e below K (T₂.setTop (mkF m q Ls (v :: st)))) : Goes p.tables e below K (T.setTop (mkF m pc Ls (st))) := by
  subst hq
  obtain ⟨T₂, X2, e2, st2⟩ := getS P.1 P.2.1 P.2.2.2.1 (host := "") P.2.2.2.2.1 w Via.refl P.2.2.2.2.2 F (g := mkF m pc Ls st) rfl (hb P.2.2.1 hd)
  exact Goes.go st2 (k T₂ ⟨X2, P.2.1, P.2.2.1, P.2.2.2.1, P.2.2.2.2.1, e2⟩)
theorem castTo {C : String} {i : Nat} {a : Addr} (P : Wk Z own bytes h p l e R s m args below meth c T locs cells slots) (hd : decode bytes pc = .ok (.checkcast i, 3)) (w : (Cond.classLink own i C).before a0 Z = true) (F : Ins Z h a C true) (hq : pc + 3 = q) (k : ∀ T₂, Wk Z own bytes h p l e R s m args below meth c T₂ locs cells slots → Goes p.tables e below K (T₂.setTop (mkF m q Ls (.ref a :: st)))) : Goes p.tables e below K (T.setTop (mkF m pc Ls (.ref a :: st))) := by
  subst hq
  obtain ⟨T₂, X2, e2, st2⟩ := castY P.1 P.2.1 P.2.2.2.1 P.2.2.2.2.1 w P.2.2.2.2.2 F (g := mkF m pc Ls (.ref a :: st)) rfl rfl (hb P.2.2.1 hd)
  exact Goes.go st2 (k T₂ ⟨X2, P.2.1, P.2.2.1, P.2.2.2.1, P.2.2.2.2.1, e2⟩)
theorem instOf {C : String} {i : Nat} {a : Addr} (P : Wk Z own bytes h p l e R s m args below meth c T locs cells slots) (hd : decode bytes pc = .ok (.instanceof i, 3)) (w : (Cond.classLink own i C).before a0 Z = true) (F : Ins Z h a C true) (hq : pc + 3 = q) (k : ∀ T₂, Wk Z own bytes h p l e R s m args below meth c T₂ locs cells slots → Goes p.tables e below K (T₂.setTop (mkF m q Ls (.int 1 :: st)))) : Goes p.tables e below K (T.setTop (mkF m pc Ls (.ref a :: st))) := by
  subst hq
  obtain ⟨T₂, X2, e2, st2⟩ := instY P.1 P.2.1 P.2.2.2.1 P.2.2.2.2.1 w P.2.2.2.2.2 F (g := mkF m pc Ls (.ref a :: st)) rfl rfl (hb P.2.2.1 hd)
  exact Goes.go st2 (k T₂ ⟨X2, P.2.1, P.2.2.1, P.2.2.2.1, P.2.2.2.2.1, e2⟩)
theorem caload {a : Addr} {kc : ClassId} {n j : Int32} {vs : List Value} {d v : Value} (P : Wk Z own bytes h p l e R s m args below meth c T locs cells slots) (hd : decode bytes pc = .ok (.caload, 1)) (A : Arv Z h a kc .char n vs d) (h0 : ¬ j < 0) (h1 : j < n) (hv : vs.getD j.toNatClampNeg d = v) (hq : pc + 1 = q) (k : Goes p.tables e below K (T.setTop (mkF m q Ls (v :: st)))) : Goes p.tables e below K (T.setTop (mkF m pc Ls (.int j :: .ref a :: st))) := by
  subst hq
  obtain ⟨cl, Ar, -, S, -, H, -⟩ := A
  have hin := inb_of S ⟨h0, h1⟩
  exact Goes.go (P.1.caload P.2.1 (by rw [P.2.2.2.2.2]; exact Ar.1) (State.isArrayOf_alike P.2.2.2.1.alike Ar.2.1) Ar.2.2 hin (H.at hin hv) (g := mkF m pc Ls (.int j :: .ref a :: st)) rfl rfl (hb P.2.2.1 hd)) k
theorem baload {a : Addr} {kc : ClassId} {n j : Int32} {vs : List Value} {d v : Value} (P : Wk Z own bytes h p l e R s m args below meth c T locs cells slots) (hd : decode bytes pc = .ok (.baload, 1)) (A : Arv Z h a kc .byte n vs d) (h0 : ¬ j < 0) (h1 : j < n) (hv : vs.getD j.toNatClampNeg d = v) (hq : pc + 1 = q) (k : Goes p.tables e below K (T.setTop (mkF m q Ls (v :: st)))) : Goes p.tables e below K (T.setTop (mkF m pc Ls (.int j :: .ref a :: st))) := by
  subst hq
  obtain ⟨cl, Ar, -, S, -, H, -⟩ := A
  have hin := inb_of S ⟨h0, h1⟩
  exact Goes.go (P.1.baloadBytes P.2.1 (by rw [P.2.2.2.2.2]; exact Ar.1) (State.isArrayOf_alike P.2.2.2.1.alike Ar.2.1) Ar.2.2 hin (H.at hin hv) (g := mkF m pc Ls (.int j :: .ref a :: st)) rfl rfl (hb P.2.2.1 hd)) k
theorem iaload {a : Addr} {kc : ClassId} {n j : Int32} {vs : List Value} {d v : Value} (P : Wk Z own bytes h p l e R s m args below meth c T locs cells slots) (hd : decode bytes pc = .ok (.iaload, 1)) (A : Arv Z h a kc .int n vs d) (h0 : ¬ j < 0) (h1 : j < n) (hv : vs.getD j.toNatClampNeg d = v) (hq : pc + 1 = q) (k : Goes p.tables e below K (T.setTop (mkF m q Ls (v :: st)))) : Goes p.tables e below K (T.setTop (mkF m pc Ls (.int j :: .ref a :: st))) := by
  subst hq
  obtain ⟨cl, Ar, -, S, -, H, -⟩ := A
  have hin := inb_of S ⟨h0, h1⟩
  exact Goes.go (P.1.iaload P.2.1 (by rw [P.2.2.2.2.2]; exact Ar.1) (State.isArrayOf_alike P.2.2.2.1.alike Ar.2.1) Ar.2.2 hin (H.at hin hv) (g := mkF m pc Ls (.int j :: .ref a :: st)) rfl rfl (hb P.2.2.1 hd)) k
theorem arraylength {a : Addr} {kc : ClassId} {ty : FieldType} {n : Int32} {vs : List Value} {d : Value} (P : Wk Z own bytes h p l e R s m args below meth c T locs cells slots) (hd : decode bytes pc = .ok (.arraylength, 1)) (A : Arv Z h a kc ty n vs d) (hq : pc + 1 = q) (k : Goes p.tables e below K (T.setTop (mkF m q Ls (.int n :: st)))) : Goes p.tables e below K (T.setTop (mkF m pc Ls (.ref a :: st))) := by
  subst hq
  obtain ⟨cl, Ar, -, S, N, H, -⟩ := A
  refine Goes.go (P.1.arraylength P.2.1 (by rw [P.2.2.2.2.2]; exact Ar.1) (State.isArrayOf_alike P.2.2.2.1.alike Ar.2.1) (g := mkF m pc Ls (.ref a :: st)) rfl rfl (hb P.2.2.1 hd)) ?_
  rw [len_of S N]
  exact k
theorem newobj {C : String} {i n : Nat} (P : Wk Z own bytes h p l e R s m args below meth c T locs cells slots) (hd : decode bytes pc = .ok (.new i, 3)) (w : (Cond.classLink own i C).before a0 Z = true) (wi : (Cond.instantiable C n).before a0 Z = true) (wz : (Cond.initialized C).before a0 Z = true) (hc : cells + 1 ≤ R.cells) (hl : slots + n ≤ R.slots) (hq : pc + 3 = q)
    (k : ∀ T₂ h₂ a, a = h.size → Wk Z own bytes h₂ p l e R s m args below meth c T₂ locs (cells + 1) (slots + n) → Ext h h₂ → Exa Z h₂ a C → (∀ {O nm d : String} {ty : FieldType}, Laid Z a0 C O nm d → parseFieldDescriptor d = some ty → Fld Z h₂ a O nm d (defaultValue ty)) → Goes p.tables e below K (T₂.setTop (mkF m q Ls (.ref a :: st)))) : Goes p.tables e below K (T.setTop (mkF m pc Ls (st))) := by
  subst hq
  obtain ⟨T₂, h₂, X2, e2, E2, A2, D2, -, st2⟩ := newO P.1 P.2.1 P.2.2.2.1 P.2.2.2.2.1 w wi wz P.2.2.2.2.2 (g := mkF m pc Ls st) rfl (hb P.2.2.1 hd) hc hl
  exact Goes.go st2 (k T₂ h₂ h.size rfl ⟨X2, P.2.1, P.2.2.1, P.2.2.2.1, P.2.2.2.2.1, e2⟩ E2 A2 D2)
theorem newarr {aty : ArrayType} {n : Int32} {cap : Nat} (P : Wk Z own bytes h p l e R s m args below meth c T locs cells slots) (hd : decode bytes pc = .ok (.newarray aty, 2)) (w : (Cond.arrayClass (newarray.typeOf aty)).before a0 Z = true) (hn : ¬ n < 0) (hcap : n.toNatClampNeg ≤ cap) (hcb : cap * 8 ≤ 536870912) (hc : cells + 1 ≤ R.cells) (hl : slots + cap ≤ R.slots) (hq : pc + 2 = q)
    (k : ∀ T₂ h₂ a kc, a = h.size → Wk Z own bytes h₂ p l e R s m args below meth c T₂ locs (cells + 1) (slots + cap) → Ext h h₂ → Arv Z h₂ a kc (newarray.typeOf aty) n [] (defaultValue (newarray.typeOf aty)) → Goes p.tables e below K (T₂.setTop (mkF m q Ls (.ref a :: st)))) : Goes p.tables e below K (T.setTop (mkF m pc Ls (.int n :: st))) := by
  subst hq
  obtain ⟨T₂, h₂, kc, X2, e2, E2, A2, st2⟩ := newP P.1 P.2.1 P.2.2.2.1 w P.2.2.2.2.2 (g := mkF m pc Ls (.int n :: st)) rfl (hb P.2.2.1 hd) rfl hn hcap hcb hc hl
  exact Goes.go st2 (k T₂ h₂ h.size kc rfl ⟨X2, P.2.1, P.2.2.1, P.2.2.2.1, P.2.2.2.2.1, e2⟩ E2 (Arv.new A2 hn))
theorem bastore {a : Addr} {kc : ClassId} {n j x x2 : Int32} {i : Nat} {vs : List Value} {d : Value} (P : Wk Z own bytes h p l e R s m args below meth c T locs cells slots) (hd : decode bytes pc = .ok (.bastore, 1)) (A : Arv Z h a kc .byte n vs d) (h0 : ¬ j < 0) (h1 : j < n) (hx2 : nar .byte x = x2) (hf : fits .byte (.int x2) = true) (hi : j.toNatClampNeg = i) (hi2 : i < vs.length) (hq : pc + 1 = q)
    (k : ∀ T₂ h₂ lc, lc.base = a → Wk Z own bytes h₂ p l e R s m args below meth c T₂ (locs ++ [lc]) cells slots → Wr h h₂ a i (.int x2) → Arv Z h₂ a kc .byte n (vs.set i (.int x2)) d → Goes p.tables e below K (T₂.setTop (mkF m q Ls (st)))) : Goes p.tables e below K (T.setTop (mkF m pc Ls (.int x :: .int j :: .ref a :: st))) := by
  subst hq hx2 hi
  obtain ⟨cl, Ar, q1, S, q3, H, G⟩ := A
  have hin := inb_of S ⟨h0, h1⟩
  obtain ⟨T₂, h₂, X2, e2, W2, st2⟩ := stB P.1 P.2.1 P.2.2.2.1 P.2.2.2.2.2 Ar hin (g := mkF m pc Ls (.int x :: .int j :: .ref a :: st)) rfl rfl (hb P.2.2.1 hd)
  exact Goes.go st2 (k T₂ h₂ ⟨a, j.toNatClampNeg⟩ rfl ⟨X2, P.2.1, P.2.2.1, P.2.2.2.1, P.2.2.2.2.1, e2⟩ W2 (Arv.set Ar q1 S q3 H G hf W2 _ rfl hi2))
theorem putfield {O n d C : String} {i kk : Nat} {ty : FieldType} {a : Addr} {v old : Value} (P : Wk Z own bytes h p l e R s m args below meth c T locs cells slots) (hd : decode bytes pc = .ok (.putfield i, 3)) (w : (Cond.fieldLink own i O n d).before a0 Z = true) (F : Fld Z h a O n d old) (E : Exa Z h a C) (L : (Cond.lays C O n d).before a0 Z = true ∨ ((Cond.laysFinal C O n d).before a0 Z = true ∧ own = O ∧ meth.name = "<init>")) (wi : (Cond.instantiable C kk).before a0 Z = true) (hty : parseFieldDescriptor d = some ty) (hn : narrow ty v = v) (hf : fits ty v = true) (hq : pc + 3 = q)
    (k : ∀ T₂ h₂ lc, lc.base = a → Wk Z own bytes h₂ p l e R s m args below meth c T₂ (locs ++ [lc]) cells slots → Wr h h₂ a (Jvm.RoadKit.slotOf Z O n d) v → Goes p.tables e below K (T₂.setTop (mkF m q Ls (st)))) : Goes p.tables e below K (T.setTop (mkF m pc Ls (v :: .ref a :: st))) := by
  subst hq
  obtain ⟨T₂, h₂, X2, e2, W2, st2⟩ := putF P.1 P.2.1 P.2.2.2.1 P.2.2.2.2.1 (host := "") (Or.inl w) Via.refl P.2.2.2.2.2 F E L wi hty hn hf (g := mkF m pc Ls (v :: .ref a :: st)) rfl rfl (hb P.2.2.1 hd)
  exact Goes.go st2 (k T₂ h₂ ⟨a, Jvm.RoadKit.slotOf Z O n d⟩ rfl ⟨X2, P.2.1, P.2.2.1, P.2.2.2.1, P.2.2.2.2.1, e2⟩ W2)
theorem objinit {i W : Nat} {a : Addr} (P : Wk Z own bytes h p l e R s m args below meth c T locs cells slots) (hd : decode bytes pc = .ok (.invokespecial i, 3)) (w1 : (Cond.methodLink own i Lib.objectInit).before a0 Z = true) (w2 : (Cond.instanceMethod Lib.objectInit).before a0 Z = true) (w3 : (Cond.code Lib.objectInit ⟨#[0xb1]⟩ 1 none).before a0 Z = true) (hz : Ls.size = c.maxLocals) (hf : 1 ≤ R.frames) (hW : 2 * (mkF m pc Ls (.ref a :: st)).monitorRoom + (st.map fun v => v.category).sum ≤ W) (hl : W + 12 ≤ R.locals) (hq : pc + 3 = q) (k : ∀ T₂, Wk Z own bytes h p l e R s m args below meth c T₂ locs cells slots → Goes p.tables e below K (T₂.setTop (mkF m q Ls (st)))) : Goes p.tables e below K (T.setTop (mkF m pc Ls (.ref a :: st))) := by
  subst hq
  obtain ⟨T₂, X2, e2, st2⟩ := initO P.1 P.2.1 P.2.2.2.1 P.2.2.2.2.1 w1 w2 w3 P.2.2.2.2.2 (g := mkF m pc Ls (.ref a :: st)) rfl hz rfl (hb P.2.2.1 hd) hf hW hl
  exact Goes.go st2 (k T₂ ⟨X2, P.2.1, P.2.2.1, P.2.2.2.1, P.2.2.2.2.1, e2⟩)
theorem cloneArr {ad : String} {ty : FieldType} {i W cap : Nat} {a : Addr} {kc : ClassId} {z : Int32} {vs : List Value} {d : Value} (P : Wk Z own bytes h p l e R s m args below meth c T locs cells slots) (hd : decode bytes pc = .ok (.invokevirtual i, 3)) (w1 : (Cond.methodLink own i ⟨ad, "clone", "()Ljava/lang/Object;"⟩).before a0 Z = true) (w2 : (Cond.sameMethod ad "java/lang/Object" "clone" "()Ljava/lang/Object;").before a0 Z = true) (w3 : (Cond.native ⟨"java/lang/Object", "clone", "()Ljava/lang/Object;"⟩).before a0 Z = true) (w4 : (Cond.instanceMethod ⟨"java/lang/Object", "clone", "()Ljava/lang/Object;"⟩).before a0 Z = true) (w5 : (Cond.selects ad ⟨ad, "clone", "()Ljava/lang/Object;"⟩ ⟨"java/lang/Object", "clone", "()Ljava/lang/Object;"⟩).before a0 Z = true) (w6 : (Cond.castable ad "java/lang/Cloneable").before a0 Z = true) (A : Arv Z h a kc ty z vs d) (E : Exa Z h a ad) (hz : Ls.size = c.maxLocals) (hf : 1 ≤ R.frames) (hW : 2 * (mkF m pc Ls (.ref a :: st)).monitorRoom + (st.map fun v => v.category).sum ≤ W) (hl : W + 14 ≤ R.locals) (hcap : z.toNatClampNeg ≤ cap) (hc : cells + 1 ≤ R.cells) (hs : slots + cap ≤ R.slots) (hq : pc + 3 = q)
    (k : ∀ T₂ h₂ r, r = h.size → Wk Z own bytes h₂ p l e R s m args below meth c T₂ locs (cells + 1) (slots + cap) → Ext h h₂ → Arv Z h₂ r kc ty z vs d → Exa Z h₂ r ad → Goes p.tables e below K (T₂.setTop (mkF m q Ls (.ref r :: st)))) : Goes p.tables e below K (T.setTop (mkF m pc Ls (.ref a :: st))) := by
  subst hq
  obtain ⟨T₂, h₂, X2, e2, E2, A2, B2, st2⟩ := cloneH P.1 P.2.1 P.2.2.2.1 P.2.2.2.2.1 w1 w2 w3 w4 w5 w6 P.2.2.2.2.2 (hs := []) A E (g := mkF m pc Ls (.ref a :: st)) rfl hz rfl (hb P.2.2.1 hd) hf hW hl hcap hc hs
  exact Goes.go st2 (k T₂ h₂ h.size rfl ⟨X2, P.2.1, P.2.2.1, P.2.2.2.1, P.2.2.2.2.1, e2⟩ E2 A2 B2)
theorem invStatic {y : MethodName} {cb : ByteArray} {mL : Nat} {ret : Option FieldType} {i W kc ks : Nat} {as' : Array Value} {Q : Option Value → Heap → List Loc → Prop} {argsL rest : List Value} (P : Wk Z own bytes h p l e R s m args below meth c T locs cells slots) (hd : decode bytes pc = .ok (.invokestatic i, 3)) (w1 : (Cond.methodLink own i y).before a0 Z = true) (w2 : (Cond.static y).before a0 Z = true) (w3 : (Cond.initialized y.cls).before a0 Z = true) (w4 : (Cond.code y cb mL ret).before a0 Z = true) (hy : y.cls ≠ "java/lang/invoke/MethodHandle" ∧ y.cls ≠ "java/lang/invoke/VarHandle") (B : Back l R p e below s args y 3 W (fun A a => a = as' ∧ A.U.heap = h ∧ A.cells + kc ≤ R.cells ∧ A.slots + ks ≤ R.slots) (fun A _ v B => ∃ L, Q v B.U.heap L ∧ B.locs = A.locs ++ L ∧ B.cells = A.cells + kc ∧ B.slots = A.slots + ks)) (ha : argsL.toArray = as') (hst : st = argsL.reverse ++ rest) (hz : Ls.size = c.maxLocals) (hlen : ∀ sig, parseMethodDescriptor y.desc = some sig → argsL.length = sig.parameters.length) (hW : 2 * (mkF m pc Ls st).monitorRoom + (rest.map fun v => v.category).sum ≤ W) (hcc : cells + kc ≤ R.cells) (hss : slots + ks ≤ R.slots) (hq : pc + 3 = q) (k : ∀ v T₂ h₂ L, Q v h₂ L → Wk Z own bytes h₂ p l e R s m args below meth c T₂ (locs ++ L) (cells + kc) (slots + ks) → Goes p.tables e below K (T₂.setTop (mkF m q Ls (match v with | none => rest | some x => x :: rest)))) : Goes p.tables e below K (T.setTop (mkF m pc Ls (st))) := by
  subst hq
  obtain ⟨v, _, ⟨T₂, L₂, c₂, n₂⟩, -, X2, ⟨L, hQ, hl, hc2, hs2⟩, st2⟩ := Jvm.LawKit.callS P.1 P.2.1 (y := y) P.2.2.2.2.1 (mvT P.2.2.2.1 w1) (mvT P.2.2.2.1 w2) (mvT P.2.2.2.1 w3) (mvT P.2.2.2.1 w4) hy B (g := mkF m pc Ls st) rfl hz (argsL := argsL) (rest := rest) hlen hst hW (hb P.2.2.1 hd) (fun _ _ => ⟨ha, P.2.2.2.2.2, hcc, hss⟩)
  dsimp only [Pt.U, Pt.locs, Pt.cells, Pt.slots] at X2 hl hc2 hs2 st2 hQ
  subst hl hc2 hs2
  cases v <;> exact Goes.go st2 (k _ T₂ _ L hQ ⟨X2, P.2.1, P.2.2.1, P.2.2.2.1, P.2.2.2.2.1, rfl⟩)
theorem invSpecial {y : MethodName} {cb : ByteArray} {mL : Nat} {i W kc ks : Nat} {as' : Array Value} {Q : Option Value → Heap → List Loc → Prop} {a : Addr} {argsL rest : List Value} (P : Wk Z own bytes h p l e R s m args below meth c T locs cells slots) (hd : decode bytes pc = .ok (.invokespecial i, 3)) (hin : y.name = "<init>") (w1 : (Cond.methodLink own i y).before a0 Z = true) (w2 : (Cond.instanceMethod y).before a0 Z = true) (w4 : (Cond.code y cb mL none).before a0 Z = true) (hy : y.cls ≠ "java/lang/invoke/MethodHandle" ∧ y.cls ≠ "java/lang/invoke/VarHandle") (B : Back l R p e below s args y 3 W (fun A a => a = as' ∧ A.U.heap = h ∧ A.cells + kc ≤ R.cells ∧ A.slots + ks ≤ R.slots) (fun A _ v B => ∃ L, Q v B.U.heap L ∧ B.locs = A.locs ++ L ∧ B.cells = A.cells + kc ∧ B.slots = A.slots + ks)) (ha : (.ref a :: argsL).toArray = as') (hst : st = argsL.reverse ++ .ref a :: rest) (hz : Ls.size = c.maxLocals) (hlen : ∀ sig, parseMethodDescriptor y.desc = some sig → argsL.length = sig.parameters.length) (hW : 2 * (mkF m pc Ls st).monitorRoom + (rest.map fun v => v.category).sum ≤ W) (hcc : cells + kc ≤ R.cells) (hss : slots + ks ≤ R.slots) (hq : pc + 3 = q) (k : ∀ v T₂ h₂ L, Q v h₂ L → Wk Z own bytes h₂ p l e R s m args below meth c T₂ (locs ++ L) (cells + kc) (slots + ks) → Goes p.tables e below K (T₂.setTop (mkF m q Ls (match v with | none => rest | some x => x :: rest)))) : Goes p.tables e below K (T.setTop (mkF m pc Ls (st))) := by
  subst hq
  obtain ⟨v, _, ⟨T₂, L₂, c₂, n₂⟩, -, X2, ⟨L, hQ, hl, hc2, hs2⟩, st2⟩ := P.1.specialBack P.2.1 (y := y) hin P.2.2.2.2.1 (mvT P.2.2.2.1 w1) (mvT P.2.2.2.1 w2) (mvT P.2.2.2.1 w4) hy B (g := mkF m pc Ls st) rfl hz (Steps.refl _) (a := a) (argsL := argsL) (rest := rest) hlen hst hW (hb P.2.2.1 hd) (fun _ _ => ⟨ha, P.2.2.2.2.2, hcc, hss⟩)
  dsimp only [Pt.U, Pt.locs, Pt.cells, Pt.slots] at X2 hl hc2 hs2 st2 hQ
  subst hl hc2 hs2
  cases v <;> exact Goes.tr st2 (k _ T₂ _ L hQ ⟨X2, P.2.1, P.2.2.1, P.2.2.2.1, P.2.2.2.2.1, rfl⟩)
theorem invVirtual {y z : MethodName} {C : String} {i W kc ks : Nat} {as' : Array Value} {Q : Option Value → Heap → List Loc → Prop} {a : Addr} {argsL rest : List Value} (P : Wk Z own bytes h p l e R s m args below meth c T locs cells slots) (hd : decode bytes pc = .ok (.invokevirtual i, 3)) (w1 : (Cond.methodLink own i y).before a0 Z = true) (w2 : (Cond.declares y).before a0 Z = true) (w3 : (Cond.selects C y z).before a0 Z = true) (w4 : (Cond.instanceMethod z).before a0 Z = true) (nf : NotFace s y) (hy : y.cls ≠ "java/lang/invoke/MethodHandle" ∧ y.cls ≠ "java/lang/invoke/VarHandle") (B : Back l R p e below s args z 3 W (fun A a => a = as' ∧ A.U.heap = h ∧ A.cells + kc ≤ R.cells ∧ A.slots + ks ≤ R.slots) (fun A _ v B => ∃ L, Q v B.U.heap L ∧ B.locs = A.locs ++ L ∧ B.cells = A.cells + kc ∧ B.slots = A.slots + ks)) (E : Exa Z h a C) (ha : (.ref a :: argsL).toArray = as') (hst : st = argsL.reverse ++ .ref a :: rest) (hz : Ls.size = c.maxLocals) (hlen : ∀ sig, parseMethodDescriptor y.desc = some sig → argsL.length = sig.parameters.length) (hW : 2 * (mkF m pc Ls st).monitorRoom + (rest.map fun v => v.category).sum ≤ W) (hcc : cells + kc ≤ R.cells) (hss : slots + ks ≤ R.slots) (hq : pc + 3 = q) (k : ∀ v T₂ h₂ L, Q v h₂ L → Wk Z own bytes h₂ p l e R s m args below meth c T₂ (locs ++ L) (cells + kc) (slots + ks) → Goes p.tables e below K (T₂.setTop (mkF m q Ls (match v with | none => rest | some x => x :: rest)))) : Goes p.tables e below K (T.setTop (mkF m pc Ls (st))) := by
  subst hq
  obtain ⟨cB, kB, r1, -, r3⟩ := isOf P.2.2.2.1 P.2.2.2.2.2 E
  obtain ⟨v, _, ⟨T₂, L₂, c₂, n₂⟩, -, X2, ⟨L, hQ, hl, hc2, hs2⟩, st2⟩ := P.1.virtualBack P.2.1 (y := y) (z := z) P.2.2.2.2.1 (mvT P.2.2.2.1 w1) (mvT P.2.2.2.1 w2) nf (mvT P.2.2.2.1 w3) (mvT P.2.2.2.1 w4) hy B r1 r3 (g := mkF m pc Ls st) rfl hz (Steps.refl _) (argsL := argsL) (rest := rest) hlen hst hW (hb P.2.2.1 hd) (fun _ _ => ⟨ha, P.2.2.2.2.2, hcc, hss⟩)
  dsimp only [Pt.U, Pt.locs, Pt.cells, Pt.slots] at X2 hl hc2 hs2 st2 hQ
  subst hl hc2 hs2
  cases v <;> exact Goes.tr st2 (k _ T₂ _ L hQ ⟨X2, P.2.1, P.2.2.1, P.2.2.2.1, P.2.2.2.2.1, rfl⟩)
theorem mfBack {y : MethodName} {cb : ByteArray} {mL : Nat} {ret : Option FieldType} {rm : Room} {len W : Nat} {as' : Array Value} {Q : Option Value → Heap → List Loc → Prop} (M : MF l Z y cb mL ret [] rm as' h Q) (hZ : Z.Warmed39 s.vm) (wc : (Cond.code y cb mL ret).before a0 Z = true) (wz : (Cond.initialized y.cls).before a0 Z = true) (hf : rm.frames + 1 ≤ R.frames) (hl : W + (mL + 11) + rm.locals ≤ R.locals) : Back l R p e below s args y len W (fun A a => a = as' ∧ A.U.heap = h ∧ A.cells + rm.cells ≤ R.cells ∧ A.slots + rm.slots ≤ R.slots) (fun A _ v B => ∃ L, Q v B.U.heap L ∧ B.locs = A.locs ++ L ∧ B.cells = A.cells + rm.cells ∧ B.slots = A.slots + rm.slots) := backOf (Q := Q) M hZ wc wz hf hl
theorem nfs {C : String} {y : MethodName} (P : Wk Z own bytes h p l e R s m args below meth c T locs cells slots) (w : (Cond.selects C y y).before a0 Z = true) : NotFace s y := notFace_of_selects (args := #[]) (mvT P.2.2.2.1 w)
theorem cS {y : MethodName} {ret : Option FieldType} {cb : ByteArray} {mL nn : Nat} {rm : Room} {i W : Nat} {Q : Option Value → Heap → List Loc → Prop} {argsL rest : List Value} (P : Wk Z own bytes h p l e R s m args below meth c T locs cells slots) (hd : decode bytes pc = .ok (.invokestatic i, 3)) (w1 : (Cond.methodLink own i y).before a0 Z = true) (sw : SW Z a0 y cb mL ret nn) (M : MF l Z y cb mL ret [] rm argsL.toArray h Q) (hf : rm.frames + 1 ≤ R.frames) (hl : W + (mL + 11) + rm.locals ≤ R.locals) (hst : st = argsL.reverse ++ rest) (hz : Ls.size = c.maxLocals) (hn : argsL.length = nn) (hW : (rest.map fun v => v.category).sum = W) (hcc : cells + rm.cells ≤ R.cells) (hss : slots + rm.slots ≤ R.slots) (hq : pc + 3 = q) (k : ∀ v T₂ h₂ L, Q v h₂ L → Wk Z own bytes h₂ p l e R s m args below meth c T₂ (locs ++ L) (cells + rm.cells) (slots + rm.slots) → Goes p.tables e below K (T₂.setTop (mkF m q Ls (match v with | none => rest | some x => x :: rest)))) : Goes p.tables e below K (T.setTop (mkF m pc Ls (st))) :=
  invStatic P hd w1 sw.1 sw.2.1 sw.2.2.1 sw.2.2.2.1 (mfBack (W := W) M P.2.2.2.1 sw.2.2.1 sw.2.1 hf hl) rfl hst hz (lenW sw.2.2.2.2 hn) (w0 hW) hcc hss hq k
theorem cI {y : MethodName} {a : Addr} {cb : ByteArray} {mL nn : Nat} {rm : Room} {i W : Nat} {Q : Option Value → Heap → List Loc → Prop} {argsL rest : List Value} (P : Wk Z own bytes h p l e R s m args below meth c T locs cells slots) (hd : decode bytes pc = .ok (.invokespecial i, 3)) (w1 : (Cond.methodLink own i y).before a0 Z = true) (sw : IW Z a0 y cb mL nn) (M : MF l Z y cb mL none [] rm (.ref a :: argsL).toArray h Q) (hf : rm.frames + 1 ≤ R.frames) (hl : W + (mL + 11) + rm.locals ≤ R.locals) (hst : st = argsL.reverse ++ .ref a :: rest) (hz : Ls.size = c.maxLocals) (hn : argsL.length = nn) (hW : (rest.map fun v => v.category).sum = W) (hcc : cells + rm.cells ≤ R.cells) (hss : slots + rm.slots ≤ R.slots) (hq : pc + 3 = q) (k : ∀ v T₂ h₂ L, Q v h₂ L → Wk Z own bytes h₂ p l e R s m args below meth c T₂ (locs ++ L) (cells + rm.cells) (slots + rm.slots) → Goes p.tables e below K (T₂.setTop (mkF m q Ls (match v with | none => rest | some x => x :: rest)))) : Goes p.tables e below K (T.setTop (mkF m pc Ls (st))) :=
  invSpecial P hd sw.1 w1 sw.2.1 sw.2.2.2.1 sw.2.2.2.2.1 (mfBack (W := W) M P.2.2.2.1 sw.2.2.2.1 sw.2.2.1 hf hl) rfl hst hz (lenW sw.2.2.2.2.2 hn) (w0 hW) hcc hss hq k
theorem cV {y z : MethodName} {ret : Option FieldType} {a : Addr} {C : String} {cb : ByteArray} {mL nn : Nat} {rm : Room} {i W : Nat} {Q : Option Value → Heap → List Loc → Prop} {argsL rest : List Value} (P : Wk Z own bytes h p l e R s m args below meth c T locs cells slots) (hd : decode bytes pc = .ok (.invokevirtual i, 3)) (w1 : (Cond.methodLink own i y).before a0 Z = true) (sw : VW Z a0 C y z cb mL ret nn) (nf : NotFace s y) (E : Exa Z h a C) (M : MF l Z z cb mL ret [] rm (.ref a :: argsL).toArray h Q) (hf : rm.frames + 1 ≤ R.frames) (hl : W + (mL + 11) + rm.locals ≤ R.locals) (hst : st = argsL.reverse ++ .ref a :: rest) (hz : Ls.size = c.maxLocals) (hn : argsL.length = nn) (hW : (rest.map fun v => v.category).sum = W) (hcc : cells + rm.cells ≤ R.cells) (hss : slots + rm.slots ≤ R.slots) (hq : pc + 3 = q) (k : ∀ v T₂ h₂ L, Q v h₂ L → Wk Z own bytes h₂ p l e R s m args below meth c T₂ (locs ++ L) (cells + rm.cells) (slots + rm.slots) → Goes p.tables e below K (T₂.setTop (mkF m q Ls (match v with | none => rest | some x => x :: rest)))) : Goes p.tables e below K (T.setTop (mkF m pc Ls (st))) :=
  invVirtual P hd w1 sw.1 sw.2.1 sw.2.2.1 nf sw.2.2.2.2.2.1 (mfBack (W := W) M P.2.2.2.1 sw.2.2.2.2.1 sw.2.2.2.1 hf hl) E rfl hst hz (lenW sw.2.2.2.2.2.2 hn) (w0 hW) hcc hss hq k
theorem retV {kc ks : Nat} {Q : Option Value → Heap → List Loc → Prop}  (P : Wk Z own bytes h p l e R s m args below meth c T locs cells slots) (hd : decode bytes pc = .ok (.return_, 1)) (hret : meth.sig.returnType = none) (hlk : meth.locks = false) (hc : cells ≤ kc) (hs : slots ≤ ks) (hQ : Q none h locs) : Goes p.tables e below (KE Q s kc ks) (T.setTop (mkF m pc Ls ([]))) := by
  obtain ⟨fs, hr, hrun, hended, hW, hsame⟩ := P.1.leave (v := none) (fun h => by first | rfl | (rw [hret] at h; cases h)) hlk
  exact ⟨_, _, P.1.returnOut P.2.1 hret (hb P.2.2.1 hd) hr, hrun, hended, _, _, rfl, by show Q _ T.heap _; rw [P.2.2.2.2.2]; exact hQ, ⟨_, rfl⟩, hW, hsame.mono hc hs⟩
theorem retZ {kc ks : Nat} {Q : Option Value → Heap → List Loc → Prop} {t : FieldType} {z : Int32} (P : Wk Z own bytes h p l e R s m args below meth c T locs cells slots) (hd : decode bytes pc = .ok (.ireturn, 1)) (hret : meth.sig.returnType = some t) (ht : t = .boolean ∨ t = .byte ∨ t = .char ∨ t = .short) (hlk : meth.locks = false) (hc : cells ≤ kc) (hs : slots ≤ ks) (hQ : Q (some (.int (nar t z))) h locs) : Goes p.tables e below (KE Q s kc ks) (T.setTop (mkF m pc Ls (.int z :: st))) := by
  obtain ⟨fs, hr, hrun, hended, hW, hsame⟩ := P.1.leave (v := (some (.int (nar t z)))) (fun h => by first | rfl | (rw [hret] at h; cases h)) hlk
  exact ⟨_, _, retN P.1 P.2.1 hret ht (hb P.2.2.1 hd) hr, hrun, hended, _, _, rfl, by show Q _ T.heap _; rw [P.2.2.2.2.2]; exact hQ, ⟨_, rfl⟩, hW, hsame.mono hc hs⟩
theorem retI {kc ks : Nat} {Q : Option Value → Heap → List Loc → Prop} {z : Int32} (P : Wk Z own bytes h p l e R s m args below meth c T locs cells slots) (hd : decode bytes pc = .ok (.ireturn, 1)) (hret : meth.sig.returnType = some .int) (hlk : meth.locks = false) (hc : cells ≤ kc) (hs : slots ≤ ks) (hQ : Q (some (.int z)) h locs) : Goes p.tables e below (KE Q s kc ks) (T.setTop (mkF m pc Ls (.int z :: st))) := by
  obtain ⟨fs, hr, hrun, hended, hW, hsame⟩ := P.1.leave (v := (some (.int z))) (fun h => by first | rfl | (rw [hret] at h; cases h)) hlk
  exact ⟨_, _, retOut P.1 P.2.1 hret rfl (Or.inl ⟨rfl, Or.inl rfl, _, rfl⟩) (hb P.2.2.1 hd) hr, hrun, hended, _, _, rfl, by show Q _ T.heap _; rw [P.2.2.2.2.2]; exact hQ, ⟨_, rfl⟩, hW, hsame.mono hc hs⟩
theorem retA {kc ks : Nat} {Q : Option Value → Heap → List Loc → Prop} {t : FieldType} {v : Value} (P : Wk Z own bytes h p l e R s m args below meth c T locs cells slots) (hd : decode bytes pc = .ok (.areturn, 1)) (hret : meth.sig.returnType = some t) (ht : t.isReference = true) (hv : v.isRef = true) (hn : narrow t v = v) (hlk : meth.locks = false) (hc : cells ≤ kc) (hs : slots ≤ ks) (hQ : Q (some v) h locs) : Goes p.tables e below (KE Q s kc ks) (T.setTop (mkF m pc Ls (v :: st))) := by
  obtain ⟨fs, hr, hrun, hended, hW, hsame⟩ := P.1.leave (v := (some v)) (fun h => by first | rfl | (rw [hret] at h; cases h)) hlk
  exact ⟨_, _, retOut P.1 P.2.1 hret hn (Or.inr (Or.inr (Or.inr (Or.inr ⟨rfl, ht, hv⟩)))) (hb P.2.2.1 hd) hr, hrun, hended, _, _, rfl, by show Q _ T.heap _; rw [P.2.2.2.2.2]; exact hQ, ⟨_, rfl⟩, hW, hsame.mono hc hs⟩
theorem Wk.up {c2 s2 : Nat} (P : Wk Z own bytes h p l e R s m args below meth c T locs cells slots) (hc : cells ≤ c2) (hs : slots ≤ s2) : Wk Z own bytes h p l e R s m args below meth c T locs c2 s2 := ⟨P.1.mono hc hs, P.2⟩
end Steps
theorem refc {v : Value} (h : v.isRef = true) : v = .null ∨ ∃ a, v = .ref a := by
  cases v <;> first | exact Or.inl rfl | exact Or.inr ⟨_, rfl⟩ | cases h
theorem Ext.tr {h h' h2 : Heap} (A : Ext h h') (B : Ext h' h2) : Ext h h2 := ⟨Nat.le_trans A.1 B.1, fun a c q => B.2 a c (A.2 a c q)⟩
theorem Ext.wr {h h' h2 : Heap} {a : Addr} {sl : Nat} {v : Value} (A : Ext h h') (W : Wr h' h2 a sl v) (q : h.size ≤ a) : Ext h h2 := ⟨by rw [W.size]; exact A.1, fun b c hb => by
  have hb2 := A.2 b c hb
  obtain ⟨c2, g1, -, -, -, g5, -⟩ := wr_at W hb2
  have hne : b ≠ a := fun e => by subst e; exact absurd (Array.getElem?_eq_some_iff.mp hb).1 (Nat.not_lt.mpr q)
  rw [g1, g5 hne]⟩
theorem Ext.kp {h h' h2 : Heap} {ws : List Addr} (A : Ext h h') (K : Keep h' h2 ws) (q : ∀ x ∈ ws, h.size ≤ x) : Ext h h2 := ⟨Nat.le_trans A.1 K.1, fun b c hb => K.2.1 b c (A.2 b c hb) fun hm => absurd (Array.getElem?_eq_some_iff.mp hb).1 (Nat.not_lt.mpr (q b hm))⟩
theorem Fr.one {k : Nat} {L : List Loc} {lc : Loc} {a : Addr} (N : Fr k L) (e : lc.base = a) (q : k ≤ a) : Fr k (L ++ [lc]) := N.app fun y hy => by cases List.mem_singleton.mp hy; rw [e]; exact q
end Own
end Jvm.Pilot.@@N@@
namespace Jvm.Pilot.@@N@@
namespace Own
open Jvm Jvm.ClassFile Sem Op Lib Jvm.Free Jvm.Stand Jvm.LawKit Jvm.RoadKit Bundle
theorem lo_rng (x : Int32) : ¬ (x &&& 255) < 0 ∧ ¬ (255 : Int32) < (x &&& 255) := by
  have h := c_mask x 255 8 (by decide) (by decide)
  have h0 : (0 : Int32).toInt = 0 := rfl
  have h5 : (255 : Int32).toInt = 255 := rfl
  constructor
  · rw [Int32.lt_iff_toInt_lt, h0, h]; omega
  · rw [Int32.lt_iff_toInt_lt, h5, h]; omega
theorem i2c_id16 {x : Int32} (h : ¬ x < 0 ∧ ¬ (65535 : Int32) < x) : x.toUInt32.toUInt16.toUInt32.toInt32 = x := by
  obtain ⟨g1, g2, g3⟩ := c_i2c x
  have h0 : (0 : Int32).toInt = 0 := rfl
  have h5 : (65535 : Int32).toInt = 65535 := rfl
  obtain ⟨a, b⟩ := h
  rw [Int32.lt_iff_toInt_lt, h0] at a
  rw [Int32.lt_iff_toInt_lt, h5] at b
  exact Int32.toInt_inj.mp (by omega)
theorem up16 {x : Int32} (h : ¬ x < 0 ∧ ¬ (255 : Int32) < x) : ¬ x < 0 ∧ ¬ (65535 : Int32) < x := by
  refine ⟨h.1, fun q => h.2 ?_⟩
  have h5 : (65535 : Int32).toInt = 65535 := rfl
  have h2 : (255 : Int32).toInt = 255 := rfl
  rw [Int32.lt_iff_toInt_lt] at q ⊢
  omega
theorem i2c_id {x : Int32} (h : ¬ x < 0 ∧ ¬ (255 : Int32) < x) : x.toUInt32.toUInt16.toUInt32.toInt32 = x := i2c_id16 (up16 h)
theorem nar_id {x : Int32} (h : ¬ x < 0 ∧ ¬ (255 : Int32) < x) : nar .char x = x := i2c_id h
theorem nar_b (x : Int32) : nar .byte x.toInt8.toInt32 = x.toInt8.toInt32 := by simp [nar]
theorem fits_b (x : Int32) : fits .byte (.int x.toInt8.toInt32) = true := fits_nar_byte x
theorem ch0 {P : Int32 → Prop} : ∀ c ∈ ([] : List Int32), P c := fun _ q => nomatch q
theorem chS {P : Int32 → Prop} {a : Int32} {cs : List Int32} (h : P a) (r : ∀ c ∈ cs, P c) : ∀ c ∈ a :: cs, P c := fun c q => (List.mem_cons.mp q).elim (fun u => u ▸ h) (r c)
/-- the object at a is a compact String of the chars cs, each 0 to 255 -/
def Str (Z : State) (h : Heap) (a : Addr) (cs : List Int32) : Prop :=
  (∃ t kb, Exa Z h a "java/lang/String" ∧ Fld Z h a "java/lang/String" "value" "[B" (.ref t) ∧ Fld Z h a "java/lang/String" "coder" "B" (.int 0) ∧ Arv Z h t kb .byte (Int32.ofNat cs.length) ((cs.map fun c => c.toInt8.toInt32).map Value.int) (.int 0)) ∧ (∀ c ∈ cs, ¬ c < 0 ∧ ¬ (255 : Int32) < c) ∧ cs.length ≤ 4000
theorem Str.ext {Z : State} {h h' : Heap} {a : Addr} {cs : List Int32} (S : Str Z h a cs) (E : Ext h h') : Str Z h' a cs := by
  obtain ⟨⟨t, kb, s1, s2, s3, s4⟩, r⟩ := S
  exact ⟨⟨t, kb, s1.ext E, s2.ext E, s3.ext E, s4.ext E⟩, r⟩
theorem Str.exa {Z : State} {h : Heap} {a : Addr} {cs : List Int32} (S : Str Z h a cs) : Exa Z h a "java/lang/String" := by obtain ⟨⟨t, kb, s1, -⟩, -⟩ := S; exact s1
theorem Str.kp1 {Z : State} {h h' : Heap} {a x : Addr} {cs : List Int32} {C : String} {a0 : Array Value} {n : Nat} (S : Str Z h a cs) (K : Keep h h' [x]) (E : Exa Z h x C) (hC : C ≠ "java/lang/String") (wi : (Jvm.Cond.instantiable C n).before a0 Z = true) : Str Z h' a cs := by
  obtain ⟨⟨t, kb, s1, s2, s3, s4⟩, r⟩ := S
  have n1 : a ≠ x := fun e => Exa.ne E s1 hC e.symm
  have n2 : t ≠ x := fun e => Exa.neArv E s4 wi e.symm
  exact ⟨⟨t, kb, s1.keep K, s2.keep K (ninS n1 nin0), s3.keep K (ninS n1 nin0), s4.keep K (ninS n2 nin0)⟩, r⟩
theorem Sta_kp1 {Z : State} {h h' : Heap} {x : Addr} {C D n d : String} {v : Value} (S : Sta Z h D n d v) (K : Keep h h' [x]) (E : Exa Z h x C) : Sta Z h' D n d v := by
  obtain ⟨cf, i, k, f, st, cell, t1, t2, t3, t4, t5, t6, t7⟩ := S
  obtain ⟨cx, kx, e1, -, -, e4, -⟩ := E
  have ne : st ≠ x := fun q => by
    subst q
    cases t5.symm.trans e1
    rw [e4] at t6
    cases t6
  exact ⟨cf, i, k, f, st, cell, t1, t2, t3, t4, K.2.1 _ _ t5 (ninS ne nin0), t6, t7⟩
theorem byte_inj {x y : Int32} (hx : ¬ x < 0 ∧ ¬ (255 : Int32) < x) (hy : ¬ y < 0 ∧ ¬ (255 : Int32) < y) (h : x.toInt8.toInt32 = y.toInt8.toInt32) : x = y := by
  obtain ⟨a1, -, -⟩ := c_i2b x
  obtain ⟨b1, -, -⟩ := c_i2b y
  have h0 : (0 : Int32).toInt = 0 := rfl
  have h5 : (255 : Int32).toInt = 255 := rfl
  have e : x.toInt8.toInt32.toInt = y.toInt8.toInt32.toInt := by rw [h]
  obtain ⟨u1, u2⟩ := hx
  obtain ⟨v1, v2⟩ := hy
  rw [Int32.lt_iff_toInt_lt] at u1 u2 v1 v2
  exact Int32.toInt_inj.mp (by omega)
theorem bytes_inj : ∀ {cs ds : List Int32}, (∀ c ∈ cs, ¬ c < 0 ∧ ¬ (255 : Int32) < c) → (∀ c ∈ ds, ¬ c < 0 ∧ ¬ (255 : Int32) < c) → (cs.map fun c => c.toInt8.toInt32) = (ds.map fun c => c.toInt8.toInt32) → cs = ds
  | [], [], _, _, _ => rfl
  | [], _ :: _, _, _, h => by simp at h
  | _ :: _, [], _, _, h => by simp at h
  | c :: cs, d :: ds, hc, hd, h => by
    simp only [List.map_cons, List.cons.injEq] at h
    rw [byte_inj (hc c (by simp)) (hd d (by simp)) h.1, bytes_inj (fun x hx => hc x (by simp [hx])) (fun x hx => hd x (by simp [hx])) h.2]
theorem ofNat_inj {n k : Nat} (hn : n ≤ 4000) (hk : k ≤ 4000) (h : Int32.ofNat n = Int32.ofNat k) : n = k := by
  have a : (Int32.ofNat n).toInt = n := Int32.toInt_ofNat_of_lt (by omega)
  have b : (Int32.ofNat k).toInt = k := Int32.toInt_ofNat_of_lt (by omega)
  rw [h, b] at a
  omega
theorem Str.inj {Z : State} {h : Heap} {a : Addr} {cs ds : List Int32} (S : Str Z h a cs) (T : Str Z h a ds) : cs = ds := by
  obtain ⟨⟨t, kb, -, s2, -, c1, A1, -, z1, -, H1, -⟩, p1, l1⟩ := S
  obtain ⟨⟨u, ku, -, t2, -, c2, A2, -, z2, -, H2, -⟩, p2, l2⟩ := T
  have e : (Value.ref t) = .ref u := Classical.byContradiction fun q => Fld.ne s2 t2 q rfl
  cases e
  cases A1.1.symm.trans A2.1
  have m1 : (Int32.ofNat cs.length).toNatClampNeg = cs.length := by simp only [Int32.toNatClampNeg, Int32.toInt_ofNat_of_lt (show cs.length < 2 ^ 31 by omega)]; rfl
  have m2 : (Int32.ofNat ds.length).toNatClampNeg = ds.length := by simp only [Int32.toNatClampNeg, Int32.toInt_ofNat_of_lt (show ds.length < 2 ^ 31 by omega)]; rfl
  have n1 : cs.length = ds.length := by omega
  refine bytes_inj p1 p2 (List.ext_getElem (by simp [n1]) fun i g1 g2 => ?_)
  have q1 := H1 i (by simp at g1; omega)
  have q2 := H2 i (by simp at g1; omega)
  rw [q1] at q2
  have q3 := Option.some.inj q2
  simp only [List.getD_eq_getElem?_getD] at q3
  simp at g1
  simp [g1, n1 ▸ g1] at q3
  simpa using q3
theorem Str.up {Z : State} {h : Heap} {a : Addr} {cs : List Int32} (S : Str Z h a cs) : ∀ c ∈ cs, ¬ c < 0 ∧ ¬ (65535 : Int32) < c := fun c hc => up16 (S.2.1 c hc)
end Own
end Jvm.Pilot.@@N@@
namespace Jvm.Pilot.@@N@@
namespace Own
open Jvm Jvm.ClassFile Sem Op Lib Jvm.Free Jvm.Stand Jvm.LawKit Jvm.RoadKit Bundle
abbrev KEH (Z : State) (EL : List (String × Nat)) (Q : Option Value → Heap → List Loc → Prop) (s : State) (kc ks : Nat) : State → Outcome → Prop := fun s₂ o => ∃ v L, o = .returned v ∧ Q v s₂.heap L ∧ CHr Z EL s.vm s.heap s₂.vm s₂.heap ∧ ReturnedEndW s o s₂ L kc ks
section Held
variable {Z : State} {own : String} {bytes : ByteArray} {h h' : Heap} {p : Program} {l : Launch} {e : Env} {R : Room} {s : State} {m : MethodId} {args : Array Value} {below : List Frame} {meth : Method} {c : Code} {T : State} {locs : List Loc} {cells slots : Nat}
  {K : State → Outcome → Prop} {a0 : Array Value} {pc q : Nat} {Ls : Array Slot} {st : List Value} {vm : Vm} {h0 : Heap} {EL : List (String × Nat)}
/-- where a walk that may intern stands: since its start s, with the tables vm -/
def Hd (Z : State) (EL : List (String × Nat)) (s : State) (vm : Vm) (h0 h : Heap) : Prop := (∃ k, s.Since vm k ∧ k ≤ h.size) ∧ CHr Z EL s.vm h0 vm h
theorem Hd.start (H : CHv Z EL s.vm h0) : Hd Z EL s s.vm h0 h0 := ⟨⟨0, (State.WarmedH.refl s).since 0, Nat.zero_le _⟩, CHr.refl H⟩
theorem Hd.ext (H : Hd Z EL s vm h0 h) (E : Ext h h') : Hd Z EL s vm h0 h' := by
  obtain ⟨⟨k, a, b⟩, r⟩ := H
  exact ⟨⟨k, a, Nat.le_trans b E.1⟩, r.trans (CHr.ext E r.1)⟩
theorem Hd.wr {a : Addr} {sl : Nat} {v : Value} (H : Hd Z EL s vm h0 h) (W : Wr h h' a sl v) (S : Safe Z EL vm h a) : Hd Z EL s vm h0 h' := by
  obtain ⟨⟨k, a, b⟩, r⟩ := H
  exact ⟨⟨k, a, by rw [W.size]; exact b⟩, r.trans (CHr.wr W S r.1)⟩
theorem Hd.kp {ws : List Addr} (H : Hd Z EL s vm h0 h) (Kp : Keep h h' ws) (S : ∀ x ∈ ws, Safe Z EL vm h x) : Hd Z EL s vm h0 h' := by
  obtain ⟨⟨k, a, b⟩, r⟩ := H
  exact ⟨⟨k, a, Nat.le_trans b Kp.1⟩, r.trans (CHr.keep Kp S r.1)⟩
def MFH (l : Launch) (Z : State) (EL : List (String × Nat)) (y : MethodName) (cb : ByteArray) (mx : Nat) (rt : Option FieldType) (ws : List Jvm.Cond) (R : Room) (as' : Array Value) (sf : List Addr) (h0 : Heap) (Q : Option Value → Heap → List Loc → Prop) : Prop :=
  MetFree l y (head1 (Jvm.Cond.code y cb mx rt :: ws) R) (fun a U => a = as' ∧ Z.Warmed39 U.vm ∧ U.heap = h0 ∧ CHv Z EL U.vm h0 ∧ ∀ x ∈ sf, Safe Z EL U.vm h0 x) (fun _ _ _ _ _ => True) (fun _ U o U' => ∃ v L, o = .returned v ∧ Q v U'.heap L ∧ CHr Z EL U.vm U.heap U'.vm U'.heap ∧ ReturnedEndW U o U' L R.cells R.slots)
theorem MFH.of {y : MethodName} {cb : ByteArray} {mx : Nat} {rt : Option FieldType} {ws : List Jvm.Cond} {as' : Array Value} {sf : List Addr} {Q : Option Value → Heap → List Loc → Prop} {n : Nat} (ho : y.cls = own) (hn : mx = n) (pn : plainFor y = true)
    (k : ∀ (p : Program) (e : Env) (s : State) (m : MethodId) (below : List Frame) (meth : Method) (c : Code) (s₁ : State), (∀ {j : Nat}, j = n → j = c.maxLocals) → meth.locks = false → meth.sig.returnType = rt → meth.name = y.name → s.heap = h0 → Hd Z EL s s.vm h0 h0 → (∀ x ∈ sf, Safe Z EL s.vm h0 x) → Wk Z own cb h0 p l e R (s.setVm s.vm) m as' below meth c s₁ [] 0 0 → Goes p.tables e below (KEH Z EL Q s R.cells R.slots) (s₁.setTop (entryFrame m as' mx))) : MFH l Z EL y cb mx rt ws R as' sf h0 Q := by
  subst ho hn
  refine MetFree.of_bodySF pn hisR ?_
  intro p e s m args below meth c s₁ Bd hml0 hP hK
  obtain ⟨rfl, hZ, hh, hCH, hSf⟩ := hP
  exact k p e s m below meth c s₁ (fun q => q.trans hml0.symm) Bd.notSynchronized Bd.returns (name_of_methodNamed Bd.named Bd.method).1 hh (Hd.start hCH) hSf ⟨Stand.of_body Bd, Bd.exec, Bd.bytes, hZ, findClass_of_methodNamed Bd.named, by rw [← hh, Bd.state]; rfl⟩
theorem backH {y : MethodName} {cb : ByteArray} {maxL : Nat} {ret : Option FieldType} {rm : Room} {len W : Nat} {as' : Array Value} {Q : Option Value → Heap → List Loc → Prop} {sf : List Addr}
    (hM : MetFree l y (head1 [Cond.code y cb maxL ret] rm) (fun a U => a = as' ∧ Z.Warmed39 U.vm ∧ U.heap = h ∧ CHv Z EL U.vm h ∧ ∀ x ∈ sf, Safe Z EL U.vm h x) (fun _ _ _ _ _ => True) (fun _ U o U' => ∃ v L, o = .returned v ∧ Q v U'.heap L ∧ CHr Z EL U.vm U.heap U'.vm U'.heap ∧ ReturnedEndW U o U' L rm.cells rm.slots))
    (hZ : Z.Warmed39 vm) (wc : (Cond.code y cb maxL ret).before a0 Z = true) (wz : (Cond.initialized y.cls).before a0 Z = true) (hf : rm.frames + 1 ≤ R.frames) (hl : W + (maxL + 11) + rm.locals ≤ R.locals) (hEL : EW Z a0 EL) (H : CHv Z EL vm h) (hsf : ∀ x ∈ sf, x < h.size ∧ Safe Z EL vm h x) :
    BackS l R p e below (s.setVm vm) args y len W (fun A a => a = as' ∧ A.U.heap = h ∧ A.cells + rm.cells ≤ R.cells ∧ A.slots + rm.slots ≤ R.slots)
      (fun A _ v B => ∃ L, Q v B.U.heap L ∧ B.locs = A.locs ++ L ∧ B.cells = A.cells + rm.cells ∧ B.slots = A.slots + rm.slots ∧ CHr Z EL vm h B.U.vm B.U.heap) := by
  refine BackS.of_freeW (bytes := cb) (maxL := maxL) (ret := ret) (E := fun _ first o t L k n => k = rm.cells ∧ n = rm.slots ∧ (∃ v, o = .returned v ∧ Q v t.heap L) ∧ CHr Z EL first.vm first.heap t.vm t.heap) hM hf hl ?_ ?_ (fun _ _ _ _ _ _ _ _ _ => trivial) ?_ ?_
  · intro m meth c A a Y hp
    have hU : Z.Warmed39 A.U.vm := wtrans (s := s.setVm vm) hZ Y.warmed
    exact ⟨by show (Cond.and _ .tt).before a A.U = true; rw [Cond.before_and, mv hU wc]; rfl, mv hU wc, mv hU wz, hp.2.2.1, hp.2.2.2⟩
  · intro m meth c A a g mk Y hp
    have q := CHv.at Y hZ hEL H
    exact ⟨hp.1, wtrans (s := s.setVm vm) hZ Y.warmed, hp.2.1, q.1, fun x hx => q.safe (hsf x hx).1 (hsf x hx).2⟩
  · rintro _ _ _ _ ⟨v, L, h1, h2, h3, h4⟩
    exact ⟨L, _, _, h4, rfl, rfl, ⟨v, h1, h2⟩, h3⟩
  · rintro m meth c A a g mk v t L k n Y hp - - ⟨e1, e2, ⟨v', e3, e4⟩, e5⟩
    cases e3
    subst e1 e2
    refine ⟨L, e4, rfl, rfl, rfl, (CHv.at Y hZ hEL H).trans ?_⟩
    rw [← hp.2.1]
    exact e5
theorem ldcStr {i n : Nat} {text : String} {cs : List Int32} (P : Wk Z own bytes h p l e R (s.setVm vm) m args below meth c T locs cells slots) (H : Hd Z EL s vm h0 h) (hd : decode bytes pc = .ok (.ldc i, 2)) (w : (Cond.stringLink own i text).before a0 Z = true) (wS : ∀ a ∈ Bundle.stringAtoms, a.before a0 Z = true) (hEL : EW Z a0 EL) (hmem : (own, i) ∈ EL)
    (ht : (∀ c ∈ text.toList, c.toNat < 256) ∧ text.toList.map (fun c => Value.int (Jvm.Lit.byteI c.toNat.toUInt16)) = (cs.map fun c => c.toInt8.toInt32).map Value.int) (hp : ∀ c ∈ cs, ¬ c < 0 ∧ ¬ (255 : Int32) < c) (hl : cs.length ≤ 4000) (hz : ¬ (Int32.ofNat cs.length) < 0) (hz2 : (Int32.ofNat cs.length).toNatClampNeg = ((cs.map fun c => c.toInt8.toInt32).map Value.int).length)
    (hn : 4 * text.toList.length ≤ n) (hbig : n ≤ 536870912) (hc : cells + 2 ≤ R.cells) (hs : slots + (n + 4) ≤ R.slots) (hq : pc + 2 = q)
    (k : ∀ T₂ vm₂ h₂ a, Wk Z own bytes h₂ p l e R (s.setVm vm₂) m args below meth c T₂ locs (cells + 2) (slots + (n + 4)) → Hd Z EL s vm₂ h0 h₂ → CHr Z EL vm h vm₂ h₂ → Ext h h₂ → Str Z h₂ a cs → Goes p.tables e below K (T₂.setTop (mkF m (q) Ls (.ref a :: st)))) : Goes p.tables e below K (T.setTop (mkF m pc Ls (st))) := by
  subst hq
  obtain ⟨⟨k0, S0, b0⟩, r0⟩ := H
  obtain ⟨a, T₂, h₂, k1, b, kb, X2, e2, E2, S2, b2, hW, hf, g1, g2, g3, g4, -, -, r2, -, -, st2⟩ := ldcCH P.1 P.2.1 P.2.2.2.1 P.2.2.2.2.1 w wS P.2.2.2.2.2 S0 b0 hEL hmem r0.1 ht hz hz2 (g := mkF m pc Ls st) rfl (hb P.2.2.1 hd) hn hbig hc hs
  exact Goes.go st2 (k T₂ T₂.vm h₂ a ⟨X2, P.2.1, P.2.2.1, hW, hf, e2⟩ ⟨⟨k1, S2, b2⟩, r0.trans r2⟩ r2 E2 ⟨⟨b, kb, g1, g3, g2, g4⟩, hp, hl⟩)
theorem invStaticH {y : MethodName} {cb : ByteArray} {mL : Nat} {ret : Option FieldType} {i W kc ks : Nat} {as' : Array Value} {Q : Option Value → Heap → List Loc → Prop} {argsL rest : List Value} (P : Wk Z own bytes h p l e R (s.setVm vm) m args below meth c T locs cells slots) (H : Hd Z EL s vm h0 h) (hd : decode bytes pc = .ok (.invokestatic i, 3)) (w1 : (Cond.methodLink own i y).before a0 Z = true) (w2 : (Cond.static y).before a0 Z = true) (w3 : (Cond.initialized y.cls).before a0 Z = true) (w4 : (Cond.code y cb mL ret).before a0 Z = true) (hy : y.cls ≠ "java/lang/invoke/MethodHandle" ∧ y.cls ≠ "java/lang/invoke/VarHandle") (B : BackS l R p e below (s.setVm vm) args y 3 W (fun A a => a = as' ∧ A.U.heap = h ∧ A.cells + kc ≤ R.cells ∧ A.slots + ks ≤ R.slots) (fun A _ v B => ∃ L, Q v B.U.heap L ∧ B.locs = A.locs ++ L ∧ B.cells = A.cells + kc ∧ B.slots = A.slots + ks ∧ CHr Z EL vm h B.U.vm B.U.heap)) (ha : argsL.toArray = as') (hst : st = argsL.reverse ++ rest) (hz : Ls.size = c.maxLocals) (hlen : ∀ sig, parseMethodDescriptor y.desc = some sig → argsL.length = sig.parameters.length) (hW : 2 * (mkF m pc Ls st).monitorRoom + (rest.map fun v => v.category).sum ≤ W) (hcc : cells + kc ≤ R.cells) (hss : slots + ks ≤ R.slots) (hq : pc + 3 = q) (k : ∀ v T₂ vm₂ h₂ L, Q v h₂ L → Wk Z own bytes h₂ p l e R (s.setVm vm₂) m args below meth c T₂ (locs ++ L) (cells + kc) (slots + ks) → Hd Z EL s vm₂ h0 h₂ → CHr Z EL vm h vm₂ h₂ → Goes p.tables e below K (T₂.setTop (mkF m q Ls (match v with | none => rest | some x => x :: rest)))) : Goes p.tables e below K (T.setTop (mkF m pc Ls (st))) := by
  subst hq
  obtain ⟨v, _, ⟨T₂, L₂, c₂, n₂⟩, -, X2, S2, b2, ⟨L, hQ, hl, hc2, hs2, r2⟩, st2⟩ := callSS P.1 P.2.1 (y := y) P.2.2.2.2.1 (mvT P.2.2.2.1 w1) (mvT P.2.2.2.1 w2) (mvT P.2.2.2.1 w3) (mvT P.2.2.2.1 w4) hy B (g := mkF m pc Ls st) rfl hz (argsL := argsL) (rest := rest) hlen hst hW (hb P.2.2.1 hd) (fun _ _ => ⟨ha, P.2.2.2.2.2, hcc, hss⟩)
  dsimp only [Pt.U, Pt.locs, Pt.cells, Pt.slots] at X2 hl hc2 hs2 st2 hQ S2 b2 r2
  subst hl hc2 hs2
  obtain ⟨⟨k0, S0, b0⟩, r0⟩ := H
  have hW : Z.Warmed39 T₂.vm := State.Warmed39.trans (t := s.setVm vm) P.2.2.2.1 S2.1
  have hf : (s.setVm T₂.vm).vm.findClass own = some m.cls := by rw [show (s.setVm T₂.vm).vm = T₂.vm from rfl, S2.1.alike.findClass]; exact P.2.2.2.2.1
  have b1 : k0 ≤ T.heap.size := by rw [P.2.2.2.2.2]; exact b0
  cases v <;> exact Goes.tr st2 (k _ T₂ T₂.vm _ L hQ ⟨X2, P.2.1, P.2.2.1, hW, hf, rfl⟩ ⟨⟨_, S0.trans S2 (Nat.le_trans b1 b2), Nat.le_refl _⟩, r0.trans r2⟩ r2)
theorem cSH {y : MethodName} {ret : Option FieldType} {cb : ByteArray} {mL nn : Nat} {rm : Room} {i W : Nat} {Q : Option Value → Heap → List Loc → Prop} {argsL rest : List Value} {sf : List Addr} (P : Wk Z own bytes h p l e R (s.setVm vm) m args below meth c T locs cells slots) (H : Hd Z EL s vm h0 h) (hd : decode bytes pc = .ok (.invokestatic i, 3)) (w1 : (Cond.methodLink own i y).before a0 Z = true) (sw : SW Z a0 y cb mL ret nn) (M : MFH l Z EL y cb mL ret [] rm argsL.toArray sf h Q) (hEL : EW Z a0 EL) (hsf : ∀ x ∈ sf, x < h.size ∧ Safe Z EL vm h x) (hf : rm.frames + 1 ≤ R.frames) (hl : W + (mL + 11) + rm.locals ≤ R.locals) (hst : st = argsL.reverse ++ rest) (hz : Ls.size = c.maxLocals) (hn : argsL.length = nn) (hW : (rest.map fun v => v.category).sum = W) (hcc : cells + rm.cells ≤ R.cells) (hss : slots + rm.slots ≤ R.slots) (hq : pc + 3 = q) (k : ∀ v T₂ vm₂ h₂ L, Q v h₂ L → Wk Z own bytes h₂ p l e R (s.setVm vm₂) m args below meth c T₂ (locs ++ L) (cells + rm.cells) (slots + rm.slots) → Hd Z EL s vm₂ h0 h₂ → CHr Z EL vm h vm₂ h₂ → Goes p.tables e below K (T₂.setTop (mkF m q Ls (match v with | none => rest | some x => x :: rest)))) : Goes p.tables e below K (T.setTop (mkF m pc Ls (st))) :=
  invStaticH P H hd w1 sw.1 sw.2.1 sw.2.2.1 sw.2.2.2.1 (backH (W := W) M P.2.2.2.1 sw.2.2.1 sw.2.1 hf hl hEL H.2.1 hsf) rfl hst hz (lenW sw.2.2.2.2 hn) (w0 hW) hcc hss hq k
theorem retZH {kc ks : Nat} {Q : Option Value → Heap → List Loc → Prop} {t : FieldType} {z : Int32} (P : Wk Z own bytes h p l e R (s.setVm vm) m args below meth c T locs cells slots) (hh : s.heap = h0) (hEL : EW Z a0 EL) (H : Hd Z EL s vm h0 h) (hd : decode bytes pc = .ok (.ireturn, 1)) (hret : meth.sig.returnType = some t) (ht : t = .boolean ∨ t = .byte ∨ t = .char ∨ t = .short) (hlk : meth.locks = false) (hc : cells ≤ kc) (hs : slots ≤ ks) (hQ : Q (some (.int (nar t z))) h locs) : Goes p.tables e below (KEH Z EL Q s kc ks) (T.setTop (mkF m pc Ls (.int z :: st))) := by
  obtain ⟨⟨k0, S0, b0⟩, r0⟩ := H
  obtain ⟨fs, hr, hrun, hended, q1, q2, q3, q4⟩ := P.1.leaveW S0 (by rw [P.2.2.2.2.2]; exact b0) (v := (some (.int (nar t z)))) (fun h => by first | rfl | (rw [hret] at h; cases h)) hlk
  have r1 := CHv.at P.1 P.2.2.2.1 hEL r0.1
  refine ⟨_, _, retN P.1 P.2.1 hret ht (hb P.2.2.1 hd) hr, hrun, hended, _, _, rfl, by show Q _ T.heap _; rw [P.2.2.2.2.2]; exact hQ, ?_, q1, q2, q3, q4.mono hc hs⟩
  show CHr Z EL s.vm s.heap T.vm T.heap
  rw [P.2.2.2.2.2, hh]
  exact r0.trans r1
theorem retAH {kc ks : Nat} {Q : Option Value → Heap → List Loc → Prop} {t : FieldType} {v : Value} (P : Wk Z own bytes h p l e R (s.setVm vm) m args below meth c T locs cells slots) (hh : s.heap = h0) (hEL : EW Z a0 EL) (H : Hd Z EL s vm h0 h) (hd : decode bytes pc = .ok (.areturn, 1)) (hret : meth.sig.returnType = some t) (ht : t.isReference = true) (hv : v.isRef = true) (hn : narrow t v = v) (hlk : meth.locks = false) (hc : cells ≤ kc) (hs : slots ≤ ks) (hQ : Q (some v) h locs) : Goes p.tables e below (KEH Z EL Q s kc ks) (T.setTop (mkF m pc Ls (v :: st))) := by
  obtain ⟨⟨k0, S0, b0⟩, r0⟩ := H
  obtain ⟨fs, hr, hrun, hended, q1, q2, q3, q4⟩ := P.1.leaveW S0 (by rw [P.2.2.2.2.2]; exact b0) (v := (some v)) (fun h => by first | rfl | (rw [hret] at h; cases h)) hlk
  have r1 := CHv.at P.1 P.2.2.2.1 hEL r0.1
  refine ⟨_, _, retOut P.1 P.2.1 hret hn (Or.inr (Or.inr (Or.inr (Or.inr ⟨rfl, ht, hv⟩)))) (hb P.2.2.1 hd) hr, hrun, hended, _, _, rfl, by show Q _ T.heap _; rw [P.2.2.2.2.2]; exact hQ, ?_, q1, q2, q3, q4.mono hc hs⟩
  show CHr Z EL s.vm s.heap T.vm T.heap
  rw [P.2.2.2.2.2, hh]
  exact r0.trans r1
end Held
end Own
end Jvm.Pilot.@@N@@
namespace Jvm.Pilot.@@N@@
namespace Own
open Jvm Jvm.ClassFile Sem Op Lib Jvm.Free Jvm.Stand Jvm.LawKit Jvm.RoadKit Bundle
section Nar
variable {s : State} {args : Array Value} {t u : Term}
theorem eq_int {k : Int32} (h : (Jvm.Cond.eq t (.int k)).value args s none s [] = some true) : t.eval args s none [] s = some (.int k) := by
  obtain ⟨x, y, e1, e2, k1, k2⟩ := cmp_v (Or.inl h)
  have ey : y = .int k := Option.some.inj (e2.symm.trans (Term.int_eval k))
  subst ey
  obtain ⟨z, rfl⟩ := k2
  rw [e1, gotT (Cond.eq_ints e1 (Term.int_eval k)) h]
theorem small {x : Addr} {cl : Cell} {n : Int32} (h : (Term.length t).eval args s none [] s = some (.int n)) (ht : t.eval args s none [] s = some (.ref x)) (hc : s.heap[x]? = some cl) : cl.slots.size < 2 ^ 31 ∧ cl.slots.size.toInt32 = n := by
  obtain ⟨a, c, e1, e2, e3⟩ := Term.length_spec h
  cases ht.symm.trans e1
  have e4 : s.heap[x]? = some c := by
    revert e2
    simp only [State.arrayAt?]
    cases hq : s.heap[x]? with
    | none => simp
    | some d =>
      intro w
      simp at w
      obtain ⟨k, -, w⟩ := Option.bind_eq_some_iff.mp w
      split at w
      · cases w
      · split at w
        · exact w
        · cases w
  cases hc.symm.trans e4
  refine ⟨?_, (Value.int.inj e3).symm⟩
  simp only [Term.eval, ht, Option.bind_eq_bind, Option.bind_some, e2] at h
  by_cases q : cl.slots.size < 2 ^ 31
  · exact q
  · simp [q] at h
theorem elem_is {x : Addr} {cl : Cell} {i v : Int32} (h : (Jvm.Cond.eq (.elem t (.int i)) (.int v)).value args s none s [] = some true) (ht : t.eval args s none [] s = some (.ref x)) (hc : s.heap[x]? = some cl) : cl.slots[i.toNatClampNeg]? = some (.int v) := (elem_in (eq_int h) ht (Term.int_eval i) hc).2
end Nar
end Own
end Jvm.Pilot.@@N@@
namespace Jvm.Pilot.@@N@@
open Jvm Jvm.ClassFile Sem Op Lib Jvm.Free Jvm.Stand Jvm.LawKit Jvm.RoadKit Bundle Jvm.Pilot.@@N@@.Jvm.D
set_option maxRecDepth 65536
set_option maxHeartbeats 40000000
def decs (b : ByteArray) (L : List (Nat × Instr × Nat)) : Bool := L.all fun x => decide (decode b x.1 = .ok (x.2.1, x.2.2))
theorem dc {b : ByteArray} {L : List (Nat × Instr × Nat)} (h : decs b L = true) (k : Nat) {pc n : Nat} {i : Instr} (hx : L[k]? = some (pc, i, n)) : decode b pc = .ok (i, n) := by
  unfold decs at h
  rw [List.all_eq_true] at h
  have q := h _ (List.mem_of_getElem? hx)
  rw [decide_eq_true_eq] at q
  exact q
abbrev HW (a0 : Array Value) (Z : State) : Prop := ∀ d ∈ tables_1, d.before a0 Z = true
theorem wd {Z : State} {a0 : Array Value} (hw : HW a0 Z) {d : Jvm.Cond} (i : Nat) (h : tables_1[i]? = some d) : d.before a0 Z = true := hw d (List.mem_of_getElem? h)

abbrev EL : List (String × Nat) := [("com/example/hookwright/hookwright/signing/StandardWebhooksSignature", 60), ("com/example/hookwright/hookwright/signing/StandardWebhooksSignature", 62), ("com/example/hookwright/hookwright/signing/StandardWebhooksSignatureSecretPinLaw", 26)]
theorem ew {Z : State} {a0 : Array Value} (hw : ∀ d ∈ tables_1, d.before a0 Z = true) : EW Z a0 EL := (EW.cons (wd hw 245 rfl) (by decide) (EW.cons (wd hw 31 rfl) (by decide) (EW.cons (wd hw 212 rfl) (by decide) EW.nil)))
set_option maxRecDepth 65536 in
theorem sub_str : ∀ d ∈ Bundle.stringAtoms, d ∈ tables_1 := by
  intro d hd
  have h : Bundle.stringAtoms.all (fun d => tables_1.contains d) = true := by decide +kernel
  exact List.contains_iff_mem.mp (List.all_eq_true.mp h d hd)

namespace Own
section SbSteps
variable {Z : State} {own : String} {bytes : ByteArray} {h : Heap} {p : Program} {l : Launch} {e : Env} {R : Room} {s : State} {m : MethodId} {args : Array Value} {below : List Frame} {meth : Method} {c : Code} {T : State} {locs : List Loc} {cells slots : Nat}
  {K : State → Outcome → Prop} {a0 : Array Value} {pc q : Nat} {Ls : Array Slot} {st : List Value}
theorem copyA {i W n0 j d : Nat} {a b : Addr} {k1 k2 : ClassId} {ty : FieldType} {z z' sp dp nn : Int32} {vs vd us : List Value} {dv dd : Value} {rest : List Value} (P : Wk Z own bytes h p l e R s m args below meth c T locs cells slots) (N : Fr n0 locs) (hd : decode bytes pc = .ok (.invokestatic i, 3))
    (w1 : (Cond.methodLink own i Jvm.Stand.acN).before a0 Z = true) (w2 : (Cond.native Jvm.Stand.acN).before a0 Z = true) (w3 : (Cond.static Jvm.Stand.acN).before a0 Z = true) (w4 : (Cond.initialized "java/lang/System").before a0 Z = true) (A : Arv Z h a k1 ty z vs dv) (B : Arv Z h b k2 ty z' vd dd) (hty : refKind ty = false)
    (h1 : ¬ sp < 0) (h2 : ¬ dp < 0) (h3 : ¬ nn < 0) (hsp : sp.toNatClampNeg = 0) (hdp : dp.toNatClampNeg = d) (hnn : nn.toNatClampNeg = j) (h4 : j ≤ z.toNatClampNeg) (h5 : d + j ≤ z'.toNatClampNeg) (hus : us = (List.range j).map fun i => vs.getD i dv) (hl : d + j ≤ vd.length) (ge : n0 ≤ b)
    (hz : Ls.size = c.maxLocals) (hf : 1 ≤ R.frames) (hW : 2 * (mkF m pc Ls (.int nn :: .int dp :: .ref b :: .int sp :: .ref a :: rest)).monitorRoom + (rest.map fun v => v.category).sum ≤ W) (hlo : W + 18 ≤ R.locals) (hq : pc + 3 = q)
    (k : ∀ T₂ h₂ L, Fr n0 L → Wk Z own bytes h₂ p l e R s m args below meth c T₂ L cells slots → Keep h h₂ [b] → Arv Z h₂ b k2 ty z' (vd.take d ++ us ++ vd.drop (d + j)) dd → Goes p.tables e below K (T₂.setTop (mkF m q Ls rest))) : Goes p.tables e below K (T.setTop (mkF m pc Ls (.int nn :: .int dp :: .ref b :: .int sp :: .ref a :: rest))) := by
  subst hq hdp hnn
  obtain ⟨T₂, h₂, L, X2, e2, N2, K2, A2, st2⟩ := cpA P.1 P.2.1 P.2.2.2.1 P.2.2.2.2.1 w1 w2 w3 w4 P.2.2.2.2.2 A B (us := us) (Or.inl ⟨rfl, hty⟩) h1 h2 h3 (by rw [hsp]; omega) h5 (by rw [hsp, hus]; simp only [Nat.zero_add]) hl N ge (g := mkF m pc Ls (.int nn :: .int dp :: .ref b :: .int sp :: .ref a :: rest)) rfl hz rfl (hb P.2.2.1 hd) hf hW hlo
  exact Goes.go st2 (k T₂ h₂ L N2 ⟨X2, P.2.1, P.2.2.1, P.2.2.2.1, P.2.2.2.2.1, e2⟩ K2 A2)
theorem invSuper {y : MethodName} {cb : ByteArray} {mL : Nat} {ret : Option FieldType} {C : String} {i W kc ks : Nat} {as' : Array Value} {Q : Option Value → Heap → List Loc → Prop} {a : Addr} {argsL rest : List Value} (P : Wk Z own bytes h p l e R s m args below meth c T locs cells slots) (hd : decode bytes pc = .ok (.invokespecial i, 3)) (hin : y.name ≠ "<init>")
    (w1 : (Cond.methodLink own i y).before a0 Z = true) (w2 : (Cond.sameMethod y.cls y.cls y.name y.desc).before a0 Z = true) (w3 : (Cond.instanceMethod y).before a0 Z = true) (w4 : (Cond.superclass own y.cls).before a0 Z = true) (w5 : (Cond.code y cb mL ret).before a0 Z = true)
    (B : Back l R p e below s args y 3 W (fun A a => a = as' ∧ A.U.heap = h ∧ A.cells + kc ≤ R.cells ∧ A.slots + ks ≤ R.slots) (fun A _ v B => ∃ L, Q v B.U.heap L ∧ B.locs = A.locs ++ L ∧ B.cells = A.cells + kc ∧ B.slots = A.slots + ks)) (E : Exa Z h a C) (ha : (.ref a :: argsL).toArray = as') (hst : st = argsL.reverse ++ .ref a :: rest) (hz : Ls.size = c.maxLocals) (hlen : ∀ sig, parseMethodDescriptor y.desc = some sig → argsL.length = sig.parameters.length)
    (hW : 2 * (mkF m pc Ls st).monitorRoom + (rest.map fun v => v.category).sum ≤ W) (hcc : cells + kc ≤ R.cells) (hss : slots + ks ≤ R.slots) (hq : pc + 3 = q)
    (k : ∀ v T₂ h₂ L, Q v h₂ L → Wk Z own bytes h₂ p l e R s m args below meth c T₂ (locs ++ L) (cells + kc) (slots + ks) → Goes p.tables e below K (T₂.setTop (mkF m q Ls (match v with | none => rest | some x => x :: rest)))) : Goes p.tables e below K (T.setTop (mkF m pc Ls st)) := by
  subst hq
  obtain ⟨v, _, ⟨T₂, L₂, c₂, n₂⟩, -, X2, ⟨L, hQ, hl, hc2, hs2⟩, st2⟩ := superBack P.1 P.2.1 P.2.2.2.1 (y := y) P.2.2.2.2.1 w1 w2 w3 w4 hin B P.2.2.2.2.2 (Ins.self E) (g := mkF m pc Ls st) rfl hz w5 (argsL := argsL) (rest := rest) hlen hst hW (hb P.2.2.1 hd) (fun _ _ => ⟨ha, P.2.2.2.2.2, hcc, hss⟩)
  dsimp only [Pt.U, Pt.locs, Pt.cells, Pt.slots] at X2 hl hc2 hs2 st2 hQ
  subst hl hc2 hs2
  cases v <;> exact Goes.tr st2 (k _ T₂ _ L hQ ⟨X2, P.2.1, P.2.2.1, P.2.2.2.1, P.2.2.2.2.1, rfl⟩)
end SbSteps
theorem sameOwn {Z : State} {a0 : Array Value} {y y' : MethodName} {C : String} (w3 : (Cond.instanceMethod y).before a0 Z = true) (w3' : (Cond.instanceMethod y').before a0 Z = true) (ws : (Cond.selects C y' y').before a0 Z = true) (e : y'.cls = y.cls) (hy : y.cls ≠ "java/lang/invoke/MethodHandle" ∧ y.cls ≠ "java/lang/invoke/VarHandle") : (Cond.sameMethod y.cls y.cls y.name y.desc).before a0 Z = true := by
  obtain ⟨mk, methM, hnamed, -⟩ := Cond.instanceMethod_spec w3
  obtain ⟨mk', meth', hnamed', -⟩ := Cond.instanceMethod_spec w3'
  have hcn := findClass_of_methodNamed hnamed
  have hcn' := findClass_of_methodNamed hnamed'
  have hf := State.methodFound?_of_named hnamed hy
  obtain ⟨kr, hk, hi⟩ := notFace_of_selects (args := a0) ws _ hnamed'
  rw [e, hcn] at hcn'
  have ec : mk'.cls = mk.cls := (Option.some.inj hcn').symm
  rw [ec] at hk
  have hn2 : Z.methodNamed? ⟨y.cls, y.name, y.desc⟩ = some mk := hnamed
  simp [Cond.before, Cond.holds, Cond.value, hcn, hf, hn2, hk, hi]
theorem declOf {Z : State} {a0 : Array Value} {y : MethodName} {cb : ByteArray} {mL : Nat} {ret : Option FieldType} (w3 : (Cond.instanceMethod y).before a0 Z = true) (wc : (Cond.code y cb mL ret).before a0 Z = true) : (Cond.declares y).before a0 Z = true := by
  obtain ⟨mk, methM, hnamed, hmethM, hstM, -⟩ := Cond.instanceMethod_spec w3
  obtain ⟨m2, cM, q1, -, -, -, -, -, -, hsig⟩ := Cond.code_spec hnamed wc
  cases hmethM.symm.trans q1
  simp [Cond.before, Cond.holds, Cond.value, hnamed, hmethM, hstM, hsig]
theorem clamp {n : Nat} (h : n ≤ 4000) : (Int32.ofNat n).toNatClampNeg = n := by simp only [Int32.toNatClampNeg, Int32.toInt_ofNat_of_lt (show n < 2 ^ 31 by omega)]; rfl
theorem nneg {n : Nat} (h : n ≤ 4000) : ¬ Int32.ofNat n < 0 := by
  rw [Int32.lt_iff_toInt_lt, Int32.toInt_ofNat_of_lt (show n < 2 ^ 31 by omega)]
  have : (0 : Int32).toInt = 0 := rfl
  omega
theorem ofNat_lt {a b : Nat} (ha : a ≤ 4000) (hb : b ≤ 4000) : Int32.ofNat a < Int32.ofNat b ↔ a < b := by
  rw [Int32.lt_iff_toInt_lt, Int32.toInt_ofNat_of_lt (show a < 2 ^ 31 by omega), Int32.toInt_ofNat_of_lt (show b < 2 ^ 31 by omega)]
  omega
theorem room16 {a b : Nat} (h : a + b ≤ 16) : ¬ (0 : Int32) < (Int32.ofNat a + Int32.ofNat b) - ((16 : Int32) >>> ((0 : Int32) &&& 31)) := by
  have k : ∀ n : Fin 17, ¬ (0 : Int32) < Int32.ofNat n.val - ((16 : Int32) >>> ((0 : Int32) &&& 31)) := by decide
  rw [← Int32.ofNat_add]
  exact k ⟨a + b, by omega⟩
theorem range_get (vs : List Value) (d : Value) : vs = (List.range vs.length).map fun i => vs.getD i d := by
  apply List.ext_getElem
  · simp
  · intro i h1 h2
    simp [List.getD_eq_getElem?_getD, h1]
theorem shl0 (x : Int32) : x <<< ((0 : Int32) &&& 31) = x := by
  rw [show ((0 : Int32) &&& 31) = 0 from rfl]
  first | exact Int32.shiftLeft_zero | simp
theorem range_get2 (ds : List Int32) : ((ds.map fun c : Int32 => c.toInt8.toInt32).map Value.int) = (List.range ds.length).map fun i => (((ds.map fun c : Int32 => c.toInt8.toInt32).map Value.int)).getD i (.int 0) := by
  have h := range_get ((ds.map fun c : Int32 => c.toInt8.toInt32).map Value.int) (.int 0)
  rw [show (((ds.map fun c : Int32 => c.toInt8.toInt32).map Value.int)).length = ds.length by simp] at h
  exact h
theorem vd_len {cs : List Int32} (h : cs.length ≤ 16) : ((((cs.map fun c : Int32 => c.toInt8.toInt32).map Value.int) ++ List.replicate (16 - cs.length) (Value.int 0))).length = 16 := by
  simp only [List.length_append, List.length_map, List.length_replicate]
  omega
theorem put_list (cs ds : List Int32) : ((((cs.map fun c : Int32 => c.toInt8.toInt32).map Value.int) ++ List.replicate (16 - cs.length) (Value.int 0))).take cs.length ++ ((ds.map fun c : Int32 => c.toInt8.toInt32).map Value.int) ++ ((((cs.map fun c : Int32 => c.toInt8.toInt32).map Value.int) ++ List.replicate (16 - cs.length) (Value.int 0))).drop (cs.length + ds.length) = ((((cs ++ ds).map fun c : Int32 => c.toInt8.toInt32).map Value.int) ++ List.replicate (16 - (cs ++ ds).length) (Value.int 0)) := by
  have e1 : ((cs.map fun c : Int32 => c.toInt8.toInt32).map Value.int).length = cs.length := by simp
  have t1 : ∀ (A B : List Value) (n k : Nat), A.length = n → (A ++ B).take n = A ∧ (A ++ B).drop (n + k) = B.drop k := fun A B n k h => by
    subst h
    exact ⟨by simp, by simp [List.drop_append]⟩
  rw [(t1 _ _ _ 0 e1).1, (t1 _ _ _ ds.length e1).2]
  simp [List.drop_replicate, List.map_append, Nat.sub_sub]
end Own

namespace Own
section SbSteps2
variable {Z : State} {own : String} {bytes : ByteArray} {h : Heap} {p : Program} {l : Launch} {e : Env} {R : Room} {s : State} {m : MethodId} {args : Array Value} {below : List Frame} {meth : Method} {c : Code} {T : State} {locs : List Loc} {cells slots : Nat}
  {K : State → Outcome → Prop} {a0 : Array Value} {pc q : Nat} {Ls : Array Slot} {st : List Value}
theorem copyB {i W n0 j d sp0 : Nat} {a b : Addr} {k1 k2 : ClassId} {ty : FieldType} {z z' sp dp nn : Int32} {vs vd us : List Value} {dv dd : Value} {rest : List Value} (P : Wk Z own bytes h p l e R s m args below meth c T locs cells slots) (N : Fr n0 locs) (hd : decode bytes pc = .ok (.invokestatic i, 3))
    (w1 : (Cond.methodLink own i Jvm.Stand.acN).before a0 Z = true) (w2 : (Cond.native Jvm.Stand.acN).before a0 Z = true) (w3 : (Cond.static Jvm.Stand.acN).before a0 Z = true) (w4 : (Cond.initialized "java/lang/System").before a0 Z = true) (A : Arv Z h a k1 ty z vs dv) (B : Arv Z h b k2 ty z' vd dd) (hty : refKind ty = false)
    (h1 : ¬ sp < 0) (h2 : ¬ dp < 0) (h3 : ¬ nn < 0) (hsp : sp.toNatClampNeg = sp0) (hdp : dp.toNatClampNeg = d) (hnn : nn.toNatClampNeg = j) (h4 : sp0 + j ≤ z.toNatClampNeg) (h5 : d + j ≤ z'.toNatClampNeg) (hus : us = (List.range j).map fun i => vs.getD (sp0 + i) dv) (hl : d + j ≤ vd.length) (ge : n0 ≤ b)
    (hz : Ls.size = c.maxLocals) (hf : 1 ≤ R.frames) (hW : 2 * (mkF m pc Ls (.int nn :: .int dp :: .ref b :: .int sp :: .ref a :: rest)).monitorRoom + (rest.map fun v => v.category).sum ≤ W) (hlo : W + 18 ≤ R.locals) (hq : pc + 3 = q)
    (k : ∀ T₂ h₂ L, Fr n0 L → Wk Z own bytes h₂ p l e R s m args below meth c T₂ L cells slots → Keep h h₂ [b] → Arv Z h₂ b k2 ty z' (vd.take d ++ us ++ vd.drop (d + j)) dd → Goes p.tables e below K (T₂.setTop (mkF m q Ls rest))) : Goes p.tables e below K (T.setTop (mkF m pc Ls (.int nn :: .int dp :: .ref b :: .int sp :: .ref a :: rest))) := by
  subst hq hdp hnn hsp
  obtain ⟨T₂, h₂, L, X2, e2, N2, K2, A2, st2⟩ := cpA P.1 P.2.1 P.2.2.2.1 P.2.2.2.2.1 w1 w2 w3 w4 P.2.2.2.2.2 A B (us := us) (Or.inl ⟨rfl, hty⟩) h1 h2 h3 h4 h5 hus hl N ge (g := mkF m pc Ls (.int nn :: .int dp :: .ref b :: .int sp :: .ref a :: rest)) rfl hz rfl (hb P.2.2.1 hd) hf hW hlo
  exact Goes.go st2 (k T₂ h₂ L N2 ⟨X2, P.2.1, P.2.2.1, P.2.2.2.1, P.2.2.2.2.1, e2⟩ K2 A2)
end SbSteps2
theorem nfOwn {Z s : State} {a0 : Array Value} {y y' : MethodName} {C : String} (ws : (Cond.selects C y' y').before a0 s = true) (w3 : (Cond.instanceMethod y').before a0 s = true) (e : y'.cls = y.cls) : NotFace s y := fun r0 h0 => by
  obtain ⟨mk', meth', hnamed', -⟩ := Cond.instanceMethod_spec w3
  obtain ⟨kr, hk, hi⟩ := notFace_of_selects (args := a0) ws _ hnamed'
  have hcn := findClass_of_methodNamed h0
  have hcn' := findClass_of_methodNamed hnamed'
  rw [e, hcn] at hcn'
  have ec : r0.cls = mk'.cls := Option.some.inj hcn'
  exact ⟨kr, by rw [ec]; exact hk, hi⟩
theorem subE {e f n : Nat} (h : e = f + n) : Int32.ofNat e - Int32.ofNat f = Int32.ofNat n := by
  rw [h, Int32.ofNat_add, Int32.add_comm, Int32.add_sub_cancel]
theorem leE {e f n : Nat} (h : e = f + n) (he : e ≤ 4000) : ¬ Int32.ofNat e < Int32.ofNat f := by
  rw [ofNat_lt he (by omega)]
  omega
theorem minE {z f n : Nat} (h : f + n ≤ z) (hz : z ≤ 4000) : (if Int32.ofNat n < (Int32.ofNat z - Int32.ofNat f) then Int32.ofNat n else (Int32.ofNat z - Int32.ofNat f)) = Int32.ofNat n := by
  have e := ofNat_lt (a := n) (b := z - f) (by omega) (by omega)
  rw [subE (show z = f + (z - f) by omega)]
  by_cases q : n < z - f
  · rw [if_pos (e.mpr q)]
  · rw [if_neg (fun y => q (e.mp y)), show z - f = n by omega]
theorem range_drop {vs : List Value} {z f n : Nat} (d : Value) (h : vs.length = z) (h2 : f + n ≤ z) : (vs.drop f).take n = (List.range n).map fun i => vs.getD (f + i) d := by
  apply List.ext_getElem
  · simp
    omega
  · intro i h1 h2
    simp at h1 h2
    simp [List.getD_eq_getElem?_getD, show f + i < vs.length by omega]
theorem cr_list (us : List Value) (n : Nat) (d : Value) : (List.replicate n d).take 0 ++ us ++ (List.replicate n d).drop (0 + n) = us := by
  simp
theorem by_get (cs : List Int32) (n : Nat) : ((cs.map fun c : Int32 => c.toInt8.toInt32).map Value.int).getD n (.int 0) = .int (cs.getD n 0).toInt8.toInt32 := by
  simp only [List.getD_eq_getElem?_getD, List.getElem?_map]
  cases cs[n]? <;> rfl
theorem n0_of {n : Nat} (h : n ≤ 4000) (h0 : ¬ n = 0) : ¬ Int32.ofNat n = 0 := fun q => h0 (ofNat_inj (n := n) (k := 0) h (by omega) q)
theorem rng_app {cs ds : List Int32} (hp : ∀ c ∈ cs, ¬ c < 0 ∧ ¬ (255 : Int32) < c) (hq : ∀ c ∈ ds, ¬ c < 0 ∧ ¬ (255 : Int32) < c) : ∀ c ∈ cs ++ ds, ¬ c < 0 ∧ ¬ (255 : Int32) < c := fun c hc => (List.mem_append.mp hc).elim (hp c) (hq c)
end Own

namespace Own
def lo (c : Int32) : Int32 := (c >>> ((0 : Int32) &&& 31)).toInt8.toInt32
def hi (c : Int32) : Int32 := (c >>> ((8 : Int32) &&& 31)).toInt8.toInt32
def Ch (c : Int32) : Prop := ¬ c < 0 ∧ ¬ (65535 : Int32) < c
theorem Ch.i {c : Int32} (h : Ch c) : 0 ≤ c.toInt ∧ c.toInt ≤ 65535 := by
  obtain ⟨a, b⟩ := h
  rw [Int32.lt_iff_toInt_lt] at a b
  have k0 : (0 : Int32).toInt = 0 := rfl
  have k1 : (65535 : Int32).toInt = 65535 := rfl
  omega
theorem ofN {n : Nat} (h : n ≤ 4000) : (Int32.ofNat n).toInt = n := Int32.toInt_ofNat_of_lt (by omega)
def b16 : List Int32 → List Value
  | [] => []
  | c :: cs => .int (lo c) :: .int (hi c) :: b16 cs
/-- the byte array at t holds these N chars, as UTF16 -/
def U16 (Z : State) (h : Heap) (t : Addr) (k : ClassId) (N : Nat) (cs : List Int32) : Prop := Arv Z h t k .byte (Int32.ofNat (2 * N)) (b16 cs) (.int 0) ∧ cs.length = N ∧ N ≤ 100 ∧ ∀ c ∈ cs, Ch c
theorem U16.ext {Z : State} {h h' : Heap} {t : Addr} {k : ClassId} {N : Nat} {cs : List Int32} (A : U16 Z h t k N cs) (E : Ext h h') : U16 Z h' t k N cs := ⟨A.1.ext E, A.2⟩
theorem U16.keep {Z : State} {h h' : Heap} {t : Addr} {k : ClassId} {N : Nat} {cs : List Int32} {ws : List Addr} (A : U16 Z h t k N cs) (K : Keep h h' ws) (q : t ∉ ws) : U16 Z h' t k N cs := ⟨A.1.keep K q, A.2⟩
theorem Ch.up {c : Int32} (h : ¬ c < 0 ∧ ¬ (255 : Int32) < c) : Ch c := up16 h
theorem Ch.z : Ch 0 := ⟨by decide, by decide⟩
/-- the object at a is a UTF16 String of these chars -/
def Str16 (Z : State) (h : Heap) (a : Addr) (cs : List Int32) : Prop := ∃ t k, Exa Z h a "java/lang/String" ∧ Fld Z h a "java/lang/String" "value" "[B" (.ref t) ∧ Fld Z h a "java/lang/String" "coder" "B" (.int 1) ∧ U16 Z h t k cs.length cs
def TX (Z : State) (h : Heap) (a : Addr) (cs : List Int32) : Prop := Str Z h a cs ∨ Str16 Z h a cs
theorem Str16.ext {Z : State} {h h' : Heap} {a : Addr} {cs : List Int32} (S : Str16 Z h a cs) (E : Ext h h') : Str16 Z h' a cs := by
  obtain ⟨t, k, s1, s2, s3, s4⟩ := S
  exact ⟨t, k, s1.ext E, s2.ext E, s3.ext E, s4.ext E⟩
theorem TX.ext {Z : State} {h h' : Heap} {a : Addr} {cs : List Int32} (S : TX Z h a cs) (E : Ext h h') : TX Z h' a cs := S.imp (·.ext E) (·.ext E)
theorem TX.exa {Z : State} {h : Heap} {a : Addr} {cs : List Int32} (S : TX Z h a cs) : Exa Z h a "java/lang/String" := S.elim (·.exa) (fun ⟨_, _, s, _⟩ => s)
theorem TX.ch {Z : State} {h : Heap} {a : Addr} {cs : List Int32} (S : TX Z h a cs) : ∀ c ∈ cs, Ch c := S.elim (fun s c hc => Ch.up (s.2.1 c hc)) (fun ⟨_, _, _, _, _, s⟩ => s.2.2.2)
theorem TX.le {Z : State} {h : Heap} {a : Addr} {cs : List Int32} (S : TX Z h a cs) : cs.length ≤ 4000 := S.elim (·.2.2) (fun ⟨_, _, _, _, _, s⟩ => Nat.le_trans s.2.2.1 (by decide))
theorem shr0 (x : Int32) : x >>> ((0 : Int32) &&& 31) = x := by
  rw [show ((0 : Int32) &&& 31) = 0 from rfl]
  simp
theorem or3 {a b c : Nat} (ha : a ≤ 4000) (hb : b ≤ 4000) (hc : c ≤ 4000) : ¬ ((Int32.ofNat a ||| Int32.ofNat b) ||| Int32.ofNat c) < 0 := by
  have p := ofN ha
  have q := ofN hb
  have r := ofN hc
  have s := c_or0 (Int32.ofNat a) (Int32.ofNat b) (by omega) (by omega)
  have t := c_or0 (Int32.ofNat a ||| Int32.ofNat b) (Int32.ofNat c) (by omega) (by omega)
  rw [Int32.lt_iff_toInt_lt]
  have k0 : (0 : Int32).toInt = 0 := rfl
  omega
theorem sub_ge {o c n : Nat} (h : o + c ≤ n) (hn : n ≤ 4000) : ¬ (Int32.ofNat n - Int32.ofNat o) < Int32.ofNat c := by
  rw [subE (show n = o + (n - o) by omega), ofNat_lt (by omega) (by omega)]
  omega
theorem and255 {c : Int32} (h : ¬ c < 0 ∧ ¬ (255 : Int32) < c) : c.toInt8.toInt32 &&& 255 = c := by
  have a := c_mask (c.toInt8.toInt32) 255 8 (by decide) (by decide)
  have b := c_i2b c
  obtain ⟨p, q⟩ := h
  rw [Int32.lt_iff_toInt_lt] at p q
  have k0 : (0 : Int32).toInt = 0 := rfl
  have k1 : (255 : Int32).toInt = 255 := rfl
  apply Int32.toInt_inj.mp
  omega
theorem rng_getD {cs : List Int32} (hp : ∀ c ∈ cs, ¬ c < 0 ∧ ¬ (255 : Int32) < c) (n : Nat) : ¬ cs.getD n 0 < 0 ∧ ¬ (255 : Int32) < cs.getD n 0 := by
  rw [List.getD_eq_getElem?_getD]
  cases h : cs[n]? with
  | none => exact ⟨by decide, by decide⟩
  | some c => exact hp c (List.mem_of_getElem? h)
theorem vd_setN {cs : List Int32} {N : Nat} {c : Int32} (h : cs.length < N) : (((cs.map fun c : Int32 => c.toInt8.toInt32).map Value.int) ++ List.replicate (N - cs.length) (Value.int 0)).set cs.length (.int c.toInt8.toInt32) = ((((cs ++ [c]).map fun c : Int32 => c.toInt8.toInt32).map Value.int) ++ List.replicate (N - (cs ++ [c]).length) (Value.int 0)) := by
  have e : N - cs.length = (N - (cs.length + 1)) + 1 := by omega
  rw [List.set_append_right _ _ (by simp), e, List.replicate_succ]
  simp
theorem len1 (cs : List Int32) (c : Int32) : Int32.ofNat (cs ++ [c]).length = Int32.ofNat cs.length + 1 := by
  rw [List.length_append, Int32.ofNat_add]
  rfl
theorem take_snoc {cs : List Int32} {i : Nat} (hi : i < cs.length) : cs.take i ++ [cs.getD i 0] = cs.take (i + 1) := by
  rw [List.take_add_one]
  simp [List.getD_eq_getElem?_getD, hi]
theorem ltN {a b : Nat} (ha : a ≤ 4000) (hb : b ≤ 4000) (h : a < b) : Int32.ofNat a < Int32.ofNat b := (ofNat_lt ha hb).mpr h
end Own

namespace Own
def tab : List Int32 := [65, 66, 67, 68, 69, 70, 71, 72, 73, 74, 75, 76, 77, 78, 79, 80, 81, 82, 83, 84, 85, 86, 87, 88, 89, 90, 97, 98, 99, 100, 101, 102, 103, 104, 105, 106, 107, 108, 109, 110, 111, 112, 113, 114, 115, 116, 117, 118, 119, 120, 121, 122, 48, 49, 50, 51, 52, 53, 54, 55, 56, 57, 43, 47]
def ftab : List Int32 := [(-1), (-1), (-1), (-1), (-1), (-1), (-1), (-1), (-1), (-1), (-1), (-1), (-1), (-1), (-1), (-1), (-1), (-1), (-1), (-1), (-1), (-1), (-1), (-1), (-1), (-1), (-1), (-1), (-1), (-1), (-1), (-1), (-1), (-1), (-1), (-1), (-1), (-1), (-1), (-1), (-1), (-1), (-1), 62, (-1), (-1), (-1), 63, 52, 53, 54, 55, 56, 57, 58, 59, 60, 61, (-1), (-1), (-1), (-2), (-1), (-1), (-1), 0, 1, 2, 3, 4, 5, 6, 7, 8, 9, 10, 11, 12, 13, 14, 15, 16, 17, 18, 19, 20, 21, 22, 23, 24, 25, (-1), (-1), (-1), (-1), (-1), (-1), 26, 27, 28, 29, 30, 31, 32, 33, 34, 35, 36, 37, 38, 39, 40, 41, 42, 43, 44, 45, 46, 47, 48, 49, 50, 51, (-1), (-1), (-1), (-1), (-1), (-1), (-1), (-1), (-1), (-1), (-1), (-1), (-1), (-1), (-1), (-1), (-1), (-1), (-1), (-1), (-1), (-1), (-1), (-1), (-1), (-1), (-1), (-1), (-1), (-1), (-1), (-1), (-1), (-1), (-1), (-1), (-1), (-1), (-1), (-1), (-1), (-1), (-1), (-1), (-1), (-1), (-1), (-1), (-1), (-1), (-1), (-1), (-1), (-1), (-1), (-1), (-1), (-1), (-1), (-1), (-1), (-1), (-1), (-1), (-1), (-1), (-1), (-1), (-1), (-1), (-1), (-1), (-1), (-1), (-1), (-1), (-1), (-1), (-1), (-1), (-1), (-1), (-1), (-1), (-1), (-1), (-1), (-1), (-1), (-1), (-1), (-1), (-1), (-1), (-1), (-1), (-1), (-1), (-1), (-1), (-1), (-1), (-1), (-1), (-1), (-1), (-1), (-1), (-1), (-1), (-1), (-1), (-1), (-1), (-1), (-1), (-1), (-1), (-1), (-1), (-1), (-1), (-1), (-1), (-1), (-1), (-1), (-1), (-1), (-1), (-1), (-1), (-1)]
def e64 (v : Int32) : Int32 := tab.getD v.toNatClampNeg 0
def d64 (c : Int32) : Int32 := ftab.getD c.toNatClampNeg 0
def B6 (v : Int32) : Prop := 0 ≤ v.toInt ∧ v.toInt < 64
theorem of_nat {v : Int32} {k : Nat} (hk : k ≤ 4000) (h0 : 0 ≤ v.toInt) (h1 : v.toInt < k) : ∃ n, n < k ∧ v = Int32.ofNat n :=
  ⟨v.toInt.toNat, by omega, by apply Int32.toInt_inj.mp; rw [ofN (by omega)]; omega⟩
theorem e64_ok : ∀ n, n < 64 → (¬ e64 (Int32.ofNat n) < 0 ∧ ¬ (255 : Int32) < e64 (Int32.ofNat n)) ∧ d64 (e64 (Int32.ofNat n)) = Int32.ofNat n := by decide +kernel
theorem e64_rng {v : Int32} (h : B6 v) : ¬ e64 v < 0 ∧ ¬ (255 : Int32) < e64 v := by
  obtain ⟨n, hn, rfl⟩ := of_nat (k := 64) (by decide) h.1 h.2
  exact (e64_ok n hn).1
theorem d_e {v : Int32} (h : B6 v) : d64 (e64 v) = v := by
  obtain ⟨n, hn, rfl⟩ := of_nat (k := 64) (by decide) h.1 h.2
  exact (e64_ok n hn).2
theorem d_pad : d64 61 = -2 := by decide +kernel
theorem u8i {c : Int32} (h : ¬ c < 0 ∧ ¬ (255 : Int32) < c) : 0 ≤ c.toInt ∧ c.toInt < 256 := by
  obtain ⟨a, b⟩ := h
  rw [Int32.lt_iff_toInt_lt] at a b
  have k0 : (0 : Int32).toInt = 0 := rfl
  have k1 : (255 : Int32).toInt = 255 := rfl
  omega
theorem b6m (x : Int32) : B6 (x &&& 63) := by
  have h := c_mask x 63 6 (by decide) (by decide)
  unfold B6
  omega
def w3 (a b c : Int32) : Int32 := ((a <<< ((16 : Int32) &&& 31)) ||| (b <<< ((8 : Int32) &&& 31))) ||| c
theorem shl_i {x q : Int32} {k : Nat} (hk : q.toBitVec.toNat % 32 = k) (h0 : 0 ≤ x.toInt) (h1 : x.toInt * (2 ^ k : Nat) < 2147483648) : (x <<< (q &&& 31)).toInt = x.toInt * (2 ^ k : Nat) := by
  have a := c_ishl x q k hk
  have r := rng32 (x <<< (q &&& 31))
  have p : 0 ≤ x.toInt * (2 ^ k : Nat) := Int.mul_nonneg h0 (Int.natCast_nonneg _)
  omega
theorem or_i {a b : Int32} (k : Nat) (hk : k ≤ 31) (P : Int) (hP : P = (2 ^ k : Nat)) (ha : a.toInt % P = 0) (h0 : 0 ≤ a.toInt) (hb0 : 0 ≤ b.toInt) (hb1 : b.toInt < P) (hs : a.toInt + b.toInt < 2147483648) : (a ||| b).toInt = a.toInt + b.toInt := by
  have c := c_or a b k hk P hP ha hb0 hb1
  have r := rng32 (a ||| b)
  have q := c_or0 a b h0 hb0
  omega
theorem w3_i {a b c : Int32} (ha : ¬ a < 0 ∧ ¬ (255 : Int32) < a) (hb : ¬ b < 0 ∧ ¬ (255 : Int32) < b) (hc : ¬ c < 0 ∧ ¬ (255 : Int32) < c) : (w3 a b c).toInt = a.toInt * 65536 + b.toInt * 256 + c.toInt := by
  have a0 := u8i ha
  have b0 := u8i hb
  have c0 := u8i hc
  have x := shl_i (x := a) (q := 16) (k := 16) (by decide) a0.1 (by omega)
  have y := shl_i (x := b) (q := 8) (k := 8) (by decide) b0.1 (by omega)
  have z := or_i (a := a <<< ((16 : Int32) &&& 31)) (b := b <<< ((8 : Int32) &&& 31)) 16 (by decide) 65536 rfl (by omega) (by omega) (by omega) (by omega) (by omega)
  have t := or_i (a := (a <<< ((16 : Int32) &&& 31)) ||| (b <<< ((8 : Int32) &&& 31))) (b := c) 8 (by decide) 256 rfl (by omega) (by omega) (by omega) (by omega) (by omega)
  unfold w3
  omega
def q1 (a b c : Int32) : Int32 := (Jvm.Free.XT.ushr (w3 a b c) (18 : Int32)) &&& (63 : Int32)
def q2 (a b c : Int32) : Int32 := (Jvm.Free.XT.ushr (w3 a b c) (12 : Int32)) &&& (63 : Int32)
def q3 (a b c : Int32) : Int32 := (Jvm.Free.XT.ushr (w3 a b c) (6 : Int32)) &&& (63 : Int32)
def q4 (a b c : Int32) : Int32 := (w3 a b c) &&& (63 : Int32)
theorem q_i {a b c : Int32} (ha : ¬ a < 0 ∧ ¬ (255 : Int32) < a) (hb : ¬ b < 0 ∧ ¬ (255 : Int32) < b) (hc : ¬ c < 0 ∧ ¬ (255 : Int32) < c) : (q1 a b c).toInt = (w3 a b c).toInt / 262144 ∧ (q2 a b c).toInt = (w3 a b c).toInt / 4096 % 64 ∧ (q3 a b c).toInt = (w3 a b c).toInt / 64 % 64 ∧ (q4 a b c).toInt = (w3 a b c).toInt % 64 := by
  have w := w3_i ha hb hc
  have a0 := u8i ha
  have b0 := u8i hb
  have c0 := u8i hc
  have s1 : (Jvm.Free.XT.ushr (w3 a b c) (18 : Int32)).toInt = _ := c_iushr (w3 a b c) 18 18 (by decide) (by decide)
  have s2 : (Jvm.Free.XT.ushr (w3 a b c) (12 : Int32)).toInt = _ := c_iushr (w3 a b c) 12 12 (by decide) (by decide)
  have s3 : (Jvm.Free.XT.ushr (w3 a b c) (6 : Int32)).toInt = _ := c_iushr (w3 a b c) 6 6 (by decide) (by decide)
  have m1 := c_mask (Jvm.Free.XT.ushr (w3 a b c) (18 : Int32)) 63 6 (by decide) (by decide)
  have m2 := c_mask (Jvm.Free.XT.ushr (w3 a b c) (12 : Int32)) 63 6 (by decide) (by decide)
  have m3 := c_mask (Jvm.Free.XT.ushr (w3 a b c) (6 : Int32)) 63 6 (by decide) (by decide)
  have m4 := c_mask (w3 a b c) 63 6 (by decide) (by decide)
  unfold q1 q2 q3 q4
  omega
/-- the signed shift of the law reads the same digits -/
theorem q_shr {a b c : Int32} (ha : ¬ a < 0 ∧ ¬ (255 : Int32) < a) (hb : ¬ b < 0 ∧ ¬ (255 : Int32) < b) (hc : ¬ c < 0 ∧ ¬ (255 : Int32) < c) : (w3 a b c >>> ((18 : Int32) &&& 31)) &&& 63 = q1 a b c ∧ (w3 a b c >>> ((12 : Int32) &&& 31)) &&& 63 = q2 a b c ∧ (w3 a b c >>> ((6 : Int32) &&& 31)) &&& 63 = q3 a b c := by
  have w := w3_i ha hb hc
  have q := q_i ha hb hc
  have a0 := u8i ha
  have b0 := u8i hb
  have c0 := u8i hc
  have s1 := c_ishr (w3 a b c) 18 18 (by decide)
  have s2 := c_ishr (w3 a b c) 12 12 (by decide)
  have s3 := c_ishr (w3 a b c) 6 6 (by decide)
  have m1 := c_mask (w3 a b c >>> ((18 : Int32) &&& 31)) 63 6 (by decide) (by decide)
  have m2 := c_mask (w3 a b c >>> ((12 : Int32) &&& 31)) 63 6 (by decide) (by decide)
  have m3 := c_mask (w3 a b c >>> ((6 : Int32) &&& 31)) 63 6 (by decide) (by decide)
  refine ⟨Int32.toInt_inj.mp ?_, Int32.toInt_inj.mp ?_, Int32.toInt_inj.mp ?_⟩ <;> omega
def g3 (a b c : Int32) : List Int32 := [e64 (q1 a b c), e64 (q2 a b c), e64 (q3 a b c), e64 (q4 a b c)]
/-- the first m whole groups -/
def encG (us : List Int32) : Nat → List Int32
  | 0 => []
  | m + 1 => encG us m ++ g3 (us.getD (3 * m) 0) (us.getD (3 * m + 1) 0) (us.getD (3 * m + 2) 0)
def tl1 (a : Int32) : List Int32 := [e64 (a >>> ((2 : Int32) &&& 31)), e64 ((a <<< ((4 : Int32) &&& 31)) &&& 63), 61, 61]
def tl2 (a b : Int32) : List Int32 := [e64 (a >>> ((2 : Int32) &&& 31)), e64 (((a <<< ((4 : Int32) &&& 31)) &&& 63) ||| (b >>> ((4 : Int32) &&& 31))), e64 ((b <<< ((2 : Int32) &&& 31)) &&& 63), 61]
def encT (us : List Int32) (m : Nat) : List Int32 := if us.length = 3 * m then [] else if us.length = 3 * m + 1 then tl1 (us.getD (3 * m) 0) else tl2 (us.getD (3 * m) 0) (us.getD (3 * m + 1) 0)
def encL (us : List Int32) : List Int32 := encG us (us.length / 3) ++ encT us (us.length / 3)
theorem encT0 {us : List Int32} {m : Nat} (h : us.length = 3 * m) : encT us m = [] := by rw [encT, if_pos h]
theorem encT1 {us : List Int32} {m : Nat} (h : us.length = 3 * m + 1) : encT us m = tl1 (us.getD (3 * m) 0) := by rw [encT, if_neg (by omega), if_pos h]
theorem encT2 {us : List Int32} {m : Nat} (h : us.length = 3 * m + 2) : encT us m = tl2 (us.getD (3 * m) 0) (us.getD (3 * m + 1) 0) := by rw [encT, if_neg (by omega), if_neg (by omega)]
theorem encG_len (us : List Int32) : ∀ m, (encG us m).length = 4 * m
  | 0 => rfl
  | m + 1 => by
    rw [encG, List.length_append, encG_len us m]
    show 4 * m + 4 = _
    omega
theorem encL_len (us : List Int32) : (encL us).length = 4 * ((us.length + 2) / 3) := by
  unfold encL encT
  rw [List.length_append, encG_len]
  by_cases h0 : us.length = 3 * (us.length / 3)
  · rw [if_pos h0]
    simp
    omega
  · rw [if_neg h0]
    by_cases h1 : us.length = 3 * (us.length / 3) + 1
    · rw [if_pos h1]
      simp [tl1]
      omega
    · rw [if_neg h1]
      simp [tl2]
      omega
theorem encG_get {us : List Int32} {i j : Nat} (hj : j < 4) : ∀ {m}, i < m → (encG us m).getD (4 * i + j) 0 = (g3 (us.getD (3 * i) 0) (us.getD (3 * i + 1) 0) (us.getD (3 * i + 2) 0)).getD j 0
  | 0, h => absurd h (Nat.not_lt_zero _)
  | m + 1, h => by
    rw [encG, List.getD_eq_getElem?_getD]
    rcases Nat.lt_or_ge i m with q | q
    · rw [List.getElem?_append_left (by rw [encG_len]; omega), ← List.getD_eq_getElem?_getD]
      exact encG_get hj q
    · have e : i = m := by omega
      subst e
      rw [List.getElem?_append_right (by rw [encG_len]; omega), encG_len, ← List.getD_eq_getElem?_getD]
      congr 1
      omega
theorem b6q {a b c : Int32} : B6 (q1 a b c) ∧ B6 (q2 a b c) ∧ B6 (q3 a b c) ∧ B6 (q4 a b c) := ⟨b6m _, b6m _, b6m _, b6m _⟩
theorem b6s {a : Int32} (ha : ¬ a < 0 ∧ ¬ (255 : Int32) < a) : B6 (a >>> ((2 : Int32) &&& 31)) := by
  have a0 := u8i ha
  have s := c_ishr a 2 2 (by decide)
  unfold B6
  omega
theorem t2_i {a b : Int32} (ha : ¬ a < 0 ∧ ¬ (255 : Int32) < a) (hb : ¬ b < 0 ∧ ¬ (255 : Int32) < b) : (((a <<< ((4 : Int32) &&& 31)) &&& 63) ||| (b >>> ((4 : Int32) &&& 31))).toInt = a.toInt % 4 * 16 + b.toInt / 16 := by
  have a0 := u8i ha
  have b0 := u8i hb
  have x := shl_i (x := a) (q := 4) (k := 4) (by decide) a0.1 (by omega)
  have m := c_mask (a <<< ((4 : Int32) &&& 31)) 63 6 (by decide) (by decide)
  have s := c_ishr b 4 4 (by decide)
  have t := or_i (a := (a <<< ((4 : Int32) &&& 31)) &&& 63) (b := b >>> ((4 : Int32) &&& 31)) 4 (by decide) 16 rfl (by omega) (by omega) (by omega) (by omega) (by omega)
  omega
theorem b6t {a b : Int32} (ha : ¬ a < 0 ∧ ¬ (255 : Int32) < a) (hb : ¬ b < 0 ∧ ¬ (255 : Int32) < b) : B6 (((a <<< ((4 : Int32) &&& 31)) &&& 63) ||| (b >>> ((4 : Int32) &&& 31))) := by
  have t := t2_i ha hb
  have a0 := u8i ha
  have b0 := u8i hb
  unfold B6
  omega
theorem encG_rng (us : List Int32) : ∀ m, ∀ c ∈ encG us m, ¬ c < 0 ∧ ¬ (255 : Int32) < c
  | 0 => fun c h => nomatch h
  | m + 1 => by
    rw [encG]
    refine rng_app (encG_rng us m) ?_
    have h := b6q (a := us.getD (3 * m) 0) (b := us.getD (3 * m + 1) 0) (c := us.getD (3 * m + 2) 0)
    unfold g3
    exact chS (e64_rng h.1) (chS (e64_rng h.2.1) (chS (e64_rng h.2.2.1) (chS (e64_rng h.2.2.2) ch0)))
theorem encL_rng {us : List Int32} (hp : ∀ c ∈ us, ¬ c < 0 ∧ ¬ (255 : Int32) < c) : ∀ c ∈ encL us, ¬ c < 0 ∧ ¬ (255 : Int32) < c := by
  have r := fun n => rng_getD hp n
  unfold encL encT
  refine rng_app (encG_rng us _) ?_
  split
  · exact ch0
  · split
    · unfold tl1
      exact chS (e64_rng (b6s (r _))) (chS (e64_rng (b6m _)) (chS (by decide) (chS (by decide) ch0)))
    · unfold tl2
      exact chS (e64_rng (b6s (r _))) (chS (e64_rng (b6t (r _) (r _))) (chS (e64_rng (b6m _)) (chS (by decide) ch0)))
theorem enc_1 : ∀ n, n < 64 → (Int32.ofNat n < 26) → nar .char (65 + Int32.ofNat n) = e64 (Int32.ofNat n) ∧ ¬ (65 + Int32.ofNat n) < 0 ∧ ¬ (255 : Int32) < (65 + Int32.ofNat n) := by decide +kernel
theorem enc_2 : ∀ n, n < 64 → (¬ Int32.ofNat n < 26) → (Int32.ofNat n < 52) → nar .char (97 + (Int32.ofNat n - 26)) = e64 (Int32.ofNat n) ∧ ¬ (97 + (Int32.ofNat n - 26)) < 0 ∧ ¬ (255 : Int32) < (97 + (Int32.ofNat n - 26)) := by decide +kernel
theorem enc_3 : ∀ n, n < 64 → (¬ Int32.ofNat n < 52) → (Int32.ofNat n < 62) → nar .char (48 + (Int32.ofNat n - 52)) = e64 (Int32.ofNat n) ∧ ¬ (48 + (Int32.ofNat n - 52)) < 0 ∧ ¬ (255 : Int32) < (48 + (Int32.ofNat n - 52)) := by decide +kernel
theorem enc_4 : ∀ n, n < 64 → (Int32.ofNat n = 62) → nar .char 43 = e64 (Int32.ofNat n) := by decide +kernel
theorem enc_5 : ∀ n, n < 64 → (¬ Int32.ofNat n < 62) → (¬ Int32.ofNat n = 62) → nar .char 47 = e64 (Int32.ofNat n) := by decide +kernel
theorem enc_v {v : Int32} (h : B6 v) : (v < 26 → nar .char (65 + v) = e64 v ∧ ¬ (65 + v) < 0 ∧ ¬ (255 : Int32) < (65 + v)) ∧ (¬ v < 26 → v < 52 → nar .char (97 + (v - 26)) = e64 v ∧ ¬ (97 + (v - 26)) < 0 ∧ ¬ (255 : Int32) < (97 + (v - 26))) ∧ (¬ v < 52 → v < 62 → nar .char (48 + (v - 52)) = e64 v ∧ ¬ (48 + (v - 52)) < 0 ∧ ¬ (255 : Int32) < (48 + (v - 52))) ∧ (v = 62 → nar .char 43 = e64 v) ∧ (¬ v < 62 → ¬ v = 62 → nar .char 47 = e64 v) := by
  obtain ⟨n, hn, rfl⟩ := of_nat (k := 64) (by decide) h.1 h.2
  exact ⟨enc_1 n hn, enc_2 n hn, enc_3 n hn, enc_4 n hn, enc_5 n hn⟩
theorem addx {x y : Int32} (hx : 0 ≤ x.toInt) (hy : 0 ≤ y.toInt) (hs : x.toInt + y.toInt < 2147483648) : ¬ ((x ^^^ (x + y)) &&& (y ^^^ (x + y))) < 0 := by
  have a := c_iadd x y
  have r := rng32 (x + y)
  have p := c_xorS x (x + y)
  have q := c_xorS y (x + y)
  have t := c_and (x ^^^ (x + y)) (y ^^^ (x + y))
  rw [Int32.lt_iff_toInt_lt]
  have k0 : (0 : Int32).toInt = 0 := rfl
  omega
theorem mulx {x y : Int32} (hx : 0 ≤ x.toInt) (hy : 0 ≤ y.toInt) (hs : x.toInt * y.toInt < 2147483648) : (x.toInt64 * y.toInt64).toInt32.toInt64 = x.toInt64 * y.toInt64 ∧ (x.toInt64 * y.toInt64).toInt32.toInt = x.toInt * y.toInt := by
  have a := c_lmul x.toInt64 y.toInt64
  have b := c_i2l x
  have d := c_i2l y
  have r := rng64 (x.toInt64 * y.toInt64)
  have s := c_l2i (x.toInt64 * y.toInt64)
  have t := rng32 (x.toInt64 * y.toInt64).toInt32
  have u := c_i2l (x.toInt64 * y.toInt64).toInt32
  rw [b, d] at a
  have p : 0 ≤ x.toInt * y.toInt := Int.mul_nonneg hx hy
  exact ⟨Int64.toInt_inj.mp (by omega), by omega⟩
theorem cmp0 (x : Int64) : Jvm.Free.XT.cmpL x x = 0 := by
  unfold Jvm.Free.XT.cmpL
  rw [if_neg (fun h => absurd h (by rw [Int64.lt_iff_toInt_lt]; omega)), if_pos rfl]
theorem divN {n d : Nat} (hn : n ≤ 4000) (hd : 0 < d) (hd2 : d ≤ 100) : Int32.ofNat n / Int32.ofNat d = Int32.ofNat (n / d) := by
  have q := (c_idiv (Int32.ofNat n) (Int32.ofNat d) d (ofN (by omega)) (fun e => by have := congrArg Int32.toInt e; rw [ofN (by omega)] at this; have k : (-1 : Int32).toInt = -1 := rfl; omega)).1 (by rw [ofN hn]; omega)
  apply Int32.toInt_inj.mp
  have l := Nat.div_le_self n d
  rw [q, ofN hn, ofN (by omega)]
  exact (Int.natCast_ediv n d).symm
theorem modN {n d : Nat} (hn : n ≤ 4000) (hd : 0 < d) (hd2 : d ≤ 100) : Int32.ofNat n % Int32.ofNat d = Int32.ofNat (n % d) := by
  have q := (c_irem (Int32.ofNat n) (Int32.ofNat d) d (ofN (by omega))).1 (by rw [ofN hn]; omega)
  apply Int32.toInt_inj.mp
  have l := Nat.mod_lt n hd
  rw [q, ofN hn, ofN (by omega)]
  exact (Int.natCast_emod n d).symm
theorem minS (x : Int32) : (if x < 0 + x then x else 0 + x) = x := by
  rw [Int32.zero_add]
  split <;> rfl
theorem nm1 {n : Nat} (h : n ≤ 4000) : ¬ Int32.ofNat n = -1 := fun q => by
  have := congrArg Int32.toInt q
  rw [ofN h] at this
  have k : (-1 : Int32).toInt = -1 := rfl
  omega
theorem mulN4 {n : Nat} (h : n ≤ 1000) : ((4 : Int32).toInt64 * (Int32.ofNat n).toInt64).toInt32 = Int32.ofNat (4 * n) := by
  have k : (4 : Int32).toInt = 4 := rfl
  have e := ofN (n := n) (by omega)
  have q := (mulx (x := 4) (y := Int32.ofNat n) (by omega) (by omega) (by rw [k, e]; omega)).2
  apply Int32.toInt_inj.mp
  rw [q, k, e, ofN (by omega)]
  omega
theorem grow_p {mm : Nat} (h : 34 ≤ mm ∧ mm ≤ 100) : (0 : Int32) < Int32.ofNat mm - ((16 : Int32) >>> ((0 : Int32) &&& 31)) := by
  rw [show ((16 : Int32) >>> ((0 : Int32) &&& 31)) = Int32.ofNat 16 from rfl, subE (show mm = 16 + (mm - 16) by omega)]
  exact ltN (a := 0) (by decide) (by omega) (by omega)
theorem maxG {mm : Nat} (h : 34 ≤ mm ∧ mm ≤ 100) : (if Int32.ofNat (mm - 16) < (18 : Int32) then (18 : Int32) else Int32.ofNat (mm - 16)) = Int32.ofNat (mm - 16) := if_neg (fun q => by
  have := (ofNat_lt (a := mm - 16) (b := 18) (by omega) (by decide)).mp q
  omega)
theorem big {n : Nat} (h : n ≤ 4000) : ¬ (2147483639 : Int32) < Int32.ofNat n := by
  rw [Int32.lt_iff_toInt_lt, ofN h]
  have k : (2147483639 : Int32).toInt = 2147483639 := rfl
  omega
theorem nmax {n : Nat} (h : n ≤ 4000) : ¬ Int32.ofNat n = 2147483647 := fun q => by
  have := congrArg Int32.toInt q
  rw [ofN h] at this
  have k : (2147483647 : Int32).toInt = 2147483647 := rfl
  omega
theorem minL {a b : Nat} (h : a ≤ b) (hb : b ≤ 4000) : (if Int32.ofNat b < Int32.ofNat a then Int32.ofNat b else Int32.ofNat a) = Int32.ofNat a := if_neg (fun q => by
  have := (ofNat_lt (by omega) (by omega)).mp q
  omega)
theorem cof_list {vs : List Value} {z N : Nat} (d : Value) (hz : vs.length = z) : (List.replicate N d).take 0 ++ vs ++ (List.replicate N d).drop (0 + z) = vs ++ List.replicate (N - z) d := by
  simp
theorem range_all {vs : List Value} {z : Nat} (d : Value) (hz : vs.length = z) : vs = (List.range z).map fun i => vs.getD (0 + i) d := by
  subst hz
  simp only [Nat.zero_add]
  exact range_get vs d
theorem put_listG {cs ds : List Int32} {N : Nat} (h : N = cs.length + ds.length) : ((((cs.map fun c : Int32 => c.toInt8.toInt32).map Value.int) ++ List.replicate (N - cs.length) (Value.int 0))).take cs.length ++ ((ds.map fun c : Int32 => c.toInt8.toInt32).map Value.int) ++ ((((cs.map fun c : Int32 => c.toInt8.toInt32).map Value.int) ++ List.replicate (N - cs.length) (Value.int 0))).drop (cs.length + ds.length) = (((cs ++ ds).map fun c : Int32 => c.toInt8.toInt32).map Value.int) := by
  have e1 : ((cs.map fun c : Int32 => c.toInt8.toInt32).map Value.int).length = cs.length := by simp
  rw [List.take_append_of_le_length (by omega), List.take_of_length_le (by omega), List.drop_of_length_le (by rw [List.length_append, e1, List.length_replicate]; omega)]
  simp [List.map_append]
theorem vdN_len' {cs : List Int32} {N : Nat} (h : cs.length ≤ N) : ((((cs.map fun c : Int32 => c.toInt8.toInt32).map Value.int) ++ List.replicate (N - cs.length) (Value.int 0))).length = N := by
  simp only [List.length_append, List.length_map, List.length_replicate]
  omega
theorem vd_grow {cs : List Int32} {mm : Nat} (h : cs.length ≤ 16) (hm : 16 ≤ mm) : (((cs.map fun c : Int32 => c.toInt8.toInt32).map Value.int) ++ List.replicate (16 - cs.length) (Value.int 0)) ++ List.replicate (mm - 16) (Value.int 0) = (((cs.map fun c : Int32 => c.toInt8.toInt32).map Value.int) ++ List.replicate (mm - cs.length) (Value.int 0)) := by
  rw [List.append_assoc, List.replicate_append_replicate, show 16 - cs.length + (mm - 16) = mm - cs.length by omega]
theorem e64_n : ∀ n, n < 64 → ¬ (e64 (Int32.ofNat n)).toInt8.toInt32 = 61 := by decide +kernel
theorem e64_ne {v : Int32} (h : B6 v) : ¬ (e64 v).toInt8.toInt32 = 61 := by
  obtain ⟨n, hn, rfl⟩ := of_nat (k := 64) (by decide) h.1 h.2
  exact e64_n n hn
theorem encL_head {us : List Int32} {i j : Nat} (hi : i < us.length / 3) (hj : j < 4) : (encL us).getD (4 * i + j) 0 = (g3 (us.getD (3 * i) 0) (us.getD (3 * i + 1) 0) (us.getD (3 * i + 2) 0)).getD j 0 := by
  rw [encL, List.getD_eq_getElem?_getD, List.getElem?_append_left (by rw [encG_len]; omega), ← List.getD_eq_getElem?_getD]
  exact encG_get hj hi
theorem encL_tail {us : List Int32} {m j : Nat} (hm : m = us.length / 3) : (encL us).getD (4 * m + j) 0 = (encT us m).getD j 0 := by
  rw [encL, ← hm, List.getD_eq_getElem?_getD, List.getElem?_append_right (by rw [encG_len]; omega), encG_len, ← List.getD_eq_getElem?_getD]
  congr 1
  omega
theorem mask4 : ∀ g, g ≤ 30 → (Int32.ofNat (4 * g) &&& (-4)) = Int32.ofNat (4 * g) ∧ (Int32.ofNat (4 * g) &&& 3) = 0 := by decide +kernel
theorem dol {g p : Nat} (hg : g ≤ 30) (hp : p ≤ 3 * g) : (3 : Int32) * (((Int32.ofNat (4 * g)).toInt64 + 3) / 4).toInt32 - Int32.ofNat p = Int32.ofNat (3 * g - p) := by
  have e := ofN (n := 4 * g) (by omega)
  have i := c_i2l (Int32.ofNat (4 * g))
  have a := c_ladd (Int32.ofNat (4 * g)).toInt64 3
  have r := rng64 ((Int32.ofNat (4 * g)).toInt64 + 3)
  have k3 : (3 : Int64).toInt = 3 := rfl
  have d := (c_ldiv ((Int32.ofNat (4 * g)).toInt64 + 3) 4 4 rfl (by decide)).1 (by omega)
  have s := c_l2i (((Int32.ofNat (4 * g)).toInt64 + 3) / 4)
  have t := rng32 (((Int32.ofNat (4 * g)).toInt64 + 3) / 4).toInt32
  have u := c_imul 3 (((Int32.ofNat (4 * g)).toInt64 + 3) / 4).toInt32
  have k4 : (3 : Int32).toInt = 3 := rfl
  rw [k4] at u
  have v := rng32 ((3 : Int32) * (((Int32.ofNat (4 * g)).toInt64 + 3) / 4).toInt32)
  have w := c_isub ((3 : Int32) * (((Int32.ofNat (4 * g)).toInt64 + 3) / 4).toInt32) (Int32.ofNat p)
  have x := rng32 ((3 : Int32) * (((Int32.ofNat (4 * g)).toInt64 + 3) / 4).toInt32 - Int32.ofNat p)
  have y := ofN (n := p) (by omega)
  apply Int32.toInt_inj.mp
  rw [ofN (by omega)]
  omega
theorem or_neg (x : Int32) {y : Int32} (h : y < 0) : (x ||| y) < 0 := by
  rw [Int32.lt_iff_toInt_lt] at h ⊢
  have k : (0 : Int32).toInt = 0 := rfl
  rw [k] at h ⊢
  have m : y.toBitVec.msb = true := by
    have := BitVec.toInt_eq_msb_cond y.toBitVec
    change y.toInt = _ at this
    cases q : y.toBitVec.msb with
    | true => rfl
    | false => rw [q] at this; simp at this; omega
  have m2 : (x ||| y).toBitVec.msb = true := by
    show (x.toBitVec ||| y.toBitVec).msb = true
    rw [BitVec.msb_or, m, Bool.or_true]
  have := BitVec.toInt_eq_msb_cond (x ||| y).toBitVec
  change (x ||| y).toInt = _ at this
  rw [m2, if_pos rfl] at this
  have l := (x ||| y).toBitVec.isLt
  omega
theorem un3 {a b c : Int32} (ha : ¬ a < 0 ∧ ¬ (255 : Int32) < a) (hb : ¬ b < 0 ∧ ¬ (255 : Int32) < b) (hc : ¬ c < 0 ∧ ¬ (255 : Int32) < c) : ((((q1 a b c <<< ((18 : Int32) &&& 31)) ||| (q2 a b c <<< ((12 : Int32) &&& 31))) ||| (q3 a b c <<< ((6 : Int32) &&& 31))) ||| q4 a b c) = w3 a b c ∧ ¬ (((q1 a b c ||| q2 a b c) ||| q3 a b c) ||| q4 a b c) < 0 := by
  have w := w3_i ha hb hc
  have q := q_i ha hb hc
  have a0 := u8i ha
  have b0 := u8i hb
  have c0 := u8i hc
  have x1 := shl_i (x := q1 a b c) (q := 18) (k := 18) (by decide) (by omega) (by omega)
  have x2 := shl_i (x := q2 a b c) (q := 12) (k := 12) (by decide) (by omega) (by omega)
  have x3 := shl_i (x := q3 a b c) (q := 6) (k := 6) (by decide) (by omega) (by omega)
  have o1 := or_i (a := q1 a b c <<< ((18 : Int32) &&& 31)) (b := q2 a b c <<< ((12 : Int32) &&& 31)) 18 (by decide) 262144 rfl (by omega) (by omega) (by omega) (by omega) (by omega)
  have o2 := or_i (a := (q1 a b c <<< ((18 : Int32) &&& 31)) ||| (q2 a b c <<< ((12 : Int32) &&& 31))) (b := q3 a b c <<< ((6 : Int32) &&& 31)) 12 (by decide) 4096 rfl (by omega) (by omega) (by omega) (by omega) (by omega)
  have o3 := or_i (a := ((q1 a b c <<< ((18 : Int32) &&& 31)) ||| (q2 a b c <<< ((12 : Int32) &&& 31))) ||| (q3 a b c <<< ((6 : Int32) &&& 31))) (b := q4 a b c) 6 (by decide) 64 rfl (by omega) (by omega) (by omega) (by omega) (by omega)
  have p1 := c_or0 (q1 a b c) (q2 a b c) (by omega) (by omega)
  have p2 := c_or0 (q1 a b c ||| q2 a b c) (q3 a b c) (by omega) (by omega)
  have p3 := c_or0 ((q1 a b c ||| q2 a b c) ||| q3 a b c) (q4 a b c) (by omega) (by omega)
  refine ⟨Int32.toInt_inj.mp (by omega), ?_⟩
  rw [Int32.lt_iff_toInt_lt]
  have k : (0 : Int32).toInt = 0 := rfl
  omega
theorem i8_eq {x y : Int32} (h : (x.toInt - y.toInt) % 256 = 0) : x.toInt8.toInt32 = y.toInt8.toInt32 := by
  have a := c_i2b x
  have b := c_i2b y
  apply Int32.toInt_inj.mp
  omega
theorem w3_b {a b c : Int32} (ha : ¬ a < 0 ∧ ¬ (255 : Int32) < a) (hb : ¬ b < 0 ∧ ¬ (255 : Int32) < b) (hc : ¬ c < 0 ∧ ¬ (255 : Int32) < c) : (w3 a b c >>> ((16 : Int32) &&& 31)).toInt8.toInt32 = a.toInt8.toInt32 ∧ (w3 a b c >>> ((8 : Int32) &&& 31)).toInt8.toInt32 = b.toInt8.toInt32 ∧ (w3 a b c).toInt8.toInt32 = c.toInt8.toInt32 := by
  have w := w3_i ha hb hc
  have a0 := u8i ha
  have b0 := u8i hb
  have c0 := u8i hc
  have s1 := c_ishr (w3 a b c) 16 16 (by decide)
  have s2 := c_ishr (w3 a b c) 8 8 (by decide)
  exact ⟨i8_eq (by omega), i8_eq (by omega), i8_eq (by omega)⟩
theorem take3 {us : List Int32} {i : Nat} (h : 3 * i + 3 ≤ us.length) : us.take (3 * i) ++ [us.getD (3 * i) 0] ++ [us.getD (3 * i + 1) 0] ++ [us.getD (3 * i + 2) 0] = us.take (3 * (i + 1)) := by
  rw [take_snoc (by omega), take_snoc (by omega), take_snoc (by omega)]
  rfl
/-- the tail of one byte, of two bytes, read again -/
theorem un1 {a : Int32} (ha : ¬ a < 0 ∧ ¬ (255 : Int32) < a) : ((((0 : Int32) ||| ((a >>> ((2 : Int32) &&& 31)) <<< ((18 : Int32) &&& 31))) ||| (((a <<< ((4 : Int32) &&& 31)) &&& 63) <<< ((12 : Int32) &&& 31))) >>> ((16 : Int32) &&& 31)).toInt8.toInt32 = a.toInt8.toInt32 := by
  have a0 := u8i ha
  have s := c_ishr a 2 2 (by decide)
  have x := shl_i (x := a) (q := 4) (k := 4) (by decide) a0.1 (by omega)
  have m := c_mask (a <<< ((4 : Int32) &&& 31)) 63 6 (by decide) (by decide)
  have x1 := shl_i (x := a >>> ((2 : Int32) &&& 31)) (q := 18) (k := 18) (by decide) (by omega) (by omega)
  have x2 := shl_i (x := (a <<< ((4 : Int32) &&& 31)) &&& 63) (q := 12) (k := 12) (by decide) (by omega) (by omega)
  rw [show ((0 : Int32) ||| ((a >>> ((2 : Int32) &&& 31)) <<< ((18 : Int32) &&& 31))) = ((a >>> ((2 : Int32) &&& 31)) <<< ((18 : Int32) &&& 31)) from Int32.zero_or]
  have o := or_i (a := (a >>> ((2 : Int32) &&& 31)) <<< ((18 : Int32) &&& 31)) (b := ((a <<< ((4 : Int32) &&& 31)) &&& 63) <<< ((12 : Int32) &&& 31)) 18 (by decide) 262144 rfl (by omega) (by omega) (by omega) (by omega) (by omega)
  have t := c_ishr (((a >>> ((2 : Int32) &&& 31)) <<< ((18 : Int32) &&& 31)) ||| (((a <<< ((4 : Int32) &&& 31)) &&& 63) <<< ((12 : Int32) &&& 31))) 16 16 (by decide)
  exact i8_eq (by omega)
theorem un2 {a b : Int32} (ha : ¬ a < 0 ∧ ¬ (255 : Int32) < a) (hb : ¬ b < 0 ∧ ¬ (255 : Int32) < b) : (((((0 : Int32) ||| ((a >>> ((2 : Int32) &&& 31)) <<< ((18 : Int32) &&& 31))) ||| ((((a <<< ((4 : Int32) &&& 31)) &&& 63) ||| (b >>> ((4 : Int32) &&& 31))) <<< ((12 : Int32) &&& 31))) ||| (((b <<< ((2 : Int32) &&& 31)) &&& 63) <<< ((6 : Int32) &&& 31))) >>> ((16 : Int32) &&& 31)).toInt8.toInt32 = a.toInt8.toInt32 ∧ (((((0 : Int32) ||| ((a >>> ((2 : Int32) &&& 31)) <<< ((18 : Int32) &&& 31))) ||| ((((a <<< ((4 : Int32) &&& 31)) &&& 63) ||| (b >>> ((4 : Int32) &&& 31))) <<< ((12 : Int32) &&& 31))) ||| (((b <<< ((2 : Int32) &&& 31)) &&& 63) <<< ((6 : Int32) &&& 31))) >>> ((8 : Int32) &&& 31)).toInt8.toInt32 = b.toInt8.toInt32 := by
  have a0 := u8i ha
  have b0 := u8i hb
  have s := c_ishr a 2 2 (by decide)
  have tt := t2_i ha hb
  have y := shl_i (x := b) (q := 2) (k := 2) (by decide) b0.1 (by omega)
  have m := c_mask (b <<< ((2 : Int32) &&& 31)) 63 6 (by decide) (by decide)
  generalize ((a <<< ((4 : Int32) &&& 31)) &&& 63) ||| (b >>> ((4 : Int32) &&& 31)) = d at tt
  generalize (b <<< ((2 : Int32) &&& 31)) &&& 63 = f at m
  rw [show ((0 : Int32) ||| ((a >>> ((2 : Int32) &&& 31)) <<< ((18 : Int32) &&& 31))) = ((a >>> ((2 : Int32) &&& 31)) <<< ((18 : Int32) &&& 31)) from Int32.zero_or]
  generalize a >>> ((2 : Int32) &&& 31) = g at s
  have x1 := shl_i (x := g) (q := 18) (k := 18) (by decide) (by omega) (by omega)
  have x2 := shl_i (x := d) (q := 12) (k := 12) (by decide) (by omega) (by omega)
  have x3 := shl_i (x := f) (q := 6) (k := 6) (by decide) (by omega) (by omega)
  have o1 := or_i (a := g <<< ((18 : Int32) &&& 31)) (b := d <<< ((12 : Int32) &&& 31)) 18 (by decide) 262144 rfl (by omega) (by omega) (by omega) (by omega) (by omega)
  have o2 := or_i (a := (g <<< ((18 : Int32) &&& 31)) ||| (d <<< ((12 : Int32) &&& 31))) (b := f <<< ((6 : Int32) &&& 31)) 12 (by decide) 4096 rfl (by omega) (by omega) (by omega) (by omega) (by omega)
  have t1 := c_ishr (((g <<< ((18 : Int32) &&& 31)) ||| (d <<< ((12 : Int32) &&& 31))) ||| (f <<< ((6 : Int32) &&& 31))) 16 16 (by decide)
  have t2 := c_ishr (((g <<< ((18 : Int32) &&& 31)) ||| (d <<< ((12 : Int32) &&& 31))) ||| (f <<< ((6 : Int32) &&& 31))) 8 8 (by decide)
  exact ⟨i8_eq (by omega), i8_eq (by omega)⟩
theorem nn_b6 {v : Int32} (h : B6 v) : ¬ v < 0 := by
  rw [Int32.lt_iff_toInt_lt]
  have k : (0 : Int32).toInt = 0 := rfl
  obtain ⟨a, b⟩ := h
  omega
theorem drop_range {cs : List Int32} {f n : Nat} (h : cs.length = f + n) : (((cs.drop f).map fun c : Int32 => c.toInt8.toInt32).map Value.int) = (List.range n).map fun i => (((cs.map fun c : Int32 => c.toInt8.toInt32).map Value.int)).getD (f + i) (.int 0) := by
  have q := range_drop (vs := ((cs.map fun c : Int32 => c.toInt8.toInt32).map Value.int)) (z := cs.length) (f := f) (n := n) (.int 0) (by simp) (by omega)
  rw [← q, ← List.map_drop, ← List.map_drop]
  rw [List.take_of_length_le (by simp; omega)]
theorem lenN (x : Int32) : ∃ n, (24 ≤ n ∧ n ≤ 64) ∧ (24 : Int32) + (x &&& 2147483647) % 41 = Int32.ofNat n := by
  have a := c_mask x 2147483647 31 (by decide) (by decide)
  have b := (c_irem (x &&& 2147483647) 41 41 rfl).1 (by omega)
  have d := c_iadd 24 ((x &&& 2147483647) % 41)
  have r := rng32 (24 + (x &&& 2147483647) % 41)
  have k : (24 : Int32).toInt = 24 := rfl
  refine ⟨((24 : Int32) + (x &&& 2147483647) % 41).toInt.toNat, by omega, ?_⟩
  apply Int32.toInt_inj.mp
  rw [ofN (by omega)]
  omega
theorem S6 (X : List Int32) (k : Nat) : (([119, 104, 115, 101, 99, 95] : List Int32) ++ X).getD (6 + k) 0 = X.getD k 0 := by
  rw [Nat.add_comm]
  rfl
theorem m34 {x : Int32} (hx : ¬ x < 0 ∧ ¬ (255 : Int32) < x) : (x &&& 3) <<< ((4 : Int32) &&& 31) = (x <<< ((4 : Int32) &&& 31)) &&& 63 := by
  have x0 := u8i hx
  have a := c_mask x 3 2 (by decide) (by decide)
  have b := shl_i (x := x &&& 3) (q := 4) (k := 4) (by decide) (by omega) (by omega)
  have d := shl_i (x := x) (q := 4) (k := 4) (by decide) (by omega) (by omega)
  have e := c_mask (x <<< ((4 : Int32) &&& 31)) 63 6 (by decide) (by decide)
  apply Int32.toInt_inj.mp
  omega
theorem m15 {x : Int32} (hx : ¬ x < 0 ∧ ¬ (255 : Int32) < x) : (x &&& 15) <<< ((2 : Int32) &&& 31) = (x <<< ((2 : Int32) &&& 31)) &&& 63 := by
  have x0 := u8i hx
  have a := c_mask x 15 4 (by decide) (by decide)
  have b := shl_i (x := x &&& 15) (q := 2) (k := 2) (by decide) (by omega) (by omega)
  have d := shl_i (x := x) (q := 2) (k := 2) (by decide) (by omega) (by omega)
  have e := c_mask (x <<< ((2 : Int32) &&& 31)) 63 6 (by decide) (by decide)
  apply Int32.toInt_inj.mp
  omega
theorem hasL_of {cl : Cell} (d : Value) : ∀ (vs : List Value) (k : Nat), (∀ j, j < vs.length → cl.slots[k + j]? = some (vs.getD j d)) → HasL cl k vs
  | [], _, _ => trivial
  | v :: vs, k, h => ⟨h 0 (by simp), hasL_of d vs (k + 1) (fun j hj => by
    have q := h (j + 1) (by simpa using hj)
    rw [show k + 1 + j = k + (j + 1) by omega]
    exact q)⟩
end Own

namespace Own
section B64Steps
variable {Z : State} {own : String} {bytes : ByteArray} {h : Heap} {p : Program} {l : Launch} {e : Env} {R : Room} {s : State} {m : MethodId} {args : Array Value} {below : List Frame} {meth : Method} {c : Code} {T : State} {locs : List Loc} {cells slots : Nat}
  {K : State → Outcome → Prop} {a0 : Array Value} {pc q : Nat} {Ls : Array Slot} {st : List Value}
theorem getD_int (xs : List Int32) (n : Nat) : (xs.map Value.int).getD n (.int 0) = .int (xs.getD n 0) := by
  simp only [List.getD_eq_getElem?_getD, List.getElem?_map]
  cases xs[n]? <;> rfl
/-- a byte is read -/
theorem bget {a : Addr} {kc : ClassId} {us : List Int32} {i n : Nat} (P : Wk Z own bytes h p l e R s m args below meth c T locs cells slots) (hd : decode bytes pc = .ok (.baload, 1)) (A : Arv Z h a kc .byte (Int32.ofNat n) ((us.map fun c : Int32 => c.toInt8.toInt32).map Value.int) (.int 0)) (hi : i < n) (hn : n ≤ 4000) (hq : pc + 1 = q) (k : Goes p.tables e below K (T.setTop (mkF m q Ls (.int (us.getD i 0).toInt8.toInt32 :: st)))) : Goes p.tables e below K (T.setTop (mkF m pc Ls (.int (Int32.ofNat i) :: .ref a :: st))) :=
  baload P hd A (nneg (by omega)) (ltN (by omega) hn hi) (by rw [clamp (by omega)]; exact by_get us i) hq k
/-- a byte is laid behind those that stand -/
theorem bapp {a : Addr} {kc : ClassId} {X : List Int32} {N : Nat} {x : Int32} (P : Wk Z own bytes h p l e R s m args below meth c T locs cells slots) (hd : decode bytes pc = .ok (.bastore, 1)) (A : Arv Z h a kc .byte (Int32.ofNat N) (((X.map fun c : Int32 => c.toInt8.toInt32).map Value.int) ++ List.replicate (N - X.length) (Value.int 0)) (.int 0)) (hx : X.length < N) (hN : N ≤ 4000) (hq : pc + 1 = q)
    (k : ∀ T₂ h₂ lc, lc.base = a → Wk Z own bytes h₂ p l e R s m args below meth c T₂ (locs ++ [lc]) cells slots → Wr h h₂ a X.length (.int x.toInt8.toInt32) → Arv Z h₂ a kc .byte (Int32.ofNat N) ((((X ++ [x]).map fun c : Int32 => c.toInt8.toInt32).map Value.int) ++ List.replicate (N - (X ++ [x]).length) (Value.int 0)) (.int 0) → Goes p.tables e below K (T₂.setTop (mkF m q Ls (st)))) : Goes p.tables e below K (T.setTop (mkF m pc Ls (.int x.toInt8.toInt32 :: .int (Int32.ofNat X.length) :: .ref a :: st))) :=
  bastore (i := X.length) (x2 := x.toInt8.toInt32) P hd A (nneg (by omega)) (ltN (by omega) hN hx) (nar_b _) (fits_b _) (clamp (by omega)) (by rw [List.length_append, List.length_map, List.length_map, List.length_replicate]; omega) hq
    (fun T₂ h₂ lc e1 P2 W2 A2 => k T₂ h₂ lc e1 P2 W2 (by rw [vd_setN hx] at A2; exact A2))
theorem by_u (y : Int32) : (y &&& 255).toInt8.toInt32 = y.toInt8.toInt32 := by
  have a := c_mask y 255 8 (by decide) (by decide)
  have b := c_i2b (y &&& 255)
  have d := c_i2b y
  apply Int32.toInt_inj.mp
  omega
theorem by_set (us : List Int32) (i : Nat) (u : Int32) : ((us.map fun c : Int32 => c.toInt8.toInt32).map Value.int).set i (.int u.toInt8.toInt32) = (((us.set i u).map fun c : Int32 => c.toInt8.toInt32).map Value.int) := by
  rw [List.map_set, List.map_set]
/-- any byte is laid at a place -/
theorem bput {a : Addr} {kc : ClassId} {us : List Int32} {i n : Nat} {x : Int32} (P : Wk Z own bytes h p l e R s m args below meth c T locs cells slots) (hd : decode bytes pc = .ok (.bastore, 1)) (A : Arv Z h a kc .byte (Int32.ofNat n) ((us.map fun c : Int32 => c.toInt8.toInt32).map Value.int) (.int 0)) (hl : us.length = n) (hp : ∀ c ∈ us, ¬ c < 0 ∧ ¬ (255 : Int32) < c) (hi : i < n) (hn : n ≤ 4000) (hq : pc + 1 = q)
    (k : ∀ T₂ h₂ lc (us' : List Int32), lc.base = a → Wk Z own bytes h₂ p l e R s m args below meth c T₂ (locs ++ [lc]) cells slots → Wr h h₂ a i (.int x.toInt8.toInt32) → us'.length = n → (∀ c ∈ us', ¬ c < 0 ∧ ¬ (255 : Int32) < c) → Arv Z h₂ a kc .byte (Int32.ofNat n) ((us'.map fun c : Int32 => c.toInt8.toInt32).map Value.int) (.int 0) → Goes p.tables e below K (T₂.setTop (mkF m q Ls (st)))) : Goes p.tables e below K (T.setTop (mkF m pc Ls (.int x.toInt8.toInt32 :: .int (Int32.ofNat i) :: .ref a :: st))) :=
  bastore (i := i) (x2 := x.toInt8.toInt32) P hd A (nneg (by omega)) (ltN (by omega) hn hi) (nar_b _) (fits_b _) (clamp (by omega)) (by rw [List.length_map, List.length_map]; omega) hq
    (fun T₂ h₂ lc e1 P2 W2 A2 => k T₂ h₂ lc (us.set i (x &&& 255)) e1 P2 W2 (by rw [List.length_set]; exact hl) (fun c hc => (List.mem_or_eq_of_mem_set hc).elim (hp c) (fun e => e ▸ lo_rng x)) (by rw [← by_set, by_u]; exact A2))
/-- a digit's sign is read -/
theorem tget {a : Addr} {kc : ClassId} {v : Int32} (P : Wk Z own bytes h p l e R s m args below meth c T locs cells slots) (hd : decode bytes pc = .ok (.caload, 1)) (A : Arv Z h a kc .char 64 (tab.map Value.int) (.int 0)) (hv : B6 v) (hq : pc + 1 = q) (k : Goes p.tables e below K (T.setTop (mkF m q Ls (.int (e64 v) :: st)))) : Goes p.tables e below K (T.setTop (mkF m pc Ls (.int v :: .ref a :: st))) := by
  obtain ⟨n, hn, rfl⟩ := of_nat (k := 64) (by decide) hv.1 hv.2
  exact caload P hd A (nneg (by omega)) (ltN (b := 64) (by omega) (by decide) hn) (getD_int _ _) hq k
/-- a sign's digit is read -/
theorem fget {a : Addr} {kc : ClassId} {v : Int32} (P : Wk Z own bytes h p l e R s m args below meth c T locs cells slots) (hd : decode bytes pc = .ok (.iaload, 1)) (A : Arv Z h a kc .int 256 (ftab.map Value.int) (.int 0)) (hv : ¬ v < 0 ∧ ¬ (255 : Int32) < v) (hq : pc + 1 = q) (k : Goes p.tables e below K (T.setTop (mkF m q Ls (.int (d64 v) :: st)))) : Goes p.tables e below K (T.setTop (mkF m pc Ls (.int v :: .ref a :: st))) := by
  obtain ⟨n, hn, rfl⟩ := of_nat (k := 256) (by decide) (u8i hv).1 (u8i hv).2
  exact iaload P hd A (nneg (by omega)) (ltN (b := 256) (by omega) (by decide) hn) (getD_int _ _) hq k
/-- a byte array is made; its class is known by its name -/
theorem newarrE {n : Int32} {cap : Nat} (P : Wk Z own bytes h p l e R s m args below meth c T locs cells slots) (hd : decode bytes pc = .ok (.newarray .byte, 2)) (w : (Cond.arrayClass .byte).before a0 Z = true) (hn : ¬ n < 0) (hcap : n.toNatClampNeg ≤ cap) (hcb : cap * 8 ≤ 536870912) (hc : cells + 1 ≤ R.cells) (hl : slots + cap ≤ R.slots) (hq : pc + 2 = q)
    (k : ∀ T₂ h₂ a kc, a = h.size → Wk Z own bytes h₂ p l e R s m args below meth c T₂ locs (cells + 1) (slots + cap) → Ext h h₂ → Arv Z h₂ a kc .byte n [] (.int 0) → Exa Z h₂ a "[B" → Goes p.tables e below K (T₂.setTop (mkF m q Ls (.ref a :: st)))) : Goes p.tables e below K (T.setTop (mkF m pc Ls (.int n :: st))) := by
  subst hq
  have hh := P.2.2.2.2.2
  subst hh
  obtain ⟨cA, kA, comp, h1, h2, h3, X', st'⟩ := P.1.newarrayPrim P.2.1 (atype := .byte) (mvA P.2.2.2.1 w) (g := mkF m pc Ls (.int n :: st)) rfl (hb P.2.2.1 hd) rfl hn (by show n.toNatClampNeg * 1 ≤ _; omega) hc (by omega)
  have hf : Z.vm.findClass "[B" = some cA := by rw [← P.2.2.2.1.alike.findClass]; exact h1
  obtain ⟨kZ, z1, -⟩ := Vm.findClass_spec hf
  have hk : kZ.kind = .array comp .byte := by
    obtain ⟨k', z2, z3⟩ := P.2.2.2.1.alike.2.2 _ _ z1
    cases h2.symm.trans z2
    have h4 : kA.kind = .array comp .byte := h3
    rw [← h4, z3]
  have hnew : (T.heap.push (newA cA .byte n))[T.heap.size]? = some (newA cA .byte n) := by simp
  have hA : Arr Z (T.heap.push (newA cA .byte n)) T.heap.size (newA cA .byte n) .byte := ⟨hnew, ⟨by simp [newA], kZ, z1, comp, hk⟩, by simp [newA]⟩
  have hE : Ext T.heap (T.heap.push (newA cA .byte n)) := ⟨by simp, fun a c q => by rw [Array.getElem?_push_lt (Array.getElem?_eq_some_iff.mp q).1]; exact (Array.getElem?_eq_getElem _).symm.trans q⟩
  exact Goes.go st' (k _ _ _ cA rfl ⟨X'.more (Nat.le_refl _) (by omega), P.2.1, P.2.2.1, P.2.2.2.1, P.2.2.2.2.1, rfl⟩ hE (Arv.new hA hn) (exa_arr hA hf rfl))
end B64Steps
end Own

namespace Own
section WithSteps
variable {Z : State} {own : String} {bytes : ByteArray} {h : Heap} {p : Program} {l : Launch} {e : Env} {R : Room} {s : State} {m : MethodId} {args : Array Value} {below : List Frame} {meth : Method} {c : Code} {T : State} {locs : List Loc} {cells slots : Nat}
  {K : State → Outcome → Prop} {a0 : Array Value} {pc q : Nat} {Ls : Array Slot} {st : List Value}
def MFW (l : Launch) (Z : State) (y : MethodName) (cb : ByteArray) (mx : Nat) (rt : Option FieldType) (hs : List (Nat × Nat × Nat × Nat)) (ws : List Jvm.Cond) (R : Room) (as' : Array Value) (h0 : Heap) (Q : Option Value → Heap → List Loc → Prop) : Prop :=
  MetFree l y (head1 (Jvm.Cond.codeWith y cb mx rt hs :: ws) R) (fun a U => a = as' ∧ Z.Warmed39 U.vm ∧ U.heap = h0) (fun _ _ _ _ _ => True) (fun _ U o U' => ∃ v L, o = .returned v ∧ Q v U'.heap L ∧ FrameEnd U o U' L R.cells R.slots)
theorem MFW.of {y : MethodName} {cb : ByteArray} {mx : Nat} {rt : Option FieldType} {hs : List (Nat × Nat × Nat × Nat)} {ws : List Jvm.Cond} {as' : Array Value} {h0 : Heap} {Q : Option Value → Heap → List Loc → Prop} {n : Nat} (ho : y.cls = own) (hn : mx = n) (pn : plainFor y = true)
    (k : ∀ (p : Program) (e : Env) (s : State) (m : MethodId) (below : List Frame) (meth : Method) (c : Code) (s₁ : State), (∀ {j : Nat}, j = n → j = c.maxLocals) → meth.locks = false → meth.sig.returnType = rt → meth.name = y.name → Wk Z own cb h0 p l e R s m as' below meth c s₁ [] 0 0 → Goes p.tables e below (KE Q s R.cells R.slots) (s₁.setTop (entryFrame m as' mx))) : MFW l Z y cb mx rt hs ws R as' h0 Q := by
  subst ho hn
  refine MetFree.of_bodySF pn hisWith ?_
  intro p e s m args below meth c s₁ Bd hml0 hP hK
  obtain ⟨rfl, hZ, hh⟩ := hP
  exact k p e s m below meth c s₁ (fun q => q.trans hml0.symm) Bd.notSynchronized Bd.returns (name_of_methodNamed Bd.named Bd.method).1 ⟨Stand.of_body Bd, Bd.exec, Bd.bytes, hZ, findClass_of_methodNamed Bd.named, by rw [← hh, Bd.state]; rfl⟩
theorem declOfW {Z : State} {a0 : Array Value} {y : MethodName} {cb : ByteArray} {mL : Nat} {ret : Option FieldType} {hs : List (Nat × Nat × Nat × Nat)} (w3 : (Cond.instanceMethod y).before a0 Z = true) (wc : (Cond.codeWith y cb mL ret hs).before a0 Z = true) : (Cond.declares y).before a0 Z = true := by
  obtain ⟨mk, methM, hnamed, hmethM, hstM, -⟩ := Cond.instanceMethod_spec w3
  obtain ⟨m2, meth2, c2, q0, q1, -, -, -, -, -, -, hsig⟩ := Cond.codeWith_spec wc
  cases hnamed.symm.trans q0
  cases hmethM.symm.trans q1
  simp [Cond.before, Cond.holds, Cond.value, hnamed, hmethM, hstM, hsig]
def VX (Z : State) (a0 : Array Value) (C : String) (y z : MethodName) (cb : ByteArray) (mL : Nat) (ret : Option FieldType) (hs : List (Nat × Nat × Nat × Nat)) (n : Nat) : Prop := (Cond.declares y).before a0 Z = true ∧ (Cond.selects C y z).before a0 Z = true ∧ (Cond.instanceMethod z).before a0 Z = true ∧ (Cond.initialized z.cls).before a0 Z = true ∧ (Cond.codeWith z cb mL ret hs).before a0 Z = true ∧ (y.cls ≠ "java/lang/invoke/MethodHandle" ∧ y.cls ≠ "java/lang/invoke/VarHandle") ∧ ∃ r ps, parseMethodDescriptor y.desc = some ⟨ps, r⟩ ∧ ps.length = n
theorem cX {y z : MethodName} {ret : Option FieldType} {hs : List (Nat × Nat × Nat × Nat)} {a : Addr} {C : String} {cb : ByteArray} {mL nn : Nat} {rm : Room} {i W : Nat} {Q : Option Value → Heap → List Loc → Prop} {argsL rest : List Value} (P : Wk Z own bytes h p l e R s m args below meth c T locs cells slots) (hd : decode bytes pc = .ok (.invokevirtual i, 3)) (w1 : (Cond.methodLink own i y).before a0 Z = true) (sw : VX Z a0 C y z cb mL ret hs nn) (nf : NotFace s y) (E : Exa Z h a C) (M : MFW l Z z cb mL ret hs [] rm (.ref a :: argsL).toArray h Q) (hf : rm.frames + 1 ≤ R.frames) (hl : W + (mL + 11) + rm.locals ≤ R.locals) (hst : st = argsL.reverse ++ .ref a :: rest) (hz : Ls.size = c.maxLocals) (hn : argsL.length = nn) (hW : (rest.map fun v => v.category).sum = W) (hcc : cells + rm.cells ≤ R.cells) (hss : slots + rm.slots ≤ R.slots) (hq : pc + 3 = q)
    (k : ∀ v T₂ h₂ L, Q v h₂ L → Wk Z own bytes h₂ p l e R s m args below meth c T₂ (locs ++ L) (cells + rm.cells) (slots + rm.slots) → Goes p.tables e below K (T₂.setTop (mkF m q Ls (match v with | none => rest | some x => x :: rest)))) : Goes p.tables e below K (T.setTop (mkF m pc Ls (st))) :=
  invVirtual P hd w1 sw.1 sw.2.1 sw.2.2.1 nf sw.2.2.2.2.2.1 (backOfWith (W := W) (Q := Q) M P.2.2.2.1 sw.2.2.2.2.1 sw.2.2.2.1 hf hl) E rfl hst hz (lenW sw.2.2.2.2.2.2 hn) (w0 hW) hcc hss hq k
end WithSteps
end Own

namespace Own
section WithHeld
variable {Z : State} {own : String} {bytes : ByteArray} {h : Heap} {p : Program} {l : Launch} {e : Env} {R : Room} {s : State} {m : MethodId} {args : Array Value} {below : List Frame} {meth : Method} {c : Code} {T : State} {locs : List Loc} {cells slots : Nat}
  {K : State → Outcome → Prop} {a0 : Array Value} {pc q : Nat} {Ls : Array Slot} {st : List Value} {vm : Vm} {h0 : Heap} {EL : List (String × Nat)}
def MFHW (l : Launch) (Z : State) (EL : List (String × Nat)) (y : MethodName) (cb : ByteArray) (mx : Nat) (rt : Option FieldType) (hs : List (Nat × Nat × Nat × Nat)) (ws : List Jvm.Cond) (R : Room) (as' : Array Value) (sf : List Addr) (h0 : Heap) (Q : Option Value → Heap → List Loc → Prop) : Prop :=
  MetFree l y (head1 (Jvm.Cond.codeWith y cb mx rt hs :: ws) R) (fun a U => a = as' ∧ Z.Warmed39 U.vm ∧ U.heap = h0 ∧ CHv Z EL U.vm h0 ∧ ∀ x ∈ sf, Safe Z EL U.vm h0 x) (fun _ _ _ _ _ => True) (fun _ U o U' => ∃ v L, o = .returned v ∧ Q v U'.heap L ∧ CHr Z EL U.vm U.heap U'.vm U'.heap ∧ ReturnedEndW U o U' L R.cells R.slots)
theorem MFHW.of {y : MethodName} {cb : ByteArray} {mx : Nat} {rt : Option FieldType} {hs : List (Nat × Nat × Nat × Nat)} {ws : List Jvm.Cond} {as' : Array Value} {sf : List Addr} {Q : Option Value → Heap → List Loc → Prop} {n : Nat} (ho : y.cls = own) (hn : mx = n) (pn : plainFor y = true)
    (k : ∀ (p : Program) (e : Env) (s : State) (m : MethodId) (below : List Frame) (meth : Method) (c : Code) (s₁ : State), (∀ {j : Nat}, j = n → j = c.maxLocals) → meth.locks = false → meth.sig.returnType = rt → meth.name = y.name → s.heap = h0 → Hd Z EL s s.vm h0 h0 → (∀ x ∈ sf, Safe Z EL s.vm h0 x) → Wk Z own cb h0 p l e R (s.setVm s.vm) m as' below meth c s₁ [] 0 0 → Goes p.tables e below (KEH Z EL Q s R.cells R.slots) (s₁.setTop (entryFrame m as' mx))) : MFHW l Z EL y cb mx rt hs ws R as' sf h0 Q := by
  subst ho hn
  refine MetFree.of_bodySF pn hisWith ?_
  intro p e s m args below meth c s₁ Bd hml0 hP hK
  obtain ⟨rfl, hZ, hh, hCH, hSf⟩ := hP
  exact k p e s m below meth c s₁ (fun q => q.trans hml0.symm) Bd.notSynchronized Bd.returns (name_of_methodNamed Bd.named Bd.method).1 hh (Hd.start hCH) hSf ⟨Stand.of_body Bd, Bd.exec, Bd.bytes, hZ, findClass_of_methodNamed Bd.named, by rw [← hh, Bd.state]; rfl⟩
/-- the payer of such a method -/
theorem backHX {y : MethodName} {cb : ByteArray} {maxL : Nat} {ret : Option FieldType} {hs : List (Nat × Nat × Nat × Nat)} {rm : Room} {len W : Nat} {as' : Array Value} {Q : Option Value → Heap → List Loc → Prop} {sf : List Addr}
    (hM : MFHW l Z EL y cb maxL ret hs [] rm as' sf h Q) (hZ : Z.Warmed39 vm) (wc : (Cond.codeWith y cb maxL ret hs).before a0 Z = true) (wz : (Cond.initialized y.cls).before a0 Z = true) (hf : rm.frames + 1 ≤ R.frames) (hl : W + (maxL + 11) + rm.locals ≤ R.locals) (hEL : EW Z a0 EL) (H : CHv Z EL vm h) (hsf : ∀ x ∈ sf, x < h.size ∧ Safe Z EL vm h x) :
    BackS l R p e below (s.setVm vm) args y len W (fun A a => a = as' ∧ A.U.heap = h ∧ A.cells + rm.cells ≤ R.cells ∧ A.slots + rm.slots ≤ R.slots)
      (fun A _ v B => ∃ L, Q v B.U.heap L ∧ B.locs = A.locs ++ L ∧ B.cells = A.cells + rm.cells ∧ B.slots = A.slots + rm.slots ∧ CHr Z EL vm h B.U.vm B.U.heap) := by
  rintro m meth c ⟨U, Ls, c0, s0⟩ g ig mk a X rfl hsize hdg hW hn ⟨rfl, hUh, hcc, hss⟩
  dsimp only [Pt.U, Pt.locs, Pt.cells, Pt.slots] at X hn hUh hcc hss ⊢
  have hU : Z.Warmed39 U.vm := wtrans (s := s.setVm vm) hZ X.warmed
  have hwc : (Cond.codeWith y cb maxL ret hs).before a U = true := mv hU wc
  obtain ⟨mY, methY, cY, n1, n2, n3, -, n5, -⟩ := Cond.codeWith_spec hwc
  cases hn.symm.trans n1
  obtain ⟨kY, k1, -⟩ := className_of_methodNamed hn
  have hin : kY.init = .initialized := Cond.initialized_spec (findClass_of_methodNamed hn) k1 (mv hU wz : (Cond.initialized y.cls).before a U = true)
  have room := X.room_calling (g := g) (args' := a) (R' := rm) hsize n2 n3 hf (by rw [n5]; omega) hcc hss
  have pre : (head1 [Jvm.Cond.codeWith y cb maxL ret hs] rm).pre.before a U = true := by
    show (Cond.and _ .tt).before a U = true
    rw [Cond.before_and, hwc]
    rfl
  have ch := CHv.at X hZ hEL H
  obtain ⟨mid, hmid⟩ := X.here.above
  have fr : (U.setTop g).frames = (.java g :: mid) ++ below := by
    rw [State.frames_setTop' g X.here.top, hmid]
    rfl
  obtain ⟨o, t, go, -, fin, v, L, rfl, hQ, hC, hR⟩ := Steps.callFree hM p X.admits X.cas X.clock (acts := []) fr (Spec.appliesLoose_calling (g := g) X.here hdg hn k1 hin room pre) ⟨rfl, hU, hUh, ch.1, fun x hx => ch.safe (hsf x hx).1 (hsf x hx).2⟩ trivial
  change ReturnedEndW (U.calling g mk a) (.returned v) t L rm.cells rm.slots at hR
  change CHr Z EL U.vm U.heap t.vm t.heap at hC
  obtain ⟨-, wt, bt, tE, r1, r2, r3, r4, r5⟩ := hR
  have wU : U.Warmed39 t.vm := wt
  -- the frames at the end: the caller's, with the answer on its stack
  rw [State.frames_setTop' g X.here.top] at fin
  obtain ⟨c₂, i₂, len₂, f1, f2, f3⟩ := fin
  have ec : c₂ = c := Option.some.inj (f1.symm.trans ((by rw [State.code?_eq, State.code?_eq, wU.alike.method?] : t.code? g.method = U.code? g.method).trans X.here.code))
  subst ec
  have el : len₂ = len := by
    have := f2.symm.trans hdg
    cases this
    rfl
  subst el
  have hV : t = (({ U with heap := t.heap, slotsUsed := t.slotsUsed } : State).setVm t.vm).setTop { g with pc := g.pc + len₂, stack := v.toList ++ g.stack } := by
    obtain ⟨g₀, hg0⟩ := Option.isSome_iff_exists.mp X.here.top
    obtain ⟨r, hr⟩ := State.topJava?_eq_some.mp hg0
    have e3 : t = ({ (U.calling g mk a).setFrames t.frames with heap := t.heap, slotsUsed := t.slotsUsed } : State).setVm t.vm := by
      have q : t = ({ t with vm := (U.calling g mk a).vm } : State).setVm t.vm := rfl
      rw [tE] at q
      exact q
    have hr' : (({ U with heap := t.heap, slotsUsed := t.slotsUsed } : State).setVm t.vm).frames = .java g₀ :: r := hr
    refine e3.trans ?_
    rw [f3, State.calling_eq X.here.top, State.setFrames_setFrames, State.setTop_of_frames _ hr', hr]
    rfl
  have same : U.sameButNew ({ U with heap := t.heap, slotsUsed := t.slotsUsed } : State) L rm.cells rm.slots := by
    obtain ⟨g₀, hg0⟩ := Option.isSome_iff_exists.mp X.here.top
    obtain ⟨r, hr⟩ := State.topJava?_eq_some.mp hg0
    obtain ⟨th, ht, -⟩ := State.frames_cons hr
    refine ⟨?_, r1, r2, r3, r4, r5⟩
    show ({ U with heap := t.heap, slotsUsed := t.slotsUsed } : State) = { U.setFrames U.frames with heap := t.heap, slotsUsed := t.slotsUsed }
    rw [State.setFrames_self ht]
  obtain ⟨X', since⟩ := X.movedW (T₂ := ({ U with heap := t.heap, slotsUsed := t.slotsUsed } : State).setVm t.vm) ((X.here.setHeapUsed t.heap t.slotsUsed).setVm wU.alike) X.tail rfl rfl wU bt same
  refine ⟨v, ⟨({ U with heap := t.heap, slotsUsed := t.slotsUsed } : State).setVm t.vm, Ls ++ L, c0 + rm.cells, s0 + rm.slots⟩, X', since, same.2.1, ⟨L, hQ, rfl, rfl, rfl, ch.trans (hUh ▸ hC)⟩, ?_⟩
  show Steps p.tables e below _ ((({ U with heap := t.heap, slotsUsed := t.slotsUsed } : State).setVm t.vm).setTop { g with pc := g.pc + len₂, stack := v.toList ++ g.stack })
  rw [← hV]
  exact go
def SX (Z : State) (a0 : Array Value) (y : MethodName) (cb : ByteArray) (mL : Nat) (ret : Option FieldType) (hs : List (Nat × Nat × Nat × Nat)) (n : Nat) : Prop := (Cond.static y).before a0 Z = true ∧ (Cond.initialized y.cls).before a0 Z = true ∧ (Cond.codeWith y cb mL ret hs).before a0 Z = true ∧ (y.cls ≠ "java/lang/invoke/MethodHandle" ∧ y.cls ≠ "java/lang/invoke/VarHandle") ∧ ∃ r ps, parseMethodDescriptor y.desc = some ⟨ps, r⟩ ∧ ps.length = n
theorem cSHX {y : MethodName} {ret : Option FieldType} {hs : List (Nat × Nat × Nat × Nat)} {cb : ByteArray} {mL nn : Nat} {rm : Room} {i W : Nat} {Q : Option Value → Heap → List Loc → Prop} {argsL rest : List Value} {sf : List Addr} (P : Wk Z own bytes h p l e R (s.setVm vm) m args below meth c T locs cells slots) (H : Hd Z EL s vm h0 h) (hd : decode bytes pc = .ok (.invokestatic i, 3)) (w1 : (Cond.methodLink own i y).before a0 Z = true) (sw : SX Z a0 y cb mL ret hs nn) (M : MFHW l Z EL y cb mL ret hs [] rm argsL.toArray sf h Q) (hEL : EW Z a0 EL) (hsf : ∀ x ∈ sf, x < h.size ∧ Safe Z EL vm h x) (hf : rm.frames + 1 ≤ R.frames) (hl : W + (mL + 11) + rm.locals ≤ R.locals) (hst : st = argsL.reverse ++ rest) (hz : Ls.size = c.maxLocals) (hn : argsL.length = nn) (hW : (rest.map fun v => v.category).sum = W) (hcc : cells + rm.cells ≤ R.cells) (hss : slots + rm.slots ≤ R.slots) (hq : pc + 3 = q)
    (k : ∀ v T₂ vm₂ h₂ L, Q v h₂ L → Wk Z own bytes h₂ p l e R (s.setVm vm₂) m args below meth c T₂ (locs ++ L) (cells + rm.cells) (slots + rm.slots) → Hd Z EL s vm₂ h0 h₂ → CHr Z EL vm h vm₂ h₂ → Goes p.tables e below K (T₂.setTop (mkF m q Ls (match v with | none => rest | some x => x :: rest)))) : Goes p.tables e below K (T.setTop (mkF m pc Ls (st))) := by
  subst hq
  obtain ⟨mk, methM, cM, n1, n2, -, -, -, -, -, -, n3⟩ := Cond.codeWith_spec (mvT P.2.2.2.1 sw.2.2.1 : (Cond.codeWith y cb mL ret hs).before args (s.setVm vm) = true)
  obtain ⟨v, _, ⟨T₂, L₂, c₂, n₂⟩, -, X2, S2, b2, ⟨L, hQ, hl, hc2, hs2, r2⟩, st2⟩ := P.1.staticBackS P.2.1 (y := y) P.2.2.2.2.1 (mvT P.2.2.2.1 w1) (mvT P.2.2.2.1 sw.1) (mvT P.2.2.2.1 sw.2.1) n1 n2 n3 sw.2.2.2.1 (backHX (W := W) M P.2.2.2.1 sw.2.2.1 sw.2.1 hf hl hEL H.2.1 hsf) (g := mkF m pc Ls st) rfl hz (Steps.refl _) (argsL := argsL) (rest := rest) (lenW sw.2.2.2.2 hn) hst (w0 hW) (hb P.2.2.1 hd) (fun _ _ => ⟨rfl, P.2.2.2.2.2, hcc, hss⟩)
  dsimp only [Pt.U, Pt.locs, Pt.cells, Pt.slots] at X2 hl hc2 hs2 st2 hQ S2 b2 r2
  subst hl hc2 hs2
  obtain ⟨⟨k0, S0, b0⟩, r0⟩ := H
  have hW : Z.Warmed39 T₂.vm := State.Warmed39.trans (t := s.setVm vm) P.2.2.2.1 S2.1
  have hf : (s.setVm T₂.vm).vm.findClass own = some m.cls := by rw [show (s.setVm T₂.vm).vm = T₂.vm from rfl, S2.1.alike.findClass]; exact P.2.2.2.2.1
  have b1 : k0 ≤ T.heap.size := by rw [P.2.2.2.2.2]; exact b0
  cases v <;> exact Goes.tr st2 (k _ T₂ T₂.vm _ L hQ ⟨X2, P.2.1, P.2.2.1, hW, hf, rfl⟩ ⟨⟨_, S0.trans S2 (Nat.le_trans b1 b2), Nat.le_refl _⟩, r0.trans r2⟩ r2)
end WithHeld
end Own

namespace Own
def EN (Z : State) (h : Heap) (ee tt : Addr) (kt : ClassId) : Prop := Sta Z h "java/util/Base64$Encoder" "RFC4648" "Ljava/util/Base64$Encoder;" (.ref ee) ∧ Exa Z h ee "java/util/Base64$Encoder" ∧ Fld Z h ee "java/util/Base64$Encoder" "isURL" "Z" (.int 0) ∧ Fld Z h ee "java/util/Base64$Encoder" "linemax" "I" (.int (-1)) ∧ Fld Z h ee "java/util/Base64$Encoder" "doPadding" "Z" (.int 1) ∧ Sta Z h "java/util/Base64$Encoder" "toBase64" "[C" (.ref tt) ∧ Arv Z h tt kt .char 64 (tab.map Value.int) (.int 0)
def DE (Z : State) (h : Heap) (dd ft ci cu : Addr) (kf : ClassId) : Prop := Sta Z h "java/util/Base64$Decoder" "RFC4648" "Ljava/util/Base64$Decoder;" (.ref dd) ∧ Exa Z h dd "java/util/Base64$Decoder" ∧ Fld Z h dd "java/util/Base64$Decoder" "isURL" "Z" (.int 0) ∧ Fld Z h dd "java/util/Base64$Decoder" "isMIME" "Z" (.int 0) ∧ Sta Z h "java/util/Base64$Decoder" "fromBase64" "[I" (.ref ft) ∧ Arv Z h ft kf .int 256 (ftab.map Value.int) (.int 0) ∧ Sta Z h "sun/nio/cs/ISO_8859_1" "INSTANCE" "Lsun/nio/cs/ISO_8859_1;" (.ref ci) ∧ Sta Z h "sun/nio/cs/UTF_8" "INSTANCE" "Lsun/nio/cs/UTF_8;" (.ref cu) ∧ ci ≠ cu
theorem EN.ext {Z : State} {h h' : Heap} {ee tt : Addr} {kt : ClassId} (A : EN Z h ee tt kt) (E : Ext h h') : EN Z h' ee tt kt := ⟨A.1.ext E, A.2.1.ext E, A.2.2.1.ext E, A.2.2.2.1.ext E, A.2.2.2.2.1.ext E, A.2.2.2.2.2.1.ext E, A.2.2.2.2.2.2.ext E⟩
theorem DE.ext {Z : State} {h h' : Heap} {dd ft ci cu : Addr} {kf : ClassId} (A : DE Z h dd ft ci cu kf) (E : Ext h h') : DE Z h' dd ft ci cu kf := ⟨A.1.ext E, A.2.1.ext E, A.2.2.1.ext E, A.2.2.2.1.ext E, A.2.2.2.2.1.ext E, A.2.2.2.2.2.1.ext E, A.2.2.2.2.2.2.1.ext E, A.2.2.2.2.2.2.2.1.ext E, A.2.2.2.2.2.2.2.2⟩
end Own

theorem s1 : decs jdk_42_method_152_code [(0, .getstatic 38, 3), (3, .ifCond .eq 10, 3), (6, .aload_n 0, 1), (7, .getfield 15, 3), (10, .goto 4, 3), (14, .ireturn, 1)] = true := by decide +kernel
theorem pn_9 : plainFor (⟨"java/lang/String", "coder", "()B"⟩ : MethodName) = true := by first | exact plainFor_of_name (by first | (simp [plainName, overriddenIn]; done) | decide +kernel) | decide +kernel
def QrmCod (Z : State) (a1 : Addr) (zc : Int32) (h0 : Heap) (n0 : Nat) (v : Option Value) (h : Heap) (L : List Loc) : Prop := v = some (.int 0) ∧ Fr n0 L ∧ h = h0
theorem rmCod (l : Launch) (Z : State) (a0 : Array Value) (hw : HW a0 Z) (ws : List Jvm.Cond) (a1 : Addr) (zc : Int32) (h0 : Heap) (n0 : Nat) (Z0 : n0 ≤ h0.size) (SC : Own.Cst Z h0 zc) (hzc : ¬ zc = 0) (f1 : Fld Z h0 a1 "java/lang/String" "coder" "B" (.int 0)) :
    Own.MF l Z (⟨"java/lang/String", "coder", "()B"⟩ : MethodName) jdk_42_method_152_code 1 (some .byte) ws (⟨0, 0, 0, 0⟩ : Room) #[(.ref a1)] h0 (QrmCod Z a1 zc h0 n0) := by
  refine Own.MF.of (own := "java/lang/String") (n := 1) rfl rfl pn_9 (fun p e s m below meth c s₁ hml hlk hret hnm P0 => ?_)
  rw [show entryFrame m #[(.ref a1)] 1 = mkF m 0 #[.val (.ref a1)] [] from by first | (simp [entryFrame, mkF, argsToLocals, Value.category]; done) | rfl]
  refine Own.getstatic (q := 3) P0 (dc s1 0 rfl) (wd hw 58 rfl) SC rfl ?_
  intro T21 P21
  refine Own.if_eq (q := 6) (qy := 13) P21 (dc s1 1 rfl) (by decide) rfl (fun q => absurd q hzc) (fun _ => ?_)
  refine Own.aloadN (q := 7) P21 (dc s1 2 rfl) rfl rfl rfl ?_
  refine Own.getfield (q := 10) P21 (dc s1 3 rfl) (wd hw 59 rfl) f1 rfl ?_
  intro T22 P22
  refine Own.goto (q := 14) P22 (dc s1 4 rfl) (by decide) ?_
  refine Own.retZ P22 (dc s1 5 rfl) hret (by simp) hlk (by decide) (by decide) ?_
  exact ⟨rfl, (Fr.nil n0), rfl⟩
theorem pd_0 : parseMethodDescriptor "()B" = some ⟨[], some .byte⟩ := by decide +kernel
theorem vw_0 {Z : State} {a0 : Array Value} (hw : HW a0 Z) : Own.VW Z a0 "java/lang/String" ⟨"java/lang/String", "coder", "()B"⟩ ⟨"java/lang/String", "coder", "()B"⟩ jdk_42_method_152_code 1 (some .byte) 0 := ⟨(wd hw 54 rfl), (wd hw 56 rfl), (wd hw 55 rfl), (wd hw 26 rfl), (wd hw 57 rfl), by decide, _, _, pd_0, rfl⟩
theorem s2 : decs jdk_42_method_54_code [(0, .aload_n 0, 1), (1, .getfield 9, 3), (4, .arraylength, 1), (5, .aload_n 0, 1), (6, .invokevirtual 335, 3), (9, .ishr, 1), (10, .ireturn, 1)] = true := by decide +kernel
theorem pn_8 : plainFor (⟨"java/lang/String", "length", "()I"⟩ : MethodName) = true := by first | exact plainFor_of_name (by first | (simp [plainName, overriddenIn]; done) | decide +kernel) | decide +kernel
def QrmLn0 (Z : State) (a1 : Addr) (cs : List Int32) (zc : Int32) (h0 : Heap) (n0 : Nat) (v : Option Value) (h : Heap) (L : List Loc) : Prop := v = some (.int (Int32.ofNat cs.length)) ∧ Fr n0 L ∧ h = h0
theorem rmLn0 (l : Launch) (Z : State) (a0 : Array Value) (hw : HW a0 Z) (ws : List Jvm.Cond) (a1 : Addr) (cs : List Int32) (zc : Int32) (h0 : Heap) (n0 : Nat) (Z0 : n0 ≤ h0.size) (SC : Own.Cst Z h0 zc) (hzc : ¬ zc = 0) (S1 : Own.Str Z h0 a1 cs) :
    Own.MF l Z (⟨"java/lang/String", "length", "()I"⟩ : MethodName) jdk_42_method_54_code 1 (some .int) ws (⟨1, 0, 0, 13⟩ : Room) #[(.ref a1)] h0 (QrmLn0 Z a1 cs zc h0 n0) := by
  refine Own.MF.of (own := "java/lang/String") (n := 1) rfl rfl pn_8 (fun p e s m below meth c s₁ hml hlk hret hnm P0 => ?_)
  rw [show entryFrame m #[(.ref a1)] 1 = mkF m 0 #[.val (.ref a1)] [] from by first | (simp [entryFrame, mkF, argsToLocals, Value.category]; done) | rfl]
  refine Own.aloadN (q := 1) P0 (dc s2 0 rfl) rfl rfl rfl ?_
  obtain ⟨⟨t21, kb21, y21a, y21v, y21c, y21b⟩, -, -⟩ := id S1
  refine Own.getfield (q := 4) P0 (dc s2 1 rfl) (wd hw 52 rfl) y21v rfl ?_
  intro T22 P22
  refine Own.arraylength (q := 5) P22 (dc s2 2 rfl) y21b rfl ?_
  refine Own.aloadN (q := 6) P22 (dc s2 3 rfl) rfl rfl rfl ?_
  refine Own.cV (q := 9) (W := 1) (rest := [(.int (Int32.ofNat (cs : List Int32).length))]) P22 (dc s2 4 rfl) (wd hw 53 rfl) (vw_0 hw) (Own.nfs P22 (wd hw 56 rfl)) S1.exa (rmCod l Z a0 hw [] a1 zc h0 n0 Z0 SC hzc y21c) (by decide) (by decide) rfl (hml rfl) rfl rfl (by decide) (by decide) rfl ?_
  rintro v23 T23 h23 L23 ⟨rfl, N23q, e23⟩ P23
  rw [e23] at P23
  have N23 := Fr.app (Fr.nil n0) N23q
  refine Own.ishr (q := 10) P23 (dc s2 5 rfl)  rfl ?_
  rw [show ((Int32.ofNat (cs : List Int32).length) >>> ((0 : Int32) &&& 31)) = (Int32.ofNat cs.length) from Own.shr0 _]
  refine Own.retI P23 (dc s2 6 rfl) hret hlk (by decide) (by decide) ?_
  exact ⟨rfl, N23, rfl⟩
theorem s3 : decs jdk_41_method_11_code [(0, .iload_n 0, 1), (1, .ifCond .lt 8, 3), (4, .iload_n 0, 1), (5, .iload_n 1, 1), (6, .if_icmp .lt 10, 3), (16, .iload_n 0, 1), (17, .ireturn, 1)] = true := by decide +kernel
theorem pn_41 : plainFor (⟨"jdk/internal/util/Preconditions", "checkIndex", "(IILjava/util/function/BiFunction;)I"⟩ : MethodName) = true := by first | exact plainFor_of_name (by first | (simp [plainName, overriddenIn]; done) | decide +kernel) | decide +kernel
def QrmPci (Z : State) (x1 : Int32) (y1 : Int32) (fm : Value) (h0 : Heap) (n0 : Nat) (v : Option Value) (h : Heap) (L : List Loc) : Prop := v = some (.int x1) ∧ Fr n0 L ∧ h = h0
theorem rmPci (l : Launch) (Z : State) (a0 : Array Value) (hw : HW a0 Z) (ws : List Jvm.Cond) (x1 : Int32) (y1 : Int32) (fm : Value) (h0 : Heap) (n0 : Nat) (Z0 : n0 ≤ h0.size) (hfm : fm.isRef = true) (b1 : ¬ x1 < 0) (b2 : x1 < y1) :
    Own.MF l Z (⟨"jdk/internal/util/Preconditions", "checkIndex", "(IILjava/util/function/BiFunction;)I"⟩ : MethodName) jdk_41_method_11_code 3 (some .int) ws (⟨0, 0, 0, 0⟩ : Room) #[(.int x1), (.int y1), fm] h0 (QrmPci Z x1 y1 fm h0 n0) := by
  refine Own.MF.of (own := "jdk/internal/util/Preconditions") (n := 3) rfl rfl pn_41 (fun p e s m below meth c s₁ hml hlk hret hnm P0 => ?_)
  rw [show entryFrame m #[(.int x1), (.int y1), fm] 3 = mkF m 0 #[.val (.int x1), .val (.int y1), .val fm] [] from by first | (simp [entryFrame, mkF, argsToLocals, Value.category]; done) | rfl | (rcases Own.refc hfm with rfl | ⟨_, rfl⟩ <;> rfl)]
  refine Own.iloadN (q := 1) P0 (dc s3 0 rfl) rfl rfl ?_
  refine Own.if_lt (q := 4) (qy := 9) P0 (dc s3 1 rfl) (by decide) rfl (fun q => absurd q b1) (fun _ => ?_)
  refine Own.iloadN (q := 5) P0 (dc s3 2 rfl) rfl rfl ?_
  refine Own.iloadN (q := 6) P0 (dc s3 3 rfl) rfl rfl ?_
  refine Own.icmp_lt (q := 9) (qy := 16) P0 (dc s3 4 rfl) (by decide) rfl (fun _ => ?_) (fun q => absurd b2 q)
  refine Own.iloadN (q := 17) P0 (dc s3 5 rfl) rfl rfl ?_
  refine Own.retI P0 (dc s3 6 rfl) hret hlk (by decide) (by decide) ?_
  exact ⟨rfl, (Fr.nil n0), rfl⟩
theorem pd_1 : parseMethodDescriptor "(IILjava/util/function/BiFunction;)I" = some ⟨[.int, .int, (.object "java/util/function/BiFunction")], some .int⟩ := by decide +kernel
theorem sw_1 {Z : State} {a0 : Array Value} (hw : HW a0 Z) : Own.SW Z a0 ⟨"jdk/internal/util/Preconditions", "checkIndex", "(IILjava/util/function/BiFunction;)I"⟩ jdk_41_method_11_code 3 (some .int) 3 := ⟨(wd hw 231 rfl), (wd hw 145 rfl), (wd hw 232 rfl), by decide, _, _, pd_1, rfl⟩
theorem s4 : decs jdk_42_method_155_code [(0, .iload_n 0, 1), (1, .iload_n 1, 1), (2, .getstatic 1053, 3), (5, .invokestatic 1059, 3), (8, .pop, 1), (9, .return_, 1)] = true := by decide +kernel
theorem pn_40 : plainFor (⟨"java/lang/String", "checkIndex", "(II)V"⟩ : MethodName) = true := by first | exact plainFor_of_name (by first | (simp [plainName, overriddenIn]; done) | decide +kernel) | decide +kernel
def QrmSci (Z : State) (x1 : Int32) (y1 : Int32) (fm : Value) (h0 : Heap) (n0 : Nat) (v : Option Value) (h : Heap) (L : List Loc) : Prop := v = none ∧ Fr n0 L ∧ h = h0
theorem rmSci (l : Launch) (Z : State) (a0 : Array Value) (hw : HW a0 Z) (ws : List Jvm.Cond) (x1 : Int32) (y1 : Int32) (fm : Value) (h0 : Heap) (n0 : Nat) (Z0 : n0 ≤ h0.size) (SF : Own.Fst Z h0 fm) (hfm : fm.isRef = true) (b1 : ¬ x1 < 0) (b2 : x1 < y1) :
    Own.MF l Z (⟨"java/lang/String", "checkIndex", "(II)V"⟩ : MethodName) jdk_42_method_155_code 2 none ws (⟨1, 0, 0, 14⟩ : Room) #[(.int x1), (.int y1)] h0 (QrmSci Z x1 y1 fm h0 n0) := by
  refine Own.MF.of (own := "java/lang/String") (n := 2) rfl rfl pn_40 (fun p e s m below meth c s₁ hml hlk hret hnm P0 => ?_)
  rw [show entryFrame m #[(.int x1), (.int y1)] 2 = mkF m 0 #[.val (.int x1), .val (.int y1)] [] from by first | (simp [entryFrame, mkF, argsToLocals, Value.category]; done) | rfl]
  refine Own.iloadN (q := 1) P0 (dc s4 0 rfl) rfl rfl ?_
  refine Own.iloadN (q := 2) P0 (dc s4 1 rfl) rfl rfl ?_
  refine Own.getstatic (q := 5) P0 (dc s4 2 rfl) (wd hw 144 rfl) SF rfl ?_
  intro T21 P21
  refine Own.cS (q := 8) (W := 0) (rest := []) P21 (dc s4 3 rfl) (wd hw 230 rfl) (sw_1 hw) (rmPci l Z a0 hw [] x1 y1 fm h0 n0 Z0 hfm b1 b2) (by decide) (by decide) rfl (hml rfl) rfl rfl (by decide) (by decide) rfl ?_
  rintro v22 T22 h22 L22 ⟨rfl, N22q, e22⟩ P22
  rw [e22] at P22
  have N22 := Fr.app (Fr.nil n0) N22q
  refine Own.pop (q := 9) P22 (dc s4 4 rfl) rfl rfl ?_
  refine Own.retV P22 (dc s4 5 rfl) hret hlk (by decide) (by decide) ?_
  exact ⟨rfl, N22, rfl⟩
theorem pd_2 : parseMethodDescriptor "(II)V" = some ⟨[.int, .int], none⟩ := by decide +kernel
theorem sw_2 {Z : State} {a0 : Array Value} (hw : HW a0 Z) : Own.SW Z a0 ⟨"java/lang/String", "checkIndex", "(II)V"⟩ jdk_42_method_155_code 2 none 2 := ⟨(wd hw 228 rfl), (wd hw 26 rfl), (wd hw 229 rfl), by decide, _, _, pd_2, rfl⟩
theorem s5 : decs jdk_43_method_2_code [(0, .iload_n 1, 1), (1, .aload_n 0, 1), (2, .arraylength, 1), (3, .invokestatic 9, 3), (6, .aload_n 0, 1), (7, .iload_n 1, 1), (8, .baload, 1), (9, .sipush 255, 3), (12, .iand, 1), (13, .i2c, 1), (14, .ireturn, 1)] = true := by decide +kernel
theorem pn_39 : plainFor (⟨"java/lang/StringLatin1", "charAt", "([BI)C"⟩ : MethodName) = true := by first | exact plainFor_of_name (by first | (simp [plainName, overriddenIn]; done) | decide +kernel) | decide +kernel
def QrmLca (Z : State) (t1 : Addr) (k1 : ClassId) (cs : List Int32) (i : Nat) (fm : Value) (h0 : Heap) (n0 : Nat) (v : Option Value) (h : Heap) (L : List Loc) : Prop := v = some (.int (cs.getD i 0)) ∧ Fr n0 L ∧ h = h0
theorem rmLca (l : Launch) (Z : State) (a0 : Array Value) (hw : HW a0 Z) (ws : List Jvm.Cond) (t1 : Addr) (k1 : ClassId) (cs : List Int32) (i : Nat) (fm : Value) (h0 : Heap) (n0 : Nat) (Z0 : n0 ≤ h0.size) (SF : Own.Fst Z h0 fm) (hfm : fm.isRef = true) (A : Arv Z h0 t1 k1 .byte (Int32.ofNat cs.length) ((cs.map fun c : Int32 => c.toInt8.toInt32).map Value.int) (.int 0)) (hp : ∀ c ∈ cs, ¬ c < 0 ∧ ¬ (255 : Int32) < c) (hi : i < cs.length) (hl : cs.length ≤ 4000) :
    Own.MF l Z (⟨"java/lang/StringLatin1", "charAt", "([BI)C"⟩ : MethodName) jdk_43_method_2_code 2 (some .char) ws (⟨2, 0, 0, 28⟩ : Room) #[(.ref t1), (.int (Int32.ofNat i))] h0 (QrmLca Z t1 k1 cs i fm h0 n0) := by
  refine Own.MF.of (own := "java/lang/StringLatin1") (n := 2) rfl rfl pn_39 (fun p e s m below meth c s₁ hml hlk hret hnm P0 => ?_)
  rw [show entryFrame m #[(.ref t1), (.int (Int32.ofNat i))] 2 = mkF m 0 #[.val (.ref t1), .val (.int (Int32.ofNat i))] [] from by first | (simp [entryFrame, mkF, argsToLocals, Value.category]; done) | rfl]
  refine Own.iloadN (q := 1) P0 (dc s5 0 rfl) rfl rfl ?_
  refine Own.aloadN (q := 2) P0 (dc s5 1 rfl) rfl rfl rfl ?_
  refine Own.arraylength (q := 3) P0 (dc s5 2 rfl) A rfl ?_
  refine Own.cS (q := 6) (W := 0) (rest := []) P0 (dc s5 3 rfl) (wd hw 227 rfl) (sw_2 hw) (rmSci l Z a0 hw [] (Int32.ofNat i) (Int32.ofNat cs.length) fm h0 n0 Z0 SF hfm (Own.nneg (by omega)) (Own.ltN (by omega) (by omega) hi)) (by decide) (by decide) rfl (hml rfl) rfl rfl (by decide) (by decide) rfl ?_
  rintro v21 T21 h21 L21 ⟨rfl, N21q, e21⟩ P21
  rw [e21] at P21
  have N21 := Fr.app (Fr.nil n0) N21q
  refine Own.aloadN (q := 7) P21 (dc s5 4 rfl) rfl rfl rfl ?_
  refine Own.iloadN (q := 8) P21 (dc s5 5 rfl) rfl rfl ?_
  refine Own.bget (q := 9) (i := i) P21 (dc s5 6 rfl) A hi (by omega) rfl ?_
  refine Own.sipush (q := 12) (v := (255 : Int32)) P21 (dc s5 7 rfl) rfl rfl ?_
  refine Own.iand (q := 13) P21 (dc s5 8 rfl)  rfl ?_
  rw [show ((cs.getD i 0).toInt8.toInt32 &&& (255 : Int32)) = (cs.getD i 0) from Own.and255 (Own.rng_getD hp i)]
  refine Own.i2cV (q := 14) (v := (cs.getD i 0)) P21 (dc s5 9 rfl) (Own.i2c_id (Own.rng_getD hp i)) rfl ?_
  refine Own.retZ P21 (dc s5 10 rfl) hret (by simp) hlk (by decide) (by decide) ?_
  exact ⟨congrArg (fun x => some (Value.int x)) (Own.nar_id (Own.rng_getD hp i)), N21, rfl⟩
theorem s6 : decs jdk_42_method_154_code [(0, .getstatic 38, 3), (3, .ifCond .eq 14, 3), (6, .aload_n 0, 1), (7, .getfield 15, 3), (10, .ifCond .ne 7, 3), (13, .iconst 1, 1), (14, .goto 4, 3), (18, .ireturn, 1)] = true := by decide +kernel
theorem pn_38 : plainFor (⟨"java/lang/String", "isLatin1", "()Z"⟩ : MethodName) = true := by first | exact plainFor_of_name (by first | (simp [plainName, overriddenIn]; done) | decide +kernel) | decide +kernel
def QrmSil (Z : State) (a1 : Addr) (zc : Int32) (h0 : Heap) (n0 : Nat) (v : Option Value) (h : Heap) (L : List Loc) : Prop := v = some (.int 1) ∧ Fr n0 L ∧ h = h0
theorem rmSil (l : Launch) (Z : State) (a0 : Array Value) (hw : HW a0 Z) (ws : List Jvm.Cond) (a1 : Addr) (zc : Int32) (h0 : Heap) (n0 : Nat) (Z0 : n0 ≤ h0.size) (SC : Own.Cst Z h0 zc) (hzc : ¬ zc = 0) (f2 : Fld Z h0 a1 "java/lang/String" "coder" "B" (.int 0)) :
    Own.MF l Z (⟨"java/lang/String", "isLatin1", "()Z"⟩ : MethodName) jdk_42_method_154_code 1 (some .boolean) ws (⟨0, 0, 0, 0⟩ : Room) #[(.ref a1)] h0 (QrmSil Z a1 zc h0 n0) := by
  refine Own.MF.of (own := "java/lang/String") (n := 1) rfl rfl pn_38 (fun p e s m below meth c s₁ hml hlk hret hnm P0 => ?_)
  rw [show entryFrame m #[(.ref a1)] 1 = mkF m 0 #[.val (.ref a1)] [] from by first | (simp [entryFrame, mkF, argsToLocals, Value.category]; done) | rfl]
  refine Own.getstatic (q := 3) P0 (dc s6 0 rfl) (wd hw 58 rfl) SC rfl ?_
  intro T21 P21
  refine Own.if_eq (q := 6) (qy := 17) P21 (dc s6 1 rfl) (by decide) rfl (fun q => absurd q hzc) (fun _ => ?_)
  refine Own.aloadN (q := 7) P21 (dc s6 2 rfl) rfl rfl rfl ?_
  refine Own.getfield (q := 10) P21 (dc s6 3 rfl) (wd hw 59 rfl) f2 rfl ?_
  intro T22 P22
  refine Own.if_ne (q := 13) (qy := 17) P22 (dc s6 4 rfl) (by decide) rfl (fun q => absurd rfl q) (fun _ => ?_)
  refine Own.iconst (q := 14) (v := (1 : Int32)) P22 (dc s6 5 rfl) rfl rfl ?_
  refine Own.goto (q := 18) P22 (dc s6 6 rfl) (by decide) ?_
  refine Own.retZ P22 (dc s6 7 rfl) hret (by simp) hlk (by decide) (by decide) ?_
  exact ⟨rfl, (Fr.nil n0), rfl⟩
theorem pd_3 : parseMethodDescriptor "()Z" = some ⟨[], some .boolean⟩ := by decide +kernel
theorem vw_3 {Z : State} {a0 : Array Value} (hw : HW a0 Z) : Own.VW Z a0 "java/lang/String" ⟨"java/lang/String", "isLatin1", "()Z"⟩ ⟨"java/lang/String", "isLatin1", "()Z"⟩ jdk_42_method_154_code 1 (some .boolean) 0 := ⟨(wd hw 219 rfl), (wd hw 221 rfl), (wd hw 220 rfl), (wd hw 26 rfl), (wd hw 222 rfl), by decide, _, _, pd_3, rfl⟩
theorem pd_4 : parseMethodDescriptor "([BI)C" = some ⟨[(.array .byte), .int], some .char⟩ := by decide +kernel
theorem sw_4 {Z : State} {a0 : Array Value} (hw : HW a0 Z) : Own.SW Z a0 ⟨"java/lang/StringLatin1", "charAt", "([BI)C"⟩ jdk_43_method_2_code 2 (some .char) 2 := ⟨(wd hw 224 rfl), (wd hw 225 rfl), (wd hw 226 rfl), by decide, _, _, pd_4, rfl⟩
theorem s7 : decs jdk_42_method_56_code [(0, .aload_n 0, 1), (1, .invokevirtual 492, 3), (4, .ifCond .eq 12, 3), (7, .aload_n 0, 1), (8, .getfield 9, 3), (11, .iload_n 1, 1), (12, .invokestatic 495, 3), (15, .ireturn, 1)] = true := by decide +kernel
theorem pn_37 : plainFor (⟨"java/lang/String", "charAt", "(I)C"⟩ : MethodName) = true := by first | exact plainFor_of_name (by first | (simp [plainName, overriddenIn]; done) | decide +kernel) | decide +kernel
def QrmSca (Z : State) (a1 : Addr) (cs : List Int32) (i : Nat) (zc : Int32) (fm : Value) (h0 : Heap) (n0 : Nat) (v : Option Value) (h : Heap) (L : List Loc) : Prop := v = some (.int (cs.getD i 0)) ∧ Fr n0 L ∧ h = h0
theorem rmSca (l : Launch) (Z : State) (a0 : Array Value) (hw : HW a0 Z) (ws : List Jvm.Cond) (a1 : Addr) (cs : List Int32) (i : Nat) (zc : Int32) (fm : Value) (h0 : Heap) (n0 : Nat) (Z0 : n0 ≤ h0.size) (SC : Own.Cst Z h0 zc) (hzc : ¬ zc = 0) (SF : Own.Fst Z h0 fm) (hfm : fm.isRef = true) (S1 : Own.Str Z h0 a1 cs) (hi : i < cs.length) :
    Own.MF l Z (⟨"java/lang/String", "charAt", "(I)C"⟩ : MethodName) jdk_42_method_56_code 2 (some .char) ws (⟨3, 0, 0, 42⟩ : Room) #[(.ref a1), (.int (Int32.ofNat i))] h0 (QrmSca Z a1 cs i zc fm h0 n0) := by
  refine Own.MF.of (own := "java/lang/String") (n := 2) rfl rfl pn_37 (fun p e s m below meth c s₁ hml hlk hret hnm P0 => ?_)
  rw [show entryFrame m #[(.ref a1), (.int (Int32.ofNat i))] 2 = mkF m 0 #[.val (.ref a1), .val (.int (Int32.ofNat i))] [] from by first | (simp [entryFrame, mkF, argsToLocals, Value.category]; done) | rfl]
  refine Own.aloadN (q := 1) P0 (dc s7 0 rfl) rfl rfl rfl ?_
  obtain ⟨⟨t21, kb21, y21a, y21v, y21c, y21b⟩, -, -⟩ := id S1
  refine Own.cV (q := 4) (W := 0) (rest := []) P0 (dc s7 1 rfl) (wd hw 218 rfl) (vw_3 hw) (Own.nfs P0 (wd hw 221 rfl)) S1.exa (rmSil l Z a0 hw [] a1 zc h0 n0 Z0 SC hzc y21c) (by decide) (by decide) rfl (hml rfl) rfl rfl (by decide) (by decide) rfl ?_
  rintro v22 T22 h22 L22 ⟨rfl, N22q, e22⟩ P22
  rw [e22] at P22
  have N22 := Fr.app (Fr.nil n0) N22q
  refine Own.if_eq (q := 7) (qy := 16) P22 (dc s7 2 rfl) (by decide) rfl (fun q => absurd q (by decide)) (fun _ => ?_)
  refine Own.aloadN (q := 8) P22 (dc s7 3 rfl) rfl rfl rfl ?_
  refine Own.getfield (q := 11) P22 (dc s7 4 rfl) (wd hw 52 rfl) y21v rfl ?_
  intro T23 P23
  refine Own.iloadN (q := 12) P23 (dc s7 5 rfl) rfl rfl ?_
  refine Own.cS (q := 15) (W := 0) (rest := []) P23 (dc s7 6 rfl) (wd hw 223 rfl) (sw_4 hw) (rmLca l Z a0 hw [] t21 kb21 cs i fm h0 n0 Z0 SF hfm y21b S1.2.1 hi S1.2.2) (by decide) (by decide) rfl (hml rfl) rfl rfl (by decide) (by decide) rfl ?_
  rintro v24 T24 h24 L24 ⟨rfl, N24q, e24⟩ P24
  rw [e24] at P24
  have N24 := Fr.app N22 N24q
  refine Own.retZ P24 (dc s7 7 rfl) hret (by simp) hlk (by decide) (by decide) ?_
  exact ⟨congrArg (fun x => some (Value.int x)) (Own.nar_id (Own.rng_getD S1.2.1 i)), N24, rfl⟩
theorem s8 : decs jdk_43_method_13_code [(0, .aload_n 0, 1), (1, .arraylength, 1), (2, .aload_n 1, 1), (3, .arraylength, 1), (4, .if_icmp .ne 30, 3), (7, .iconst 0, 1), (8, .istore_n 2, 1), (9, .iload_n 2, 1), (10, .aload_n 0, 1), (11, .arraylength, 1), (12, .if_icmp .ge 20, 3), (15, .aload_n 0, 1), (16, .iload_n 2, 1), (17, .baload, 1), (18, .aload_n 1, 1), (19, .iload_n 2, 1), (20, .baload, 1), (21, .if_icmp .eq 5, 3), (26, .iinc 2 1, 3), (29, .goto (-20), 3), (32, .iconst 1, 1), (33, .ireturn, 1)] = true := by decide +kernel
theorem pn_68 : plainFor (⟨"java/lang/StringLatin1", "equals", "([B[B)Z"⟩ : MethodName) = true := by first | exact plainFor_of_name (by first | (simp [plainName, overriddenIn]; done) | decide +kernel) | decide +kernel
def QrmLeq (Z : State) (t1 : Addr) (k1 : ClassId) (t2 : Addr) (k2 : ClassId) (cs : List Int32) (h0 : Heap) (n0 : Nat) (v : Option Value) (h : Heap) (L : List Loc) : Prop := v = some (.int 1) ∧ Fr n0 L ∧ h = h0
theorem rmLeq (l : Launch) (Z : State) (a0 : Array Value) (hw : HW a0 Z) (ws : List Jvm.Cond) (t1 : Addr) (k1 : ClassId) (t2 : Addr) (k2 : ClassId) (cs : List Int32) (h0 : Heap) (n0 : Nat) (Z0 : n0 ≤ h0.size) (A1 : Arv Z h0 t1 k1 .byte (Int32.ofNat cs.length) ((cs.map fun c : Int32 => c.toInt8.toInt32).map Value.int) (.int 0)) (A2 : Arv Z h0 t2 k2 .byte (Int32.ofNat cs.length) ((cs.map fun c : Int32 => c.toInt8.toInt32).map Value.int) (.int 0)) (hl : cs.length ≤ 4000) :
    Own.MF l Z (⟨"java/lang/StringLatin1", "equals", "([B[B)Z"⟩ : MethodName) jdk_43_method_13_code 3 (some .boolean) ws (⟨0, 0, 0, 0⟩ : Room) #[(.ref t1), (.ref t2)] h0 (QrmLeq Z t1 k1 t2 k2 cs h0 n0) := by
  refine Own.MF.of (own := "java/lang/StringLatin1") (n := 3) rfl rfl pn_68 (fun p e s m below meth c s₁ hml hlk hret hnm P0 => ?_)
  rw [show entryFrame m #[(.ref t1), (.ref t2)] 3 = mkF m 0 #[.val (.ref t1), .val (.ref t2), .unset] [] from by first | (simp [entryFrame, mkF, argsToLocals, Value.category]; done) | rfl]
  refine Own.aloadN (q := 1) P0 (dc s8 0 rfl) rfl rfl rfl ?_
  refine Own.arraylength (q := 2) P0 (dc s8 1 rfl) A1 rfl ?_
  refine Own.aloadN (q := 3) P0 (dc s8 2 rfl) rfl rfl rfl ?_
  refine Own.arraylength (q := 4) P0 (dc s8 3 rfl) A2 rfl ?_
  refine Own.icmp_ne (q := 7) (qy := 34) P0 (dc s8 4 rfl) (by decide) rfl (fun q => absurd rfl q) (fun _ => ?_)
  refine Own.iconst (q := 8) (v := (0 : Int32)) P0 (dc s8 5 rfl) rfl rfl ?_
  refine Own.istoreN (q := 9) (L2 := #[.val (.ref t1), .val (.ref t2), .val (.int (0 : Int32))]) P0 (dc s8 6 rfl) rfl rfl ?_
  have loop : ∀ (kk i : Nat), cs.length ≤ i + kk → i ≤ cs.length → ∀ (T21 : State) (lc21 : List Loc), Own.Wk Z "java/lang/StringLatin1" jdk_43_method_13_code h0 p l e (⟨0, 0, 0, 0⟩ : Room) s m #[(.ref t1), (.ref t2)] below meth c T21 lc21 0 0 → Fr n0 lc21 → Own.Goes p.tables e below (Own.KE (QrmLeq Z t1 k1 t2 k2 cs h0 n0) s (⟨0, 0, 0, 0⟩ : Room).cells (⟨0, 0, 0, 0⟩ : Room).slots) (T21.setTop (mkF m 9 #[.val (.ref t1), .val (.ref t2), .val (.int (Int32.ofNat i))] [])) := by
    intro kk
    induction kk with
    | zero =>
      intro i hk hi T21 lc21 P21 N21
      refine Own.iloadN (q := 10) P21 (dc s8 7 rfl) rfl rfl ?_
      refine Own.aloadN (q := 11) P21 (dc s8 8 rfl) rfl rfl rfl ?_
      refine Own.arraylength (q := 12) P21 (dc s8 9 rfl) A1 rfl ?_
      refine Own.icmp_ge (q := 15) (qy := 32) P21 (dc s8 10 rfl) (by decide) rfl (fun _ => ?_) (fun q => absurd q (by rw [Own.ofNat_lt (by omega) (by omega)]; omega))
      refine Own.iconst (q := 33) (v := (1 : Int32)) P21 (dc s8 20 rfl) rfl rfl ?_
      refine Own.retZ P21 (dc s8 21 rfl) hret (by simp) hlk (by decide) (by decide) ?_
      exact ⟨rfl, N21, rfl⟩
    | succ kk ih =>
      intro i hk hi T21 lc21 P21 N21
      refine Own.iloadN (q := 10) P21 (dc s8 7 rfl) rfl rfl ?_
      refine Own.aloadN (q := 11) P21 (dc s8 8 rfl) rfl rfl rfl ?_
      refine Own.arraylength (q := 12) P21 (dc s8 9 rfl) A1 rfl ?_
      refine Own.icmp_ge (q := 15) (qy := 32) P21 (dc s8 10 rfl) (by decide) rfl (fun q12 => ?_) (fun q12 => ?_)
      · refine Own.iconst (q := 33) (v := (1 : Int32)) P21 (dc s8 20 rfl) rfl rfl ?_
        refine Own.retZ P21 (dc s8 21 rfl) hret (by simp) hlk (by decide) (by decide) ?_
        exact ⟨rfl, N21, rfl⟩
      · have hi2 : i < cs.length := (Own.ofNat_lt (by omega) (by omega)).mp q12
        refine Own.aloadN (q := 16) P21 (dc s8 11 rfl) rfl rfl rfl ?_
        refine Own.iloadN (q := 17) P21 (dc s8 12 rfl) rfl rfl ?_
        refine Own.bget (q := 18) (i := i) P21 (dc s8 13 rfl) A1 hi2 (by omega) rfl ?_
        refine Own.aloadN (q := 19) P21 (dc s8 14 rfl) rfl rfl rfl ?_
        refine Own.iloadN (q := 20) P21 (dc s8 15 rfl) rfl rfl ?_
        refine Own.bget (q := 21) (i := i) P21 (dc s8 16 rfl) A2 hi2 (by omega) rfl ?_
        refine Own.icmp_eq (q := 24) (qy := 26) P21 (dc s8 17 rfl) (by decide) rfl (fun _ => ?_) (fun q => absurd rfl q)
        refine Own.iinc (q := 29) (v := (1 : Int32)) (L2 := #[.val (.ref t1), .val (.ref t2), .val (.int ((Int32.ofNat i) + (1 : Int32)))]) P21 (dc s8 18 rfl) rfl rfl rfl rfl ?_
        rw [show (Int32.ofNat i + (1 : Int32)) = Int32.ofNat (i + 1) from (Int32.ofNat_add i 1).symm]
        refine Own.goto (q := 9) P21 (dc s8 19 rfl) (by decide) ?_
        exact ih (i + 1) (by omega) hi2 _ _ P21 N21
  exact loop cs.length 0 (Nat.le_of_eq (Nat.zero_add _).symm) (Nat.zero_le _) _ _ P0 (Fr.nil n0)
theorem pd_5 : parseMethodDescriptor "([B[B)Z" = some ⟨[(.array .byte), (.array .byte)], some .boolean⟩ := by decide +kernel
theorem sw_5 {Z : State} {a0 : Array Value} (hw : HW a0 Z) : Own.SW Z a0 ⟨"java/lang/StringLatin1", "equals", "([B[B)Z"⟩ jdk_43_method_13_code 3 (some .boolean) 2 := ⟨(wd hw 360 rfl), (wd hw 225 rfl), (wd hw 361 rfl), by decide, _, _, pd_5, rfl⟩
theorem s9 : decs jdk_42_method_66_code [(0, .aload_n 0, 1), (1, .aload_n 1, 1), (2, .if_acmp .ne 5, 3), (5, .iconst 1, 1), (6, .ireturn, 1), (7, .aload_n 1, 1), (8, .instanceof 10, 3), (11, .ifCond .eq 43, 3), (14, .aload_n 1, 1), (15, .checkcast 10, 3), (18, .astore_n 2, 1), (19, .getstatic 38, 3), (22, .ifCond .eq 14, 3), (25, .aload_n 0, 1), (26, .getfield 15, 3), (29, .aload_n 2, 1), (30, .getfield 15, 3), (33, .if_icmp .ne 21, 3), (36, .aload_n 0, 1), (37, .getfield 9, 3), (40, .aload_n 2, 1), (41, .getfield 9, 3), (44, .invokestatic 541, 3), (47, .ifCond .eq 7, 3), (50, .iconst 1, 1), (51, .goto 4, 3), (55, .ireturn, 1)] = true := by decide +kernel
theorem pn_67 : plainFor (⟨"java/lang/String", "equals", "(Ljava/lang/Object;)Z"⟩ : MethodName) = true := by first | exact plainFor_of_name (by first | (simp [plainName, overriddenIn]; done) | decide +kernel) | decide +kernel
def QrmSeq (Z : State) (a1 : Addr) (a2 : Addr) (cs : List Int32) (zc : Int32) (h0 : Heap) (n0 : Nat) (v : Option Value) (h : Heap) (L : List Loc) : Prop := v = some (.int 1) ∧ Fr n0 L ∧ h = h0
theorem rmSeq (l : Launch) (Z : State) (a0 : Array Value) (hw : HW a0 Z) (ws : List Jvm.Cond) (a1 : Addr) (a2 : Addr) (cs : List Int32) (zc : Int32) (h0 : Heap) (n0 : Nat) (Z0 : n0 ≤ h0.size) (SC : Own.Cst Z h0 zc) (hzc : ¬ zc = 0) (S1 : Own.Str Z h0 a1 cs) (S2 : Own.Str Z h0 a2 cs) :
    Own.MF l Z (⟨"java/lang/String", "equals", "(Ljava/lang/Object;)Z"⟩ : MethodName) jdk_42_method_66_code 3 (some .boolean) ws (⟨1, 0, 0, 14⟩ : Room) #[(.ref a1), (.ref a2)] h0 (QrmSeq Z a1 a2 cs zc h0 n0) := by
  refine Own.MF.of (own := "java/lang/String") (n := 3) rfl rfl pn_67 (fun p e s m below meth c s₁ hml hlk hret hnm P0 => ?_)
  rw [show entryFrame m #[(.ref a1), (.ref a2)] 3 = mkF m 0 #[.val (.ref a1), .val (.ref a2), .unset] [] from by first | (simp [entryFrame, mkF, argsToLocals, Value.category]; done) | rfl]
  refine Own.aloadN (q := 1) P0 (dc s9 0 rfl) rfl rfl rfl ?_
  refine Own.aloadN (q := 2) P0 (dc s9 1 rfl) rfl rfl rfl ?_
  refine Own.acmp_ne (q := 5) (qy := 7) P0 (dc s9 2 rfl) rfl rfl (by decide) rfl (fun q2 => ?_) (fun q2 => ?_)
  · refine Own.aloadN (q := 8) P0 (dc s9 5 rfl) rfl rfl rfl ?_
    refine Own.instOf (q := 11) P0 (dc s9 6 rfl) (wd hw 358 rfl) (Ins.self S2.exa) rfl ?_
    intro T21 P21
    refine Own.if_eq (q := 14) (qy := 54) P21 (dc s9 7 rfl) (by decide) rfl (fun q => absurd q (by decide)) (fun _ => ?_)
    refine Own.aloadN (q := 15) P21 (dc s9 8 rfl) rfl rfl rfl ?_
    refine Own.castTo (q := 18) P21 (dc s9 9 rfl) (wd hw 358 rfl) (Ins.self S2.exa) rfl ?_
    intro T22 P22
    refine Own.astoreN (q := 19) (L2 := #[.val (.ref a1), .val (.ref a2), .val (.ref a2)]) P22 (dc s9 10 rfl) rfl rfl rfl ?_
    refine Own.getstatic (q := 22) P22 (dc s9 11 rfl) (wd hw 58 rfl) SC rfl ?_
    intro T23 P23
    refine Own.if_eq (q := 25) (qy := 36) P23 (dc s9 12 rfl) (by decide) rfl (fun q => absurd q hzc) (fun _ => ?_)
    refine Own.aloadN (q := 26) P23 (dc s9 13 rfl) rfl rfl rfl ?_
    obtain ⟨⟨t24, kb24, y24a, y24v, y24c, y24b⟩, -, -⟩ := id S1
    refine Own.getfield (q := 29) P23 (dc s9 14 rfl) (wd hw 59 rfl) y24c rfl ?_
    intro T25 P25
    refine Own.aloadN (q := 30) P25 (dc s9 15 rfl) rfl rfl rfl ?_
    obtain ⟨⟨t26, kb26, y26a, y26v, y26c, y26b⟩, -, -⟩ := id S2
    refine Own.getfield (q := 33) P25 (dc s9 16 rfl) (wd hw 59 rfl) y26c rfl ?_
    intro T27 P27
    refine Own.icmp_ne (q := 36) (qy := 54) P27 (dc s9 17 rfl) (by decide) rfl (fun q => absurd rfl q) (fun _ => ?_)
    refine Own.aloadN (q := 37) P27 (dc s9 18 rfl) rfl rfl rfl ?_
    refine Own.getfield (q := 40) P27 (dc s9 19 rfl) (wd hw 52 rfl) y24v rfl ?_
    intro T28 P28
    refine Own.aloadN (q := 41) P28 (dc s9 20 rfl) rfl rfl rfl ?_
    refine Own.getfield (q := 44) P28 (dc s9 21 rfl) (wd hw 52 rfl) y26v rfl ?_
    intro T29 P29
    refine Own.cS (q := 47) (W := 0) (rest := []) P29 (dc s9 22 rfl) (wd hw 359 rfl) (sw_5 hw) (rmLeq l Z a0 hw [] t24 kb24 t26 kb26 cs h0 n0 Z0 y24b y26b S1.2.2) (by decide) (by decide) rfl (hml rfl) rfl rfl (by decide) (by decide) rfl ?_
    rintro v30 T30 h30 L30 ⟨rfl, N30q, e30⟩ P30
    rw [e30] at P30
    have N30 := Fr.app (Fr.nil n0) N30q
    refine Own.if_eq (q := 50) (qy := 54) P30 (dc s9 23 rfl) (by decide) rfl (fun q => absurd q (by decide)) (fun _ => ?_)
    refine Own.iconst (q := 51) (v := (1 : Int32)) P30 (dc s9 24 rfl) rfl rfl ?_
    refine Own.goto (q := 55) P30 (dc s9 25 rfl) (by decide) ?_
    refine Own.retZ P30 (dc s9 26 rfl) hret (by simp) hlk (by decide) (by decide) ?_
    exact ⟨rfl, N30, rfl⟩
  · refine Own.iconst (q := 6) (v := (1 : Int32)) P0 (dc s9 3 rfl) rfl rfl ?_
    refine Own.retZ P0 (dc s9 4 rfl) hret (by simp) hlk (by decide) (by decide) ?_
    exact ⟨rfl, (Fr.nil n0), rfl⟩
theorem s10 : decs method_3_code [(0, .aload_n 0, 1), (1, .iload_n 1, 1), (2, .lload_n 2, 1), (3, .l2i, 1), (4, .i2b, 1), (5, .bastore, 1), (6, .aload_n 0, 1), (7, .iload_n 1, 1), (8, .iconst 1, 1), (9, .iadd, 1), (10, .lload_n 2, 1), (11, .bipush 8, 2), (13, .lushr, 1), (14, .l2i, 1), (15, .i2b, 1), (16, .bastore, 1), (17, .aload_n 0, 1), (18, .iload_n 1, 1), (19, .iconst 2, 1), (20, .iadd, 1), (21, .lload_n 2, 1), (22, .bipush 16, 2), (24, .lushr, 1), (25, .l2i, 1), (26, .i2b, 1), (27, .bastore, 1), (28, .aload_n 0, 1), (29, .iload_n 1, 1), (30, .iconst 3, 1), (31, .iadd, 1), (32, .lload_n 2, 1), (33, .bipush 24, 2), (35, .lushr, 1), (36, .l2i, 1), (37, .i2b, 1), (38, .bastore, 1), (39, .aload_n 0, 1), (40, .iload_n 1, 1), (41, .iconst 4, 1), (42, .iadd, 1), (43, .lload_n 2, 1), (44, .bipush 32, 2), (46, .lushr, 1), (47, .l2i, 1), (48, .i2b, 1), (49, .bastore, 1), (50, .aload_n 0, 1), (51, .iload_n 1, 1), (52, .iconst 5, 1), (53, .iadd, 1), (54, .lload_n 2, 1), (55, .bipush 40, 2), (57, .lushr, 1), (58, .l2i, 1), (59, .i2b, 1), (60, .bastore, 1), (61, .aload_n 0, 1), (62, .iload_n 1, 1), (63, .bipush 6, 2), (65, .iadd, 1), (66, .lload_n 2, 1), (67, .bipush 48, 2), (69, .lushr, 1), (70, .l2i, 1), (71, .i2b, 1), (72, .bastore, 1), (73, .aload_n 0, 1), (74, .iload_n 1, 1), (75, .bipush 7, 2), (77, .iadd, 1), (78, .lload_n 2, 1), (79, .bipush 56, 2), (81, .lushr, 1), (82, .l2i, 1), (83, .i2b, 1), (84, .bastore, 1), (85, .return_, 1)] = true := by decide +kernel
theorem pn_1 : plainFor (⟨"com/example/hookwright/hookwright/signing/StandardWebhooksSignatureSecretPinLaw", "put", "([BIJ)V"⟩ : MethodName) = true := by first | exact plainFor_of_name (by first | (simp [plainName, overriddenIn]; done) | decide +kernel) | decide +kernel
def QrmPutL (Z : State) (t1 : Addr) (k1 : ClassId) (us : List Int32) (oo : Nat) (v1 : Int64) (h0 : Heap) (n0 : Nat) (v : Option Value) (h : Heap) (L : List Loc) : Prop := v = none ∧ Fr n0 L ∧ Keep h0 h [t1] ∧ ∃ us' : List Int32, us'.length = us.length ∧ (∀ c ∈ us', ¬ c < 0 ∧ ¬ (255 : Int32) < c) ∧ Arv Z h t1 k1 .byte (Int32.ofNat us.length) ((us'.map fun c : Int32 => c.toInt8.toInt32).map Value.int) (.int 0)
theorem rmPutL (l : Launch) (Z : State) (a0 : Array Value) (hw : HW a0 Z) (ws : List Jvm.Cond) (t1 : Addr) (k1 : ClassId) (us : List Int32) (oo : Nat) (v1 : Int64) (h0 : Heap) (n0 : Nat) (Z0 : n0 ≤ h0.size) (A : Arv Z h0 t1 k1 .byte (Int32.ofNat us.length) ((us.map fun c : Int32 => c.toInt8.toInt32).map Value.int) (.int 0)) (hp : ∀ c ∈ us, ¬ c < 0 ∧ ¬ (255 : Int32) < c) (hoo : oo + 8 ≤ us.length) (hl : us.length ≤ 100) (g_t1 : n0 ≤ t1) :
    Own.MF l Z (⟨"com/example/hookwright/hookwright/signing/StandardWebhooksSignatureSecretPinLaw", "put", "([BIJ)V"⟩ : MethodName) method_3_code 4 none ws (⟨0, 0, 0, 0⟩ : Room) #[(.ref t1), (.int (Int32.ofNat oo)), (.long v1)] h0 (QrmPutL Z t1 k1 us oo v1 h0 n0) := by
  refine Own.MF.of (own := "com/example/hookwright/hookwright/signing/StandardWebhooksSignatureSecretPinLaw") (n := 4) rfl rfl pn_1 (fun p e s m below meth c s₁ hml hlk hret hnm P0 => ?_)
  rw [show entryFrame m #[(.ref t1), (.int (Int32.ofNat oo)), (.long v1)] 4 = mkF m 0 #[.val (.ref t1), .val (.int (Int32.ofNat oo)), .val (.long v1), .second] [] from by first | (simp [entryFrame, mkF, argsToLocals, Value.category]; done) | rfl]
  refine Own.aloadN (q := 1) P0 (dc s10 0 rfl) rfl rfl rfl ?_
  refine Own.iloadN (q := 2) P0 (dc s10 1 rfl) rfl rfl ?_
  refine Own.lloadN (q := 3) P0 (dc s10 2 rfl) rfl rfl ?_
  refine Own.l2i (q := 4) P0 (dc s10 3 rfl)  rfl ?_
  refine Own.i2b (q := 5) P0 (dc s10 4 rfl)  rfl ?_
  refine Own.bput (q := 6) (i := oo) P0 (dc s10 5 rfl) A rfl hp (by omega) (by omega) rfl ?_
  intro T21 h21 lc21 u21 hb21 P21 W21 hl21 hp21 A21
  have N21 := Own.Fr.one (Fr.nil n0) hb21 g_t1
  refine Own.aloadN (q := 7) P21 (dc s10 6 rfl) rfl rfl rfl ?_
  refine Own.iloadN (q := 8) P21 (dc s10 7 rfl) rfl rfl ?_
  refine Own.iconst (q := 9) (v := (1 : Int32)) P21 (dc s10 8 rfl) rfl rfl ?_
  refine Own.iadd (q := 10) P21 (dc s10 9 rfl)  rfl ?_
  rw [show ((Int32.ofNat oo) + (1 : Int32)) = (Int32.ofNat (oo + 1)) from (Int32.ofNat_add oo 1).symm]
  refine Own.lloadN (q := 11) P21 (dc s10 10 rfl) rfl rfl ?_
  refine Own.bipush (q := 13) (v := (8 : Int32)) P21 (dc s10 11 rfl) rfl rfl ?_
  refine Own.lushr (q := 14) P21 (dc s10 12 rfl)  rfl ?_
  refine Own.l2i (q := 15) P21 (dc s10 13 rfl)  rfl ?_
  refine Own.i2b (q := 16) P21 (dc s10 14 rfl)  rfl ?_
  refine Own.bput (q := 17) (i := (oo + 1)) P21 (dc s10 15 rfl) A21 hl21 hp21 (by omega) (by omega) rfl ?_
  intro T22 h22 lc22 u22 hb22 P22 W22 hl22 hp22 A22
  have N22 := Own.Fr.one N21 hb22 g_t1
  refine Own.aloadN (q := 18) P22 (dc s10 16 rfl) rfl rfl rfl ?_
  refine Own.iloadN (q := 19) P22 (dc s10 17 rfl) rfl rfl ?_
  refine Own.iconst (q := 20) (v := (2 : Int32)) P22 (dc s10 18 rfl) rfl rfl ?_
  refine Own.iadd (q := 21) P22 (dc s10 19 rfl)  rfl ?_
  rw [show ((Int32.ofNat oo) + (2 : Int32)) = (Int32.ofNat (oo + 2)) from (Int32.ofNat_add oo 2).symm]
  refine Own.lloadN (q := 22) P22 (dc s10 20 rfl) rfl rfl ?_
  refine Own.bipush (q := 24) (v := (16 : Int32)) P22 (dc s10 21 rfl) rfl rfl ?_
  refine Own.lushr (q := 25) P22 (dc s10 22 rfl)  rfl ?_
  refine Own.l2i (q := 26) P22 (dc s10 23 rfl)  rfl ?_
  refine Own.i2b (q := 27) P22 (dc s10 24 rfl)  rfl ?_
  refine Own.bput (q := 28) (i := (oo + 2)) P22 (dc s10 25 rfl) A22 hl22 hp22 (by omega) (by omega) rfl ?_
  intro T23 h23 lc23 u23 hb23 P23 W23 hl23 hp23 A23
  have N23 := Own.Fr.one N22 hb23 g_t1
  refine Own.aloadN (q := 29) P23 (dc s10 26 rfl) rfl rfl rfl ?_
  refine Own.iloadN (q := 30) P23 (dc s10 27 rfl) rfl rfl ?_
  refine Own.iconst (q := 31) (v := (3 : Int32)) P23 (dc s10 28 rfl) rfl rfl ?_
  refine Own.iadd (q := 32) P23 (dc s10 29 rfl)  rfl ?_
  rw [show ((Int32.ofNat oo) + (3 : Int32)) = (Int32.ofNat (oo + 3)) from (Int32.ofNat_add oo 3).symm]
  refine Own.lloadN (q := 33) P23 (dc s10 30 rfl) rfl rfl ?_
  refine Own.bipush (q := 35) (v := (24 : Int32)) P23 (dc s10 31 rfl) rfl rfl ?_
  refine Own.lushr (q := 36) P23 (dc s10 32 rfl)  rfl ?_
  refine Own.l2i (q := 37) P23 (dc s10 33 rfl)  rfl ?_
  refine Own.i2b (q := 38) P23 (dc s10 34 rfl)  rfl ?_
  refine Own.bput (q := 39) (i := (oo + 3)) P23 (dc s10 35 rfl) A23 hl23 hp23 (by omega) (by omega) rfl ?_
  intro T24 h24 lc24 u24 hb24 P24 W24 hl24 hp24 A24
  have N24 := Own.Fr.one N23 hb24 g_t1
  refine Own.aloadN (q := 40) P24 (dc s10 36 rfl) rfl rfl rfl ?_
  refine Own.iloadN (q := 41) P24 (dc s10 37 rfl) rfl rfl ?_
  refine Own.iconst (q := 42) (v := (4 : Int32)) P24 (dc s10 38 rfl) rfl rfl ?_
  refine Own.iadd (q := 43) P24 (dc s10 39 rfl)  rfl ?_
  rw [show ((Int32.ofNat oo) + (4 : Int32)) = (Int32.ofNat (oo + 4)) from (Int32.ofNat_add oo 4).symm]
  refine Own.lloadN (q := 44) P24 (dc s10 40 rfl) rfl rfl ?_
  refine Own.bipush (q := 46) (v := (32 : Int32)) P24 (dc s10 41 rfl) rfl rfl ?_
  refine Own.lushr (q := 47) P24 (dc s10 42 rfl)  rfl ?_
  refine Own.l2i (q := 48) P24 (dc s10 43 rfl)  rfl ?_
  refine Own.i2b (q := 49) P24 (dc s10 44 rfl)  rfl ?_
  refine Own.bput (q := 50) (i := (oo + 4)) P24 (dc s10 45 rfl) A24 hl24 hp24 (by omega) (by omega) rfl ?_
  intro T25 h25 lc25 u25 hb25 P25 W25 hl25 hp25 A25
  have N25 := Own.Fr.one N24 hb25 g_t1
  refine Own.aloadN (q := 51) P25 (dc s10 46 rfl) rfl rfl rfl ?_
  refine Own.iloadN (q := 52) P25 (dc s10 47 rfl) rfl rfl ?_
  refine Own.iconst (q := 53) (v := (5 : Int32)) P25 (dc s10 48 rfl) rfl rfl ?_
  refine Own.iadd (q := 54) P25 (dc s10 49 rfl)  rfl ?_
  rw [show ((Int32.ofNat oo) + (5 : Int32)) = (Int32.ofNat (oo + 5)) from (Int32.ofNat_add oo 5).symm]
  refine Own.lloadN (q := 55) P25 (dc s10 50 rfl) rfl rfl ?_
  refine Own.bipush (q := 57) (v := (40 : Int32)) P25 (dc s10 51 rfl) rfl rfl ?_
  refine Own.lushr (q := 58) P25 (dc s10 52 rfl)  rfl ?_
  refine Own.l2i (q := 59) P25 (dc s10 53 rfl)  rfl ?_
  refine Own.i2b (q := 60) P25 (dc s10 54 rfl)  rfl ?_
  refine Own.bput (q := 61) (i := (oo + 5)) P25 (dc s10 55 rfl) A25 hl25 hp25 (by omega) (by omega) rfl ?_
  intro T26 h26 lc26 u26 hb26 P26 W26 hl26 hp26 A26
  have N26 := Own.Fr.one N25 hb26 g_t1
  refine Own.aloadN (q := 62) P26 (dc s10 56 rfl) rfl rfl rfl ?_
  refine Own.iloadN (q := 63) P26 (dc s10 57 rfl) rfl rfl ?_
  refine Own.bipush (q := 65) (v := (6 : Int32)) P26 (dc s10 58 rfl) rfl rfl ?_
  refine Own.iadd (q := 66) P26 (dc s10 59 rfl)  rfl ?_
  rw [show ((Int32.ofNat oo) + (6 : Int32)) = (Int32.ofNat (oo + 6)) from (Int32.ofNat_add oo 6).symm]
  refine Own.lloadN (q := 67) P26 (dc s10 60 rfl) rfl rfl ?_
  refine Own.bipush (q := 69) (v := (48 : Int32)) P26 (dc s10 61 rfl) rfl rfl ?_
  refine Own.lushr (q := 70) P26 (dc s10 62 rfl)  rfl ?_
  refine Own.l2i (q := 71) P26 (dc s10 63 rfl)  rfl ?_
  refine Own.i2b (q := 72) P26 (dc s10 64 rfl)  rfl ?_
  refine Own.bput (q := 73) (i := (oo + 6)) P26 (dc s10 65 rfl) A26 hl26 hp26 (by omega) (by omega) rfl ?_
  intro T27 h27 lc27 u27 hb27 P27 W27 hl27 hp27 A27
  have N27 := Own.Fr.one N26 hb27 g_t1
  refine Own.aloadN (q := 74) P27 (dc s10 66 rfl) rfl rfl rfl ?_
  refine Own.iloadN (q := 75) P27 (dc s10 67 rfl) rfl rfl ?_
  refine Own.bipush (q := 77) (v := (7 : Int32)) P27 (dc s10 68 rfl) rfl rfl ?_
  refine Own.iadd (q := 78) P27 (dc s10 69 rfl)  rfl ?_
  rw [show ((Int32.ofNat oo) + (7 : Int32)) = (Int32.ofNat (oo + 7)) from (Int32.ofNat_add oo 7).symm]
  refine Own.lloadN (q := 79) P27 (dc s10 70 rfl) rfl rfl ?_
  refine Own.bipush (q := 81) (v := (56 : Int32)) P27 (dc s10 71 rfl) rfl rfl ?_
  refine Own.lushr (q := 82) P27 (dc s10 72 rfl)  rfl ?_
  refine Own.l2i (q := 83) P27 (dc s10 73 rfl)  rfl ?_
  refine Own.i2b (q := 84) P27 (dc s10 74 rfl)  rfl ?_
  refine Own.bput (q := 85) (i := (oo + 7)) P27 (dc s10 75 rfl) A27 hl27 hp27 (by omega) (by omega) rfl ?_
  intro T28 h28 lc28 u28 hb28 P28 W28 hl28 hp28 A28
  have N28 := Own.Fr.one N27 hb28 g_t1
  refine Own.retV P28 (dc s10 76 rfl) hret hlk (by decide) (by decide) ?_
  exact ⟨rfl, N28, (Keep.wr (Keep.wr (Keep.wr (Keep.wr (Keep.wr (Keep.wr (Keep.wr (Keep.wr (Keep.refl h0 _) W21 (Or.inl (by simp))) W22 (Or.inl (by simp))) W23 (Or.inl (by simp))) W24 (Or.inl (by simp))) W25 (Or.inl (by simp))) W26 (Or.inl (by simp))) W27 (Or.inl (by simp))) W28 (Or.inl (by simp))), u28, hl28, hp28, A28⟩
theorem s11 : decs method_4_code [(0, .aload_n 0, 1), (1, .iload_n 1, 1), (2, .baload, 1), (3, .sipush 255, 3), (6, .iand, 1), (7, .ireturn, 1)] = true := by decide +kernel
theorem pn_42 : plainFor (⟨"com/example/hookwright/hookwright/signing/StandardWebhooksSignatureSecretPinLaw", "u", "([BI)I"⟩ : MethodName) = true := by first | exact plainFor_of_name (by first | (simp [plainName, overriddenIn]; done) | decide +kernel) | decide +kernel
def QrmUL (Z : State) (t1 : Addr) (k1 : ClassId) (us : List Int32) (i : Nat) (h0 : Heap) (n0 : Nat) (v : Option Value) (h : Heap) (L : List Loc) : Prop := v = some (.int (us.getD i 0)) ∧ Fr n0 L ∧ h = h0
theorem rmUL (l : Launch) (Z : State) (a0 : Array Value) (hw : HW a0 Z) (ws : List Jvm.Cond) (t1 : Addr) (k1 : ClassId) (us : List Int32) (i : Nat) (h0 : Heap) (n0 : Nat) (Z0 : n0 ≤ h0.size) (A : Arv Z h0 t1 k1 .byte (Int32.ofNat us.length) ((us.map fun c : Int32 => c.toInt8.toInt32).map Value.int) (.int 0)) (hp : ∀ c ∈ us, ¬ c < 0 ∧ ¬ (255 : Int32) < c) (hi : i < us.length) (hl : us.length ≤ 100) :
    Own.MF l Z (⟨"com/example/hookwright/hookwright/signing/StandardWebhooksSignatureSecretPinLaw", "u", "([BI)I"⟩ : MethodName) method_4_code 2 (some .int) ws (⟨0, 0, 0, 0⟩ : Room) #[(.ref t1), (.int (Int32.ofNat i))] h0 (QrmUL Z t1 k1 us i h0 n0) := by
  refine Own.MF.of (own := "com/example/hookwright/hookwright/signing/StandardWebhooksSignatureSecretPinLaw") (n := 2) rfl rfl pn_42 (fun p e s m below meth c s₁ hml hlk hret hnm P0 => ?_)
  rw [show entryFrame m #[(.ref t1), (.int (Int32.ofNat i))] 2 = mkF m 0 #[.val (.ref t1), .val (.int (Int32.ofNat i))] [] from by first | (simp [entryFrame, mkF, argsToLocals, Value.category]; done) | rfl]
  refine Own.aloadN (q := 1) P0 (dc s11 0 rfl) rfl rfl rfl ?_
  refine Own.iloadN (q := 2) P0 (dc s11 1 rfl) rfl rfl ?_
  refine Own.bget (q := 3) (i := i) P0 (dc s11 2 rfl) A hi (by omega) rfl ?_
  refine Own.sipush (q := 6) (v := (255 : Int32)) P0 (dc s11 3 rfl) rfl rfl ?_
  refine Own.iand (q := 7) P0 (dc s11 4 rfl)  rfl ?_
  rw [show ((us.getD i 0).toInt8.toInt32 &&& (255 : Int32)) = (us.getD i 0) from Own.and255 (Own.rng_getD hp i)]
  refine Own.retI P0 (dc s11 5 rfl) hret hlk (by decide) (by decide) ?_
  exact ⟨rfl, (Fr.nil n0), rfl⟩
theorem s12 : decs method_5_code [(0, .iload_n 0, 1), (1, .bipush 26, 2), (3, .if_icmp .ge 9, 3), (6, .bipush 65, 2), (8, .iload_n 0, 1), (9, .iadd, 1), (10, .i2c, 1), (11, .ireturn, 1), (12, .iload_n 0, 1), (13, .bipush 52, 2), (15, .if_icmp .ge 12, 3), (18, .bipush 97, 2), (20, .iload_n 0, 1), (21, .bipush 26, 2), (23, .isub, 1), (24, .iadd, 1), (25, .i2c, 1), (26, .ireturn, 1), (27, .iload_n 0, 1), (28, .bipush 62, 2), (30, .if_icmp .ge 12, 3), (33, .bipush 48, 2), (35, .iload_n 0, 1), (36, .bipush 52, 2), (38, .isub, 1), (39, .iadd, 1), (40, .i2c, 1), (41, .ireturn, 1), (42, .iload_n 0, 1), (43, .bipush 62, 2), (45, .if_icmp .ne 6, 3), (48, .bipush 43, 2), (50, .ireturn, 1), (51, .bipush 47, 2), (53, .ireturn, 1)] = true := by decide +kernel
theorem pn_44 : plainFor (⟨"com/example/hookwright/hookwright/signing/StandardWebhooksSignatureSecretPinLaw", "enc", "(I)C"⟩ : MethodName) = true := by first | exact plainFor_of_name (by first | (simp [plainName, overriddenIn]; done) | decide +kernel) | decide +kernel
def QrmEncL (Z : State) (v1 : Int32) (h0 : Heap) (n0 : Nat) (v : Option Value) (h : Heap) (L : List Loc) : Prop := v = some (.int (Own.e64 v1)) ∧ Fr n0 L ∧ h = h0
theorem rmEncL (l : Launch) (Z : State) (a0 : Array Value) (hw : HW a0 Z) (ws : List Jvm.Cond) (v1 : Int32) (h0 : Heap) (n0 : Nat) (Z0 : n0 ≤ h0.size) (hv : Own.B6 v1) :
    Own.MF l Z (⟨"com/example/hookwright/hookwright/signing/StandardWebhooksSignatureSecretPinLaw", "enc", "(I)C"⟩ : MethodName) method_5_code 1 (some .char) ws (⟨0, 0, 0, 0⟩ : Room) #[(.int v1)] h0 (QrmEncL Z v1 h0 n0) := by
  refine Own.MF.of (own := "com/example/hookwright/hookwright/signing/StandardWebhooksSignatureSecretPinLaw") (n := 1) rfl rfl pn_44 (fun p e s m below meth c s₁ hml hlk hret hnm P0 => ?_)
  rw [show entryFrame m #[(.int v1)] 1 = mkF m 0 #[.val (.int v1)] [] from by first | (simp [entryFrame, mkF, argsToLocals, Value.category]; done) | rfl]
  refine Own.iloadN (q := 1) P0 (dc s12 0 rfl) rfl rfl ?_
  refine Own.bipush (q := 3) (v := (26 : Int32)) P0 (dc s12 1 rfl) rfl rfl ?_
  refine Own.icmp_ge (q := 6) (qy := 12) P0 (dc s12 2 rfl) (by decide) rfl (fun q3 => ?_) (fun q3 => ?_)
  · refine Own.iloadN (q := 13) P0 (dc s12 8 rfl) rfl rfl ?_
    refine Own.bipush (q := 15) (v := (52 : Int32)) P0 (dc s12 9 rfl) rfl rfl ?_
    refine Own.icmp_ge (q := 18) (qy := 27) P0 (dc s12 10 rfl) (by decide) rfl (fun q15 => ?_) (fun q15 => ?_)
    · refine Own.iloadN (q := 28) P0 (dc s12 18 rfl) rfl rfl ?_
      refine Own.bipush (q := 30) (v := (62 : Int32)) P0 (dc s12 19 rfl) rfl rfl ?_
      refine Own.icmp_ge (q := 33) (qy := 42) P0 (dc s12 20 rfl) (by decide) rfl (fun q30 => ?_) (fun q30 => ?_)
      · refine Own.iloadN (q := 43) P0 (dc s12 28 rfl) rfl rfl ?_
        refine Own.bipush (q := 45) (v := (62 : Int32)) P0 (dc s12 29 rfl) rfl rfl ?_
        refine Own.icmp_ne (q := 48) (qy := 51) P0 (dc s12 30 rfl) (by decide) rfl (fun q45 => ?_) (fun q45 => ?_)
        · refine Own.bipush (q := 53) (v := (47 : Int32)) P0 (dc s12 33 rfl) rfl rfl ?_
          refine Own.retZ P0 (dc s12 34 rfl) hret (by simp) hlk (by decide) (by decide) ?_
          exact ⟨congrArg (fun x => some (Value.int x)) ((Own.enc_v hv).2.2.2.2 q30 q45), (Fr.nil n0), rfl⟩
        · refine Own.bipush (q := 50) (v := (43 : Int32)) P0 (dc s12 31 rfl) rfl rfl ?_
          refine Own.retZ P0 (dc s12 32 rfl) hret (by simp) hlk (by decide) (by decide) ?_
          exact ⟨congrArg (fun x => some (Value.int x)) ((Own.enc_v hv).2.2.2.1 q45), (Fr.nil n0), rfl⟩
      · refine Own.bipush (q := 35) (v := (48 : Int32)) P0 (dc s12 21 rfl) rfl rfl ?_
        refine Own.iloadN (q := 36) P0 (dc s12 22 rfl) rfl rfl ?_
        refine Own.bipush (q := 38) (v := (52 : Int32)) P0 (dc s12 23 rfl) rfl rfl ?_
        refine Own.isub (q := 39) P0 (dc s12 24 rfl)  rfl ?_
        refine Own.iadd (q := 40) P0 (dc s12 25 rfl)  rfl ?_
        refine Own.i2cV (q := 41) (v := ((48 : Int32) + (v1 - (52 : Int32)))) P0 (dc s12 26 rfl) (Own.i2c_id ((Own.enc_v hv).2.2.1 q15 q30).2) rfl ?_
        refine Own.retZ P0 (dc s12 27 rfl) hret (by simp) hlk (by decide) (by decide) ?_
        exact ⟨congrArg (fun x => some (Value.int x)) ((Own.enc_v hv).2.2.1 q15 q30).1, (Fr.nil n0), rfl⟩
    · refine Own.bipush (q := 20) (v := (97 : Int32)) P0 (dc s12 11 rfl) rfl rfl ?_
      refine Own.iloadN (q := 21) P0 (dc s12 12 rfl) rfl rfl ?_
      refine Own.bipush (q := 23) (v := (26 : Int32)) P0 (dc s12 13 rfl) rfl rfl ?_
      refine Own.isub (q := 24) P0 (dc s12 14 rfl)  rfl ?_
      refine Own.iadd (q := 25) P0 (dc s12 15 rfl)  rfl ?_
      refine Own.i2cV (q := 26) (v := ((97 : Int32) + (v1 - (26 : Int32)))) P0 (dc s12 16 rfl) (Own.i2c_id ((Own.enc_v hv).2.1 q3 q15).2) rfl ?_
      refine Own.retZ P0 (dc s12 17 rfl) hret (by simp) hlk (by decide) (by decide) ?_
      exact ⟨congrArg (fun x => some (Value.int x)) ((Own.enc_v hv).2.1 q3 q15).1, (Fr.nil n0), rfl⟩
  · refine Own.bipush (q := 8) (v := (65 : Int32)) P0 (dc s12 3 rfl) rfl rfl ?_
    refine Own.iloadN (q := 9) P0 (dc s12 4 rfl) rfl rfl ?_
    refine Own.iadd (q := 10) P0 (dc s12 5 rfl)  rfl ?_
    refine Own.i2cV (q := 11) (v := ((65 : Int32) + v1)) P0 (dc s12 6 rfl) (Own.i2c_id ((Own.enc_v hv).1 q3).2) rfl ?_
    refine Own.retZ P0 (dc s12 7 rfl) hret (by simp) hlk (by decide) (by decide) ?_
    exact ⟨congrArg (fun x => some (Value.int x)) ((Own.enc_v hv).1 q3).1, (Fr.nil n0), rfl⟩
theorem pd_6 : parseMethodDescriptor "(I)C" = some ⟨[.int], some .char⟩ := by decide +kernel
theorem vw_6 {Z : State} {a0 : Array Value} (hw : HW a0 Z) : Own.VW Z a0 "java/lang/String" ⟨"java/lang/String", "charAt", "(I)C"⟩ ⟨"java/lang/String", "charAt", "(I)C"⟩ jdk_42_method_56_code 2 (some .char) 1 := ⟨(wd hw 214 rfl), (wd hw 216 rfl), (wd hw 215 rfl), (wd hw 26 rfl), (wd hw 217 rfl), by decide, _, _, pd_6, rfl⟩
theorem sw_7 {Z : State} {a0 : Array Value} (hw : HW a0 Z) : Own.SW Z a0 ⟨"com/example/hookwright/hookwright/signing/StandardWebhooksSignatureSecretPinLaw", "enc", "(I)C"⟩ method_5_code 1 (some .char) 1 := ⟨(wd hw 240 rfl), (wd hw 4 rfl), (wd hw 241 rfl), by decide, _, _, pd_6, rfl⟩
theorem s13 : decs method_6_code [(0, .iload_n 2, 1), (1, .bipush 16, 2), (3, .ishl, 1), (4, .iload_n 3, 1), (5, .bipush 8, 2), (7, .ishl, 1), (8, .ior, 1), (9, .iload 4, 2), (11, .ior, 1), (12, .istore 5, 2), (14, .aload_n 0, 1), (15, .iload_n 1, 1), (16, .invokevirtual 28, 3), (19, .iload 5, 2), (21, .bipush 18, 2), (23, .ishr, 1), (24, .bipush 63, 2), (26, .iand, 1), (27, .invokestatic 40, 3), (30, .if_icmp .ne 67, 3), (33, .aload_n 0, 1), (34, .iload_n 1, 1), (35, .iconst 1, 1), (36, .iadd, 1), (37, .invokevirtual 28, 3), (40, .iload 5, 2), (42, .bipush 12, 2), (44, .ishr, 1), (45, .bipush 63, 2), (47, .iand, 1), (48, .invokestatic 40, 3), (51, .if_icmp .ne 46, 3), (54, .aload_n 0, 1), (55, .iload_n 1, 1), (56, .iconst 2, 1), (57, .iadd, 1), (58, .invokevirtual 28, 3), (61, .iload 5, 2), (63, .bipush 6, 2), (65, .ishr, 1), (66, .bipush 63, 2), (68, .iand, 1), (69, .invokestatic 40, 3), (72, .if_icmp .ne 25, 3), (75, .aload_n 0, 1), (76, .iload_n 1, 1), (77, .iconst 3, 1), (78, .iadd, 1), (79, .invokevirtual 28, 3), (82, .iload 5, 2), (84, .bipush 63, 2), (86, .iand, 1), (87, .invokestatic 40, 3), (90, .if_icmp .ne 7, 3), (93, .iconst 1, 1), (94, .goto 4, 3), (98, .ireturn, 1)] = true := by decide +kernel
theorem pn_43 : plainFor (⟨"com/example/hookwright/hookwright/signing/StandardWebhooksSignatureSecretPinLaw", "full", "(Ljava/lang/String;IIII)Z"⟩ : MethodName) = true := by first | exact plainFor_of_name (by first | (simp [plainName, overriddenIn]; done) | decide +kernel) | decide +kernel
def QrmFull (Z : State) (a1 : Addr) (cs : List Int32) (pos : Nat) (x1 : Int32) (y1 : Int32) (z1 : Int32) (zc : Int32) (fm : Value) (h0 : Heap) (n0 : Nat) (v : Option Value) (h : Heap) (L : List Loc) : Prop := v = some (.int 1) ∧ Fr n0 L ∧ h = h0
theorem rmFull (l : Launch) (Z : State) (a0 : Array Value) (hw : HW a0 Z) (ws : List Jvm.Cond) (a1 : Addr) (cs : List Int32) (pos : Nat) (x1 : Int32) (y1 : Int32) (z1 : Int32) (zc : Int32) (fm : Value) (h0 : Heap) (n0 : Nat) (Z0 : n0 ≤ h0.size) (SC : Own.Cst Z h0 zc) (hzc : ¬ zc = 0) (SF : Own.Fst Z h0 fm) (hfm : fm.isRef = true) (S1 : Own.Str Z h0 a1 cs) (hx1 : ¬ x1 < 0 ∧ ¬ (255 : Int32) < x1) (hy1 : ¬ y1 < 0 ∧ ¬ (255 : Int32) < y1) (hz1 : ¬ z1 < 0 ∧ ¬ (255 : Int32) < z1) (hlen : pos + 4 ≤ cs.length) (e0 : cs.getD (pos + 0) 0 = Own.e64 (Own.q1 x1 y1 z1)) (e1 : cs.getD (pos + 1) 0 = Own.e64 (Own.q2 x1 y1 z1)) (e2 : cs.getD (pos + 2) 0 = Own.e64 (Own.q3 x1 y1 z1)) (e3 : cs.getD (pos + 3) 0 = Own.e64 (Own.q4 x1 y1 z1)) :
    Own.MF l Z (⟨"com/example/hookwright/hookwright/signing/StandardWebhooksSignatureSecretPinLaw", "full", "(Ljava/lang/String;IIII)Z"⟩ : MethodName) method_6_code 6 (some .boolean) ws (⟨5, 0, 0, 60⟩ : Room) #[(.ref a1), (.int (Int32.ofNat pos)), (.int x1), (.int y1), (.int z1)] h0 (QrmFull Z a1 cs pos x1 y1 z1 zc fm h0 n0) := by
  refine Own.MF.of (own := "com/example/hookwright/hookwright/signing/StandardWebhooksSignatureSecretPinLaw") (n := 6) rfl rfl pn_43 (fun p e s m below meth c s₁ hml hlk hret hnm P0 => ?_)
  rw [show entryFrame m #[(.ref a1), (.int (Int32.ofNat pos)), (.int x1), (.int y1), (.int z1)] 6 = mkF m 0 #[.val (.ref a1), .val (.int (Int32.ofNat pos)), .val (.int x1), .val (.int y1), .val (.int z1), .unset] [] from by first | (simp [entryFrame, mkF, argsToLocals, Value.category]; done) | rfl]
  refine Own.iloadN (q := 1) P0 (dc s13 0 rfl) rfl rfl ?_
  refine Own.bipush (q := 3) (v := (16 : Int32)) P0 (dc s13 1 rfl) rfl rfl ?_
  refine Own.ishl (q := 4) P0 (dc s13 2 rfl)  rfl ?_
  refine Own.iloadN (q := 5) P0 (dc s13 3 rfl) rfl rfl ?_
  refine Own.bipush (q := 7) (v := (8 : Int32)) P0 (dc s13 4 rfl) rfl rfl ?_
  refine Own.ishl (q := 8) P0 (dc s13 5 rfl)  rfl ?_
  refine Own.ior (q := 9) P0 (dc s13 6 rfl)  rfl ?_
  refine Own.iload (q := 11) P0 (dc s13 7 rfl) rfl rfl ?_
  refine Own.ior (q := 12) P0 (dc s13 8 rfl)  rfl ?_
  rw [show (((x1 <<< ((16 : Int32) &&& 31)) ||| (y1 <<< ((8 : Int32) &&& 31))) ||| z1) = (Own.w3 x1 y1 z1) from rfl]
  refine Own.istore (q := 14) (L2 := #[.val (.ref a1), .val (.int (Int32.ofNat pos)), .val (.int x1), .val (.int y1), .val (.int z1), .val (.int (Own.w3 x1 y1 z1))]) P0 (dc s13 9 rfl) rfl rfl ?_
  refine Own.aloadN (q := 15) P0 (dc s13 10 rfl) rfl rfl rfl ?_
  refine Own.iloadN (q := 16) P0 (dc s13 11 rfl) rfl rfl ?_
  refine Own.cV (q := 19) (W := 0) (rest := []) P0 (dc s13 12 rfl) (wd hw 213 rfl) (vw_6 hw) (Own.nfs P0 (wd hw 216 rfl)) S1.exa (rmSca l Z a0 hw [] a1 cs (pos + 0) zc fm h0 n0 Z0 SC hzc SF hfm S1 (by omega)) (by decide) (by decide) rfl (hml rfl) rfl rfl (by decide) (by decide) rfl ?_
  rintro v21 T21 h21 L21 ⟨rfl, N21q, e21⟩ P21
  rw [e21] at P21
  have N21 := Fr.app (Fr.nil n0) N21q
  refine Own.iload (q := 21) P21 (dc s13 13 rfl) rfl rfl ?_
  refine Own.bipush (q := 23) (v := (18 : Int32)) P21 (dc s13 14 rfl) rfl rfl ?_
  refine Own.ishr (q := 24) P21 (dc s13 15 rfl)  rfl ?_
  refine Own.bipush (q := 26) (v := (63 : Int32)) P21 (dc s13 16 rfl) rfl rfl ?_
  refine Own.iand (q := 27) P21 (dc s13 17 rfl)  rfl ?_
  refine Own.cS (q := 30) (W := 1) (rest := [(.int (cs.getD (pos + 0) 0))]) P21 (dc s13 18 rfl) (wd hw 239 rfl) (sw_7 hw) (rmEncL l Z a0 hw [] (((Own.w3 x1 y1 z1) >>> ((18 : Int32) &&& 31)) &&& (63 : Int32)) h0 n0 Z0 (Own.b6m _)) (by decide) (by decide) rfl (hml rfl) rfl rfl (by decide) (by decide) rfl ?_
  rintro v22 T22 h22 L22 ⟨rfl, N22q, e22⟩ P22
  rw [e22] at P22
  have N22 := Fr.app N21 N22q
  refine Own.icmp_ne (q := 33) (qy := 97) P22 (dc s13 19 rfl) (by decide) rfl (fun q => absurd (by rw [(Own.q_shr hx1 hy1 hz1).1]; exact e0) q) (fun _ => ?_)
  refine Own.aloadN (q := 34) P22 (dc s13 20 rfl) rfl rfl rfl ?_
  refine Own.iloadN (q := 35) P22 (dc s13 21 rfl) rfl rfl ?_
  refine Own.iconst (q := 36) (v := (1 : Int32)) P22 (dc s13 22 rfl) rfl rfl ?_
  refine Own.iadd (q := 37) P22 (dc s13 23 rfl)  rfl ?_
  rw [show ((Int32.ofNat pos) + (1 : Int32)) = (Int32.ofNat (pos + 1)) from (Int32.ofNat_add pos 1).symm]
  refine Own.cV (q := 40) (W := 0) (rest := []) P22 (dc s13 24 rfl) (wd hw 213 rfl) (vw_6 hw) (Own.nfs P22 (wd hw 216 rfl)) S1.exa (rmSca l Z a0 hw [] a1 cs (pos + 1) zc fm h0 n0 Z0 SC hzc SF hfm S1 (by omega)) (by decide) (by decide) rfl (hml rfl) rfl rfl (by decide) (by decide) rfl ?_
  rintro v23 T23 h23 L23 ⟨rfl, N23q, e23⟩ P23
  rw [e23] at P23
  have N23 := Fr.app N22 N23q
  refine Own.iload (q := 42) P23 (dc s13 25 rfl) rfl rfl ?_
  refine Own.bipush (q := 44) (v := (12 : Int32)) P23 (dc s13 26 rfl) rfl rfl ?_
  refine Own.ishr (q := 45) P23 (dc s13 27 rfl)  rfl ?_
  refine Own.bipush (q := 47) (v := (63 : Int32)) P23 (dc s13 28 rfl) rfl rfl ?_
  refine Own.iand (q := 48) P23 (dc s13 29 rfl)  rfl ?_
  refine Own.cS (q := 51) (W := 1) (rest := [(.int (cs.getD (pos + 1) 0))]) P23 (dc s13 30 rfl) (wd hw 239 rfl) (sw_7 hw) (rmEncL l Z a0 hw [] (((Own.w3 x1 y1 z1) >>> ((12 : Int32) &&& 31)) &&& (63 : Int32)) h0 n0 Z0 (Own.b6m _)) (by decide) (by decide) rfl (hml rfl) rfl rfl (by decide) (by decide) rfl ?_
  rintro v24 T24 h24 L24 ⟨rfl, N24q, e24⟩ P24
  rw [e24] at P24
  have N24 := Fr.app N23 N24q
  refine Own.icmp_ne (q := 54) (qy := 97) P24 (dc s13 31 rfl) (by decide) rfl (fun q => absurd (by rw [(Own.q_shr hx1 hy1 hz1).2.1]; exact e1) q) (fun _ => ?_)
  refine Own.aloadN (q := 55) P24 (dc s13 32 rfl) rfl rfl rfl ?_
  refine Own.iloadN (q := 56) P24 (dc s13 33 rfl) rfl rfl ?_
  refine Own.iconst (q := 57) (v := (2 : Int32)) P24 (dc s13 34 rfl) rfl rfl ?_
  refine Own.iadd (q := 58) P24 (dc s13 35 rfl)  rfl ?_
  rw [show ((Int32.ofNat pos) + (2 : Int32)) = (Int32.ofNat (pos + 2)) from (Int32.ofNat_add pos 2).symm]
  refine Own.cV (q := 61) (W := 0) (rest := []) P24 (dc s13 36 rfl) (wd hw 213 rfl) (vw_6 hw) (Own.nfs P24 (wd hw 216 rfl)) S1.exa (rmSca l Z a0 hw [] a1 cs (pos + 2) zc fm h0 n0 Z0 SC hzc SF hfm S1 (by omega)) (by decide) (by decide) rfl (hml rfl) rfl rfl (by decide) (by decide) rfl ?_
  rintro v25 T25 h25 L25 ⟨rfl, N25q, e25⟩ P25
  rw [e25] at P25
  have N25 := Fr.app N24 N25q
  refine Own.iload (q := 63) P25 (dc s13 37 rfl) rfl rfl ?_
  refine Own.bipush (q := 65) (v := (6 : Int32)) P25 (dc s13 38 rfl) rfl rfl ?_
  refine Own.ishr (q := 66) P25 (dc s13 39 rfl)  rfl ?_
  refine Own.bipush (q := 68) (v := (63 : Int32)) P25 (dc s13 40 rfl) rfl rfl ?_
  refine Own.iand (q := 69) P25 (dc s13 41 rfl)  rfl ?_
  refine Own.cS (q := 72) (W := 1) (rest := [(.int (cs.getD (pos + 2) 0))]) P25 (dc s13 42 rfl) (wd hw 239 rfl) (sw_7 hw) (rmEncL l Z a0 hw [] (((Own.w3 x1 y1 z1) >>> ((6 : Int32) &&& 31)) &&& (63 : Int32)) h0 n0 Z0 (Own.b6m _)) (by decide) (by decide) rfl (hml rfl) rfl rfl (by decide) (by decide) rfl ?_
  rintro v26 T26 h26 L26 ⟨rfl, N26q, e26⟩ P26
  rw [e26] at P26
  have N26 := Fr.app N25 N26q
  refine Own.icmp_ne (q := 75) (qy := 97) P26 (dc s13 43 rfl) (by decide) rfl (fun q => absurd (by rw [(Own.q_shr hx1 hy1 hz1).2.2]; exact e2) q) (fun _ => ?_)
  refine Own.aloadN (q := 76) P26 (dc s13 44 rfl) rfl rfl rfl ?_
  refine Own.iloadN (q := 77) P26 (dc s13 45 rfl) rfl rfl ?_
  refine Own.iconst (q := 78) (v := (3 : Int32)) P26 (dc s13 46 rfl) rfl rfl ?_
  refine Own.iadd (q := 79) P26 (dc s13 47 rfl)  rfl ?_
  rw [show ((Int32.ofNat pos) + (3 : Int32)) = (Int32.ofNat (pos + 3)) from (Int32.ofNat_add pos 3).symm]
  refine Own.cV (q := 82) (W := 0) (rest := []) P26 (dc s13 48 rfl) (wd hw 213 rfl) (vw_6 hw) (Own.nfs P26 (wd hw 216 rfl)) S1.exa (rmSca l Z a0 hw [] a1 cs (pos + 3) zc fm h0 n0 Z0 SC hzc SF hfm S1 (by omega)) (by decide) (by decide) rfl (hml rfl) rfl rfl (by decide) (by decide) rfl ?_
  rintro v27 T27 h27 L27 ⟨rfl, N27q, e27⟩ P27
  rw [e27] at P27
  have N27 := Fr.app N26 N27q
  refine Own.iload (q := 84) P27 (dc s13 49 rfl) rfl rfl ?_
  refine Own.bipush (q := 86) (v := (63 : Int32)) P27 (dc s13 50 rfl) rfl rfl ?_
  refine Own.iand (q := 87) P27 (dc s13 51 rfl)  rfl ?_
  refine Own.cS (q := 90) (W := 1) (rest := [(.int (cs.getD (pos + 3) 0))]) P27 (dc s13 52 rfl) (wd hw 239 rfl) (sw_7 hw) (rmEncL l Z a0 hw [] ((Own.w3 x1 y1 z1) &&& (63 : Int32)) h0 n0 Z0 (Own.b6m _)) (by decide) (by decide) rfl (hml rfl) rfl rfl (by decide) (by decide) rfl ?_
  rintro v28 T28 h28 L28 ⟨rfl, N28q, e28⟩ P28
  rw [e28] at P28
  have N28 := Fr.app N27 N28q
  refine Own.icmp_ne (q := 93) (qy := 97) P28 (dc s13 53 rfl) (by decide) rfl (fun q => absurd (by exact e3) q) (fun _ => ?_)
  refine Own.iconst (q := 94) (v := (1 : Int32)) P28 (dc s13 54 rfl) rfl rfl ?_
  refine Own.goto (q := 98) P28 (dc s13 55 rfl) (by decide) ?_
  refine Own.retZ P28 (dc s13 56 rfl) hret (by simp) hlk (by decide) (by decide) ?_
  exact ⟨rfl, N28, rfl⟩
theorem s14 : decs jdk_2452_method_9_code [(0, .iload 6, 2), (2, .ifCond .eq 9, 3), (11, .getstatic 115, 3), (14, .astore 7, 2), (16, .iload_n 2, 1), (17, .istore 8, 2), (19, .iload 5, 2), (21, .istore 9, 2), (23, .iload 8, 2), (25, .iload_n 3, 1), (26, .if_icmp .ge 126, 3), (29, .aload_n 1, 1), (30, .iload 8, 2), (32, .iinc 8 1, 3), (35, .baload, 1), (36, .sipush 255, 3), (39, .iand, 1), (40, .bipush 16, 2), (42, .ishl, 1), (43, .aload_n 1, 1), (44, .iload 8, 2), (46, .iinc 8 1, 3), (49, .baload, 1), (50, .sipush 255, 3), (53, .iand, 1), (54, .bipush 8, 2), (56, .ishl, 1), (57, .ior, 1), (58, .aload_n 1, 1), (59, .iload 8, 2), (61, .iinc 8 1, 3), (64, .baload, 1), (65, .sipush 255, 3), (68, .iand, 1), (69, .ior, 1), (70, .istore 10, 2), (72, .aload 4, 2), (74, .iload 9, 2), (76, .iinc 9 1, 3), (79, .aload 7, 2), (81, .iload 10, 2), (83, .bipush 18, 2), (85, .iushr, 1), (86, .bipush 63, 2), (88, .iand, 1), (89, .caload, 1), (90, .i2b, 1), (91, .bastore, 1), (92, .aload 4, 2), (94, .iload 9, 2), (96, .iinc 9 1, 3), (99, .aload 7, 2), (101, .iload 10, 2), (103, .bipush 12, 2), (105, .iushr, 1), (106, .bipush 63, 2), (108, .iand, 1), (109, .caload, 1), (110, .i2b, 1), (111, .bastore, 1), (112, .aload 4, 2), (114, .iload 9, 2), (116, .iinc 9 1, 3), (119, .aload 7, 2), (121, .iload 10, 2), (123, .bipush 6, 2), (125, .iushr, 1), (126, .bipush 63, 2), (128, .iand, 1), (129, .caload, 1), (130, .i2b, 1), (131, .bastore, 1), (132, .aload 4, 2), (134, .iload 9, 2), (136, .iinc 9 1, 3), (139, .aload 7, 2), (141, .iload 10, 2), (143, .bipush 63, 2), (145, .iand, 1), (146, .caload, 1), (147, .i2b, 1), (148, .bastore, 1), (149, .goto (-126), 3), (152, .return_, 1)] = true := by decide +kernel
theorem pn_21 : plainFor (⟨"java/util/Base64$Encoder", "encodeBlock", "([BII[BIZ)V"⟩ : MethodName) = true := by first | exact plainFor_of_name (by first | (simp [plainName, overriddenIn]; done) | decide +kernel) | decide +kernel
def QrmEb (Z : State) (ee : Addr) (tt : Addr) (kt : ClassId) (t1 : Addr) (k1 : ClassId) (us : List Int32) (t2 : Addr) (k2 : ClassId) (N : Nat) (mm : Nat) (h0 : Heap) (n0 : Nat) (v : Option Value) (h : Heap) (L : List Loc) : Prop := v = none ∧ Fr n0 L ∧ Keep h0 h [t2] ∧ Arv Z h t2 k2 .byte (Int32.ofNat N) ((((Own.encG us mm).map fun c : Int32 => c.toInt8.toInt32).map Value.int) ++ List.replicate (N - (Own.encG us mm).length) (Value.int 0)) (.int 0)
theorem rmEb (l : Launch) (Z : State) (a0 : Array Value) (hw : HW a0 Z) (ws : List Jvm.Cond) (ee : Addr) (tt : Addr) (kt : ClassId) (t1 : Addr) (k1 : ClassId) (us : List Int32) (t2 : Addr) (k2 : ClassId) (N : Nat) (mm : Nat) (h0 : Heap) (n0 : Nat) (Z0 : n0 ≤ h0.size) (en : Own.EN Z h0 ee tt kt) (A1 : Arv Z h0 t1 k1 .byte (Int32.ofNat us.length) ((us.map fun c : Int32 => c.toInt8.toInt32).map Value.int) (.int 0)) (hp : ∀ c ∈ us, ¬ c < 0 ∧ ¬ (255 : Int32) < c) (hl : us.length ≤ 100) (A2 : Arv Z h0 t2 k2 .byte (Int32.ofNat N) (((([] : List Int32).map fun c : Int32 => c.toInt8.toInt32).map Value.int) ++ List.replicate (N - ([] : List Int32).length) (Value.int 0)) (.int 0)) (hm : 3 * mm ≤ us.length) (hN : 4 * mm ≤ N ∧ N ≤ 200) (ne1 : t1 ≠ t2) (ne2 : tt ≠ t2) (ne3 : ee ≠ t2) (g_t2 : n0 ≤ t2) :
    Own.MF l Z (⟨"java/util/Base64$Encoder", "encodeBlock", "([BII[BIZ)V"⟩ : MethodName) jdk_2452_method_9_code 11 none ws (⟨0, 0, 0, 0⟩ : Room) #[(.ref ee), (.ref t1), (.int (0 : Int32)), (.int (Int32.ofNat (3 * mm))), (.ref t2), (.int (0 : Int32)), (.int (0 : Int32))] h0 (QrmEb Z ee tt kt t1 k1 us t2 k2 N mm h0 n0) := by
  refine Own.MF.of (own := "java/util/Base64$Encoder") (n := 11) rfl rfl pn_21 (fun p e s m below meth c s₁ hml hlk hret hnm P0 => ?_)
  rw [show entryFrame m #[(.ref ee), (.ref t1), (.int (0 : Int32)), (.int (Int32.ofNat (3 * mm))), (.ref t2), (.int (0 : Int32)), (.int (0 : Int32))] 11 = mkF m 0 #[.val (.ref ee), .val (.ref t1), .val (.int (0 : Int32)), .val (.int (Int32.ofNat (3 * mm))), .val (.ref t2), .val (.int (0 : Int32)), .val (.int (0 : Int32)), .unset, .unset, .unset, .unset] [] from by first | (simp [entryFrame, mkF, argsToLocals, Value.category]; done) | rfl]
  refine Own.iload (q := 2) P0 (dc s14 0 rfl) rfl rfl ?_
  refine Own.if_eq (q := 5) (qy := 11) P0 (dc s14 1 rfl) (by decide) rfl (fun _ => ?_) (fun q => absurd rfl q)
  refine Own.getstatic (q := 14) P0 (dc s14 2 rfl) (wd hw 126 rfl) en.2.2.2.2.2.1 rfl ?_
  intro T21 P21
  refine Own.astore (q := 16) (L2 := #[.val (.ref ee), .val (.ref t1), .val (.int (0 : Int32)), .val (.int (Int32.ofNat (3 * mm))), .val (.ref t2), .val (.int (0 : Int32)), .val (.int (0 : Int32)), .val (.ref tt), .unset, .unset, .unset]) P21 (dc s14 3 rfl) rfl rfl rfl ?_
  refine Own.iloadN (q := 17) P21 (dc s14 4 rfl) rfl rfl ?_
  refine Own.istore (q := 19) (L2 := #[.val (.ref ee), .val (.ref t1), .val (.int (0 : Int32)), .val (.int (Int32.ofNat (3 * mm))), .val (.ref t2), .val (.int (0 : Int32)), .val (.int (0 : Int32)), .val (.ref tt), .val (.int (0 : Int32)), .unset, .unset]) P21 (dc s14 5 rfl) rfl rfl ?_
  refine Own.iload (q := 21) P21 (dc s14 6 rfl) rfl rfl ?_
  refine Own.istore (q := 23) (L2 := #[.val (.ref ee), .val (.ref t1), .val (.int (0 : Int32)), .val (.int (Int32.ofNat (3 * mm))), .val (.ref t2), .val (.int (0 : Int32)), .val (.int (0 : Int32)), .val (.ref tt), .val (.int (0 : Int32)), .val (.int (0 : Int32)), .unset]) P21 (dc s14 7 rfl) rfl rfl ?_
  have loop : ∀ (kk i : Nat), mm ≤ i + kk → i ≤ mm → ∀ (T22 : State) (lc22 : List Loc) (hL22 : Heap) (sl10 : Slot), Own.Wk Z "java/util/Base64$Encoder" jdk_2452_method_9_code hL22 p l e (⟨0, 0, 0, 0⟩ : Room) s m #[(.ref ee), (.ref t1), (.int (0 : Int32)), (.int (Int32.ofNat (3 * mm))), (.ref t2), (.int (0 : Int32)), (.int (0 : Int32))] below meth c T22 lc22 0 0 → Fr n0 lc22 → (sl10 = .unset ∨ ∃ x, sl10 = .val (.int x)) → Keep h0 hL22 [t2] → Arv Z hL22 t1 k1 .byte (Int32.ofNat us.length) ((us.map fun c : Int32 => c.toInt8.toInt32).map Value.int) (.int 0) → Arv Z hL22 t2 k2 .byte (Int32.ofNat N) ((((Own.encG us i).map fun c : Int32 => c.toInt8.toInt32).map Value.int) ++ List.replicate (N - (Own.encG us i).length) (Value.int 0)) (.int 0) → Arv Z hL22 tt kt .char 64 (Own.tab.map Value.int) (.int 0) → Own.Goes p.tables e below (Own.KE (QrmEb Z ee tt kt t1 k1 us t2 k2 N mm h0 n0) s (⟨0, 0, 0, 0⟩ : Room).cells (⟨0, 0, 0, 0⟩ : Room).slots) (T22.setTop (mkF m 23 #[.val (.ref ee), .val (.ref t1), .val (.int (0 : Int32)), .val (.int (Int32.ofNat (3 * mm))), .val (.ref t2), .val (.int (0 : Int32)), .val (.int (0 : Int32)), .val (.ref tt), .val (.int (Int32.ofNat (3 * i))), .val (.int (Int32.ofNat (Own.encG us i).length)), sl10] [])) := by
    intro kk
    induction kk with
    | zero =>
      intro i hk hi T22 lc22 hL22 sl10 P22 N22 hs10 KL L1 L2 L3
      refine Own.iload (q := 25) P22 (dc s14 8 rfl) rfl rfl ?_
      refine Own.iloadN (q := 26) P22 (dc s14 9 rfl) rfl rfl ?_
      refine Own.icmp_ge (q := 29) (qy := 152) P22 (dc s14 10 rfl) (by decide) rfl (fun _ => ?_) (fun q => absurd q (by rw [Own.ofNat_lt (by omega) (by omega)]; omega))
      refine Own.retV P22 (dc s14 83 rfl) hret hlk (by decide) (by decide) ?_
      exact ⟨rfl, N22, (Keep.trans (Keep.refl h0 _) KL (allS (Or.inl (by simp)) all0)), by rw [show mm = i from by first | omega | exact Nat.le_antisymm (Nat.le_of_not_lt (fun z => q26 (Own.ltN (a := 3 * i) (b := 3 * mm) (by omega) (by omega) (by omega)))) hi]; exact L2⟩
    | succ kk ih =>
      intro i hk hi T22 lc22 hL22 sl10 P22 N22 hs10 KL L1 L2 L3
      refine Own.iload (q := 25) P22 (dc s14 8 rfl) rfl rfl ?_
      refine Own.iloadN (q := 26) P22 (dc s14 9 rfl) rfl rfl ?_
      refine Own.icmp_ge (q := 29) (qy := 152) P22 (dc s14 10 rfl) (by decide) rfl (fun q26 => ?_) (fun q26 => ?_)
      · refine Own.retV P22 (dc s14 83 rfl) hret hlk (by decide) (by decide) ?_
        exact ⟨rfl, N22, (Keep.trans (Keep.refl h0 _) KL (allS (Or.inl (by simp)) all0)), by rw [show mm = i from by first | omega | exact Nat.le_antisymm (Nat.le_of_not_lt (fun z => q26 (Own.ltN (a := 3 * i) (b := 3 * mm) (by omega) (by omega) (by omega)))) hi]; exact L2⟩
      · have hi2 : i < mm := by have := (Own.ofNat_lt (by omega) (by omega)).mp q26; omega
        have hle : (Own.encG us i).length = 4 * i := Own.encG_len us i
        refine Own.aloadN (q := 30) P22 (dc s14 11 rfl) rfl rfl rfl ?_
        refine Own.iload (q := 32) P22 (dc s14 12 rfl) rfl rfl ?_
        refine Own.iinc (q := 35) (v := (1 : Int32)) (L2 := #[.val (.ref ee), .val (.ref t1), .val (.int (0 : Int32)), .val (.int (Int32.ofNat (3 * mm))), .val (.ref t2), .val (.int (0 : Int32)), .val (.int (0 : Int32)), .val (.ref tt), .val (.int ((Int32.ofNat (3 * i)) + (1 : Int32))), .val (.int (Int32.ofNat (Own.encG us i).length)), sl10]) P22 (dc s14 13 rfl) rfl rfl rfl rfl ?_
        rw [show ((Int32.ofNat (3 * i)) + (1 : Int32)) = Int32.ofNat (3 * i + 1) from (Int32.ofNat_add (3 * i) 1).symm]
        refine Own.bget (q := 36) (i := (3 * i)) P22 (dc s14 14 rfl) L1 (by omega) (by omega) rfl ?_
        refine Own.sipush (q := 39) (v := (255 : Int32)) P22 (dc s14 15 rfl) rfl rfl ?_
        refine Own.iand (q := 40) P22 (dc s14 16 rfl)  rfl ?_
        rw [show ((us.getD (3 * i) 0).toInt8.toInt32 &&& (255 : Int32)) = (us.getD (3 * i) 0) from Own.and255 (Own.rng_getD hp _)]
        refine Own.bipush (q := 42) (v := (16 : Int32)) P22 (dc s14 17 rfl) rfl rfl ?_
        refine Own.ishl (q := 43) P22 (dc s14 18 rfl)  rfl ?_
        refine Own.aloadN (q := 44) P22 (dc s14 19 rfl) rfl rfl rfl ?_
        refine Own.iload (q := 46) P22 (dc s14 20 rfl) rfl rfl ?_
        refine Own.iinc (q := 49) (v := (1 : Int32)) (L2 := #[.val (.ref ee), .val (.ref t1), .val (.int (0 : Int32)), .val (.int (Int32.ofNat (3 * mm))), .val (.ref t2), .val (.int (0 : Int32)), .val (.int (0 : Int32)), .val (.ref tt), .val (.int ((Int32.ofNat (3 * i + 1)) + (1 : Int32))), .val (.int (Int32.ofNat (Own.encG us i).length)), sl10]) P22 (dc s14 21 rfl) rfl rfl rfl rfl ?_
        rw [show ((Int32.ofNat (3 * i + 1)) + (1 : Int32)) = Int32.ofNat (3 * i + 2) from (Int32.ofNat_add (3 * i + 1) 1).symm]
        refine Own.bget (q := 50) (i := (3 * i + 1)) P22 (dc s14 22 rfl) L1 (by omega) (by omega) rfl ?_
        refine Own.sipush (q := 53) (v := (255 : Int32)) P22 (dc s14 23 rfl) rfl rfl ?_
        refine Own.iand (q := 54) P22 (dc s14 24 rfl)  rfl ?_
        rw [show ((us.getD (3 * i + 1) 0).toInt8.toInt32 &&& (255 : Int32)) = (us.getD (3 * i + 1) 0) from Own.and255 (Own.rng_getD hp _)]
        refine Own.bipush (q := 56) (v := (8 : Int32)) P22 (dc s14 25 rfl) rfl rfl ?_
        refine Own.ishl (q := 57) P22 (dc s14 26 rfl)  rfl ?_
        refine Own.ior (q := 58) P22 (dc s14 27 rfl)  rfl ?_
        refine Own.aloadN (q := 59) P22 (dc s14 28 rfl) rfl rfl rfl ?_
        refine Own.iload (q := 61) P22 (dc s14 29 rfl) rfl rfl ?_
        refine Own.iinc (q := 64) (v := (1 : Int32)) (L2 := #[.val (.ref ee), .val (.ref t1), .val (.int (0 : Int32)), .val (.int (Int32.ofNat (3 * mm))), .val (.ref t2), .val (.int (0 : Int32)), .val (.int (0 : Int32)), .val (.ref tt), .val (.int ((Int32.ofNat (3 * i + 2)) + (1 : Int32))), .val (.int (Int32.ofNat (Own.encG us i).length)), sl10]) P22 (dc s14 30 rfl) rfl rfl rfl rfl ?_
        rw [show ((Int32.ofNat (3 * i + 2)) + (1 : Int32)) = Int32.ofNat (3 * i + 3) from (Int32.ofNat_add (3 * i + 2) 1).symm]
        refine Own.bget (q := 65) (i := (3 * i + 2)) P22 (dc s14 31 rfl) L1 (by omega) (by omega) rfl ?_
        refine Own.sipush (q := 68) (v := (255 : Int32)) P22 (dc s14 32 rfl) rfl rfl ?_
        refine Own.iand (q := 69) P22 (dc s14 33 rfl)  rfl ?_
        rw [show ((us.getD (3 * i + 2) 0).toInt8.toInt32 &&& (255 : Int32)) = (us.getD (3 * i + 2) 0) from Own.and255 (Own.rng_getD hp _)]
        refine Own.ior (q := 70) P22 (dc s14 34 rfl)  rfl ?_
        rw [show ((((us.getD (3 * i) 0) <<< ((16 : Int32) &&& 31)) ||| ((us.getD (3 * i + 1) 0) <<< ((8 : Int32) &&& 31))) ||| (us.getD (3 * i + 2) 0)) = (Own.w3 (us.getD (3 * i) 0) (us.getD (3 * i + 1) 0) (us.getD (3 * i + 2) 0)) from rfl]
        refine Own.istore (q := 72) (L2 := #[.val (.ref ee), .val (.ref t1), .val (.int (0 : Int32)), .val (.int (Int32.ofNat (3 * mm))), .val (.ref t2), .val (.int (0 : Int32)), .val (.int (0 : Int32)), .val (.ref tt), .val (.int (Int32.ofNat (3 * i + 3))), .val (.int (Int32.ofNat (Own.encG us i).length)), .val (.int (Own.w3 (us.getD (3 * i) 0) (us.getD (3 * i + 1) 0) (us.getD (3 * i + 2) 0)))]) P22 (dc s14 35 rfl) (by rcases hs10 with rfl | ⟨_, rfl⟩ <;> rfl) rfl ?_
        refine Own.aload (q := 74) P22 (dc s14 36 rfl) rfl rfl rfl ?_
        refine Own.iload (q := 76) P22 (dc s14 37 rfl) rfl rfl ?_
        refine Own.iinc (q := 79) (v := (1 : Int32)) (L2 := #[.val (.ref ee), .val (.ref t1), .val (.int (0 : Int32)), .val (.int (Int32.ofNat (3 * mm))), .val (.ref t2), .val (.int (0 : Int32)), .val (.int (0 : Int32)), .val (.ref tt), .val (.int (Int32.ofNat (3 * i + 3))), .val (.int ((Int32.ofNat (Own.encG us i).length) + (1 : Int32))), .val (.int (Own.w3 (us.getD (3 * i) 0) (us.getD (3 * i + 1) 0) (us.getD (3 * i + 2) 0)))]) P22 (dc s14 38 rfl) rfl rfl rfl rfl ?_
        refine Own.aload (q := 81) P22 (dc s14 39 rfl) rfl rfl rfl ?_
        refine Own.iload (q := 83) P22 (dc s14 40 rfl) rfl rfl ?_
        refine Own.bipush (q := 85) (v := (18 : Int32)) P22 (dc s14 41 rfl) rfl rfl ?_
        refine Own.iushr (q := 86) P22 (dc s14 42 rfl)  rfl ?_
        refine Own.bipush (q := 88) (v := (63 : Int32)) P22 (dc s14 43 rfl) rfl rfl ?_
        refine Own.iand (q := 89) P22 (dc s14 44 rfl)  rfl ?_
        refine Own.tget (q := 90) P22 (dc s14 45 rfl) L3 (Own.b6m _) rfl ?_
        generalize hg23 : Own.e64 ((Jvm.Free.XT.ushr (Own.w3 (us.getD (3 * i) 0) (us.getD (3 * i + 1) 0) (us.getD (3 * i + 2) 0)) (18 : Int32)) &&& (63 : Int32)) = c23
        refine Own.i2b (q := 91) P22 (dc s14 46 rfl)  rfl ?_
        rw [show ((Int32.ofNat (Own.encG us i).length) + (1 : Int32)) = Int32.ofNat ((Own.encG us i) ++ [c23]).length from (Own.len1 _ _).symm]
        refine Own.bapp (q := 92) (X := (Own.encG us i)) (x := c23) P22 (dc s14 47 rfl) L2 (by omega) (by omega) rfl ?_
        intro T24 h24 lc24 hb24 P24 W24 A24
        have N24 := Own.Fr.one N22 hb24 g_t2
        refine Own.aload (q := 94) P24 (dc s14 48 rfl) rfl rfl rfl ?_
        refine Own.iload (q := 96) P24 (dc s14 49 rfl) rfl rfl ?_
        refine Own.iinc (q := 99) (v := (1 : Int32)) (L2 := #[.val (.ref ee), .val (.ref t1), .val (.int (0 : Int32)), .val (.int (Int32.ofNat (3 * mm))), .val (.ref t2), .val (.int (0 : Int32)), .val (.int (0 : Int32)), .val (.ref tt), .val (.int (Int32.ofNat (3 * i + 3))), .val (.int ((Int32.ofNat ((Own.encG us i) ++ [c23]).length) + (1 : Int32))), .val (.int (Own.w3 (us.getD (3 * i) 0) (us.getD (3 * i + 1) 0) (us.getD (3 * i + 2) 0)))]) P24 (dc s14 50 rfl) rfl rfl rfl rfl ?_
        refine Own.aload (q := 101) P24 (dc s14 51 rfl) rfl rfl rfl ?_
        refine Own.iload (q := 103) P24 (dc s14 52 rfl) rfl rfl ?_
        refine Own.bipush (q := 105) (v := (12 : Int32)) P24 (dc s14 53 rfl) rfl rfl ?_
        refine Own.iushr (q := 106) P24 (dc s14 54 rfl)  rfl ?_
        refine Own.bipush (q := 108) (v := (63 : Int32)) P24 (dc s14 55 rfl) rfl rfl ?_
        refine Own.iand (q := 109) P24 (dc s14 56 rfl)  rfl ?_
        have qf25 := (Arv.keep L3 (Keep.of_wr W24) (ninS ne2 nin0))
        refine Own.tget (q := 110) P24 (dc s14 57 rfl) qf25 (Own.b6m _) rfl ?_
        generalize hg26 : Own.e64 ((Jvm.Free.XT.ushr (Own.w3 (us.getD (3 * i) 0) (us.getD (3 * i + 1) 0) (us.getD (3 * i + 2) 0)) (12 : Int32)) &&& (63 : Int32)) = c26
        refine Own.i2b (q := 111) P24 (dc s14 58 rfl)  rfl ?_
        rw [show ((Int32.ofNat ((Own.encG us i) ++ [c23]).length) + (1 : Int32)) = Int32.ofNat (((Own.encG us i) ++ [c23]) ++ [c26]).length from (Own.len1 _ _).symm]
        refine Own.bapp (q := 112) (X := ((Own.encG us i) ++ [c23])) (x := c26) P24 (dc s14 59 rfl) A24 (by simp only [List.length_append, List.length_cons, List.length_nil]; omega) (by omega) rfl ?_
        intro T27 h27 lc27 hb27 P27 W27 A27
        have N27 := Own.Fr.one N24 hb27 g_t2
        refine Own.aload (q := 114) P27 (dc s14 60 rfl) rfl rfl rfl ?_
        refine Own.iload (q := 116) P27 (dc s14 61 rfl) rfl rfl ?_
        refine Own.iinc (q := 119) (v := (1 : Int32)) (L2 := #[.val (.ref ee), .val (.ref t1), .val (.int (0 : Int32)), .val (.int (Int32.ofNat (3 * mm))), .val (.ref t2), .val (.int (0 : Int32)), .val (.int (0 : Int32)), .val (.ref tt), .val (.int (Int32.ofNat (3 * i + 3))), .val (.int ((Int32.ofNat (((Own.encG us i) ++ [c23]) ++ [c26]).length) + (1 : Int32))), .val (.int (Own.w3 (us.getD (3 * i) 0) (us.getD (3 * i + 1) 0) (us.getD (3 * i + 2) 0)))]) P27 (dc s14 62 rfl) rfl rfl rfl rfl ?_
        refine Own.aload (q := 121) P27 (dc s14 63 rfl) rfl rfl rfl ?_
        refine Own.iload (q := 123) P27 (dc s14 64 rfl) rfl rfl ?_
        refine Own.bipush (q := 125) (v := (6 : Int32)) P27 (dc s14 65 rfl) rfl rfl ?_
        refine Own.iushr (q := 126) P27 (dc s14 66 rfl)  rfl ?_
        refine Own.bipush (q := 128) (v := (63 : Int32)) P27 (dc s14 67 rfl) rfl rfl ?_
        refine Own.iand (q := 129) P27 (dc s14 68 rfl)  rfl ?_
        have qf28 := (Arv.keep qf25 (Keep.of_wr W27) (ninS ne2 nin0))
        refine Own.tget (q := 130) P27 (dc s14 69 rfl) qf28 (Own.b6m _) rfl ?_
        generalize hg29 : Own.e64 ((Jvm.Free.XT.ushr (Own.w3 (us.getD (3 * i) 0) (us.getD (3 * i + 1) 0) (us.getD (3 * i + 2) 0)) (6 : Int32)) &&& (63 : Int32)) = c29
        refine Own.i2b (q := 131) P27 (dc s14 70 rfl)  rfl ?_
        rw [show ((Int32.ofNat (((Own.encG us i) ++ [c23]) ++ [c26]).length) + (1 : Int32)) = Int32.ofNat ((((Own.encG us i) ++ [c23]) ++ [c26]) ++ [c29]).length from (Own.len1 _ _).symm]
        refine Own.bapp (q := 132) (X := (((Own.encG us i) ++ [c23]) ++ [c26])) (x := c29) P27 (dc s14 71 rfl) A27 (by simp only [List.length_append, List.length_cons, List.length_nil]; omega) (by omega) rfl ?_
        intro T30 h30 lc30 hb30 P30 W30 A30
        have N30 := Own.Fr.one N27 hb30 g_t2
        refine Own.aload (q := 134) P30 (dc s14 72 rfl) rfl rfl rfl ?_
        refine Own.iload (q := 136) P30 (dc s14 73 rfl) rfl rfl ?_
        refine Own.iinc (q := 139) (v := (1 : Int32)) (L2 := #[.val (.ref ee), .val (.ref t1), .val (.int (0 : Int32)), .val (.int (Int32.ofNat (3 * mm))), .val (.ref t2), .val (.int (0 : Int32)), .val (.int (0 : Int32)), .val (.ref tt), .val (.int (Int32.ofNat (3 * i + 3))), .val (.int ((Int32.ofNat ((((Own.encG us i) ++ [c23]) ++ [c26]) ++ [c29]).length) + (1 : Int32))), .val (.int (Own.w3 (us.getD (3 * i) 0) (us.getD (3 * i + 1) 0) (us.getD (3 * i + 2) 0)))]) P30 (dc s14 74 rfl) rfl rfl rfl rfl ?_
        refine Own.aload (q := 141) P30 (dc s14 75 rfl) rfl rfl rfl ?_
        refine Own.iload (q := 143) P30 (dc s14 76 rfl) rfl rfl ?_
        refine Own.bipush (q := 145) (v := (63 : Int32)) P30 (dc s14 77 rfl) rfl rfl ?_
        refine Own.iand (q := 146) P30 (dc s14 78 rfl)  rfl ?_
        have qf31 := (Arv.keep qf28 (Keep.of_wr W30) (ninS ne2 nin0))
        refine Own.tget (q := 147) P30 (dc s14 79 rfl) qf31 (Own.b6m _) rfl ?_
        generalize hg32 : Own.e64 ((Own.w3 (us.getD (3 * i) 0) (us.getD (3 * i + 1) 0) (us.getD (3 * i + 2) 0)) &&& (63 : Int32)) = c32
        refine Own.i2b (q := 148) P30 (dc s14 80 rfl)  rfl ?_
        rw [show ((Int32.ofNat ((((Own.encG us i) ++ [c23]) ++ [c26]) ++ [c29]).length) + (1 : Int32)) = Int32.ofNat (((((Own.encG us i) ++ [c23]) ++ [c26]) ++ [c29]) ++ [c32]).length from (Own.len1 _ _).symm]
        refine Own.bapp (q := 149) (X := ((((Own.encG us i) ++ [c23]) ++ [c26]) ++ [c29])) (x := c32) P30 (dc s14 81 rfl) A30 (by simp only [List.length_append, List.length_cons, List.length_nil]; omega) (by omega) rfl ?_
        intro T33 h33 lc33 hb33 P33 W33 A33
        have N33 := Own.Fr.one N30 hb33 g_t2
        refine Own.goto (q := 23) P33 (dc s14 82 rfl) (by decide) ?_
        have hX34 : (((((Own.encG us i) ++ [c23]) ++ [c26]) ++ [c29]) ++ [c32]) = Own.encG us (i + 1) := by
          subst hg23 hg26 hg29 hg32
          simp [Own.encG, Own.g3, Own.q1, Own.q2, Own.q3, Own.q4]
        rw [hX34] at A33
        rw [hX34]
        rw [show 3 * i + 3 = 3 * (i + 1) from rfl]
        have qf35 := (Arv.keep L1 (Keep.of_wr W24) (ninS ne1 nin0))
        have qf36 := (Arv.keep qf35 (Keep.of_wr W27) (ninS ne1 nin0))
        have qf37 := (Arv.keep qf36 (Keep.of_wr W30) (ninS ne1 nin0))
        have qf38 := (Arv.keep qf37 (Keep.of_wr W33) (ninS ne1 nin0))
        have qf39 := (Arv.keep qf31 (Keep.of_wr W33) (ninS ne2 nin0))
        exact ih (i + 1) (by omega) (by omega) _ _ _ _ P33 N33 (Or.inr ⟨_, rfl⟩) (Keep.wr (Keep.wr (Keep.wr (Keep.wr (Keep.trans (Keep.refl h0 _) KL (allS (Or.inl (by simp)) all0)) W24 (Or.inl (by simp))) W27 (Or.inl (by simp))) W30 (Or.inl (by simp))) W33 (Or.inl (by simp))) qf38 A33 qf39
  exact loop mm 0 (Nat.le_of_eq (Nat.zero_add _).symm) (Nat.zero_le _) _ _ _ _ P21 (Fr.nil n0) (Or.inl rfl) (Keep.refl h0 _) A1 A2 en.2.2.2.2.2.2
theorem s15 : decs jdk_68_method_9_code [(0, .aload_n 0, 1), (1, .getfield 15, 3), (4, .arraylength, 1), (5, .aload_n 0, 1), (6, .getfield 22, 3), (9, .ishr, 1), (10, .istore_n 2, 1), (11, .iload_n 1, 1), (12, .iload_n 2, 1), (13, .isub, 1), (14, .ifCond .le 24, 3), (38, .return_, 1)] = true := by decide +kernel
theorem pn_10 : plainFor (⟨"java/lang/AbstractStringBuilder", "ensureCapacityInternal", "(I)V"⟩ : MethodName) = true := by first | exact plainFor_of_name (by first | (simp [plainName, overriddenIn]; done) | decide +kernel) | decide +kernel
def QrmEns (Z : State) (a1 : Addr) (t1 : Addr) (kb : ClassId) (vd : List Value) (n1 : Int32) (h0 : Heap) (n0 : Nat) (v : Option Value) (h : Heap) (L : List Loc) : Prop := v = none ∧ Fr n0 L ∧ h = h0
theorem rmEns (l : Launch) (Z : State) (a0 : Array Value) (hw : HW a0 Z) (ws : List Jvm.Cond) (a1 : Addr) (t1 : Addr) (kb : ClassId) (vd : List Value) (n1 : Int32) (h0 : Heap) (n0 : Nat) (Z0 : n0 ≤ h0.size) (f1 : Own.Bf Z h0 a1 "value" "[B" (.ref t1)) (f2 : Own.Bf Z h0 a1 "coder" "B" (.int 0)) (A_t : Arv Z h0 t1 kb .byte 16 vd (.int 0)) (hn : ¬ (0 : Int32) < n1 - ((16 : Int32) >>> ((0 : Int32) &&& 31))) :
    Own.MF l Z (⟨"java/lang/AbstractStringBuilder", "ensureCapacityInternal", "(I)V"⟩ : MethodName) jdk_68_method_9_code 3 none ws (⟨0, 0, 0, 0⟩ : Room) #[(.ref a1), (.int n1)] h0 (QrmEns Z a1 t1 kb vd n1 h0 n0) := by
  refine Own.MF.of (own := "java/lang/AbstractStringBuilder") (n := 3) rfl rfl pn_10 (fun p e s m below meth c s₁ hml hlk hret hnm P0 => ?_)
  rw [show entryFrame m #[(.ref a1), (.int n1)] 3 = mkF m 0 #[.val (.ref a1), .val (.int n1), .unset] [] from by first | (simp [entryFrame, mkF, argsToLocals, Value.category]; done) | rfl]
  refine Own.aloadN (q := 1) P0 (dc s15 0 rfl) rfl rfl rfl ?_
  refine Own.getfield (q := 4) P0 (dc s15 1 rfl) (wd hw 27 rfl) f1 rfl ?_
  intro T21 P21
  refine Own.arraylength (q := 5) P21 (dc s15 2 rfl) A_t rfl ?_
  refine Own.aloadN (q := 6) P21 (dc s15 3 rfl) rfl rfl rfl ?_
  refine Own.getfield (q := 9) P21 (dc s15 4 rfl) (wd hw 29 rfl) f2 rfl ?_
  intro T22 P22
  refine Own.ishr (q := 10) P22 (dc s15 5 rfl)  rfl ?_
  refine Own.istoreN (q := 11) (L2 := #[.val (.ref a1), .val (.int n1), .val (.int ((16 : Int32) >>> ((0 : Int32) &&& 31)))]) P22 (dc s15 6 rfl) rfl rfl ?_
  refine Own.iloadN (q := 12) P22 (dc s15 7 rfl) rfl rfl ?_
  refine Own.iloadN (q := 13) P22 (dc s15 8 rfl) rfl rfl ?_
  refine Own.isub (q := 14) P22 (dc s15 9 rfl)  rfl ?_
  refine Own.if_le (q := 17) (qy := 38) P22 (dc s15 10 rfl) (by decide) rfl (fun _ => ?_) (fun q => absurd q hn)
  refine Own.retV P22 (dc s15 11 rfl) hret hlk (by decide) (by decide) ?_
  exact ⟨rfl, (Fr.nil n0), rfl⟩
theorem s16 : decs jdk_68_method_71_code [(0, .getstatic 18, 3), (3, .ifCond .eq 18, 3), (6, .aload_n 0, 1), (7, .getfield 22, 3), (10, .aload_n 1, 1), (11, .invokevirtual 40, 3), (14, .if_icmp .eq 7, 3), (21, .return_, 1)] = true := by decide +kernel
theorem pn_12 : plainFor (⟨"java/lang/AbstractStringBuilder", "inflateIfNeededFor", "(Ljava/lang/String;)V"⟩ : MethodName) = true := by first | exact plainFor_of_name (by first | (simp [plainName, overriddenIn]; done) | decide +kernel) | decide +kernel
def QrmInf (Z : State) (a1 : Addr) (a2 : Addr) (ds : List Int32) (zc : Int32) (h0 : Heap) (n0 : Nat) (v : Option Value) (h : Heap) (L : List Loc) : Prop := v = none ∧ Fr n0 L ∧ h = h0
theorem rmInf (l : Launch) (Z : State) (a0 : Array Value) (hw : HW a0 Z) (ws : List Jvm.Cond) (a1 : Addr) (a2 : Addr) (ds : List Int32) (zc : Int32) (h0 : Heap) (n0 : Nat) (Z0 : n0 ≤ h0.size) (SC : Own.Cst Z h0 zc) (hzc : ¬ zc = 0) (f2 : Own.Bf Z h0 a1 "coder" "B" (.int 0)) (S2 : Own.Str Z h0 a2 ds) :
    Own.MF l Z (⟨"java/lang/AbstractStringBuilder", "inflateIfNeededFor", "(Ljava/lang/String;)V"⟩ : MethodName) jdk_68_method_71_code 2 none ws (⟨1, 0, 0, 13⟩ : Room) #[(.ref a1), (.ref a2)] h0 (QrmInf Z a1 a2 ds zc h0 n0) := by
  refine Own.MF.of (own := "java/lang/AbstractStringBuilder") (n := 2) rfl rfl pn_12 (fun p e s m below meth c s₁ hml hlk hret hnm P0 => ?_)
  rw [show entryFrame m #[(.ref a1), (.ref a2)] 2 = mkF m 0 #[.val (.ref a1), .val (.ref a2)] [] from by first | (simp [entryFrame, mkF, argsToLocals, Value.category]; done) | rfl]
  refine Own.getstatic (q := 3) P0 (dc s16 0 rfl) (wd hw 25 rfl) SC rfl ?_
  intro T21 P21
  refine Own.if_eq (q := 6) (qy := 21) P21 (dc s16 1 rfl) (by decide) rfl (fun q => absurd q hzc) (fun _ => ?_)
  refine Own.aloadN (q := 7) P21 (dc s16 2 rfl) rfl rfl rfl ?_
  refine Own.getfield (q := 10) P21 (dc s16 3 rfl) (wd hw 29 rfl) f2 rfl ?_
  intro T22 P22
  refine Own.aloadN (q := 11) P22 (dc s16 4 rfl) rfl rfl rfl ?_
  obtain ⟨⟨t23, kb23, y23a, y23v, y23c, y23b⟩, -, -⟩ := id S2
  refine Own.cV (q := 14) (W := 1) (rest := [(.int (0 : Int32))]) P22 (dc s16 5 rfl) (wd hw 77 rfl) (vw_0 hw) (Own.nfs P22 (wd hw 56 rfl)) S2.exa (rmCod l Z a0 hw [] a2 zc h0 n0 Z0 SC hzc y23c) (by decide) (by decide) rfl (hml rfl) rfl rfl (by decide) (by decide) rfl ?_
  rintro v24 T24 h24 L24 ⟨rfl, N24q, e24⟩ P24
  rw [e24] at P24
  have N24 := Fr.app (Fr.nil n0) N24q
  refine Own.icmp_eq (q := 17) (qy := 21) P24 (dc s16 6 rfl) (by decide) rfl (fun _ => ?_) (fun q => absurd rfl q)
  refine Own.retV P24 (dc s16 7 rfl) hret hlk (by decide) (by decide) ?_
  exact ⟨rfl, N24, rfl⟩
theorem s17 : decs jdk_68_method_64_code [(0, .aload_n 0, 1), (1, .getfield 15, 3), (4, .areturn, 1)] = true := by decide +kernel
theorem pn_33 : plainFor (⟨"java/lang/AbstractStringBuilder", "getValue", "()[B"⟩ : MethodName) = true := by first | exact plainFor_of_name (by first | (simp [plainName, overriddenIn]; done) | decide +kernel) | decide +kernel
def QrmGv (Z : State) (a1 : Addr) (t1 : Addr) (h0 : Heap) (n0 : Nat) (v : Option Value) (h : Heap) (L : List Loc) : Prop := v = some (.ref t1) ∧ Fr n0 L ∧ h = h0
theorem rmGv (l : Launch) (Z : State) (a0 : Array Value) (hw : HW a0 Z) (ws : List Jvm.Cond) (a1 : Addr) (t1 : Addr) (h0 : Heap) (n0 : Nat) (Z0 : n0 ≤ h0.size) (f1 : Own.Bf Z h0 a1 "value" "[B" (.ref t1)) :
    Own.MF l Z (⟨"java/lang/AbstractStringBuilder", "getValue", "()[B"⟩ : MethodName) jdk_68_method_64_code 1 (some (.array .byte)) ws (⟨0, 0, 0, 0⟩ : Room) #[(.ref a1)] h0 (QrmGv Z a1 t1 h0 n0) := by
  refine Own.MF.of (own := "java/lang/AbstractStringBuilder") (n := 1) rfl rfl pn_33 (fun p e s m below meth c s₁ hml hlk hret hnm P0 => ?_)
  rw [show entryFrame m #[(.ref a1)] 1 = mkF m 0 #[.val (.ref a1)] [] from by first | (simp [entryFrame, mkF, argsToLocals, Value.category]; done) | rfl]
  refine Own.aloadN (q := 1) P0 (dc s17 0 rfl) rfl rfl rfl ?_
  refine Own.getfield (q := 4) P0 (dc s17 1 rfl) (wd hw 27 rfl) f1 rfl ?_
  intro T21 P21
  refine Own.retA P21 (dc s17 2 rfl) hret rfl rfl rfl hlk (by decide) (by decide) ?_
  exact ⟨rfl, (Fr.nil n0), rfl⟩
theorem s18 : decs jdk_68_method_6_code [(0, .aload_n 0, 1), (1, .getfield 79, 3), (4, .ireturn, 1)] = true := by decide +kernel
theorem pn_35 : plainFor (⟨"java/lang/AbstractStringBuilder", "length", "()I"⟩ : MethodName) = true := by first | exact plainFor_of_name (by first | (simp [plainName, overriddenIn]; done) | decide +kernel) | decide +kernel
def QrmLn (Z : State) (a1 : Addr) (n1 : Int32) (h0 : Heap) (n0 : Nat) (v : Option Value) (h : Heap) (L : List Loc) : Prop := v = some (.int n1) ∧ Fr n0 L ∧ h = h0
theorem rmLn (l : Launch) (Z : State) (a0 : Array Value) (hw : HW a0 Z) (ws : List Jvm.Cond) (a1 : Addr) (n1 : Int32) (h0 : Heap) (n0 : Nat) (Z0 : n0 ≤ h0.size) (f3 : Own.Bf Z h0 a1 "count" "I" (.int n1)) :
    Own.MF l Z (⟨"java/lang/AbstractStringBuilder", "length", "()I"⟩ : MethodName) jdk_68_method_6_code 1 (some .int) ws (⟨0, 0, 0, 0⟩ : Room) #[(.ref a1)] h0 (QrmLn Z a1 n1 h0 n0) := by
  refine Own.MF.of (own := "java/lang/AbstractStringBuilder") (n := 1) rfl rfl pn_35 (fun p e s m below meth c s₁ hml hlk hret hnm P0 => ?_)
  rw [show entryFrame m #[(.ref a1)] 1 = mkF m 0 #[.val (.ref a1)] [] from by first | (simp [entryFrame, mkF, argsToLocals, Value.category]; done) | rfl]
  refine Own.aloadN (q := 1) P0 (dc s18 0 rfl) rfl rfl rfl ?_
  refine Own.getfield (q := 4) P0 (dc s18 1 rfl) (wd hw 60 rfl) f3 rfl ?_
  intro T21 P21
  refine Own.retI P21 (dc s18 2 rfl) hret hlk (by decide) (by decide) ?_
  exact ⟨rfl, (Fr.nil n0), rfl⟩
theorem s19 : decs jdk_68_method_68_code [(0, .getstatic 18, 3), (3, .ifCond .eq 14, 3), (6, .aload_n 0, 1), (7, .getfield 22, 3), (10, .ifCond .ne 7, 3), (13, .iconst 1, 1), (14, .goto 4, 3), (18, .ireturn, 1)] = true := by decide +kernel
theorem pn_36 : plainFor (⟨"java/lang/AbstractStringBuilder", "isLatin1", "()Z"⟩ : MethodName) = true := by first | exact plainFor_of_name (by first | (simp [plainName, overriddenIn]; done) | decide +kernel) | decide +kernel
def QrmIl (Z : State) (a1 : Addr) (zc : Int32) (h0 : Heap) (n0 : Nat) (v : Option Value) (h : Heap) (L : List Loc) : Prop := v = some (.int 1) ∧ Fr n0 L ∧ h = h0
theorem rmIl (l : Launch) (Z : State) (a0 : Array Value) (hw : HW a0 Z) (ws : List Jvm.Cond) (a1 : Addr) (zc : Int32) (h0 : Heap) (n0 : Nat) (Z0 : n0 ≤ h0.size) (SC : Own.Cst Z h0 zc) (hzc : ¬ zc = 0) (f2 : Own.Bf Z h0 a1 "coder" "B" (.int 0)) :
    Own.MF l Z (⟨"java/lang/AbstractStringBuilder", "isLatin1", "()Z"⟩ : MethodName) jdk_68_method_68_code 1 (some .boolean) ws (⟨0, 0, 0, 0⟩ : Room) #[(.ref a1)] h0 (QrmIl Z a1 zc h0 n0) := by
  refine Own.MF.of (own := "java/lang/AbstractStringBuilder") (n := 1) rfl rfl pn_36 (fun p e s m below meth c s₁ hml hlk hret hnm P0 => ?_)
  rw [show entryFrame m #[(.ref a1)] 1 = mkF m 0 #[.val (.ref a1)] [] from by first | (simp [entryFrame, mkF, argsToLocals, Value.category]; done) | rfl]
  refine Own.getstatic (q := 3) P0 (dc s19 0 rfl) (wd hw 25 rfl) SC rfl ?_
  intro T21 P21
  refine Own.if_eq (q := 6) (qy := 17) P21 (dc s19 1 rfl) (by decide) rfl (fun q => absurd q hzc) (fun _ => ?_)
  refine Own.aloadN (q := 7) P21 (dc s19 2 rfl) rfl rfl rfl ?_
  refine Own.getfield (q := 10) P21 (dc s19 3 rfl) (wd hw 29 rfl) f2 rfl ?_
  intro T22 P22
  refine Own.if_ne (q := 13) (qy := 17) P22 (dc s19 4 rfl) (by decide) rfl (fun q => absurd rfl q) (fun _ => ?_)
  refine Own.iconst (q := 14) (v := (1 : Int32)) P22 (dc s19 5 rfl) rfl rfl ?_
  refine Own.goto (q := 18) P22 (dc s19 6 rfl) (by decide) ?_
  refine Own.retZ P22 (dc s19 7 rfl) hret (by simp) hlk (by decide) (by decide) ?_
  exact ⟨rfl, (Fr.nil n0), rfl⟩
theorem s20 : decs jdk_29_method_69_code [(0, .iload_n 0, 1), (1, .iload_n 1, 1), (2, .if_icmp .gt 7, 3), (5, .iload_n 0, 1), (6, .goto 4, 3), (9, .iload_n 1, 1), (10, .ireturn, 1)] = true := by decide +kernel
theorem pn_20 : plainFor (⟨"java/lang/Math", "min", "(II)I"⟩ : MethodName) = true := by first | exact plainFor_of_name (by first | (simp [plainName, overriddenIn]; done) | decide +kernel) | decide +kernel
def QrmMin (Z : State) (x1 : Int32) (y1 : Int32) (h0 : Heap) (n0 : Nat) (v : Option Value) (h : Heap) (L : List Loc) : Prop := v = some (.int (if y1 < x1 then y1 else x1)) ∧ Fr n0 L ∧ h = h0
theorem rmMin (l : Launch) (Z : State) (a0 : Array Value) (hw : HW a0 Z) (ws : List Jvm.Cond) (x1 : Int32) (y1 : Int32) (h0 : Heap) (n0 : Nat) (Z0 : n0 ≤ h0.size)  :
    Own.MF l Z (⟨"java/lang/Math", "min", "(II)I"⟩ : MethodName) jdk_29_method_69_code 2 (some .int) ws (⟨0, 0, 0, 0⟩ : Room) #[(.int x1), (.int y1)] h0 (QrmMin Z x1 y1 h0 n0) := by
  refine Own.MF.of (own := "java/lang/Math") (n := 2) rfl rfl pn_20 (fun p e s m below meth c s₁ hml hlk hret hnm P0 => ?_)
  rw [show entryFrame m #[(.int x1), (.int y1)] 2 = mkF m 0 #[.val (.int x1), .val (.int y1)] [] from by first | (simp [entryFrame, mkF, argsToLocals, Value.category]; done) | rfl]
  refine Own.iloadN (q := 1) P0 (dc s20 0 rfl) rfl rfl ?_
  refine Own.iloadN (q := 2) P0 (dc s20 1 rfl) rfl rfl ?_
  refine Own.icmp_gt (q := 5) (qy := 9) P0 (dc s20 2 rfl) (by decide) rfl (fun q2 => ?_) (fun q2 => ?_)
  · refine Own.iloadN (q := 10) P0 (dc s20 5 rfl) rfl rfl ?_
    refine Own.retI P0 (dc s20 6 rfl) hret hlk (by decide) (by decide) ?_
    exact ⟨by first | rw [if_pos q2] | rw [if_neg q2], (Fr.nil n0), rfl⟩
  · refine Own.iloadN (q := 6) P0 (dc s20 3 rfl) rfl rfl ?_
    refine Own.goto (q := 10) P0 (dc s20 4 rfl) (by decide) ?_
    refine Own.retI P0 (dc s20 6 rfl) hret hlk (by decide) (by decide) ?_
    exact ⟨by first | rw [if_pos q2] | rw [if_neg q2], (Fr.nil n0), rfl⟩
theorem s21 : decs jdk_65_method_131_code [(0, .iload_n 1, 1), (1, .iload_n 0, 1), (2, .if_icmp .ge 35, 3), (37, .return_, 1)] = true := by decide +kernel
theorem pn_55 : plainFor (⟨"java/util/Arrays", "checkLength", "(II)V"⟩ : MethodName) = true := by first | exact plainFor_of_name (by first | (simp [plainName, overriddenIn]; done) | decide +kernel) | decide +kernel
def QrmCl (Z : State) (x1 : Int32) (y1 : Int32) (h0 : Heap) (n0 : Nat) (v : Option Value) (h : Heap) (L : List Loc) : Prop := v = none ∧ Fr n0 L ∧ h = h0
theorem rmCl (l : Launch) (Z : State) (a0 : Array Value) (hw : HW a0 Z) (ws : List Jvm.Cond) (x1 : Int32) (y1 : Int32) (h0 : Heap) (n0 : Nat) (Z0 : n0 ≤ h0.size) (hle : ¬ y1 < x1) :
    Own.MF l Z (⟨"java/util/Arrays", "checkLength", "(II)V"⟩ : MethodName) jdk_65_method_131_code 2 none ws (⟨0, 0, 0, 0⟩ : Room) #[(.int x1), (.int y1)] h0 (QrmCl Z x1 y1 h0 n0) := by
  refine Own.MF.of (own := "java/util/Arrays") (n := 2) rfl rfl pn_55 (fun p e s m below meth c s₁ hml hlk hret hnm P0 => ?_)
  rw [show entryFrame m #[(.int x1), (.int y1)] 2 = mkF m 0 #[.val (.int x1), .val (.int y1)] [] from by first | (simp [entryFrame, mkF, argsToLocals, Value.category]; done) | rfl]
  refine Own.iloadN (q := 1) P0 (dc s21 0 rfl) rfl rfl ?_
  refine Own.iloadN (q := 2) P0 (dc s21 1 rfl) rfl rfl ?_
  refine Own.icmp_ge (q := 5) (qy := 37) P0 (dc s21 2 rfl) (by decide) rfl (fun _ => ?_) (fun q => absurd q hle)
  refine Own.retV P0 (dc s21 3 rfl) hret hlk (by decide) (by decide) ?_
  exact ⟨rfl, (Fr.nil n0), rfl⟩
theorem s22 : decs jdk_29_method_65_code [(0, .iload_n 0, 1), (1, .iload_n 1, 1), (2, .if_icmp .lt 7, 3), (5, .iload_n 0, 1), (6, .goto 4, 3), (9, .iload_n 1, 1), (10, .ireturn, 1)] = true := by decide +kernel
theorem pn_28 : plainFor (⟨"java/lang/Math", "max", "(II)I"⟩ : MethodName) = true := by first | exact plainFor_of_name (by first | (simp [plainName, overriddenIn]; done) | decide +kernel) | decide +kernel
def QrmMax (Z : State) (x1 : Int32) (y1 : Int32) (h0 : Heap) (n0 : Nat) (v : Option Value) (h : Heap) (L : List Loc) : Prop := v = some (.int (if x1 < y1 then y1 else x1)) ∧ Fr n0 L ∧ h = h0
theorem rmMax (l : Launch) (Z : State) (a0 : Array Value) (hw : HW a0 Z) (ws : List Jvm.Cond) (x1 : Int32) (y1 : Int32) (h0 : Heap) (n0 : Nat) (Z0 : n0 ≤ h0.size)  :
    Own.MF l Z (⟨"java/lang/Math", "max", "(II)I"⟩ : MethodName) jdk_29_method_65_code 2 (some .int) ws (⟨0, 0, 0, 0⟩ : Room) #[(.int x1), (.int y1)] h0 (QrmMax Z x1 y1 h0 n0) := by
  refine Own.MF.of (own := "java/lang/Math") (n := 2) rfl rfl pn_28 (fun p e s m below meth c s₁ hml hlk hret hnm P0 => ?_)
  rw [show entryFrame m #[(.int x1), (.int y1)] 2 = mkF m 0 #[.val (.int x1), .val (.int y1)] [] from by first | (simp [entryFrame, mkF, argsToLocals, Value.category]; done) | rfl]
  refine Own.iloadN (q := 1) P0 (dc s22 0 rfl) rfl rfl ?_
  refine Own.iloadN (q := 2) P0 (dc s22 1 rfl) rfl rfl ?_
  refine Own.icmp_lt (q := 5) (qy := 9) P0 (dc s22 2 rfl) (by decide) rfl (fun q2 => ?_) (fun q2 => ?_)
  · refine Own.iloadN (q := 10) P0 (dc s22 5 rfl) rfl rfl ?_
    refine Own.retI P0 (dc s22 6 rfl) hret hlk (by decide) (by decide) ?_
    exact ⟨by first | rw [if_pos q2] | rw [if_neg q2], (Fr.nil n0), rfl⟩
  · refine Own.iloadN (q := 6) P0 (dc s22 3 rfl) rfl rfl ?_
    refine Own.goto (q := 10) P0 (dc s22 4 rfl) (by decide) ?_
    refine Own.retI P0 (dc s22 6 rfl) hret hlk (by decide) (by decide) ?_
    exact ⟨by first | rw [if_pos q2] | rw [if_neg q2], (Fr.nil n0), rfl⟩
theorem pd_7 : parseMethodDescriptor "(II)I" = some ⟨[.int, .int], some .int⟩ := by decide +kernel
theorem sw_8 {Z : State} {a0 : Array Value} (hw : HW a0 Z) : Own.SW Z a0 ⟨"java/lang/Math", "min", "(II)I"⟩ jdk_29_method_69_code 2 (some .int) 2 := ⟨(wd hw 128 rfl), (wd hw 112 rfl), (wd hw 129 rfl), by decide, _, _, pd_7, rfl⟩
theorem pd_8 : parseMethodDescriptor "([BII[BIZ)V" = some ⟨[(.array .byte), .int, .int, (.array .byte), .int, .boolean], none⟩ := by decide +kernel
theorem vw_9 {Z : State} {a0 : Array Value} (hw : HW a0 Z) : Own.VW Z a0 "java/util/Base64$Encoder" ⟨"java/util/Base64$Encoder", "encodeBlock", "([BII[BIZ)V"⟩ ⟨"java/util/Base64$Encoder", "encodeBlock", "([BII[BIZ)V"⟩ jdk_2452_method_9_code 11 none 6 := ⟨(Own.declOf (wd hw 131 rfl) (wd hw 134 rfl)), (wd hw 133 rfl), (wd hw 131 rfl), (wd hw 92 rfl), (wd hw 134 rfl), by decide, _, _, pd_8, rfl⟩
theorem s23 : decs jdk_2452_method_10_code [(0, .aload_n 0, 1), (1, .getfield 7, 3), (4, .ifCond .eq 9, 3), (13, .getstatic 115, 3), (16, .astore 5, 2), (18, .iload_n 2, 1), (19, .istore 6, 2), (21, .iload_n 3, 1), (22, .iload_n 2, 1), (23, .isub, 1), (24, .iconst 3, 1), (25, .idiv, 1), (26, .iconst 3, 1), (27, .imul, 1), (28, .istore 7, 2), (30, .iload_n 2, 1), (31, .iload 7, 2), (33, .iadd, 1), (34, .istore 8, 2), (36, .aload_n 0, 1), (37, .getfield 17, 3), (40, .ifCond .le 26, 3), (66, .iconst 0, 1), (67, .istore 9, 2), (69, .iload 6, 2), (71, .iload 8, 2), (73, .if_icmp .ge 116, 3), (76, .iload 6, 2), (78, .iload 7, 2), (80, .iadd, 1), (81, .iload 8, 2), (83, .invokestatic 124, 3), (86, .istore 10, 2), (88, .aload_n 0, 1), (89, .aload_n 1, 1), (90, .iload 6, 2), (92, .iload 10, 2), (94, .aload 4, 2), (96, .iload 9, 2), (98, .aload_n 0, 1), (99, .getfield 7, 3), (102, .invokevirtual 127, 3), (105, .iload 10, 2), (107, .iload 6, 2), (109, .isub, 1), (110, .iconst 3, 1), (111, .idiv, 1), (112, .iconst 4, 1), (113, .imul, 1), (114, .istore 11, 2), (116, .iload 9, 2), (118, .iload 11, 2), (120, .iadd, 1), (121, .istore 9, 2), (123, .iload 10, 2), (125, .istore 6, 2), (127, .iload 11, 2), (129, .aload_n 0, 1), (130, .getfield 17, 3), (133, .if_icmp .ne 53, 3), (186, .goto (-117), 3), (189, .iload 6, 2), (191, .iload_n 3, 1), (192, .if_icmp .ge 160, 3), (195, .aload_n 1, 1), (196, .iload 6, 2), (198, .iinc 6 1, 3), (201, .baload, 1), (202, .sipush 255, 3), (205, .iand, 1), (206, .istore 10, 2), (208, .aload 4, 2), (210, .iload 9, 2), (212, .iinc 9 1, 3), (215, .aload 5, 2), (217, .iload 10, 2), (219, .iconst 2, 1), (220, .ishr, 1), (221, .caload, 1), (222, .i2b, 1), (223, .bastore, 1), (224, .iload 6, 2), (226, .iload_n 3, 1), (227, .if_icmp .ne 52, 3), (230, .aload 4, 2), (232, .iload 9, 2), (234, .iinc 9 1, 3), (237, .aload 5, 2), (239, .iload 10, 2), (241, .iconst 4, 1), (242, .ishl, 1), (243, .bipush 63, 2), (245, .iand, 1), (246, .caload, 1), (247, .i2b, 1), (248, .bastore, 1), (249, .aload_n 0, 1), (250, .getfield 21, 3), (253, .ifCond .eq 99, 3), (256, .aload 4, 2), (258, .iload 9, 2), (260, .iinc 9 1, 3), (263, .bipush 61, 2), (265, .bastore, 1), (266, .aload 4, 2), (268, .iload 9, 2), (270, .iinc 9 1, 3), (273, .bipush 61, 2), (275, .bastore, 1), (276, .goto 76, 3), (279, .aload_n 1, 1), (280, .iload 6, 2), (282, .iinc 6 1, 3), (285, .baload, 1), (286, .sipush 255, 3), (289, .iand, 1), (290, .istore 11, 2), (292, .aload 4, 2), (294, .iload 9, 2), (296, .iinc 9 1, 3), (299, .aload 5, 2), (301, .iload 10, 2), (303, .iconst 4, 1), (304, .ishl, 1), (305, .bipush 63, 2), (307, .iand, 1), (308, .iload 11, 2), (310, .iconst 4, 1), (311, .ishr, 1), (312, .ior, 1), (313, .caload, 1), (314, .i2b, 1), (315, .bastore, 1), (316, .aload 4, 2), (318, .iload 9, 2), (320, .iinc 9 1, 3), (323, .aload 5, 2), (325, .iload 11, 2), (327, .iconst 2, 1), (328, .ishl, 1), (329, .bipush 63, 2), (331, .iand, 1), (332, .caload, 1), (333, .i2b, 1), (334, .bastore, 1), (335, .aload_n 0, 1), (336, .getfield 21, 3), (339, .ifCond .eq 13, 3), (342, .aload 4, 2), (344, .iload 9, 2), (346, .iinc 9 1, 3), (349, .bipush 61, 2), (351, .bastore, 1), (352, .iload 9, 2), (354, .ireturn, 1)] = true := by decide +kernel
theorem pn_19 : plainFor (⟨"java/util/Base64$Encoder", "encode0", "([BII[B)I"⟩ : MethodName) = true := by first | exact plainFor_of_name (by first | (simp [plainName, overriddenIn]; done) | decide +kernel) | decide +kernel
def QrmE0 (Z : State) (ee : Addr) (tt : Addr) (kt : ClassId) (t1 : Addr) (k1 : ClassId) (us : List Int32) (t2 : Addr) (k2 : ClassId) (N : Nat) (mm : Nat) (h0 : Heap) (n0 : Nat) (v : Option Value) (h : Heap) (L : List Loc) : Prop := v = some (.int (Int32.ofNat (Own.encL us).length)) ∧ Fr n0 L ∧ Keep h0 h [t2] ∧ Arv Z h t2 k2 .byte (Int32.ofNat (Own.encL us).length) (((Own.encL us).map fun c : Int32 => c.toInt8.toInt32).map Value.int) (.int 0)
theorem rmE0 (l : Launch) (Z : State) (a0 : Array Value) (hw : HW a0 Z) (ws : List Jvm.Cond) (ee : Addr) (tt : Addr) (kt : ClassId) (t1 : Addr) (k1 : ClassId) (us : List Int32) (t2 : Addr) (k2 : ClassId) (N : Nat) (mm : Nat) (h0 : Heap) (n0 : Nat) (Z0 : n0 ≤ h0.size) (en : Own.EN Z h0 ee tt kt) (A1 : Arv Z h0 t1 k1 .byte (Int32.ofNat us.length) ((us.map fun c : Int32 => c.toInt8.toInt32).map Value.int) (.int 0)) (hp : ∀ c ∈ us, ¬ c < 0 ∧ ¬ (255 : Int32) < c) (hl : 24 ≤ us.length ∧ us.length ≤ 64) (A2 : Arv Z h0 t2 k2 .byte (Int32.ofNat N) (((([] : List Int32).map fun c : Int32 => c.toInt8.toInt32).map Value.int) ++ List.replicate (N - ([] : List Int32).length) (Value.int 0)) (.int 0)) (hmm : mm = us.length / 3) (hN : N = (Own.encL us).length) (ne1 : t1 ≠ t2) (ne2 : tt ≠ t2) (ne3 : ee ≠ t2) (g_t2 : n0 ≤ t2) :
    Own.MF l Z (⟨"java/util/Base64$Encoder", "encode0", "([BII[B)I"⟩ : MethodName) jdk_2452_method_10_code 16 (some .int) ws (⟨1, 0, 0, 30⟩ : Room) #[(.ref ee), (.ref t1), (.int (0 : Int32)), (.int (Int32.ofNat us.length)), (.ref t2)] h0 (QrmE0 Z ee tt kt t1 k1 us t2 k2 N mm h0 n0) := by
  refine Own.MF.of (own := "java/util/Base64$Encoder") (n := 16) rfl rfl pn_19 (fun p e s m below meth c s₁ hml hlk hret hnm P0 => ?_)
  rw [show entryFrame m #[(.ref ee), (.ref t1), (.int (0 : Int32)), (.int (Int32.ofNat us.length)), (.ref t2)] 16 = mkF m 0 #[.val (.ref ee), .val (.ref t1), .val (.int (0 : Int32)), .val (.int (Int32.ofNat us.length)), .val (.ref t2), .unset, .unset, .unset, .unset, .unset, .unset, .unset, .unset, .unset, .unset, .unset] [] from by first | (simp [entryFrame, mkF, argsToLocals, Value.category]; done) | rfl]
  refine Own.aloadN (q := 1) P0 (dc s23 0 rfl) rfl rfl rfl ?_
  refine Own.getfield (q := 4) P0 (dc s23 1 rfl) (wd hw 124 rfl) en.2.2.1 rfl ?_
  intro T21 P21
  refine Own.if_eq (q := 7) (qy := 13) P21 (dc s23 2 rfl) (by decide) rfl (fun _ => ?_) (fun q => absurd rfl q)
  refine Own.getstatic (q := 16) P21 (dc s23 3 rfl) (wd hw 126 rfl) en.2.2.2.2.2.1 rfl ?_
  intro T22 P22
  refine Own.astore (q := 18) (L2 := #[.val (.ref ee), .val (.ref t1), .val (.int (0 : Int32)), .val (.int (Int32.ofNat us.length)), .val (.ref t2), .val (.ref tt), .unset, .unset, .unset, .unset, .unset, .unset, .unset, .unset, .unset, .unset]) P22 (dc s23 4 rfl) rfl rfl rfl ?_
  refine Own.iloadN (q := 19) P22 (dc s23 5 rfl) rfl rfl ?_
  refine Own.istore (q := 21) (L2 := #[.val (.ref ee), .val (.ref t1), .val (.int (0 : Int32)), .val (.int (Int32.ofNat us.length)), .val (.ref t2), .val (.ref tt), .val (.int (0 : Int32)), .unset, .unset, .unset, .unset, .unset, .unset, .unset, .unset, .unset]) P22 (dc s23 6 rfl) rfl rfl ?_
  have hn2 := Own.encL_len us
  have hlG : (Own.encG us mm).length = 4 * mm := Own.encG_len us mm
  refine Own.iloadN (q := 22) P22 (dc s23 7 rfl) rfl rfl ?_
  refine Own.iloadN (q := 23) P22 (dc s23 8 rfl) rfl rfl ?_
  refine Own.isub (q := 24) P22 (dc s23 9 rfl)  rfl ?_
  rw [show ((Int32.ofNat us.length) - (0 : Int32)) = (Int32.ofNat us.length) from Int32.sub_zero _]
  refine Own.iconst (q := 25) (v := (3 : Int32)) P22 (dc s23 10 rfl) rfl rfl ?_
  refine Own.idiv (q := 26) P22 (dc s23 11 rfl) (by decide) rfl ?_
  rw [show ((Int32.ofNat us.length) / (3 : Int32)) = (Int32.ofNat mm) from (by rw [hmm]; exact Own.divN (d := 3) (by omega) (by decide) (by decide))]
  refine Own.iconst (q := 27) (v := (3 : Int32)) P22 (dc s23 12 rfl) rfl rfl ?_
  refine Own.imul (q := 28) P22 (dc s23 13 rfl)  rfl ?_
  rw [show ((Int32.ofNat mm) * (3 : Int32)) = (Int32.ofNat (3 * mm)) from (by rw [Nat.mul_comm 3 mm]; exact (Int32.ofNat_mul mm 3).symm)]
  refine Own.istore (q := 30) (L2 := #[.val (.ref ee), .val (.ref t1), .val (.int (0 : Int32)), .val (.int (Int32.ofNat us.length)), .val (.ref t2), .val (.ref tt), .val (.int (0 : Int32)), .val (.int (Int32.ofNat (3 * mm))), .unset, .unset, .unset, .unset, .unset, .unset, .unset, .unset]) P22 (dc s23 14 rfl) rfl rfl ?_
  refine Own.iloadN (q := 31) P22 (dc s23 15 rfl) rfl rfl ?_
  refine Own.iload (q := 33) P22 (dc s23 16 rfl) rfl rfl ?_
  refine Own.iadd (q := 34) P22 (dc s23 17 rfl)  rfl ?_
  rw [show ((0 : Int32) + (Int32.ofNat (3 * mm))) = (Int32.ofNat (3 * mm)) from Int32.zero_add _]
  refine Own.istore (q := 36) (L2 := #[.val (.ref ee), .val (.ref t1), .val (.int (0 : Int32)), .val (.int (Int32.ofNat us.length)), .val (.ref t2), .val (.ref tt), .val (.int (0 : Int32)), .val (.int (Int32.ofNat (3 * mm))), .val (.int (Int32.ofNat (3 * mm))), .unset, .unset, .unset, .unset, .unset, .unset, .unset]) P22 (dc s23 18 rfl) rfl rfl ?_
  refine Own.aloadN (q := 37) P22 (dc s23 19 rfl) rfl rfl rfl ?_
  refine Own.getfield (q := 40) P22 (dc s23 20 rfl) (wd hw 117 rfl) en.2.2.2.1 rfl ?_
  intro T23 P23
  refine Own.if_le (q := 43) (qy := 66) P23 (dc s23 21 rfl) (by decide) rfl (fun _ => ?_) (fun q => absurd q (by decide))
  refine Own.iconst (q := 67) (v := (0 : Int32)) P23 (dc s23 22 rfl) rfl rfl ?_
  refine Own.istore (q := 69) (L2 := #[.val (.ref ee), .val (.ref t1), .val (.int (0 : Int32)), .val (.int (Int32.ofNat us.length)), .val (.ref t2), .val (.ref tt), .val (.int (0 : Int32)), .val (.int (Int32.ofNat (3 * mm))), .val (.int (Int32.ofNat (3 * mm))), .val (.int (0 : Int32)), .unset, .unset, .unset, .unset, .unset, .unset]) P23 (dc s23 23 rfl) rfl rfl ?_
  refine Own.iload (q := 71) P23 (dc s23 24 rfl) rfl rfl ?_
  refine Own.iload (q := 73) P23 (dc s23 25 rfl) rfl rfl ?_
  refine Own.icmp_ge (q := 76) (qy := 189) P23 (dc s23 26 rfl) (by decide) rfl (fun q => absurd (Own.ltN (a := 0) (b := 3 * mm) (by omega) (by omega) (by omega)) q) (fun _ => ?_)
  refine Own.iload (q := 78) P23 (dc s23 27 rfl) rfl rfl ?_
  refine Own.iload (q := 80) P23 (dc s23 28 rfl) rfl rfl ?_
  refine Own.iadd (q := 81) P23 (dc s23 29 rfl)  rfl ?_
  refine Own.iload (q := 83) P23 (dc s23 30 rfl) rfl rfl ?_
  refine Own.cS (q := 86) (W := 0) (rest := []) P23 (dc s23 31 rfl) (wd hw 127 rfl) (sw_8 hw) (rmMin l Z a0 hw [] ((0 : Int32) + (Int32.ofNat (3 * mm))) (Int32.ofNat (3 * mm)) h0 n0 Z0 ) (by decide) (by decide) rfl (hml rfl) rfl rfl (by decide) (by decide) rfl ?_
  rintro v24 T24 h24 L24 ⟨rfl, N24q, e24⟩ P24
  rw [e24] at P24
  have N24 := Fr.app (Fr.nil n0) N24q
  rw [show (if (Int32.ofNat (3 * mm)) < ((0 : Int32) + (Int32.ofNat (3 * mm))) then (Int32.ofNat (3 * mm)) else ((0 : Int32) + (Int32.ofNat (3 * mm)))) = (Int32.ofNat (3 * mm)) from Own.minS _]
  refine Own.istore (q := 88) (L2 := #[.val (.ref ee), .val (.ref t1), .val (.int (0 : Int32)), .val (.int (Int32.ofNat us.length)), .val (.ref t2), .val (.ref tt), .val (.int (0 : Int32)), .val (.int (Int32.ofNat (3 * mm))), .val (.int (Int32.ofNat (3 * mm))), .val (.int (0 : Int32)), .val (.int (Int32.ofNat (3 * mm))), .unset, .unset, .unset, .unset, .unset]) P24 (dc s23 32 rfl) rfl rfl ?_
  refine Own.aloadN (q := 89) P24 (dc s23 33 rfl) rfl rfl rfl ?_
  refine Own.aloadN (q := 90) P24 (dc s23 34 rfl) rfl rfl rfl ?_
  refine Own.iload (q := 92) P24 (dc s23 35 rfl) rfl rfl ?_
  refine Own.iload (q := 94) P24 (dc s23 36 rfl) rfl rfl ?_
  refine Own.aload (q := 96) P24 (dc s23 37 rfl) rfl rfl rfl ?_
  refine Own.iload (q := 98) P24 (dc s23 38 rfl) rfl rfl ?_
  refine Own.aloadN (q := 99) P24 (dc s23 39 rfl) rfl rfl rfl ?_
  refine Own.getfield (q := 102) P24 (dc s23 40 rfl) (wd hw 124 rfl) en.2.2.1 rfl ?_
  intro T25 P25
  refine Own.cV (q := 105) (W := 0) (rest := []) P25 (dc s23 41 rfl) (wd hw 130 rfl) (vw_9 hw) (Own.nfs P25 (wd hw 133 rfl)) en.2.1 (rmEb l Z a0 hw [] ee tt kt t1 k1 us t2 k2 N mm h0 n0 Z0 en A1 hp (by omega) A2 (by omega) (by omega) ne1 ne2 ne3 g_t2) (by decide) (by decide) rfl (hml rfl) rfl rfl (by decide) (by decide) rfl ?_
  rintro v26 T26 h26 L26 ⟨rfl, N26q, K26, A26⟩ P26
  have N26 := Fr.app N24 N26q
  refine Own.iload (q := 107) P26 (dc s23 42 rfl) rfl rfl ?_
  refine Own.iload (q := 109) P26 (dc s23 43 rfl) rfl rfl ?_
  refine Own.isub (q := 110) P26 (dc s23 44 rfl)  rfl ?_
  rw [show ((Int32.ofNat (3 * mm)) - (0 : Int32)) = (Int32.ofNat (3 * mm)) from Int32.sub_zero _]
  refine Own.iconst (q := 111) (v := (3 : Int32)) P26 (dc s23 45 rfl) rfl rfl ?_
  refine Own.idiv (q := 112) P26 (dc s23 46 rfl) (by decide) rfl ?_
  rw [show ((Int32.ofNat (3 * mm)) / (3 : Int32)) = (Int32.ofNat mm) from (by rw [show Int32.ofNat mm = Int32.ofNat (3 * mm / 3) from by rw [Nat.mul_div_cancel_left mm (by decide)]]; exact Own.divN (d := 3) (by omega) (by decide) (by decide))]
  refine Own.iconst (q := 113) (v := (4 : Int32)) P26 (dc s23 47 rfl) rfl rfl ?_
  refine Own.imul (q := 114) P26 (dc s23 48 rfl)  rfl ?_
  rw [show ((Int32.ofNat mm) * (4 : Int32)) = (Int32.ofNat (4 * mm)) from (by rw [Nat.mul_comm 4 mm]; exact (Int32.ofNat_mul mm 4).symm)]
  refine Own.istore (q := 116) (L2 := #[.val (.ref ee), .val (.ref t1), .val (.int (0 : Int32)), .val (.int (Int32.ofNat us.length)), .val (.ref t2), .val (.ref tt), .val (.int (0 : Int32)), .val (.int (Int32.ofNat (3 * mm))), .val (.int (Int32.ofNat (3 * mm))), .val (.int (0 : Int32)), .val (.int (Int32.ofNat (3 * mm))), .val (.int (Int32.ofNat (4 * mm))), .unset, .unset, .unset, .unset]) P26 (dc s23 49 rfl) rfl rfl ?_
  refine Own.iload (q := 118) P26 (dc s23 50 rfl) rfl rfl ?_
  refine Own.iload (q := 120) P26 (dc s23 51 rfl) rfl rfl ?_
  refine Own.iadd (q := 121) P26 (dc s23 52 rfl)  rfl ?_
  rw [show ((0 : Int32) + (Int32.ofNat (4 * mm))) = (Int32.ofNat (Own.encG us mm).length) from (by rw [hlG]; exact Int32.zero_add _)]
  refine Own.istore (q := 123) (L2 := #[.val (.ref ee), .val (.ref t1), .val (.int (0 : Int32)), .val (.int (Int32.ofNat us.length)), .val (.ref t2), .val (.ref tt), .val (.int (0 : Int32)), .val (.int (Int32.ofNat (3 * mm))), .val (.int (Int32.ofNat (3 * mm))), .val (.int (Int32.ofNat (Own.encG us mm).length)), .val (.int (Int32.ofNat (3 * mm))), .val (.int (Int32.ofNat (4 * mm))), .unset, .unset, .unset, .unset]) P26 (dc s23 53 rfl) rfl rfl ?_
  refine Own.iload (q := 125) P26 (dc s23 54 rfl) rfl rfl ?_
  refine Own.istore (q := 127) (L2 := #[.val (.ref ee), .val (.ref t1), .val (.int (0 : Int32)), .val (.int (Int32.ofNat us.length)), .val (.ref t2), .val (.ref tt), .val (.int (Int32.ofNat (3 * mm))), .val (.int (Int32.ofNat (3 * mm))), .val (.int (Int32.ofNat (3 * mm))), .val (.int (Int32.ofNat (Own.encG us mm).length)), .val (.int (Int32.ofNat (3 * mm))), .val (.int (Int32.ofNat (4 * mm))), .unset, .unset, .unset, .unset]) P26 (dc s23 55 rfl) rfl rfl ?_
  refine Own.iload (q := 129) P26 (dc s23 56 rfl) rfl rfl ?_
  refine Own.aloadN (q := 130) P26 (dc s23 57 rfl) rfl rfl rfl ?_
  have qf27 := (Fld.keep en.2.2.2.1 K26 (ninS ne3 nin0))
  refine Own.getfield (q := 133) P26 (dc s23 58 rfl) (wd hw 117 rfl) qf27 rfl ?_
  intro T28 P28
  refine Own.icmp_ne (q := 136) (qy := 186) P28 (dc s23 59 rfl) (by decide) rfl (fun _ => ?_) (fun q => absurd q (Own.nm1 (by omega)))
  refine Own.goto (q := 69) P28 (dc s23 60 rfl) (by decide) ?_
  refine Own.iload (q := 71) P28 (dc s23 24 rfl) rfl rfl ?_
  refine Own.iload (q := 73) P28 (dc s23 25 rfl) rfl rfl ?_
  refine Own.icmp_ge (q := 76) (qy := 189) P28 (dc s23 26 rfl) (by decide) rfl (fun _ => ?_) (fun q => absurd q (by rw [Own.ofNat_lt (by omega) (by omega)]; omega))
  have hr3 : us.length = 3 * mm ∨ us.length = 3 * mm + 1 ∨ us.length = 3 * mm + 2 := by omega
  rcases hr3 with hr | hr | hr
  · have hX := Own.encT0 hr
    refine Own.iload (q := 191) P28 (dc s23 61 rfl) rfl rfl ?_
    refine Own.iloadN (q := 192) P28 (dc s23 62 rfl) rfl rfl ?_
    refine Own.icmp_ge (q := 195) (qy := 352) P28 (dc s23 63 rfl) (by decide) rfl (fun _ => ?_) (fun q => absurd q (by rw [Own.ofNat_lt (by omega) (by omega)]; omega))
    refine Own.iload (q := 354) P28 (dc s23 153 rfl) rfl rfl ?_
    have hE29 : (Own.encG us mm) = Own.encL us := by
      unfold Own.encL
      rw [← hmm, hX]
      simp [Own.tl1, Own.tl2]
    refine Own.retI P28 (dc s23 154 rfl) hret hlk (by decide) (by decide) ?_
    exact ⟨by rw [hE29], N26, (Keep.trans (Keep.refl h0 _) K26 (allS (Or.inl (by simp)) all0)), by rw [hE29, hN, Nat.sub_self, List.replicate_zero, List.append_nil] at A26; exact A26⟩
  · have hX := Own.encT1 hr
    refine Own.iload (q := 191) P28 (dc s23 61 rfl) rfl rfl ?_
    refine Own.iloadN (q := 192) P28 (dc s23 62 rfl) rfl rfl ?_
    refine Own.icmp_ge (q := 195) (qy := 352) P28 (dc s23 63 rfl) (by decide) rfl (fun q => absurd (Own.ltN (by omega) (by omega) (by omega)) q) (fun _ => ?_)
    refine Own.aloadN (q := 196) P28 (dc s23 64 rfl) rfl rfl rfl ?_
    refine Own.iload (q := 198) P28 (dc s23 65 rfl) rfl rfl ?_
    refine Own.iinc (q := 201) (v := (1 : Int32)) (L2 := #[.val (.ref ee), .val (.ref t1), .val (.int (0 : Int32)), .val (.int (Int32.ofNat us.length)), .val (.ref t2), .val (.ref tt), .val (.int ((Int32.ofNat (3 * mm)) + (1 : Int32))), .val (.int (Int32.ofNat (3 * mm))), .val (.int (Int32.ofNat (3 * mm))), .val (.int (Int32.ofNat (Own.encG us mm).length)), .val (.int (Int32.ofNat (3 * mm))), .val (.int (Int32.ofNat (4 * mm))), .unset, .unset, .unset, .unset]) P28 (dc s23 66 rfl) rfl rfl rfl rfl ?_
    rw [show ((Int32.ofNat (3 * mm)) + (1 : Int32)) = Int32.ofNat (3 * mm + 1) from (Int32.ofNat_add (3 * mm) 1).symm]
    have qf30 := (Arv.keep A1 K26 (ninS ne1 nin0))
    refine Own.bget (q := 202) (i := (3 * mm)) P28 (dc s23 67 rfl) qf30 (by omega) (by omega) rfl ?_
    refine Own.sipush (q := 205) (v := (255 : Int32)) P28 (dc s23 68 rfl) rfl rfl ?_
    refine Own.iand (q := 206) P28 (dc s23 69 rfl)  rfl ?_
    rw [show ((us.getD (3 * mm) 0).toInt8.toInt32 &&& (255 : Int32)) = (us.getD (3 * mm) 0) from Own.and255 (Own.rng_getD hp _)]
    refine Own.istore (q := 208) (L2 := #[.val (.ref ee), .val (.ref t1), .val (.int (0 : Int32)), .val (.int (Int32.ofNat us.length)), .val (.ref t2), .val (.ref tt), .val (.int (Int32.ofNat (3 * mm + 1))), .val (.int (Int32.ofNat (3 * mm))), .val (.int (Int32.ofNat (3 * mm))), .val (.int (Int32.ofNat (Own.encG us mm).length)), .val (.int (us.getD (3 * mm) 0)), .val (.int (Int32.ofNat (4 * mm))), .unset, .unset, .unset, .unset]) P28 (dc s23 70 rfl) rfl rfl ?_
    refine Own.aload (q := 210) P28 (dc s23 71 rfl) rfl rfl rfl ?_
    refine Own.iload (q := 212) P28 (dc s23 72 rfl) rfl rfl ?_
    refine Own.iinc (q := 215) (v := (1 : Int32)) (L2 := #[.val (.ref ee), .val (.ref t1), .val (.int (0 : Int32)), .val (.int (Int32.ofNat us.length)), .val (.ref t2), .val (.ref tt), .val (.int (Int32.ofNat (3 * mm + 1))), .val (.int (Int32.ofNat (3 * mm))), .val (.int (Int32.ofNat (3 * mm))), .val (.int ((Int32.ofNat (Own.encG us mm).length) + (1 : Int32))), .val (.int (us.getD (3 * mm) 0)), .val (.int (Int32.ofNat (4 * mm))), .unset, .unset, .unset, .unset]) P28 (dc s23 73 rfl) rfl rfl rfl rfl ?_
    refine Own.aload (q := 217) P28 (dc s23 74 rfl) rfl rfl rfl ?_
    refine Own.iload (q := 219) P28 (dc s23 75 rfl) rfl rfl ?_
    refine Own.iconst (q := 220) (v := (2 : Int32)) P28 (dc s23 76 rfl) rfl rfl ?_
    refine Own.ishr (q := 221) P28 (dc s23 77 rfl)  rfl ?_
    have qf31 := (Arv.keep en.2.2.2.2.2.2 K26 (ninS ne2 nin0))
    refine Own.tget (q := 222) P28 (dc s23 78 rfl) qf31 (Own.b6s (Own.rng_getD hp _)) rfl ?_
    generalize hg32 : Own.e64 ((us.getD (3 * mm) 0) >>> ((2 : Int32) &&& 31)) = c32
    refine Own.i2b (q := 223) P28 (dc s23 79 rfl)  rfl ?_
    rw [show ((Int32.ofNat (Own.encG us mm).length) + (1 : Int32)) = Int32.ofNat ((Own.encG us mm) ++ [c32]).length from (Own.len1 _ _).symm]
    refine Own.bapp (q := 224) (X := (Own.encG us mm)) (x := c32) P28 (dc s23 80 rfl) A26 (by rw [hN, hn2]; (try simp only [List.length_append, List.length_cons, List.length_nil]); omega) (by omega) rfl ?_
    intro T33 h33 lc33 hb33 P33 W33 A33
    have N33 := Own.Fr.one N26 hb33 g_t2
    refine Own.iload (q := 226) P33 (dc s23 81 rfl) rfl rfl ?_
    refine Own.iloadN (q := 227) P33 (dc s23 82 rfl) rfl rfl ?_
    refine Own.icmp_ne (q := 230) (qy := 279) P33 (dc s23 83 rfl) (by decide) rfl (fun q => absurd (by rw [hr]) q) (fun _ => ?_)
    refine Own.aload (q := 232) P33 (dc s23 84 rfl) rfl rfl rfl ?_
    refine Own.iload (q := 234) P33 (dc s23 85 rfl) rfl rfl ?_
    refine Own.iinc (q := 237) (v := (1 : Int32)) (L2 := #[.val (.ref ee), .val (.ref t1), .val (.int (0 : Int32)), .val (.int (Int32.ofNat us.length)), .val (.ref t2), .val (.ref tt), .val (.int (Int32.ofNat (3 * mm + 1))), .val (.int (Int32.ofNat (3 * mm))), .val (.int (Int32.ofNat (3 * mm))), .val (.int ((Int32.ofNat ((Own.encG us mm) ++ [c32]).length) + (1 : Int32))), .val (.int (us.getD (3 * mm) 0)), .val (.int (Int32.ofNat (4 * mm))), .unset, .unset, .unset, .unset]) P33 (dc s23 86 rfl) rfl rfl rfl rfl ?_
    refine Own.aload (q := 239) P33 (dc s23 87 rfl) rfl rfl rfl ?_
    refine Own.iload (q := 241) P33 (dc s23 88 rfl) rfl rfl ?_
    refine Own.iconst (q := 242) (v := (4 : Int32)) P33 (dc s23 89 rfl) rfl rfl ?_
    refine Own.ishl (q := 243) P33 (dc s23 90 rfl)  rfl ?_
    refine Own.bipush (q := 245) (v := (63 : Int32)) P33 (dc s23 91 rfl) rfl rfl ?_
    refine Own.iand (q := 246) P33 (dc s23 92 rfl)  rfl ?_
    have qf34 := (Arv.keep qf31 (Keep.of_wr W33) (ninS ne2 nin0))
    refine Own.tget (q := 247) P33 (dc s23 93 rfl) qf34 (Own.b6m _) rfl ?_
    generalize hg35 : Own.e64 (((us.getD (3 * mm) 0) <<< ((4 : Int32) &&& 31)) &&& (63 : Int32)) = c35
    refine Own.i2b (q := 248) P33 (dc s23 94 rfl)  rfl ?_
    rw [show ((Int32.ofNat ((Own.encG us mm) ++ [c32]).length) + (1 : Int32)) = Int32.ofNat (((Own.encG us mm) ++ [c32]) ++ [c35]).length from (Own.len1 _ _).symm]
    refine Own.bapp (q := 249) (X := ((Own.encG us mm) ++ [c32])) (x := c35) P33 (dc s23 95 rfl) A33 (by rw [hN, hn2]; (try simp only [List.length_append, List.length_cons, List.length_nil]); omega) (by omega) rfl ?_
    intro T36 h36 lc36 hb36 P36 W36 A36
    have N36 := Own.Fr.one N33 hb36 g_t2
    refine Own.aloadN (q := 250) P36 (dc s23 96 rfl) rfl rfl rfl ?_
    have qf37 := (Fld.keep en.2.2.2.2.1 K26 (ninS ne3 nin0))
    have qf38 := (Fld.keep qf37 (Keep.of_wr W33) (ninS ne3 nin0))
    have qf39 := (Fld.keep qf38 (Keep.of_wr W36) (ninS ne3 nin0))
    refine Own.getfield (q := 253) P36 (dc s23 97 rfl) (wd hw 108 rfl) qf39 rfl ?_
    intro T40 P40
    refine Own.if_eq (q := 256) (qy := 352) P40 (dc s23 98 rfl) (by decide) rfl (fun q => absurd q (by decide)) (fun _ => ?_)
    refine Own.aload (q := 258) P40 (dc s23 99 rfl) rfl rfl rfl ?_
    refine Own.iload (q := 260) P40 (dc s23 100 rfl) rfl rfl ?_
    refine Own.iinc (q := 263) (v := (1 : Int32)) (L2 := #[.val (.ref ee), .val (.ref t1), .val (.int (0 : Int32)), .val (.int (Int32.ofNat us.length)), .val (.ref t2), .val (.ref tt), .val (.int (Int32.ofNat (3 * mm + 1))), .val (.int (Int32.ofNat (3 * mm))), .val (.int (Int32.ofNat (3 * mm))), .val (.int ((Int32.ofNat (((Own.encG us mm) ++ [c32]) ++ [c35]).length) + (1 : Int32))), .val (.int (us.getD (3 * mm) 0)), .val (.int (Int32.ofNat (4 * mm))), .unset, .unset, .unset, .unset]) P40 (dc s23 101 rfl) rfl rfl rfl rfl ?_
    refine Own.bipush (q := 265) (v := (61 : Int32)) P40 (dc s23 102 rfl) rfl rfl ?_
    rw [show ((Int32.ofNat (((Own.encG us mm) ++ [c32]) ++ [c35]).length) + (1 : Int32)) = Int32.ofNat ((((Own.encG us mm) ++ [c32]) ++ [c35]) ++ [(61 : Int32)]).length from (Own.len1 _ _).symm]
    refine Own.bapp (q := 266) (X := (((Own.encG us mm) ++ [c32]) ++ [c35])) (x := (61 : Int32)) P40 (dc s23 103 rfl) A36 (by rw [hN, hn2]; (try simp only [List.length_append, List.length_cons, List.length_nil]); omega) (by omega) rfl ?_
    intro T41 h41 lc41 hb41 P41 W41 A41
    have N41 := Own.Fr.one N36 hb41 g_t2
    refine Own.aload (q := 268) P41 (dc s23 104 rfl) rfl rfl rfl ?_
    refine Own.iload (q := 270) P41 (dc s23 105 rfl) rfl rfl ?_
    refine Own.iinc (q := 273) (v := (1 : Int32)) (L2 := #[.val (.ref ee), .val (.ref t1), .val (.int (0 : Int32)), .val (.int (Int32.ofNat us.length)), .val (.ref t2), .val (.ref tt), .val (.int (Int32.ofNat (3 * mm + 1))), .val (.int (Int32.ofNat (3 * mm))), .val (.int (Int32.ofNat (3 * mm))), .val (.int ((Int32.ofNat ((((Own.encG us mm) ++ [c32]) ++ [c35]) ++ [(61 : Int32)]).length) + (1 : Int32))), .val (.int (us.getD (3 * mm) 0)), .val (.int (Int32.ofNat (4 * mm))), .unset, .unset, .unset, .unset]) P41 (dc s23 106 rfl) rfl rfl rfl rfl ?_
    refine Own.bipush (q := 275) (v := (61 : Int32)) P41 (dc s23 107 rfl) rfl rfl ?_
    rw [show ((Int32.ofNat ((((Own.encG us mm) ++ [c32]) ++ [c35]) ++ [(61 : Int32)]).length) + (1 : Int32)) = Int32.ofNat (((((Own.encG us mm) ++ [c32]) ++ [c35]) ++ [(61 : Int32)]) ++ [(61 : Int32)]).length from (Own.len1 _ _).symm]
    refine Own.bapp (q := 276) (X := ((((Own.encG us mm) ++ [c32]) ++ [c35]) ++ [(61 : Int32)])) (x := (61 : Int32)) P41 (dc s23 108 rfl) A41 (by rw [hN, hn2]; (try simp only [List.length_append, List.length_cons, List.length_nil]); omega) (by omega) rfl ?_
    intro T42 h42 lc42 hb42 P42 W42 A42
    have N42 := Own.Fr.one N41 hb42 g_t2
    refine Own.goto (q := 352) P42 (dc s23 109 rfl) (by decide) ?_
    refine Own.iload (q := 354) P42 (dc s23 153 rfl) rfl rfl ?_
    have hE43 : (((((Own.encG us mm) ++ [c32]) ++ [c35]) ++ [(61 : Int32)]) ++ [(61 : Int32)]) = Own.encL us := by
      unfold Own.encL
      rw [← hmm, hX]
      subst hg32 hg35
      simp [Own.tl1, Own.tl2]
    refine Own.retI P42 (dc s23 154 rfl) hret hlk (by decide) (by decide) ?_
    exact ⟨by rw [hE43], N42, (Keep.wr (Keep.wr (Keep.wr (Keep.wr (Keep.trans (Keep.refl h0 _) K26 (allS (Or.inl (by simp)) all0)) W33 (Or.inl (by simp))) W36 (Or.inl (by simp))) W41 (Or.inl (by simp))) W42 (Or.inl (by simp))), by rw [hE43, hN, Nat.sub_self, List.replicate_zero, List.append_nil] at A42; exact A42⟩
  · have hX := Own.encT2 hr
    refine Own.iload (q := 191) P28 (dc s23 61 rfl) rfl rfl ?_
    refine Own.iloadN (q := 192) P28 (dc s23 62 rfl) rfl rfl ?_
    refine Own.icmp_ge (q := 195) (qy := 352) P28 (dc s23 63 rfl) (by decide) rfl (fun q => absurd (Own.ltN (by omega) (by omega) (by omega)) q) (fun _ => ?_)
    refine Own.aloadN (q := 196) P28 (dc s23 64 rfl) rfl rfl rfl ?_
    refine Own.iload (q := 198) P28 (dc s23 65 rfl) rfl rfl ?_
    refine Own.iinc (q := 201) (v := (1 : Int32)) (L2 := #[.val (.ref ee), .val (.ref t1), .val (.int (0 : Int32)), .val (.int (Int32.ofNat us.length)), .val (.ref t2), .val (.ref tt), .val (.int ((Int32.ofNat (3 * mm)) + (1 : Int32))), .val (.int (Int32.ofNat (3 * mm))), .val (.int (Int32.ofNat (3 * mm))), .val (.int (Int32.ofNat (Own.encG us mm).length)), .val (.int (Int32.ofNat (3 * mm))), .val (.int (Int32.ofNat (4 * mm))), .unset, .unset, .unset, .unset]) P28 (dc s23 66 rfl) rfl rfl rfl rfl ?_
    rw [show ((Int32.ofNat (3 * mm)) + (1 : Int32)) = Int32.ofNat (3 * mm + 1) from (Int32.ofNat_add (3 * mm) 1).symm]
    have qf44 := (Arv.keep A1 K26 (ninS ne1 nin0))
    refine Own.bget (q := 202) (i := (3 * mm)) P28 (dc s23 67 rfl) qf44 (by omega) (by omega) rfl ?_
    refine Own.sipush (q := 205) (v := (255 : Int32)) P28 (dc s23 68 rfl) rfl rfl ?_
    refine Own.iand (q := 206) P28 (dc s23 69 rfl)  rfl ?_
    rw [show ((us.getD (3 * mm) 0).toInt8.toInt32 &&& (255 : Int32)) = (us.getD (3 * mm) 0) from Own.and255 (Own.rng_getD hp _)]
    refine Own.istore (q := 208) (L2 := #[.val (.ref ee), .val (.ref t1), .val (.int (0 : Int32)), .val (.int (Int32.ofNat us.length)), .val (.ref t2), .val (.ref tt), .val (.int (Int32.ofNat (3 * mm + 1))), .val (.int (Int32.ofNat (3 * mm))), .val (.int (Int32.ofNat (3 * mm))), .val (.int (Int32.ofNat (Own.encG us mm).length)), .val (.int (us.getD (3 * mm) 0)), .val (.int (Int32.ofNat (4 * mm))), .unset, .unset, .unset, .unset]) P28 (dc s23 70 rfl) rfl rfl ?_
    refine Own.aload (q := 210) P28 (dc s23 71 rfl) rfl rfl rfl ?_
    refine Own.iload (q := 212) P28 (dc s23 72 rfl) rfl rfl ?_
    refine Own.iinc (q := 215) (v := (1 : Int32)) (L2 := #[.val (.ref ee), .val (.ref t1), .val (.int (0 : Int32)), .val (.int (Int32.ofNat us.length)), .val (.ref t2), .val (.ref tt), .val (.int (Int32.ofNat (3 * mm + 1))), .val (.int (Int32.ofNat (3 * mm))), .val (.int (Int32.ofNat (3 * mm))), .val (.int ((Int32.ofNat (Own.encG us mm).length) + (1 : Int32))), .val (.int (us.getD (3 * mm) 0)), .val (.int (Int32.ofNat (4 * mm))), .unset, .unset, .unset, .unset]) P28 (dc s23 73 rfl) rfl rfl rfl rfl ?_
    refine Own.aload (q := 217) P28 (dc s23 74 rfl) rfl rfl rfl ?_
    refine Own.iload (q := 219) P28 (dc s23 75 rfl) rfl rfl ?_
    refine Own.iconst (q := 220) (v := (2 : Int32)) P28 (dc s23 76 rfl) rfl rfl ?_
    refine Own.ishr (q := 221) P28 (dc s23 77 rfl)  rfl ?_
    have qf45 := (Arv.keep en.2.2.2.2.2.2 K26 (ninS ne2 nin0))
    refine Own.tget (q := 222) P28 (dc s23 78 rfl) qf45 (Own.b6s (Own.rng_getD hp _)) rfl ?_
    generalize hg46 : Own.e64 ((us.getD (3 * mm) 0) >>> ((2 : Int32) &&& 31)) = c46
    refine Own.i2b (q := 223) P28 (dc s23 79 rfl)  rfl ?_
    rw [show ((Int32.ofNat (Own.encG us mm).length) + (1 : Int32)) = Int32.ofNat ((Own.encG us mm) ++ [c46]).length from (Own.len1 _ _).symm]
    refine Own.bapp (q := 224) (X := (Own.encG us mm)) (x := c46) P28 (dc s23 80 rfl) A26 (by rw [hN, hn2]; (try simp only [List.length_append, List.length_cons, List.length_nil]); omega) (by omega) rfl ?_
    intro T47 h47 lc47 hb47 P47 W47 A47
    have N47 := Own.Fr.one N26 hb47 g_t2
    refine Own.iload (q := 226) P47 (dc s23 81 rfl) rfl rfl ?_
    refine Own.iloadN (q := 227) P47 (dc s23 82 rfl) rfl rfl ?_
    refine Own.icmp_ne (q := 230) (qy := 279) P47 (dc s23 83 rfl) (by decide) rfl (fun _ => ?_) (fun q => absurd (Own.ofNat_inj (by omega) (by omega) q) (by omega))
    refine Own.aloadN (q := 280) P47 (dc s23 110 rfl) rfl rfl rfl ?_
    refine Own.iload (q := 282) P47 (dc s23 111 rfl) rfl rfl ?_
    refine Own.iinc (q := 285) (v := (1 : Int32)) (L2 := #[.val (.ref ee), .val (.ref t1), .val (.int (0 : Int32)), .val (.int (Int32.ofNat us.length)), .val (.ref t2), .val (.ref tt), .val (.int ((Int32.ofNat (3 * mm + 1)) + (1 : Int32))), .val (.int (Int32.ofNat (3 * mm))), .val (.int (Int32.ofNat (3 * mm))), .val (.int (Int32.ofNat ((Own.encG us mm) ++ [c46]).length)), .val (.int (us.getD (3 * mm) 0)), .val (.int (Int32.ofNat (4 * mm))), .unset, .unset, .unset, .unset]) P47 (dc s23 112 rfl) rfl rfl rfl rfl ?_
    rw [show ((Int32.ofNat (3 * mm + 1)) + (1 : Int32)) = Int32.ofNat (3 * mm + 2) from (Int32.ofNat_add (3 * mm + 1) 1).symm]
    have qf48 := (Arv.keep qf44 (Keep.of_wr W47) (ninS ne1 nin0))
    refine Own.bget (q := 286) (i := (3 * mm + 1)) P47 (dc s23 113 rfl) qf48 (by omega) (by omega) rfl ?_
    refine Own.sipush (q := 289) (v := (255 : Int32)) P47 (dc s23 114 rfl) rfl rfl ?_
    refine Own.iand (q := 290) P47 (dc s23 115 rfl)  rfl ?_
    rw [show ((us.getD (3 * mm + 1) 0).toInt8.toInt32 &&& (255 : Int32)) = (us.getD (3 * mm + 1) 0) from Own.and255 (Own.rng_getD hp _)]
    refine Own.istore (q := 292) (L2 := #[.val (.ref ee), .val (.ref t1), .val (.int (0 : Int32)), .val (.int (Int32.ofNat us.length)), .val (.ref t2), .val (.ref tt), .val (.int (Int32.ofNat (3 * mm + 2))), .val (.int (Int32.ofNat (3 * mm))), .val (.int (Int32.ofNat (3 * mm))), .val (.int (Int32.ofNat ((Own.encG us mm) ++ [c46]).length)), .val (.int (us.getD (3 * mm) 0)), .val (.int (us.getD (3 * mm + 1) 0)), .unset, .unset, .unset, .unset]) P47 (dc s23 116 rfl) rfl rfl ?_
    refine Own.aload (q := 294) P47 (dc s23 117 rfl) rfl rfl rfl ?_
    refine Own.iload (q := 296) P47 (dc s23 118 rfl) rfl rfl ?_
    refine Own.iinc (q := 299) (v := (1 : Int32)) (L2 := #[.val (.ref ee), .val (.ref t1), .val (.int (0 : Int32)), .val (.int (Int32.ofNat us.length)), .val (.ref t2), .val (.ref tt), .val (.int (Int32.ofNat (3 * mm + 2))), .val (.int (Int32.ofNat (3 * mm))), .val (.int (Int32.ofNat (3 * mm))), .val (.int ((Int32.ofNat ((Own.encG us mm) ++ [c46]).length) + (1 : Int32))), .val (.int (us.getD (3 * mm) 0)), .val (.int (us.getD (3 * mm + 1) 0)), .unset, .unset, .unset, .unset]) P47 (dc s23 119 rfl) rfl rfl rfl rfl ?_
    refine Own.aload (q := 301) P47 (dc s23 120 rfl) rfl rfl rfl ?_
    refine Own.iload (q := 303) P47 (dc s23 121 rfl) rfl rfl ?_
    refine Own.iconst (q := 304) (v := (4 : Int32)) P47 (dc s23 122 rfl) rfl rfl ?_
    refine Own.ishl (q := 305) P47 (dc s23 123 rfl)  rfl ?_
    refine Own.bipush (q := 307) (v := (63 : Int32)) P47 (dc s23 124 rfl) rfl rfl ?_
    refine Own.iand (q := 308) P47 (dc s23 125 rfl)  rfl ?_
    refine Own.iload (q := 310) P47 (dc s23 126 rfl) rfl rfl ?_
    refine Own.iconst (q := 311) (v := (4 : Int32)) P47 (dc s23 127 rfl) rfl rfl ?_
    refine Own.ishr (q := 312) P47 (dc s23 128 rfl)  rfl ?_
    refine Own.ior (q := 313) P47 (dc s23 129 rfl)  rfl ?_
    have qf49 := (Arv.keep qf45 (Keep.of_wr W47) (ninS ne2 nin0))
    refine Own.tget (q := 314) P47 (dc s23 130 rfl) qf49 (Own.b6t (Own.rng_getD hp _) (Own.rng_getD hp _)) rfl ?_
    generalize hg50 : Own.e64 ((((us.getD (3 * mm) 0) <<< ((4 : Int32) &&& 31)) &&& (63 : Int32)) ||| ((us.getD (3 * mm + 1) 0) >>> ((4 : Int32) &&& 31))) = c50
    refine Own.i2b (q := 315) P47 (dc s23 131 rfl)  rfl ?_
    rw [show ((Int32.ofNat ((Own.encG us mm) ++ [c46]).length) + (1 : Int32)) = Int32.ofNat (((Own.encG us mm) ++ [c46]) ++ [c50]).length from (Own.len1 _ _).symm]
    refine Own.bapp (q := 316) (X := ((Own.encG us mm) ++ [c46])) (x := c50) P47 (dc s23 132 rfl) A47 (by rw [hN, hn2]; (try simp only [List.length_append, List.length_cons, List.length_nil]); omega) (by omega) rfl ?_
    intro T51 h51 lc51 hb51 P51 W51 A51
    have N51 := Own.Fr.one N47 hb51 g_t2
    refine Own.aload (q := 318) P51 (dc s23 133 rfl) rfl rfl rfl ?_
    refine Own.iload (q := 320) P51 (dc s23 134 rfl) rfl rfl ?_
    refine Own.iinc (q := 323) (v := (1 : Int32)) (L2 := #[.val (.ref ee), .val (.ref t1), .val (.int (0 : Int32)), .val (.int (Int32.ofNat us.length)), .val (.ref t2), .val (.ref tt), .val (.int (Int32.ofNat (3 * mm + 2))), .val (.int (Int32.ofNat (3 * mm))), .val (.int (Int32.ofNat (3 * mm))), .val (.int ((Int32.ofNat (((Own.encG us mm) ++ [c46]) ++ [c50]).length) + (1 : Int32))), .val (.int (us.getD (3 * mm) 0)), .val (.int (us.getD (3 * mm + 1) 0)), .unset, .unset, .unset, .unset]) P51 (dc s23 135 rfl) rfl rfl rfl rfl ?_
    refine Own.aload (q := 325) P51 (dc s23 136 rfl) rfl rfl rfl ?_
    refine Own.iload (q := 327) P51 (dc s23 137 rfl) rfl rfl ?_
    refine Own.iconst (q := 328) (v := (2 : Int32)) P51 (dc s23 138 rfl) rfl rfl ?_
    refine Own.ishl (q := 329) P51 (dc s23 139 rfl)  rfl ?_
    refine Own.bipush (q := 331) (v := (63 : Int32)) P51 (dc s23 140 rfl) rfl rfl ?_
    refine Own.iand (q := 332) P51 (dc s23 141 rfl)  rfl ?_
    have qf52 := (Arv.keep qf49 (Keep.of_wr W51) (ninS ne2 nin0))
    refine Own.tget (q := 333) P51 (dc s23 142 rfl) qf52 (Own.b6m _) rfl ?_
    generalize hg53 : Own.e64 (((us.getD (3 * mm + 1) 0) <<< ((2 : Int32) &&& 31)) &&& (63 : Int32)) = c53
    refine Own.i2b (q := 334) P51 (dc s23 143 rfl)  rfl ?_
    rw [show ((Int32.ofNat (((Own.encG us mm) ++ [c46]) ++ [c50]).length) + (1 : Int32)) = Int32.ofNat ((((Own.encG us mm) ++ [c46]) ++ [c50]) ++ [c53]).length from (Own.len1 _ _).symm]
    refine Own.bapp (q := 335) (X := (((Own.encG us mm) ++ [c46]) ++ [c50])) (x := c53) P51 (dc s23 144 rfl) A51 (by rw [hN, hn2]; (try simp only [List.length_append, List.length_cons, List.length_nil]); omega) (by omega) rfl ?_
    intro T54 h54 lc54 hb54 P54 W54 A54
    have N54 := Own.Fr.one N51 hb54 g_t2
    refine Own.aloadN (q := 336) P54 (dc s23 145 rfl) rfl rfl rfl ?_
    have qf55 := (Fld.keep en.2.2.2.2.1 K26 (ninS ne3 nin0))
    have qf56 := (Fld.keep qf55 (Keep.of_wr W47) (ninS ne3 nin0))
    have qf57 := (Fld.keep qf56 (Keep.of_wr W51) (ninS ne3 nin0))
    have qf58 := (Fld.keep qf57 (Keep.of_wr W54) (ninS ne3 nin0))
    refine Own.getfield (q := 339) P54 (dc s23 146 rfl) (wd hw 108 rfl) qf58 rfl ?_
    intro T59 P59
    refine Own.if_eq (q := 342) (qy := 352) P59 (dc s23 147 rfl) (by decide) rfl (fun q => absurd q (by decide)) (fun _ => ?_)
    refine Own.aload (q := 344) P59 (dc s23 148 rfl) rfl rfl rfl ?_
    refine Own.iload (q := 346) P59 (dc s23 149 rfl) rfl rfl ?_
    refine Own.iinc (q := 349) (v := (1 : Int32)) (L2 := #[.val (.ref ee), .val (.ref t1), .val (.int (0 : Int32)), .val (.int (Int32.ofNat us.length)), .val (.ref t2), .val (.ref tt), .val (.int (Int32.ofNat (3 * mm + 2))), .val (.int (Int32.ofNat (3 * mm))), .val (.int (Int32.ofNat (3 * mm))), .val (.int ((Int32.ofNat ((((Own.encG us mm) ++ [c46]) ++ [c50]) ++ [c53]).length) + (1 : Int32))), .val (.int (us.getD (3 * mm) 0)), .val (.int (us.getD (3 * mm + 1) 0)), .unset, .unset, .unset, .unset]) P59 (dc s23 150 rfl) rfl rfl rfl rfl ?_
    refine Own.bipush (q := 351) (v := (61 : Int32)) P59 (dc s23 151 rfl) rfl rfl ?_
    rw [show ((Int32.ofNat ((((Own.encG us mm) ++ [c46]) ++ [c50]) ++ [c53]).length) + (1 : Int32)) = Int32.ofNat (((((Own.encG us mm) ++ [c46]) ++ [c50]) ++ [c53]) ++ [(61 : Int32)]).length from (Own.len1 _ _).symm]
    refine Own.bapp (q := 352) (X := ((((Own.encG us mm) ++ [c46]) ++ [c50]) ++ [c53])) (x := (61 : Int32)) P59 (dc s23 152 rfl) A54 (by rw [hN, hn2]; (try simp only [List.length_append, List.length_cons, List.length_nil]); omega) (by omega) rfl ?_
    intro T60 h60 lc60 hb60 P60 W60 A60
    have N60 := Own.Fr.one N54 hb60 g_t2
    refine Own.iload (q := 354) P60 (dc s23 153 rfl) rfl rfl ?_
    have hE61 : (((((Own.encG us mm) ++ [c46]) ++ [c50]) ++ [c53]) ++ [(61 : Int32)]) = Own.encL us := by
      unfold Own.encL
      rw [← hmm, hX]
      subst hg46 hg50 hg53
      simp [Own.tl1, Own.tl2]
    refine Own.retI P60 (dc s23 154 rfl) hret hlk (by decide) (by decide) ?_
    exact ⟨by rw [hE61], N60, (Keep.wr (Keep.wr (Keep.wr (Keep.wr (Keep.trans (Keep.refl h0 _) K26 (allS (Or.inl (by simp)) all0)) W47 (Or.inl (by simp))) W51 (Or.inl (by simp))) W54 (Or.inl (by simp))) W60 (Or.inl (by simp))), by rw [hE61, hN, Nat.sub_self, List.replicate_zero, List.append_nil] at A60; exact A60⟩
theorem s24 : decs jdk_29_method_24_code [(0, .iload_n 0, 1), (1, .iload_n 1, 1), (2, .iadd, 1), (3, .istore_n 2, 1), (4, .iload_n 0, 1), (5, .iload_n 2, 1), (6, .ixor, 1), (7, .iload_n 1, 1), (8, .iload_n 2, 1), (9, .ixor, 1), (10, .iand, 1), (11, .ifCond .ge 13, 3), (24, .iload_n 2, 1), (25, .ireturn, 1)] = true := by decide +kernel
theorem pn_17 : plainFor (⟨"java/lang/Math", "addExact", "(II)I"⟩ : MethodName) = true := by first | exact plainFor_of_name (by first | (simp [plainName, overriddenIn]; done) | decide +kernel) | decide +kernel
def QrmAddX (Z : State) (x1 : Int32) (y1 : Int32) (h0 : Heap) (n0 : Nat) (v : Option Value) (h : Heap) (L : List Loc) : Prop := v = some (.int (x1 + y1)) ∧ Fr n0 L ∧ h = h0
theorem rmAddX (l : Launch) (Z : State) (a0 : Array Value) (hw : HW a0 Z) (ws : List Jvm.Cond) (x1 : Int32) (y1 : Int32) (h0 : Heap) (n0 : Nat) (Z0 : n0 ≤ h0.size) (hx : 0 ≤ x1.toInt) (hy : 0 ≤ y1.toInt) (hs : x1.toInt + y1.toInt < 2147483648) :
    Own.MF l Z (⟨"java/lang/Math", "addExact", "(II)I"⟩ : MethodName) jdk_29_method_24_code 3 (some .int) ws (⟨0, 0, 0, 0⟩ : Room) #[(.int x1), (.int y1)] h0 (QrmAddX Z x1 y1 h0 n0) := by
  refine Own.MF.of (own := "java/lang/Math") (n := 3) rfl rfl pn_17 (fun p e s m below meth c s₁ hml hlk hret hnm P0 => ?_)
  rw [show entryFrame m #[(.int x1), (.int y1)] 3 = mkF m 0 #[.val (.int x1), .val (.int y1), .unset] [] from by first | (simp [entryFrame, mkF, argsToLocals, Value.category]; done) | rfl]
  refine Own.iloadN (q := 1) P0 (dc s24 0 rfl) rfl rfl ?_
  refine Own.iloadN (q := 2) P0 (dc s24 1 rfl) rfl rfl ?_
  refine Own.iadd (q := 3) P0 (dc s24 2 rfl)  rfl ?_
  refine Own.istoreN (q := 4) (L2 := #[.val (.int x1), .val (.int y1), .val (.int (x1 + y1))]) P0 (dc s24 3 rfl) rfl rfl ?_
  refine Own.iloadN (q := 5) P0 (dc s24 4 rfl) rfl rfl ?_
  refine Own.iloadN (q := 6) P0 (dc s24 5 rfl) rfl rfl ?_
  refine Own.ixor (q := 7) P0 (dc s24 6 rfl)  rfl ?_
  refine Own.iloadN (q := 8) P0 (dc s24 7 rfl) rfl rfl ?_
  refine Own.iloadN (q := 9) P0 (dc s24 8 rfl) rfl rfl ?_
  refine Own.ixor (q := 10) P0 (dc s24 9 rfl)  rfl ?_
  refine Own.iand (q := 11) P0 (dc s24 10 rfl)  rfl ?_
  refine Own.if_ge (q := 14) (qy := 24) P0 (dc s24 11 rfl) (by decide) rfl (fun _ => ?_) (fun q => absurd q (Own.addx hx hy hs))
  refine Own.iloadN (q := 25) P0 (dc s24 12 rfl) rfl rfl ?_
  refine Own.retI P0 (dc s24 13 rfl) hret hlk (by decide) (by decide) ?_
  exact ⟨rfl, (Fr.nil n0), rfl⟩
theorem s25 : decs jdk_29_method_28_code [(0, .iload_n 0, 1), (1, .i2l, 1), (2, .iload_n 1, 1), (3, .i2l, 1), (4, .lmul, 1), (5, .lstore_n 2, 1), (6, .lload_n 2, 1), (7, .l2i, 1), (8, .i2l, 1), (9, .lload_n 2, 1), (10, .lcmp, 1), (11, .ifCond .eq 13, 3), (24, .lload_n 2, 1), (25, .l2i, 1), (26, .ireturn, 1)] = true := by decide +kernel
theorem pn_18 : plainFor (⟨"java/lang/Math", "multiplyExact", "(II)I"⟩ : MethodName) = true := by first | exact plainFor_of_name (by first | (simp [plainName, overriddenIn]; done) | decide +kernel) | decide +kernel
def QrmMulX (Z : State) (x1 : Int32) (y1 : Int32) (h0 : Heap) (n0 : Nat) (v : Option Value) (h : Heap) (L : List Loc) : Prop := v = some (.int (x1.toInt64 * y1.toInt64).toInt32) ∧ Fr n0 L ∧ h = h0
theorem rmMulX (l : Launch) (Z : State) (a0 : Array Value) (hw : HW a0 Z) (ws : List Jvm.Cond) (x1 : Int32) (y1 : Int32) (h0 : Heap) (n0 : Nat) (Z0 : n0 ≤ h0.size) (hx : 0 ≤ x1.toInt) (hy : 0 ≤ y1.toInt) (hs : x1.toInt * y1.toInt < 2147483648) :
    Own.MF l Z (⟨"java/lang/Math", "multiplyExact", "(II)I"⟩ : MethodName) jdk_29_method_28_code 4 (some .int) ws (⟨0, 0, 0, 0⟩ : Room) #[(.int x1), (.int y1)] h0 (QrmMulX Z x1 y1 h0 n0) := by
  refine Own.MF.of (own := "java/lang/Math") (n := 4) rfl rfl pn_18 (fun p e s m below meth c s₁ hml hlk hret hnm P0 => ?_)
  rw [show entryFrame m #[(.int x1), (.int y1)] 4 = mkF m 0 #[.val (.int x1), .val (.int y1), .unset, .unset] [] from by first | (simp [entryFrame, mkF, argsToLocals, Value.category]; done) | rfl]
  refine Own.iloadN (q := 1) P0 (dc s25 0 rfl) rfl rfl ?_
  refine Own.i2l (q := 2) P0 (dc s25 1 rfl)  rfl ?_
  refine Own.iloadN (q := 3) P0 (dc s25 2 rfl) rfl rfl ?_
  refine Own.i2l (q := 4) P0 (dc s25 3 rfl)  rfl ?_
  refine Own.lmul (q := 5) P0 (dc s25 4 rfl)  rfl ?_
  refine Own.lstoreN (q := 6) (L2 := #[.val (.int x1), .val (.int y1), .val (.long ((x1).toInt64 * (y1).toInt64)), .second]) P0 (dc s25 5 rfl) rfl rfl ?_
  refine Own.lloadN (q := 7) P0 (dc s25 6 rfl) rfl rfl ?_
  refine Own.l2i (q := 8) P0 (dc s25 7 rfl)  rfl ?_
  refine Own.i2l (q := 9) P0 (dc s25 8 rfl)  rfl ?_
  refine Own.lloadN (q := 10) P0 (dc s25 9 rfl) rfl rfl ?_
  refine Own.lcmp (q := 11) P0 (dc s25 10 rfl)  rfl ?_
  refine Own.if_eq (q := 14) (qy := 24) P0 (dc s25 11 rfl) (by decide) rfl (fun _ => ?_) (fun q => absurd (by rw [(Own.mulx hx hy hs).1]; exact Own.cmp0 _) q)
  refine Own.lloadN (q := 25) P0 (dc s25 12 rfl) rfl rfl ?_
  refine Own.l2i (q := 26) P0 (dc s25 13 rfl)  rfl ?_
  refine Own.retI P0 (dc s25 14 rfl) hret hlk (by decide) (by decide) ?_
  exact ⟨rfl, (Fr.nil n0), rfl⟩
theorem sw_10 {Z : State} {a0 : Array Value} (hw : HW a0 Z) : Own.SW Z a0 ⟨"java/lang/Math", "addExact", "(II)I"⟩ jdk_29_method_24_code 3 (some .int) 2 := ⟨(wd hw 111 rfl), (wd hw 112 rfl), (wd hw 113 rfl), by decide, _, _, pd_7, rfl⟩
theorem sw_11 {Z : State} {a0 : Array Value} (hw : HW a0 Z) : Own.SW Z a0 ⟨"java/lang/Math", "multiplyExact", "(II)I"⟩ jdk_29_method_28_code 4 (some .int) 2 := ⟨(wd hw 115 rfl), (wd hw 112 rfl), (wd hw 116 rfl), by decide, _, _, pd_7, rfl⟩
theorem s26 : decs jdk_2452_method_2_code [(0, .iconst 0, 1), (1, .istore_n 3, 1), (2, .aload_n 0, 1), (3, .getfield 21, 3), (6, .ifCond .eq 18, 3), (9, .iconst 4, 1), (10, .iload_n 1, 1), (11, .iconst 2, 1), (12, .invokestatic 24, 3), (15, .iconst 3, 1), (16, .idiv, 1), (17, .invokestatic 30, 3), (20, .istore_n 3, 1), (21, .goto 32, 3), (53, .aload_n 0, 1), (54, .getfield 17, 3), (57, .ifCond .le 22, 3), (79, .goto 21, 3), (100, .iload_n 3, 1), (101, .ireturn, 1)] = true := by decide +kernel
theorem pn_169 : plainFor (⟨"java/util/Base64$Encoder", "encodedOutLength", "(IZ)I"⟩ : MethodName) = true := by first | exact plainFor_of_name (by first | (simp [plainName, overriddenIn]; done) | decide +kernel) | decide +kernel
def QrmEol (Z : State) (ee : Addr) (tt : Addr) (kt : ClassId) (n : Nat) (h0 : Heap) (n0 : Nat) (v : Option Value) (h : Heap) (L : List Loc) : Prop := v = some (.int (Int32.ofNat (4 * ((n + 2) / 3)))) ∧ Fr n0 L ∧ h = h0
theorem rmEol (l : Launch) (Z : State) (a0 : Array Value) (hw : HW a0 Z) (ws : List Jvm.Cond) (ee : Addr) (tt : Addr) (kt : ClassId) (n : Nat) (h0 : Heap) (n0 : Nat) (Z0 : n0 ≤ h0.size) (en : Own.EN Z h0 ee tt kt) (hn : n ≤ 64) :
    Own.MFW l Z (⟨"java/util/Base64$Encoder", "encodedOutLength", "(IZ)I"⟩ : MethodName) jdk_2452_method_2_code 5 (some .int) [(2, 79, 82, 33)] ws (⟨1, 0, 0, 20⟩ : Room) #[(.ref ee), (.int (Int32.ofNat n)), (.int (1 : Int32))] h0 (QrmEol Z ee tt kt n h0 n0) := by
  refine Own.MFW.of (own := "java/util/Base64$Encoder") (n := 5) rfl rfl pn_169 (fun p e s m below meth c s₁ hml hlk hret hnm P0 => ?_)
  rw [show entryFrame m #[(.ref ee), (.int (Int32.ofNat n)), (.int (1 : Int32))] 5 = mkF m 0 #[.val (.ref ee), .val (.int (Int32.ofNat n)), .val (.int (1 : Int32)), .unset, .unset] [] from by first | (simp [entryFrame, mkF, argsToLocals, Value.category]; done) | rfl]
  refine Own.iconst (q := 1) (v := (0 : Int32)) P0 (dc s26 0 rfl) rfl rfl ?_
  refine Own.istoreN (q := 2) (L2 := #[.val (.ref ee), .val (.int (Int32.ofNat n)), .val (.int (1 : Int32)), .val (.int (0 : Int32)), .unset]) P0 (dc s26 1 rfl) rfl rfl ?_
  refine Own.aloadN (q := 3) P0 (dc s26 2 rfl) rfl rfl rfl ?_
  refine Own.getfield (q := 6) P0 (dc s26 3 rfl) (wd hw 108 rfl) en.2.2.2.2.1 rfl ?_
  intro T21 P21
  refine Own.if_eq (q := 9) (qy := 24) P21 (dc s26 4 rfl) (by decide) rfl (fun q => absurd q (by decide)) (fun _ => ?_)
  refine Own.iconst (q := 10) (v := (4 : Int32)) P21 (dc s26 5 rfl) rfl rfl ?_
  refine Own.iloadN (q := 11) P21 (dc s26 6 rfl) rfl rfl ?_
  refine Own.iconst (q := 12) (v := (2 : Int32)) P21 (dc s26 7 rfl) rfl rfl ?_
  refine Own.cS (q := 15) (W := 1) (rest := [(.int (4 : Int32))]) P21 (dc s26 8 rfl) (wd hw 110 rfl) (sw_10 hw) (rmAddX l Z a0 hw [] (Int32.ofNat n) (2 : Int32) h0 n0 Z0 (by rw [Own.ofN (by omega)]; omega) (by decide) (by rw [Own.ofN (by omega), show (2 : Int32).toInt = 2 from rfl]; omega)) (by decide) (by decide) rfl (hml rfl) rfl rfl (by decide) (by decide) rfl ?_
  rintro v22 T22 h22 L22 ⟨rfl, N22q, e22⟩ P22
  rw [e22] at P22
  have N22 := Fr.app (Fr.nil n0) N22q
  rw [show ((Int32.ofNat n) + (2 : Int32)) = (Int32.ofNat (n + 2)) from (Int32.ofNat_add n 2).symm]
  refine Own.iconst (q := 16) (v := (3 : Int32)) P22 (dc s26 9 rfl) rfl rfl ?_
  refine Own.idiv (q := 17) P22 (dc s26 10 rfl) (by decide) rfl ?_
  rw [show ((Int32.ofNat (n + 2)) / (3 : Int32)) = (Int32.ofNat ((n + 2) / 3)) from Own.divN (d := 3) (by omega) (by decide) (by decide)]
  refine Own.cS (q := 20) (W := 0) (rest := []) P22 (dc s26 11 rfl) (wd hw 114 rfl) (sw_11 hw) (rmMulX l Z a0 hw [] (4 : Int32) (Int32.ofNat ((n + 2) / 3)) h0 n0 Z0 (by decide) (by rw [Own.ofN (by omega)]; omega) (by rw [Own.ofN (by omega), show (4 : Int32).toInt = 4 from rfl]; omega)) (by decide) (by decide) rfl (hml rfl) rfl rfl (by decide) (by decide) rfl ?_
  rintro v23 T23 h23 L23 ⟨rfl, N23q, e23⟩ P23
  rw [e23] at P23
  have N23 := Fr.app N22 N23q
  rw [show (((4 : Int32)).toInt64 * ((Int32.ofNat ((n + 2) / 3))).toInt64).toInt32 = (Int32.ofNat (4 * ((n + 2) / 3))) from Own.mulN4 (by omega)]
  refine Own.istoreN (q := 21) (L2 := #[.val (.ref ee), .val (.int (Int32.ofNat n)), .val (.int (1 : Int32)), .val (.int (Int32.ofNat (4 * ((n + 2) / 3)))), .unset]) P23 (dc s26 12 rfl) rfl rfl ?_
  refine Own.goto (q := 53) P23 (dc s26 13 rfl) (by decide) ?_
  refine Own.aloadN (q := 54) P23 (dc s26 14 rfl) rfl rfl rfl ?_
  refine Own.getfield (q := 57) P23 (dc s26 15 rfl) (wd hw 117 rfl) en.2.2.2.1 rfl ?_
  intro T24 P24
  refine Own.if_le (q := 60) (qy := 79) P24 (dc s26 16 rfl) (by decide) rfl (fun _ => ?_) (fun q => absurd q (by decide))
  refine Own.goto (q := 100) P24 (dc s26 17 rfl) (by decide) ?_
  refine Own.iloadN (q := 101) P24 (dc s26 18 rfl) rfl rfl ?_
  refine Own.retI P24 (dc s26 19 rfl) hret hlk (by decide) (by decide) ?_
  exact ⟨rfl, N23, rfl⟩
theorem pd_9 : parseMethodDescriptor "(IZ)I" = some ⟨[.int, .boolean], some .int⟩ := by decide +kernel
theorem vw_12 {Z : State} {a0 : Array Value} (hw : HW a0 Z) : Own.VX Z a0 "java/util/Base64$Encoder" ⟨"java/util/Base64$Encoder", "encodedOutLength", "(IZ)I"⟩ ⟨"java/util/Base64$Encoder", "encodedOutLength", "(IZ)I"⟩ jdk_2452_method_2_code 5 (some .int) [(2, 79, 82, 33)] 2 := ⟨(Own.declOfW (wd hw 104 rfl) (wd hw 107 rfl)), (wd hw 106 rfl), (wd hw 104 rfl), (wd hw 92 rfl), (wd hw 107 rfl), by decide, _, _, pd_9, rfl⟩
theorem pd_10 : parseMethodDescriptor "([BII[B)I" = some ⟨[(.array .byte), .int, .int, (.array .byte)], some .int⟩ := by decide +kernel
theorem vw_13 {Z : State} {a0 : Array Value} (hw : HW a0 Z) : Own.VW Z a0 "java/util/Base64$Encoder" ⟨"java/util/Base64$Encoder", "encode0", "([BII[B)I"⟩ ⟨"java/util/Base64$Encoder", "encode0", "([BII[B)I"⟩ jdk_2452_method_10_code 16 (some .int) 4 := ⟨(Own.declOf (wd hw 120 rfl) (wd hw 123 rfl)), (wd hw 122 rfl), (wd hw 120 rfl), (wd hw 92 rfl), (wd hw 123 rfl), by decide, _, _, pd_10, rfl⟩
theorem s27 : decs jdk_2452_method_3_code [(0, .aload_n 0, 1), (1, .aload_n 1, 1), (2, .arraylength, 1), (3, .iconst 1, 1), (4, .invokevirtual 42, 3), (7, .istore_n 2, 1), (8, .iload_n 2, 1), (9, .newarray .byte, 2), (11, .astore_n 3, 1), (12, .aload_n 0, 1), (13, .aload_n 1, 1), (14, .iconst 0, 1), (15, .aload_n 1, 1), (16, .arraylength, 1), (17, .aload_n 3, 1), (18, .invokevirtual 46, 3), (21, .istore 4, 2), (23, .iload 4, 2), (25, .aload_n 3, 1), (26, .arraylength, 1), (27, .if_icmp .eq 10, 3), (37, .aload_n 3, 1), (38, .areturn, 1)] = true := by decide +kernel
theorem pn_16 : plainFor (⟨"java/util/Base64$Encoder", "encode", "([B)[B"⟩ : MethodName) = true := by first | exact plainFor_of_name (by first | (simp [plainName, overriddenIn]; done) | decide +kernel) | decide +kernel
def QrmEnc (Z : State) (ee : Addr) (tt : Addr) (kt : ClassId) (t1 : Addr) (k1 : ClassId) (us : List Int32) (h0 : Heap) (n0 : Nat) (v : Option Value) (h : Heap) (L : List Loc) : Prop := ∃ r k, v = some (.ref r) ∧ Fr n0 L ∧ Ext h0 h ∧ h0.size ≤ r ∧ Arv Z h r k .byte (Int32.ofNat (Own.encL us).length) (((Own.encL us).map fun c : Int32 => c.toInt8.toInt32).map Value.int) (.int 0) ∧ Exa Z h r "[B"
theorem rmEnc (l : Launch) (Z : State) (a0 : Array Value) (hw : HW a0 Z) (ws : List Jvm.Cond) (ee : Addr) (tt : Addr) (kt : ClassId) (t1 : Addr) (k1 : ClassId) (us : List Int32) (h0 : Heap) (n0 : Nat) (Z0 : n0 ≤ h0.size) (en : Own.EN Z h0 ee tt kt) (A1 : Arv Z h0 t1 k1 .byte (Int32.ofNat us.length) ((us.map fun c : Int32 => c.toInt8.toInt32).map Value.int) (.int 0)) (hp : ∀ c ∈ us, ¬ c < 0 ∧ ¬ (255 : Int32) < c) (hl : 24 ≤ us.length ∧ us.length ≤ 64) :
    Own.MF l Z (⟨"java/util/Base64$Encoder", "encode", "([B)[B"⟩ : MethodName) jdk_2452_method_3_code 5 (some (.array .byte)) ws (⟨2, 1, 100, 60⟩ : Room) #[(.ref ee), (.ref t1)] h0 (QrmEnc Z ee tt kt t1 k1 us h0 n0) := by
  refine Own.MF.of (own := "java/util/Base64$Encoder") (n := 5) rfl rfl pn_16 (fun p e s m below meth c s₁ hml hlk hret hnm P0 => ?_)
  rw [show entryFrame m #[(.ref ee), (.ref t1)] 5 = mkF m 0 #[.val (.ref ee), .val (.ref t1), .unset, .unset, .unset] [] from by first | (simp [entryFrame, mkF, argsToLocals, Value.category]; done) | rfl]
  have hn2 := Own.encL_len us
  refine Own.aloadN (q := 1) P0 (dc s27 0 rfl) rfl rfl rfl ?_
  refine Own.aloadN (q := 2) P0 (dc s27 1 rfl) rfl rfl rfl ?_
  refine Own.arraylength (q := 3) P0 (dc s27 2 rfl) A1 rfl ?_
  refine Own.iconst (q := 4) (v := (1 : Int32)) P0 (dc s27 3 rfl) rfl rfl ?_
  refine Own.cX (q := 7) (W := 0) (rest := []) P0 (dc s27 4 rfl) (wd hw 103 rfl) (vw_12 hw) (Own.nfs P0 (wd hw 106 rfl)) en.2.1 (rmEol l Z a0 hw [] ee tt kt us.length h0 n0 Z0 en (by omega)) (by decide) (by decide) rfl (hml rfl) rfl rfl (by decide) (by decide) rfl ?_
  rintro v21 T21 h21 L21 ⟨rfl, N21q, e21⟩ P21
  rw [e21] at P21
  have N21 := Fr.app (Fr.nil n0) N21q
  rw [show (Int32.ofNat (4 * ((us.length + 2) / 3))) = (Int32.ofNat (Own.encL us).length) from (by rw [hn2])]
  refine Own.istoreN (q := 8) (L2 := #[.val (.ref ee), .val (.ref t1), .val (.int (Int32.ofNat (Own.encL us).length)), .unset, .unset]) P21 (dc s27 5 rfl) rfl rfl ?_
  refine Own.iloadN (q := 9) P21 (dc s27 6 rfl) rfl rfl ?_
  refine Own.newarrE (q := 11) (cap := 100) P21 (dc s27 7 rfl) (wd hw 1 rfl) (Own.nneg (by omega)) (by rw [Own.clamp (by omega)]; exact (by omega)) (by decide) (by decide) (by decide) rfl ?_
  intro T22 h22 a22 k22 ha22 P22 E22 A22 X22
  have V22 : Arv Z h22 a22 k22 .byte (Int32.ofNat (Own.encL us).length) (List.replicate (Own.encL us).length (.int 0)) (.int 0) := Arv.pad A22 (pad_rep [] _ _)
  refine Own.astoreN (q := 12) (L2 := #[.val (.ref ee), .val (.ref t1), .val (.int (Int32.ofNat (Own.encL us).length)), .val (.ref a22), .unset]) P22 (dc s27 8 rfl) rfl rfl rfl ?_
  refine Own.aloadN (q := 13) P22 (dc s27 9 rfl) rfl rfl rfl ?_
  refine Own.aloadN (q := 14) P22 (dc s27 10 rfl) rfl rfl rfl ?_
  refine Own.iconst (q := 15) (v := (0 : Int32)) P22 (dc s27 11 rfl) rfl rfl ?_
  refine Own.aloadN (q := 16) P22 (dc s27 12 rfl) rfl rfl rfl ?_
  have E0_1_23 : Ext h0 h22 := E22
  refine Own.arraylength (q := 17) P22 (dc s27 13 rfl) (A1.ext E0_1_23) rfl ?_
  refine Own.aloadN (q := 18) P22 (dc s27 14 rfl) rfl rfl rfl ?_
  have V24 : Arv Z h22 a22 k22 .byte (Int32.ofNat (Own.encL us).length) (((([] : List Int32).map fun c : Int32 => c.toInt8.toInt32).map Value.int) ++ List.replicate ((Own.encL us).length - ([] : List Int32).length) (Value.int 0)) (.int 0) := by
    rw [show (((([] : List Int32).map fun c : Int32 => c.toInt8.toInt32).map Value.int) ++ List.replicate ((Own.encL us).length - ([] : List Int32).length) (Value.int 0)) = List.replicate (Own.encL us).length (Value.int 0) by simp]
    exact V22
  refine Own.cV (q := 21) (W := 0) (rest := []) P22 (dc s27 15 rfl) (wd hw 119 rfl) (vw_13 hw) (Own.nfs P22 (wd hw 122 rfl)) (en.2.1.ext E0_1_23) (rmE0 l Z a0 hw [] ee tt kt t1 k1 us a22 k22 (Own.encL us).length (us.length / 3) h22 n0 (Nat.le_trans Z0 E0_1_23.1) (en.ext E0_1_23) (A1.ext E0_1_23) hp hl V24 rfl rfl (Nat.ne_of_lt (Nat.lt_of_lt_of_le A1.lt (Nat.le_of_eq ha22.symm))) (Nat.ne_of_lt (Nat.lt_of_lt_of_le en.2.2.2.2.2.2.lt (Nat.le_of_eq ha22.symm))) (Nat.ne_of_lt (Nat.lt_of_lt_of_le en.2.1.lt (Nat.le_of_eq ha22.symm))) (Nat.le_trans Z0 (Nat.le_of_eq ha22.symm))) (by decide) (by decide) rfl (hml rfl) rfl rfl (by decide) (by decide) rfl ?_
  rintro v25 T25 h25 L25 ⟨rfl, N25q, K25, A25⟩ P25
  have N25 := Fr.app N21 N25q
  refine Own.istore (q := 23) (L2 := #[.val (.ref ee), .val (.ref t1), .val (.int (Int32.ofNat (Own.encL us).length)), .val (.ref a22), .val (.int (Int32.ofNat (Own.encL us).length))]) P25 (dc s27 16 rfl) rfl rfl ?_
  refine Own.iload (q := 25) P25 (dc s27 17 rfl) rfl rfl ?_
  refine Own.aloadN (q := 26) P25 (dc s27 18 rfl) rfl rfl rfl ?_
  refine Own.arraylength (q := 27) P25 (dc s27 19 rfl) A25 rfl ?_
  refine Own.icmp_eq (q := 30) (qy := 37) P25 (dc s27 20 rfl) (by decide) rfl (fun _ => ?_) (fun q => absurd rfl q)
  refine Own.aloadN (q := 38) P25 (dc s27 21 rfl) rfl rfl rfl ?_
  have E0_2_26 : Ext h0 h25 := (Own.Ext.kp E0_1_23 K25 (allS (Nat.le_of_eq ha22.symm) all0))
  have qf27 := (X22.keep K25)
  refine Own.retA P25 (dc s27 22 rfl) hret rfl rfl rfl hlk (by decide) (by decide) ?_
  exact ⟨a22, _, rfl, N25, E0_2_26, (Nat.le_of_eq ha22.symm), A25, qf27⟩
theorem s28 : decs jdk_65_method_132_code [(0, .iload_n 1, 1), (1, .ifCond .ne 9, 3), (4, .iload_n 2, 1), (5, .aload_n 0, 1), (6, .arraylength, 1), (7, .if_icmp .eq 10, 3), (17, .aload_n 0, 1), (18, .invokevirtual 310, 3), (21, .checkcast 311, 3), (24, .areturn, 1)] = true := by decide +kernel
theorem pn_25 : plainFor (⟨"java/util/Arrays", "copyOfRange", "([BII)[B"⟩ : MethodName) = true := by first | exact plainFor_of_name (by first | (simp [plainName, overriddenIn]; done) | decide +kernel) | decide +kernel
def QrmCrc (Z : State) (t1 : Addr) (k1 : ClassId) (us : List Int32) (h0 : Heap) (n0 : Nat) (v : Option Value) (h : Heap) (L : List Loc) : Prop := ∃ r, v = some (.ref r) ∧ Fr n0 L ∧ Ext h0 h ∧ h0.size ≤ r ∧ Arv Z h r k1 .byte (Int32.ofNat us.length) ((us.map fun c : Int32 => c.toInt8.toInt32).map Value.int) (.int 0) ∧ Exa Z h r "[B"
theorem rmCrc (l : Launch) (Z : State) (a0 : Array Value) (hw : HW a0 Z) (ws : List Jvm.Cond) (t1 : Addr) (k1 : ClassId) (us : List Int32) (h0 : Heap) (n0 : Nat) (Z0 : n0 ≤ h0.size) (A1 : Arv Z h0 t1 k1 .byte (Int32.ofNat us.length) ((us.map fun c : Int32 => c.toInt8.toInt32).map Value.int) (.int 0)) (X1 : Exa Z h0 t1 "[B") (hl : us.length ≤ 100) :
    Own.MF l Z (⟨"java/util/Arrays", "copyOfRange", "([BII)[B"⟩ : MethodName) jdk_65_method_132_code 3 (some (.array .byte)) ws (⟨1, 1, 100, 14⟩ : Room) #[(.ref t1), (.int (0 : Int32)), (.int (Int32.ofNat us.length))] h0 (QrmCrc Z t1 k1 us h0 n0) := by
  refine Own.MF.of (own := "java/util/Arrays") (n := 3) rfl rfl pn_25 (fun p e s m below meth c s₁ hml hlk hret hnm P0 => ?_)
  rw [show entryFrame m #[(.ref t1), (.int (0 : Int32)), (.int (Int32.ofNat us.length))] 3 = mkF m 0 #[.val (.ref t1), .val (.int (0 : Int32)), .val (.int (Int32.ofNat us.length))] [] from by first | (simp [entryFrame, mkF, argsToLocals, Value.category]; done) | rfl]
  refine Own.iloadN (q := 1) P0 (dc s28 0 rfl) rfl rfl ?_
  refine Own.if_ne (q := 4) (qy := 10) P0 (dc s28 1 rfl) (by decide) rfl (fun q => absurd rfl q) (fun _ => ?_)
  refine Own.iloadN (q := 5) P0 (dc s28 2 rfl) rfl rfl ?_
  refine Own.aloadN (q := 6) P0 (dc s28 3 rfl) rfl rfl rfl ?_
  refine Own.arraylength (q := 7) P0 (dc s28 4 rfl) A1 rfl ?_
  refine Own.icmp_eq (q := 10) (qy := 17) P0 (dc s28 5 rfl) (by decide) rfl (fun _ => ?_) (fun q => absurd rfl q)
  refine Own.aloadN (q := 18) P0 (dc s28 6 rfl) rfl rfl rfl ?_
  refine Own.cloneArr (q := 21) (W := 0) (cap := 100) P0 (dc s28 7 rfl) (wd hw 153 rfl) (wd hw 154 rfl) (wd hw 158 rfl) (wd hw 156 rfl) (wd hw 157 rfl) (wd hw 159 rfl) A1 X1 (hml rfl) (by decide) (Own.w0 rfl) (by decide) (by rw [Own.clamp (by omega)]; exact hl) (by decide) (by decide) rfl ?_
  intro T21 h21 r21 ha21 P21 E21 A21 B21
  refine Own.castTo (q := 24) P21 (dc s28 8 rfl) (wd hw 160 rfl) (Ins.self B21) rfl ?_
  intro T22 P22
  have E0_1_23 : Ext h0 h21 := E21
  refine Own.retA P22 (dc s28 9 rfl) hret rfl rfl rfl hlk (by decide) (by decide) ?_
  exact ⟨r21, rfl, (Fr.nil n0), E0_1_23, (Nat.le_of_eq ha21.symm), A21, B21⟩
theorem s29 : decs jdk_41_method_13_code [(0, .iload_n 2, 1), (1, .iload_n 0, 1), (2, .ior, 1), (3, .iload_n 1, 1), (4, .ior, 1), (5, .ifCond .lt 10, 3), (8, .iload_n 1, 1), (9, .iload_n 2, 1), (10, .iload_n 0, 1), (11, .isub, 1), (12, .if_icmp .le 11, 3), (23, .iload_n 0, 1), (24, .ireturn, 1)] = true := by decide +kernel
theorem pn_24 : plainFor (⟨"jdk/internal/util/Preconditions", "checkFromIndexSize", "(IIILjava/util/function/BiFunction;)I"⟩ : MethodName) = true := by first | exact plainFor_of_name (by first | (simp [plainName, overriddenIn]; done) | decide +kernel) | decide +kernel
def QrmCfs (Z : State) (oo : Nat) (cc : Nat) (nn : Nat) (fm : Value) (h0 : Heap) (n0 : Nat) (v : Option Value) (h : Heap) (L : List Loc) : Prop := v = some (.int (Int32.ofNat oo)) ∧ Fr n0 L ∧ h = h0
theorem rmCfs (l : Launch) (Z : State) (a0 : Array Value) (hw : HW a0 Z) (ws : List Jvm.Cond) (oo : Nat) (cc : Nat) (nn : Nat) (fm : Value) (h0 : Heap) (n0 : Nat) (Z0 : n0 ≤ h0.size) (hfm : fm.isRef = true) (hoc : oo + cc ≤ nn) (hn4 : nn ≤ 4000) :
    Own.MF l Z (⟨"jdk/internal/util/Preconditions", "checkFromIndexSize", "(IIILjava/util/function/BiFunction;)I"⟩ : MethodName) jdk_41_method_13_code 4 (some .int) ws (⟨0, 0, 0, 0⟩ : Room) #[(.int (Int32.ofNat oo)), (.int (Int32.ofNat cc)), (.int (Int32.ofNat nn)), fm] h0 (QrmCfs Z oo cc nn fm h0 n0) := by
  refine Own.MF.of (own := "jdk/internal/util/Preconditions") (n := 4) rfl rfl pn_24 (fun p e s m below meth c s₁ hml hlk hret hnm P0 => ?_)
  rw [show entryFrame m #[(.int (Int32.ofNat oo)), (.int (Int32.ofNat cc)), (.int (Int32.ofNat nn)), fm] 4 = mkF m 0 #[.val (.int (Int32.ofNat oo)), .val (.int (Int32.ofNat cc)), .val (.int (Int32.ofNat nn)), .val fm] [] from by first | (simp [entryFrame, mkF, argsToLocals, Value.category]; done) | rfl | (rcases Own.refc hfm with rfl | ⟨_, rfl⟩ <;> rfl)]
  refine Own.iloadN (q := 1) P0 (dc s29 0 rfl) rfl rfl ?_
  refine Own.iloadN (q := 2) P0 (dc s29 1 rfl) rfl rfl ?_
  refine Own.ior (q := 3) P0 (dc s29 2 rfl)  rfl ?_
  refine Own.iloadN (q := 4) P0 (dc s29 3 rfl) rfl rfl ?_
  refine Own.ior (q := 5) P0 (dc s29 4 rfl)  rfl ?_
  refine Own.if_lt (q := 8) (qy := 15) P0 (dc s29 5 rfl) (by decide) rfl (fun q => absurd q (Own.or3 (by omega) (by omega) (by omega))) (fun _ => ?_)
  refine Own.iloadN (q := 9) P0 (dc s29 6 rfl) rfl rfl ?_
  refine Own.iloadN (q := 10) P0 (dc s29 7 rfl) rfl rfl ?_
  refine Own.iloadN (q := 11) P0 (dc s29 8 rfl) rfl rfl ?_
  refine Own.isub (q := 12) P0 (dc s29 9 rfl)  rfl ?_
  refine Own.icmp_le (q := 15) (qy := 23) P0 (dc s29 10 rfl) (by decide) rfl (fun _ => ?_) (fun q => absurd q (Own.sub_ge hoc hn4))
  refine Own.iloadN (q := 24) P0 (dc s29 11 rfl) rfl rfl ?_
  refine Own.retI P0 (dc s29 12 rfl) hret hlk (by decide) (by decide) ?_
  exact ⟨rfl, (Fr.nil n0), rfl⟩
theorem pd_11 : parseMethodDescriptor "(IIILjava/util/function/BiFunction;)I" = some ⟨[.int, .int, .int, (.object "java/util/function/BiFunction")], some .int⟩ := by decide +kernel
theorem sw_14 {Z : State} {a0 : Array Value} (hw : HW a0 Z) : Own.SW Z a0 ⟨"jdk/internal/util/Preconditions", "checkFromIndexSize", "(IIILjava/util/function/BiFunction;)I"⟩ jdk_41_method_13_code 4 (some .int) 4 := ⟨(wd hw 147 rfl), (wd hw 145 rfl), (wd hw 148 rfl), by decide, _, _, pd_11, rfl⟩
theorem s30 : decs jdk_42_method_157_code [(0, .iload_n 0, 1), (1, .iload_n 1, 1), (2, .iload_n 2, 1), (3, .getstatic 1053, 3), (6, .invokestatic 1065, 3), (9, .ireturn, 1)] = true := by decide +kernel
theorem pn_23 : plainFor (⟨"java/lang/String", "checkBoundsOffCount", "(III)I"⟩ : MethodName) = true := by first | exact plainFor_of_name (by first | (simp [plainName, overriddenIn]; done) | decide +kernel) | decide +kernel
def QrmCbo (Z : State) (oo : Nat) (cc : Nat) (nn : Nat) (fm : Value) (h0 : Heap) (n0 : Nat) (v : Option Value) (h : Heap) (L : List Loc) : Prop := v = some (.int (Int32.ofNat oo)) ∧ Fr n0 L ∧ h = h0
theorem rmCbo (l : Launch) (Z : State) (a0 : Array Value) (hw : HW a0 Z) (ws : List Jvm.Cond) (oo : Nat) (cc : Nat) (nn : Nat) (fm : Value) (h0 : Heap) (n0 : Nat) (Z0 : n0 ≤ h0.size) (SF : Own.Fst Z h0 fm) (hfm : fm.isRef = true) (hoc : oo + cc ≤ nn) (hn4 : nn ≤ 4000) :
    Own.MF l Z (⟨"java/lang/String", "checkBoundsOffCount", "(III)I"⟩ : MethodName) jdk_42_method_157_code 3 (some .int) ws (⟨1, 0, 0, 15⟩ : Room) #[(.int (Int32.ofNat oo)), (.int (Int32.ofNat cc)), (.int (Int32.ofNat nn))] h0 (QrmCbo Z oo cc nn fm h0 n0) := by
  refine Own.MF.of (own := "java/lang/String") (n := 3) rfl rfl pn_23 (fun p e s m below meth c s₁ hml hlk hret hnm P0 => ?_)
  rw [show entryFrame m #[(.int (Int32.ofNat oo)), (.int (Int32.ofNat cc)), (.int (Int32.ofNat nn))] 3 = mkF m 0 #[.val (.int (Int32.ofNat oo)), .val (.int (Int32.ofNat cc)), .val (.int (Int32.ofNat nn))] [] from by first | (simp [entryFrame, mkF, argsToLocals, Value.category]; done) | rfl]
  refine Own.iloadN (q := 1) P0 (dc s30 0 rfl) rfl rfl ?_
  refine Own.iloadN (q := 2) P0 (dc s30 1 rfl) rfl rfl ?_
  refine Own.iloadN (q := 3) P0 (dc s30 2 rfl) rfl rfl ?_
  refine Own.getstatic (q := 6) P0 (dc s30 3 rfl) (wd hw 144 rfl) SF rfl ?_
  intro T21 P21
  refine Own.cS (q := 9) (W := 0) (rest := []) P21 (dc s30 4 rfl) (wd hw 146 rfl) (sw_14 hw) (rmCfs l Z a0 hw [] oo cc nn fm h0 n0 Z0 hfm hoc hn4) (by decide) (by decide) rfl (hml rfl) rfl rfl (by decide) (by decide) rfl ?_
  rintro v22 T22 h22 L22 ⟨rfl, N22q, e22⟩ P22
  rw [e22] at P22
  have N22 := Fr.app (Fr.nil n0) N22q
  refine Own.retI P22 (dc s30 5 rfl) hret hlk (by decide) (by decide) ?_
  exact ⟨rfl, N22, rfl⟩
theorem pd_12 : parseMethodDescriptor "(III)I" = some ⟨[.int, .int, .int], some .int⟩ := by decide +kernel
theorem sw_15 {Z : State} {a0 : Array Value} (hw : HW a0 Z) : Own.SW Z a0 ⟨"java/lang/String", "checkBoundsOffCount", "(III)I"⟩ jdk_42_method_157_code 3 (some .int) 3 := ⟨(wd hw 142 rfl), (wd hw 26 rfl), (wd hw 143 rfl), by decide, _, _, pd_12, rfl⟩
theorem pd_13 : parseMethodDescriptor "([BII)[B" = some ⟨[(.array .byte), .int, .int], some (.array .byte)⟩ := by decide +kernel
theorem sw_16 {Z : State} {a0 : Array Value} (hw : HW a0 Z) : Own.SW Z a0 ⟨"java/util/Arrays", "copyOfRange", "([BII)[B"⟩ jdk_65_method_132_code 3 (some (.array .byte)) 3 := ⟨(wd hw 150 rfl), (wd hw 151 rfl), (wd hw 152 rfl), by decide, _, _, pd_13, rfl⟩
theorem s31 : decs jdk_42_method_7_code [(0, .aload_n 0, 1), (1, .invokespecial 1, 3), (4, .iload_n 3, 1), (5, .iload 4, 2), (7, .aload_n 1, 1), (8, .arraylength, 1), (9, .invokestatic 34, 3), (12, .pop, 1), (13, .iload 4, 2), (15, .ifCond .ne 22, 3), (37, .getstatic 38, 3), (40, .ifCond .eq 29, 3), (43, .iload_n 2, 1), (44, .i2b, 1), (45, .ifCond .ne 24, 3), (48, .aload_n 0, 1), (49, .aload_n 1, 1), (50, .iload_n 3, 1), (51, .iload_n 3, 1), (52, .iload 4, 2), (54, .iadd, 1), (55, .invokestatic 54, 3), (58, .putfield 9, 3), (61, .aload_n 0, 1), (62, .iconst 0, 1), (63, .putfield 15, 3), (66, .goto 61, 3), (127, .return_, 1)] = true := by decide +kernel
theorem pn_22 : plainFor (⟨"java/lang/String", "<init>", "([BIII)V"⟩ : MethodName) = true := by first | exact plainFor_of_name (by first | (simp [plainName, overriddenIn]; done) | decide +kernel) | decide +kernel
def QrmHi (Z : State) (a1 : Addr) (u1 : Value) (u2 : Value) (t1 : Addr) (k1 : ClassId) (us : List Int32) (zc : Int32) (fm : Value) (h0 : Heap) (n0 : Nat) (v : Option Value) (h : Heap) (L : List Loc) : Prop := v = none ∧ Fr n0 L ∧ Keep h0 h [a1] ∧ Own.Str Z h a1 us
theorem rmHi (l : Launch) (Z : State) (a0 : Array Value) (hw : HW a0 Z) (ws : List Jvm.Cond) (a1 : Addr) (u1 : Value) (u2 : Value) (t1 : Addr) (k1 : ClassId) (us : List Int32) (zc : Int32) (fm : Value) (h0 : Heap) (n0 : Nat) (Z0 : n0 ≤ h0.size) (SC : Own.Cst Z h0 zc) (hzc : ¬ zc = 0) (SF : Own.Fst Z h0 fm) (hfm : fm.isRef = true) (E_a1 : Exa Z h0 a1 "java/lang/String") (f1 : Fld Z h0 a1 "java/lang/String" "value" "[B" u1) (f2 : Fld Z h0 a1 "java/lang/String" "coder" "B" u2) (g_a1 : n0 ≤ a1) (A1 : Arv Z h0 t1 k1 .byte (Int32.ofNat us.length) ((us.map fun c : Int32 => c.toInt8.toInt32).map Value.int) (.int 0)) (X1 : Exa Z h0 t1 "[B") (hp : ∀ c ∈ us, ¬ c < 0 ∧ ¬ (255 : Int32) < c) (hl : 0 < us.length ∧ us.length ≤ 100) :
    Own.MF l Z (⟨"java/lang/String", "<init>", "([BIII)V"⟩ : MethodName) jdk_42_method_7_code 7 none ws (⟨2, 1, 100, 35⟩ : Room) #[(.ref a1), (.ref t1), (.int (0 : Int32)), (.int (0 : Int32)), (.int (Int32.ofNat us.length))] h0 (QrmHi Z a1 u1 u2 t1 k1 us zc fm h0 n0) := by
  refine Own.MF.of (own := "java/lang/String") (n := 7) rfl rfl pn_22 (fun p e s m below meth c s₁ hml hlk hret hnm P0 => ?_)
  rw [show entryFrame m #[(.ref a1), (.ref t1), (.int (0 : Int32)), (.int (0 : Int32)), (.int (Int32.ofNat us.length))] 7 = mkF m 0 #[.val (.ref a1), .val (.ref t1), .val (.int (0 : Int32)), .val (.int (0 : Int32)), .val (.int (Int32.ofNat us.length)), .unset, .unset] [] from by first | (simp [entryFrame, mkF, argsToLocals, Value.category]; done) | rfl]
  refine Own.aloadN (q := 1) P0 (dc s31 0 rfl) rfl rfl rfl ?_
  refine Own.objinit (q := 4) (W := 0) P0 (dc s31 1 rfl) (wd hw 140 rfl) (wd hw 23 rfl) (wd hw 24 rfl) (hml rfl) (by decide) (Own.w0 rfl) (by decide) rfl ?_
  intro T21 P21
  refine Own.iloadN (q := 5) P21 (dc s31 2 rfl) rfl rfl ?_
  refine Own.iload (q := 7) P21 (dc s31 3 rfl) rfl rfl ?_
  refine Own.aloadN (q := 8) P21 (dc s31 4 rfl) rfl rfl rfl ?_
  refine Own.arraylength (q := 9) P21 (dc s31 5 rfl) A1 rfl ?_
  refine Own.cS (q := 12) (W := 0) (rest := []) P21 (dc s31 6 rfl) (wd hw 141 rfl) (sw_15 hw) (rmCbo l Z a0 hw [] 0 us.length us.length fm h0 n0 Z0 SF hfm (by omega) (by omega)) (by decide) (by decide) rfl (hml rfl) rfl rfl (by decide) (by decide) rfl ?_
  rintro v22 T22 h22 L22 ⟨rfl, N22q, e22⟩ P22
  rw [e22] at P22
  have N22 := Fr.app (Fr.nil n0) N22q
  refine Own.pop (q := 13) P22 (dc s31 7 rfl) rfl rfl ?_
  refine Own.iload (q := 15) P22 (dc s31 8 rfl) rfl rfl ?_
  refine Own.if_ne (q := 18) (qy := 37) P22 (dc s31 9 rfl) (by decide) rfl (fun _ => ?_) (fun q => absurd q (Own.n0_of (by omega) (by omega)))
  refine Own.getstatic (q := 40) P22 (dc s31 10 rfl) (wd hw 58 rfl) SC rfl ?_
  intro T23 P23
  refine Own.if_eq (q := 43) (qy := 69) P23 (dc s31 11 rfl) (by decide) rfl (fun q => absurd q hzc) (fun _ => ?_)
  refine Own.iloadN (q := 44) P23 (dc s31 12 rfl) rfl rfl ?_
  refine Own.i2b (q := 45) P23 (dc s31 13 rfl)  rfl ?_
  refine Own.if_ne (q := 48) (qy := 69) P23 (dc s31 14 rfl) (by decide) rfl (fun q => absurd rfl q) (fun _ => ?_)
  refine Own.aloadN (q := 49) P23 (dc s31 15 rfl) rfl rfl rfl ?_
  refine Own.aloadN (q := 50) P23 (dc s31 16 rfl) rfl rfl rfl ?_
  refine Own.iloadN (q := 51) P23 (dc s31 17 rfl) rfl rfl ?_
  refine Own.iloadN (q := 52) P23 (dc s31 18 rfl) rfl rfl ?_
  refine Own.iload (q := 54) P23 (dc s31 19 rfl) rfl rfl ?_
  refine Own.iadd (q := 55) P23 (dc s31 20 rfl)  rfl ?_
  rw [show ((0 : Int32) + (Int32.ofNat us.length)) = (Int32.ofNat us.length) from Int32.zero_add _]
  refine Own.cS (q := 58) (W := 1) (rest := [(.ref a1)]) P23 (dc s31 21 rfl) (wd hw 149 rfl) (sw_16 hw) (rmCrc l Z a0 hw [] t1 k1 us h0 n0 Z0 A1 X1 (by omega)) (by decide) (by decide) rfl (hml rfl) rfl rfl (by decide) (by decide) rfl ?_
  rintro v24 T24 h24 L24 ⟨r24, rfl, N24q, E24, gr24, B24, X24⟩ P24
  have N24 := Fr.app N22 N24q
  have E0_1_25 : Ext h0 h24 := E24
  refine Own.putfield (q := 61) P24 (dc s31 22 rfl) (wd hw 52 rfl) (f1.ext E0_1_25) (E_a1.ext E0_1_25) (Or.inr ⟨(wd hw 33 rfl), rfl, hnm⟩) (wd hw 32 rfl) (ty := (.array .byte)) (by decide) rfl rfl rfl ?_
  intro T26 h26 lc26 hl26 P26 W26
  have F26_value := Fld.same W26 (f1.ext E0_1_25)
  have F26_coder := (f2.ext E0_1_25).other W26 (Or.inr (slot_ne (Or.inr (wd hw 34 rfl)) (Or.inr (wd hw 33 rfl)) (by decide) (t := .byte) (t' := (.array .byte)) (by decide) (by decide)))
  have A26 := (E_a1.ext E0_1_25).wr W26
  have N26 := Own.Fr.one N24 hl26 g_a1
  refine Own.aloadN (q := 62) P26 (dc s31 23 rfl) rfl rfl rfl ?_
  refine Own.iconst (q := 63) (v := (0 : Int32)) P26 (dc s31 24 rfl) rfl rfl ?_
  refine Own.putfield (q := 66) P26 (dc s31 25 rfl) (wd hw 59 rfl) F26_coder A26 (Or.inr ⟨(wd hw 34 rfl), rfl, hnm⟩) (wd hw 32 rfl) (ty := .byte) (by decide) rfl rfl rfl ?_
  intro T27 h27 lc27 hl27 P27 W27
  have F27_value := F26_value.other W27 (Or.inr (slot_ne (Or.inr (wd hw 33 rfl)) (Or.inr (wd hw 34 rfl)) (by decide) (t := (.array .byte)) (t' := .byte) (by decide) (by decide)))
  have F27_coder := Fld.same W27 F26_coder
  have A27 := A26.wr W27
  have N27 := Own.Fr.one N26 hl27 g_a1
  refine Own.goto (q := 127) P27 (dc s31 26 rfl) (by decide) ?_
  have qf28 := (Arv.keep B24 (Keep.of_wr W26) (ninS (Ne.symm (Exa.neArv (E_a1.ext E24) B24 (wd hw 32 rfl))) nin0))
  have qf29 := (Arv.keep qf28 (Keep.of_wr W27) (ninS (Ne.symm (Exa.neArv A26 qf28 (wd hw 32 rfl))) nin0))
  refine Own.retV P27 (dc s31 27 rfl) hret hlk (by decide) (by decide) ?_
  exact ⟨rfl, N27, (Keep.wr (Keep.wr (Keep.ext (Keep.refl h0 _) E24) W26 (Or.inl (by simp))) W27 (Or.inl (by simp))), ⟨_, _, A27, F27_value, F27_coder, qf29⟩, hp, by omega⟩
theorem s32 : decs jdk_2448_method_2_code [(0, .getstatic 7, 3), (3, .areturn, 1)] = true := by decide +kernel
theorem pn_14 : plainFor (⟨"java/util/Base64", "getEncoder", "()Ljava/util/Base64$Encoder;"⟩ : MethodName) = true := by first | exact plainFor_of_name (by first | (simp [plainName, overriddenIn]; done) | decide +kernel) | decide +kernel
def QrmGe (Z : State) (ee : Addr) (tt : Addr) (kt : ClassId) (h0 : Heap) (n0 : Nat) (v : Option Value) (h : Heap) (L : List Loc) : Prop := v = some (.ref ee) ∧ Fr n0 L ∧ h = h0
theorem rmGe (l : Launch) (Z : State) (a0 : Array Value) (hw : HW a0 Z) (ws : List Jvm.Cond) (ee : Addr) (tt : Addr) (kt : ClassId) (h0 : Heap) (n0 : Nat) (Z0 : n0 ≤ h0.size) (en : Own.EN Z h0 ee tt kt) :
    Own.MF l Z (⟨"java/util/Base64", "getEncoder", "()Ljava/util/Base64$Encoder;"⟩ : MethodName) jdk_2448_method_2_code 0 (some (.object "java/util/Base64$Encoder")) ws (⟨0, 0, 0, 0⟩ : Room) #[] h0 (QrmGe Z ee tt kt h0 n0) := by
  refine Own.MF.of (own := "java/util/Base64") (n := 0) rfl rfl pn_14 (fun p e s m below meth c s₁ hml hlk hret hnm P0 => ?_)
  rw [show entryFrame m #[] 0 = mkF m 0 #[] [] from by first | (simp [entryFrame, mkF, argsToLocals, Value.category]; done) | rfl]
  refine Own.getstatic (q := 3) P0 (dc s32 0 rfl) (wd hw 91 rfl) en.1 rfl ?_
  intro T21 P21
  refine Own.retA P21 (dc s32 1 rfl) hret rfl rfl rfl hlk (by decide) (by decide) ?_
  exact ⟨rfl, (Fr.nil n0), rfl⟩
theorem pd_14 : parseMethodDescriptor "([B)[B" = some ⟨[(.array .byte)], some (.array .byte)⟩ := by decide +kernel
theorem vw_17 {Z : State} {a0 : Array Value} (hw : HW a0 Z) : Own.VW Z a0 "java/util/Base64$Encoder" ⟨"java/util/Base64$Encoder", "encode", "([B)[B"⟩ ⟨"java/util/Base64$Encoder", "encode", "([B)[B"⟩ jdk_2452_method_3_code 5 (some (.array .byte)) 1 := ⟨(wd hw 99 rfl), (wd hw 101 rfl), (wd hw 100 rfl), (wd hw 92 rfl), (wd hw 102 rfl), by decide, _, _, pd_14, rfl⟩
theorem pd_15 : parseMethodDescriptor "([BIII)V" = some ⟨[(.array .byte), .int, .int, .int], none⟩ := by decide +kernel
theorem iw_18 {Z : State} {a0 : Array Value} (hw : HW a0 Z) : Own.IW Z a0 ⟨"java/lang/String", "<init>", "([BIII)V"⟩ jdk_42_method_7_code 7 4 := ⟨rfl, (wd hw 137 rfl), (wd hw 26 rfl), (wd hw 139 rfl), by decide, _, _, pd_15, rfl⟩
theorem s33 : decs jdk_2452_method_5_code [(0, .aload_n 0, 1), (1, .aload_n 1, 1), (2, .invokevirtual 61, 3), (5, .astore_n 2, 1), (6, .new 65, 3), (9, .dup, 1), (10, .aload_n 2, 1), (11, .iconst 0, 1), (12, .iconst 0, 1), (13, .aload_n 2, 1), (14, .arraylength, 1), (15, .invokespecial 67, 3), (18, .areturn, 1)] = true := by decide +kernel
theorem pn_15 : plainFor (⟨"java/util/Base64$Encoder", "encodeToString", "([B)Ljava/lang/String;"⟩ : MethodName) = true := by first | exact plainFor_of_name (by first | (simp [plainName, overriddenIn]; done) | decide +kernel) | decide +kernel
def QrmEts (Z : State) (ee : Addr) (tt : Addr) (kt : ClassId) (t1 : Addr) (k1 : ClassId) (us : List Int32) (zc : Int32) (fm : Value) (h0 : Heap) (n0 : Nat) (v : Option Value) (h : Heap) (L : List Loc) : Prop := ∃ r, v = some (.ref r) ∧ Fr n0 L ∧ Ext h0 h ∧ h0.size ≤ r ∧ Own.Str Z h r (Own.encL us)
theorem rmEts (l : Launch) (Z : State) (a0 : Array Value) (hw : HW a0 Z) (ws : List Jvm.Cond) (ee : Addr) (tt : Addr) (kt : ClassId) (t1 : Addr) (k1 : ClassId) (us : List Int32) (zc : Int32) (fm : Value) (h0 : Heap) (n0 : Nat) (Z0 : n0 ≤ h0.size) (en : Own.EN Z h0 ee tt kt) (SC : Own.Cst Z h0 zc) (hzc : ¬ zc = 0) (SF : Own.Fst Z h0 fm) (hfm : fm.isRef = true) (A1 : Arv Z h0 t1 k1 .byte (Int32.ofNat us.length) ((us.map fun c : Int32 => c.toInt8.toInt32).map Value.int) (.int 0)) (hp : ∀ c ∈ us, ¬ c < 0 ∧ ¬ (255 : Int32) < c) (hl : 24 ≤ us.length ∧ us.length ≤ 64) :
    Own.MF l Z (⟨"java/util/Base64$Encoder", "encodeToString", "([B)Ljava/lang/String;"⟩ : MethodName) jdk_2452_method_5_code 3 (some (.object "java/lang/String")) ws (⟨3, 3, 204, 80⟩ : Room) #[(.ref ee), (.ref t1)] h0 (QrmEts Z ee tt kt t1 k1 us zc fm h0 n0) := by
  refine Own.MF.of (own := "java/util/Base64$Encoder") (n := 3) rfl rfl pn_15 (fun p e s m below meth c s₁ hml hlk hret hnm P0 => ?_)
  rw [show entryFrame m #[(.ref ee), (.ref t1)] 3 = mkF m 0 #[.val (.ref ee), .val (.ref t1), .unset] [] from by first | (simp [entryFrame, mkF, argsToLocals, Value.category]; done) | rfl]
  have hn2 := Own.encL_len us
  refine Own.aloadN (q := 1) P0 (dc s33 0 rfl) rfl rfl rfl ?_
  refine Own.aloadN (q := 2) P0 (dc s33 1 rfl) rfl rfl rfl ?_
  refine Own.cV (q := 5) (W := 0) (rest := []) P0 (dc s33 2 rfl) (wd hw 98 rfl) (vw_17 hw) (Own.nfs P0 (wd hw 101 rfl)) en.2.1 (rmEnc l Z a0 hw [] ee tt kt t1 k1 us h0 n0 Z0 en A1 hp hl) (by decide) (by decide) rfl (hml rfl) rfl rfl (by decide) (by decide) rfl ?_
  rintro v21 T21 h21 L21 ⟨r21, k21, rfl, N21q, E21, gr21, B21, X21⟩ P21
  have N21 := Fr.app (Fr.nil n0) N21q
  refine Own.astoreN (q := 6) (L2 := #[.val (.ref ee), .val (.ref t1), .val (.ref r21)]) P21 (dc s33 3 rfl) rfl rfl rfl ?_
  refine Own.newobj (q := 9) P21 (dc s33 4 rfl) (wd hw 135 rfl) (wd hw 32 rfl) (wd hw 26 rfl) (by decide) (by decide) rfl ?_
  intro T22 h22 a22 ha22 P22 E22 A22 D22
  have F22_value : Fld Z h22 a22 "java/lang/String" "value" "[B" .null := D22 (Or.inr (wd hw 33 rfl)) (ty := (.array .byte)) (by decide)
  have F22_coder : Fld Z h22 a22 "java/lang/String" "coder" "B" (.int (0 : Int32)) := D22 (Or.inr (wd hw 34 rfl)) (ty := .byte) (by decide)
  refine Own.dup (q := 10) P22 (dc s33 5 rfl) rfl rfl ?_
  refine Own.aloadN (q := 11) P22 (dc s33 6 rfl) rfl rfl rfl ?_
  refine Own.iconst (q := 12) (v := (0 : Int32)) P22 (dc s33 7 rfl) rfl rfl ?_
  refine Own.iconst (q := 13) (v := (0 : Int32)) P22 (dc s33 8 rfl) rfl rfl ?_
  refine Own.aloadN (q := 14) P22 (dc s33 9 rfl) rfl rfl rfl ?_
  have E1_2_23 : Ext h21 h22 := E22
  refine Own.arraylength (q := 15) P22 (dc s33 10 rfl) (B21.ext E1_2_23) rfl ?_
  have E0_1_24 : Ext h0 h21 := E21
  have E0_2_25 : Ext h0 h22 := (Own.Ext.tr E0_1_24 E22)
  refine Own.cI (q := 18) (W := 1) (rest := [(.ref a22)]) P22 (dc s33 11 rfl) (wd hw 136 rfl) (iw_18 hw) (rmHi l Z a0 hw [] a22 .null (.int (0 : Int32)) r21 k21 (Own.encL us) zc fm h22 n0 (Nat.le_trans Z0 E0_2_25.1) (SC.ext E0_2_25) hzc (SF.ext E0_2_25) hfm A22 F22_value F22_coder (Nat.le_trans Z0 (Nat.le_trans E0_1_24.1 (Nat.le_of_eq ha22.symm))) (B21.ext E1_2_23) (X21.ext E1_2_23) (Own.encL_rng hp) (by omega)) (by decide) (by decide) rfl (hml rfl) rfl rfl (by decide) (by decide) rfl ?_
  rintro v26 T26 h26 L26 ⟨rfl, N26q, K26, St26⟩ P26
  have N26 := Fr.app N21 N26q
  have E0_3_27 : Ext h0 h26 := (Own.Ext.kp E0_2_25 K26 (allS (Nat.le_trans E0_1_24.1 (Nat.le_of_eq ha22.symm)) all0))
  refine Own.retA P26 (dc s33 12 rfl) hret rfl rfl rfl hlk (by decide) (by decide) ?_
  exact ⟨_, rfl, N26, E0_3_27, (Nat.le_trans E0_1_24.1 (Nat.le_of_eq ha22.symm)), St26⟩
theorem sw_19 {Z : State} {a0 : Array Value} (hw : HW a0 Z) : Own.SW Z a0 ⟨"java/lang/Math", "max", "(II)I"⟩ jdk_29_method_65_code 2 (some .int) 2 := ⟨(wd hw 172 rfl), (wd hw 112 rfl), (wd hw 173 rfl), by decide, _, _, pd_7, rfl⟩
theorem s34 : decs jdk_48_method_27_code [(0, .iload_n 0, 1), (1, .iload_n 1, 1), (2, .iload_n 2, 1), (3, .invokestatic 194, 3), (6, .iadd, 1), (7, .istore_n 3, 1), (8, .iconst 0, 1), (9, .iload_n 3, 1), (10, .if_icmp .ge 11, 3), (13, .iload_n 3, 1), (14, .ldc 200, 2), (16, .if_icmp .gt 5, 3), (19, .iload_n 3, 1), (20, .ireturn, 1)] = true := by decide +kernel
theorem pn_27 : plainFor (⟨"jdk/internal/util/ArraysSupport", "newLength", "(III)I"⟩ : MethodName) = true := by first | exact plainFor_of_name (by first | (simp [plainName, overriddenIn]; done) | decide +kernel) | decide +kernel
def QrmNl (Z : State) (mm : Nat) (h0 : Heap) (n0 : Nat) (v : Option Value) (h : Heap) (L : List Loc) : Prop := v = some (.int (Int32.ofNat mm)) ∧ Fr n0 L ∧ h = h0
theorem rmNl (l : Launch) (Z : State) (a0 : Array Value) (hw : HW a0 Z) (ws : List Jvm.Cond) (mm : Nat) (h0 : Heap) (n0 : Nat) (Z0 : n0 ≤ h0.size) (hm : 34 ≤ mm ∧ mm ≤ 100) :
    Own.MF l Z (⟨"jdk/internal/util/ArraysSupport", "newLength", "(III)I"⟩ : MethodName) jdk_48_method_27_code 4 (some .int) ws (⟨1, 0, 0, 14⟩ : Room) #[(.int (16 : Int32)), (.int (Int32.ofNat (mm - 16))), (.int (18 : Int32))] h0 (QrmNl Z mm h0 n0) := by
  refine Own.MF.of (own := "jdk/internal/util/ArraysSupport") (n := 4) rfl rfl pn_27 (fun p e s m below meth c s₁ hml hlk hret hnm P0 => ?_)
  rw [show entryFrame m #[(.int (16 : Int32)), (.int (Int32.ofNat (mm - 16))), (.int (18 : Int32))] 4 = mkF m 0 #[.val (.int (16 : Int32)), .val (.int (Int32.ofNat (mm - 16))), .val (.int (18 : Int32)), .unset] [] from by first | (simp [entryFrame, mkF, argsToLocals, Value.category]; done) | rfl]
  refine Own.iloadN (q := 1) P0 (dc s34 0 rfl) rfl rfl ?_
  refine Own.iloadN (q := 2) P0 (dc s34 1 rfl) rfl rfl ?_
  refine Own.iloadN (q := 3) P0 (dc s34 2 rfl) rfl rfl ?_
  refine Own.cS (q := 6) (W := 1) (rest := [(.int (16 : Int32))]) P0 (dc s34 3 rfl) (wd hw 171 rfl) (sw_19 hw) (rmMax l Z a0 hw [] (Int32.ofNat (mm - 16)) (18 : Int32) h0 n0 Z0 ) (by decide) (by decide) rfl (hml rfl) rfl rfl (by decide) (by decide) rfl ?_
  rintro v21 T21 h21 L21 ⟨rfl, N21q, e21⟩ P21
  rw [e21] at P21
  have N21 := Fr.app (Fr.nil n0) N21q
  rw [show (if (Int32.ofNat (mm - 16)) < (18 : Int32) then (18 : Int32) else (Int32.ofNat (mm - 16))) = (Int32.ofNat (mm - 16)) from Own.maxG hm]
  refine Own.iadd (q := 7) P21 (dc s34 4 rfl)  rfl ?_
  rw [show ((16 : Int32) + (Int32.ofNat (mm - 16))) = (Int32.ofNat mm) from (by rw [show Int32.ofNat mm = Int32.ofNat (16 + (mm - 16)) from by rw [show 16 + (mm - 16) = mm by omega]]; exact (Int32.ofNat_add 16 (mm - 16)).symm)]
  refine Own.istoreN (q := 8) (L2 := #[.val (.int (16 : Int32)), .val (.int (Int32.ofNat (mm - 16))), .val (.int (18 : Int32)), .val (.int (Int32.ofNat mm))]) P21 (dc s34 5 rfl) rfl rfl ?_
  refine Own.iconst (q := 9) (v := (0 : Int32)) P21 (dc s34 6 rfl) rfl rfl ?_
  refine Own.iloadN (q := 10) P21 (dc s34 7 rfl) rfl rfl ?_
  refine Own.icmp_ge (q := 13) (qy := 21) P21 (dc s34 8 rfl) (by decide) rfl (fun q => absurd (Own.ltN (a := 0) (b := mm) (by omega) (by omega) (by omega)) q) (fun _ => ?_)
  refine Own.iloadN (q := 14) P21 (dc s34 9 rfl) rfl rfl ?_
  refine Own.ldcI (q := 16) (v := (2147483639 : Int32)) P21 (dc s34 10 rfl) (wd hw 174 rfl) rfl ?_
  refine Own.icmp_gt (q := 19) (qy := 21) P21 (dc s34 11 rfl) (by decide) rfl (fun q => absurd q (Own.big (by omega))) (fun _ => ?_)
  refine Own.iloadN (q := 20) P21 (dc s34 12 rfl) rfl rfl ?_
  refine Own.retI P21 (dc s34 13 rfl) hret hlk (by decide) (by decide) ?_
  exact ⟨rfl, N21, rfl⟩
theorem sw_20 {Z : State} {a0 : Array Value} (hw : HW a0 Z) : Own.SW Z a0 ⟨"jdk/internal/util/ArraysSupport", "newLength", "(III)I"⟩ jdk_48_method_27_code 4 (some .int) 3 := ⟨(wd hw 168 rfl), (wd hw 169 rfl), (wd hw 170 rfl), by decide, _, _, pd_12, rfl⟩
theorem s35 : decs jdk_68_method_10_code [(0, .aload_n 0, 1), (1, .getfield 15, 3), (4, .arraylength, 1), (5, .istore_n 2, 1), (6, .iload_n 1, 1), (7, .aload_n 0, 1), (8, .getfield 22, 3), (11, .ishl, 1), (12, .istore_n 3, 1), (13, .iload_n 3, 1), (14, .iload_n 2, 1), (15, .isub, 1), (16, .istore 4, 2), (18, .iload_n 2, 1), (19, .iload 4, 2), (21, .iload_n 2, 1), (22, .iconst 2, 1), (23, .aload_n 0, 1), (24, .getfield 22, 3), (27, .ishl, 1), (28, .iadd, 1), (29, .invokestatic 114, 3), (32, .istore 5, 2), (34, .iload 5, 2), (36, .ldc 39, 2), (38, .if_icmp .ne 13, 3), (51, .iload 5, 2), (53, .aload_n 0, 1), (54, .getfield 22, 3), (57, .ishr, 1), (58, .ireturn, 1)] = true := by decide +kernel
theorem pn_26 : plainFor (⟨"java/lang/AbstractStringBuilder", "newCapacity", "(I)I"⟩ : MethodName) = true := by first | exact plainFor_of_name (by first | (simp [plainName, overriddenIn]; done) | decide +kernel) | decide +kernel
def QrmNc (Z : State) (a1 : Addr) (t1 : Addr) (kb : ClassId) (cs : List Int32) (mm : Nat) (h0 : Heap) (n0 : Nat) (v : Option Value) (h : Heap) (L : List Loc) : Prop := v = some (.int (Int32.ofNat mm)) ∧ Fr n0 L ∧ h = h0
theorem rmNc (l : Launch) (Z : State) (a0 : Array Value) (hw : HW a0 Z) (ws : List Jvm.Cond) (a1 : Addr) (t1 : Addr) (kb : ClassId) (cs : List Int32) (mm : Nat) (h0 : Heap) (n0 : Nat) (Z0 : n0 ≤ h0.size) (f1 : Own.Bf Z h0 a1 "value" "[B" (.ref t1)) (f2 : Own.Bf Z h0 a1 "coder" "B" (.int 0)) (A_t : Arv Z h0 t1 kb .byte 16 (((cs.map fun c : Int32 => c.toInt8.toInt32).map Value.int) ++ List.replicate (16 - cs.length) (Value.int 0)) (.int 0)) (hm : 34 ≤ mm ∧ mm ≤ 100) :
    Own.MF l Z (⟨"java/lang/AbstractStringBuilder", "newCapacity", "(I)I"⟩ : MethodName) jdk_68_method_10_code 6 (some .int) ws (⟨2, 0, 0, 30⟩ : Room) #[(.ref a1), (.int (Int32.ofNat mm))] h0 (QrmNc Z a1 t1 kb cs mm h0 n0) := by
  refine Own.MF.of (own := "java/lang/AbstractStringBuilder") (n := 6) rfl rfl pn_26 (fun p e s m below meth c s₁ hml hlk hret hnm P0 => ?_)
  rw [show entryFrame m #[(.ref a1), (.int (Int32.ofNat mm))] 6 = mkF m 0 #[.val (.ref a1), .val (.int (Int32.ofNat mm)), .unset, .unset, .unset, .unset] [] from by first | (simp [entryFrame, mkF, argsToLocals, Value.category]; done) | rfl]
  refine Own.aloadN (q := 1) P0 (dc s35 0 rfl) rfl rfl rfl ?_
  refine Own.getfield (q := 4) P0 (dc s35 1 rfl) (wd hw 27 rfl) f1 rfl ?_
  intro T21 P21
  refine Own.arraylength (q := 5) P21 (dc s35 2 rfl) A_t rfl ?_
  refine Own.istoreN (q := 6) (L2 := #[.val (.ref a1), .val (.int (Int32.ofNat mm)), .val (.int (16 : Int32)), .unset, .unset, .unset]) P21 (dc s35 3 rfl) rfl rfl ?_
  refine Own.iloadN (q := 7) P21 (dc s35 4 rfl) rfl rfl ?_
  refine Own.aloadN (q := 8) P21 (dc s35 5 rfl) rfl rfl rfl ?_
  refine Own.getfield (q := 11) P21 (dc s35 6 rfl) (wd hw 29 rfl) f2 rfl ?_
  intro T22 P22
  refine Own.ishl (q := 12) P22 (dc s35 7 rfl)  rfl ?_
  rw [show ((Int32.ofNat mm) <<< ((0 : Int32) &&& 31)) = (Int32.ofNat mm) from Own.shl0 _]
  refine Own.istoreN (q := 13) (L2 := #[.val (.ref a1), .val (.int (Int32.ofNat mm)), .val (.int (16 : Int32)), .val (.int (Int32.ofNat mm)), .unset, .unset]) P22 (dc s35 8 rfl) rfl rfl ?_
  refine Own.iloadN (q := 14) P22 (dc s35 9 rfl) rfl rfl ?_
  refine Own.iloadN (q := 15) P22 (dc s35 10 rfl) rfl rfl ?_
  refine Own.isub (q := 16) P22 (dc s35 11 rfl)  rfl ?_
  rw [show ((Int32.ofNat mm) - (16 : Int32)) = (Int32.ofNat (mm - 16)) from Own.subE (e := mm) (f := 16) (by omega)]
  refine Own.istore (q := 18) (L2 := #[.val (.ref a1), .val (.int (Int32.ofNat mm)), .val (.int (16 : Int32)), .val (.int (Int32.ofNat mm)), .val (.int (Int32.ofNat (mm - 16))), .unset]) P22 (dc s35 12 rfl) rfl rfl ?_
  refine Own.iloadN (q := 19) P22 (dc s35 13 rfl) rfl rfl ?_
  refine Own.iload (q := 21) P22 (dc s35 14 rfl) rfl rfl ?_
  refine Own.iloadN (q := 22) P22 (dc s35 15 rfl) rfl rfl ?_
  refine Own.iconst (q := 23) (v := (2 : Int32)) P22 (dc s35 16 rfl) rfl rfl ?_
  refine Own.aloadN (q := 24) P22 (dc s35 17 rfl) rfl rfl rfl ?_
  refine Own.getfield (q := 27) P22 (dc s35 18 rfl) (wd hw 29 rfl) f2 rfl ?_
  intro T23 P23
  refine Own.ishl (q := 28) P23 (dc s35 19 rfl)  rfl ?_
  refine Own.iadd (q := 29) P23 (dc s35 20 rfl)  rfl ?_
  rw [show ((16 : Int32) + ((2 : Int32) <<< ((0 : Int32) &&& 31))) = (18 : Int32) from rfl]
  refine Own.cS (q := 32) (W := 0) (rest := []) P23 (dc s35 21 rfl) (wd hw 167 rfl) (sw_20 hw) (rmNl l Z a0 hw [] mm h0 n0 Z0 hm) (by decide) (by decide) rfl (hml rfl) rfl rfl (by decide) (by decide) rfl ?_
  rintro v24 T24 h24 L24 ⟨rfl, N24q, e24⟩ P24
  rw [e24] at P24
  have N24 := Fr.app (Fr.nil n0) N24q
  refine Own.istore (q := 34) (L2 := #[.val (.ref a1), .val (.int (Int32.ofNat mm)), .val (.int (16 : Int32)), .val (.int (Int32.ofNat mm)), .val (.int (Int32.ofNat (mm - 16))), .val (.int (Int32.ofNat mm))]) P24 (dc s35 22 rfl) rfl rfl ?_
  refine Own.iload (q := 36) P24 (dc s35 23 rfl) rfl rfl ?_
  refine Own.ldcI (q := 38) (v := (2147483647 : Int32)) P24 (dc s35 24 rfl) (wd hw 175 rfl) rfl ?_
  refine Own.icmp_ne (q := 41) (qy := 51) P24 (dc s35 25 rfl) (by decide) rfl (fun _ => ?_) (fun q => absurd q (Own.nmax (by omega)))
  refine Own.iload (q := 53) P24 (dc s35 26 rfl) rfl rfl ?_
  refine Own.aloadN (q := 54) P24 (dc s35 27 rfl) rfl rfl rfl ?_
  refine Own.getfield (q := 57) P24 (dc s35 28 rfl) (wd hw 29 rfl) f2 rfl ?_
  intro T25 P25
  refine Own.ishr (q := 58) P25 (dc s35 29 rfl)  rfl ?_
  rw [show ((Int32.ofNat mm) >>> ((0 : Int32) &&& 31)) = (Int32.ofNat mm) from Own.shr0 _]
  refine Own.retI P25 (dc s35 30 rfl) hret hlk (by decide) (by decide) ?_
  exact ⟨rfl, N24, rfl⟩
theorem s36 : decs jdk_65_method_121_code [(0, .iload_n 1, 1), (1, .aload_n 0, 1), (2, .arraylength, 1), (3, .if_icmp .ne 11, 3), (14, .iload_n 1, 1), (15, .newarray .byte, 2), (17, .astore_n 2, 1), (18, .aload_n 0, 1), (19, .iconst 0, 1), (20, .aload_n 2, 1), (21, .iconst 0, 1), (22, .aload_n 0, 1), (23, .arraylength, 1), (24, .iload_n 1, 1), (25, .invokestatic 304, 3), (28, .invokestatic 150, 3), (31, .aload_n 2, 1), (32, .areturn, 1)] = true := by decide +kernel
theorem pn_29 : plainFor (⟨"java/util/Arrays", "copyOf", "([BI)[B"⟩ : MethodName) = true := by first | exact plainFor_of_name (by first | (simp [plainName, overriddenIn]; done) | decide +kernel) | decide +kernel
def QrmCof (Z : State) (t1 : Addr) (kb : ClassId) (z : Nat) (vs : List Value) (N : Nat) (h0 : Heap) (n0 : Nat) (v : Option Value) (h : Heap) (L : List Loc) : Prop := ∃ r kr, v = some (.ref r) ∧ Fr n0 L ∧ Ext h0 h ∧ h0.size ≤ r ∧ Arv Z h r kr .byte (Int32.ofNat N) (vs ++ List.replicate (N - z) (.int 0)) (.int 0) ∧ Exa Z h r "[B"
theorem rmCof (l : Launch) (Z : State) (a0 : Array Value) (hw : HW a0 Z) (ws : List Jvm.Cond) (t1 : Addr) (kb : ClassId) (z : Nat) (vs : List Value) (N : Nat) (h0 : Heap) (n0 : Nat) (Z0 : n0 ≤ h0.size) (A_t : Arv Z h0 t1 kb .byte (Int32.ofNat z) vs (.int 0)) (hvl : vs.length = z) (hz : z < N ∧ N ≤ 100) :
    Own.MF l Z (⟨"java/util/Arrays", "copyOf", "([BI)[B"⟩ : MethodName) jdk_65_method_121_code 3 (some (.array .byte)) ws (⟨1, 1, 100, 18⟩ : Room) #[(.ref t1), (.int (Int32.ofNat N))] h0 (QrmCof Z t1 kb z vs N h0 n0) := by
  refine Own.MF.of (own := "java/util/Arrays") (n := 3) rfl rfl pn_29 (fun p e s m below meth c s₁ hml hlk hret hnm P0 => ?_)
  rw [show entryFrame m #[(.ref t1), (.int (Int32.ofNat N))] 3 = mkF m 0 #[.val (.ref t1), .val (.int (Int32.ofNat N)), .unset] [] from by first | (simp [entryFrame, mkF, argsToLocals, Value.category]; done) | rfl]
  refine Own.iloadN (q := 1) P0 (dc s36 0 rfl) rfl rfl ?_
  refine Own.aloadN (q := 2) P0 (dc s36 1 rfl) rfl rfl rfl ?_
  refine Own.arraylength (q := 3) P0 (dc s36 2 rfl) A_t rfl ?_
  refine Own.icmp_ne (q := 6) (qy := 14) P0 (dc s36 3 rfl) (by decide) rfl (fun _ => ?_) (fun q => absurd (Own.ofNat_inj (by omega) (by omega) q) (by omega))
  refine Own.iloadN (q := 15) P0 (dc s36 4 rfl) rfl rfl ?_
  refine Own.newarrE (q := 17) (cap := 100) P0 (dc s36 5 rfl) (wd hw 1 rfl) (Own.nneg (by omega)) (by rw [Own.clamp (by omega)]; exact (by omega)) (by decide) (by decide) (by decide) rfl ?_
  intro T21 h21 a21 k21 ha21 P21 E21 A21 X21
  have V21 : Arv Z h21 a21 k21 .byte (Int32.ofNat N) (List.replicate N (.int 0)) (.int 0) := Arv.pad A21 (pad_rep [] _ _)
  refine Own.astoreN (q := 18) (L2 := #[.val (.ref t1), .val (.int (Int32.ofNat N)), .val (.ref a21)]) P21 (dc s36 6 rfl) rfl rfl rfl ?_
  refine Own.aloadN (q := 19) P21 (dc s36 7 rfl) rfl rfl rfl ?_
  refine Own.iconst (q := 20) (v := (0 : Int32)) P21 (dc s36 8 rfl) rfl rfl ?_
  refine Own.aloadN (q := 21) P21 (dc s36 9 rfl) rfl rfl rfl ?_
  refine Own.iconst (q := 22) (v := (0 : Int32)) P21 (dc s36 10 rfl) rfl rfl ?_
  refine Own.aloadN (q := 23) P21 (dc s36 11 rfl) rfl rfl rfl ?_
  have E0_1_22 : Ext h0 h21 := E21
  refine Own.arraylength (q := 24) P21 (dc s36 12 rfl) (A_t.ext E0_1_22) rfl ?_
  refine Own.iloadN (q := 25) P21 (dc s36 13 rfl) rfl rfl ?_
  refine Own.cS (q := 28) (W := 4) (rest := [(.int (0 : Int32)), (.ref a21), (.int (0 : Int32)), (.ref t1)]) P21 (dc s36 14 rfl) (wd hw 179 rfl) (sw_8 hw) (rmMin l Z a0 hw [] (Int32.ofNat z) (Int32.ofNat N) h21 n0 (Nat.le_trans Z0 E0_1_22.1) ) (by decide) (by decide) rfl (hml rfl) rfl rfl (by decide) (by decide) rfl ?_
  rintro v23 T23 h23 L23 ⟨rfl, N23q, e23⟩ P23
  rw [e23] at P23
  have N23 := Fr.app (Fr.nil n0) N23q
  rw [show (if (Int32.ofNat N) < (Int32.ofNat z) then (Int32.ofNat N) else (Int32.ofNat z)) = (Int32.ofNat z) from Own.minL (by omega) (by omega)]
  refine Own.copyB (q := 31) (W := 0) (n0 := n0) (sp0 := 0) (d := 0) (j := z) (us := vs) P23 N23 (dc s36 15 rfl) (wd hw 180 rfl) (wd hw 86 rfl) (wd hw 84 rfl) (wd hw 85 rfl) (A_t.ext E0_1_22) V21 rfl (by decide) (by decide) (Own.nneg (by omega)) (by decide) (by decide) (Own.clamp (by omega)) (by rw [Own.clamp (by omega)]; omega) (by rw [Own.clamp (by omega)]; omega) (Own.range_all _ hvl) (by rw [List.length_replicate]; omega) (Nat.le_trans Z0 (Nat.le_of_eq ha21.symm)) (hml rfl) (by decide) (Own.w0 rfl) (by decide) rfl ?_
  intro T24 h24 L24 N24 P24 K24 A24
  rw [Own.cof_list _ hvl] at A24
  refine Own.aloadN (q := 32) P24 (dc s36 16 rfl) rfl rfl rfl ?_
  have E0_2_25 : Ext h0 h24 := (Own.Ext.kp E0_1_22 K24 (allS (Nat.le_of_eq ha21.symm) all0))
  have qf26 := (X21.keep K24)
  refine Own.retA P24 (dc s36 17 rfl) hret rfl rfl rfl hlk (by decide) (by decide) ?_
  exact ⟨a21, _, rfl, N24, E0_2_25, (Nat.le_of_eq ha21.symm), A24, qf26⟩
theorem pd_16 : parseMethodDescriptor "(I)I" = some ⟨[.int], some .int⟩ := by decide +kernel
theorem vw_21 {Z : State} {a0 : Array Value} (hw : HW a0 Z) : Own.VW Z a0 "java/lang/StringBuilder" ⟨"java/lang/AbstractStringBuilder", "newCapacity", "(I)I"⟩ ⟨"java/lang/AbstractStringBuilder", "newCapacity", "(I)I"⟩ jdk_68_method_10_code 6 (some .int) 1 := ⟨(Own.declOf (wd hw 163 rfl) (wd hw 166 rfl)), (wd hw 165 rfl), (wd hw 163 rfl), (wd hw 20 rfl), (wd hw 166 rfl), by decide, _, _, pd_16, rfl⟩
theorem pd_17 : parseMethodDescriptor "([BI)[B" = some ⟨[(.array .byte), .int], some (.array .byte)⟩ := by decide +kernel
theorem sw_22 {Z : State} {a0 : Array Value} (hw : HW a0 Z) : Own.SW Z a0 ⟨"java/util/Arrays", "copyOf", "([BI)[B"⟩ jdk_65_method_121_code 3 (some (.array .byte)) 2 := ⟨(wd hw 177 rfl), (wd hw 151 rfl), (wd hw 178 rfl), by decide, _, _, pd_17, rfl⟩
theorem s37 : decs jdk_68_method_9_code [(17, .aload_n 0, 1), (18, .aload_n 0, 1), (19, .getfield 15, 3), (22, .aload_n 0, 1), (23, .iload_n 1, 1), (24, .invokevirtual 104, 3), (27, .aload_n 0, 1), (28, .getfield 22, 3), (31, .ishl, 1), (32, .invokestatic 108, 3), (35, .putfield 15, 3)] = true := by decide +kernel
def QrmEnG (Z : State) (a1 : Addr) (t1 : Addr) (kb : ClassId) (cs : List Int32) (mm : Nat) (h0 : Heap) (n0 : Nat) (v : Option Value) (h : Heap) (L : List Loc) : Prop := v = none ∧ Fr n0 L ∧ Keep h0 h [a1] ∧ ∃ t k, h0.size ≤ t ∧ Exa Z h a1 "java/lang/StringBuilder" ∧ Own.Bf Z h a1 "value" "[B" (.ref t) ∧ Own.Bf Z h a1 "coder" "B" (.int 0) ∧ Own.Bf Z h a1 "count" "I" (.int (Int32.ofNat cs.length)) ∧ Arv Z h t k .byte (Int32.ofNat mm) (((cs.map fun c : Int32 => c.toInt8.toInt32).map Value.int) ++ List.replicate (mm - cs.length) (Value.int 0)) (.int 0) ∧ Exa Z h t "[B"
theorem rmEnG (l : Launch) (Z : State) (a0 : Array Value) (hw : HW a0 Z) (ws : List Jvm.Cond) (a1 : Addr) (t1 : Addr) (kb : ClassId) (cs : List Int32) (mm : Nat) (h0 : Heap) (n0 : Nat) (Z0 : n0 ≤ h0.size) (E_a1 : Exa Z h0 a1 "java/lang/StringBuilder") (f1 : Own.Bf Z h0 a1 "value" "[B" (.ref t1)) (f2 : Own.Bf Z h0 a1 "coder" "B" (.int 0)) (f3 : Own.Bf Z h0 a1 "count" "I" (.int (Int32.ofNat cs.length))) (A_t : Arv Z h0 t1 kb .byte 16 (((cs.map fun c : Int32 => c.toInt8.toInt32).map Value.int) ++ List.replicate (16 - cs.length) (Value.int 0)) (.int 0)) (hc : cs.length ≤ 16) (hm : 34 ≤ mm ∧ mm ≤ 100) (g_a1 : n0 ≤ a1) :
    Own.MF l Z (⟨"java/lang/AbstractStringBuilder", "ensureCapacityInternal", "(I)V"⟩ : MethodName) jdk_68_method_9_code 3 none ws (⟨3, 1, 100, 50⟩ : Room) #[(.ref a1), (.int (Int32.ofNat mm))] h0 (QrmEnG Z a1 t1 kb cs mm h0 n0) := by
  refine Own.MF.of (own := "java/lang/AbstractStringBuilder") (n := 3) rfl rfl pn_10 (fun p e s m below meth c s₁ hml hlk hret hnm P0 => ?_)
  rw [show entryFrame m #[(.ref a1), (.int (Int32.ofNat mm))] 3 = mkF m 0 #[.val (.ref a1), .val (.int (Int32.ofNat mm)), .unset] [] from by first | (simp [entryFrame, mkF, argsToLocals, Value.category]; done) | rfl]
  refine Own.aloadN (q := 1) P0 (dc s15 0 rfl) rfl rfl rfl ?_
  refine Own.getfield (q := 4) P0 (dc s15 1 rfl) (wd hw 27 rfl) f1 rfl ?_
  intro T21 P21
  refine Own.arraylength (q := 5) P21 (dc s15 2 rfl) A_t rfl ?_
  refine Own.aloadN (q := 6) P21 (dc s15 3 rfl) rfl rfl rfl ?_
  refine Own.getfield (q := 9) P21 (dc s15 4 rfl) (wd hw 29 rfl) f2 rfl ?_
  intro T22 P22
  refine Own.ishr (q := 10) P22 (dc s15 5 rfl)  rfl ?_
  refine Own.istoreN (q := 11) (L2 := #[.val (.ref a1), .val (.int (Int32.ofNat mm)), .val (.int ((16 : Int32) >>> ((0 : Int32) &&& 31)))]) P22 (dc s15 6 rfl) rfl rfl ?_
  refine Own.iloadN (q := 12) P22 (dc s15 7 rfl) rfl rfl ?_
  refine Own.iloadN (q := 13) P22 (dc s15 8 rfl) rfl rfl ?_
  refine Own.isub (q := 14) P22 (dc s15 9 rfl)  rfl ?_
  refine Own.if_le (q := 17) (qy := 38) P22 (dc s15 10 rfl) (by decide) rfl (fun q => absurd (Own.grow_p hm) q) (fun _ => ?_)
  refine Own.aloadN (q := 18) P22 (dc s37 0 rfl) rfl rfl rfl ?_
  refine Own.aloadN (q := 19) P22 (dc s37 1 rfl) rfl rfl rfl ?_
  refine Own.getfield (q := 22) P22 (dc s37 2 rfl) (wd hw 27 rfl) f1 rfl ?_
  intro T23 P23
  refine Own.aloadN (q := 23) P23 (dc s37 3 rfl) rfl rfl rfl ?_
  refine Own.iloadN (q := 24) P23 (dc s37 4 rfl) rfl rfl ?_
  refine Own.cV (q := 27) (W := 2) (rest := [(.ref t1), (.ref a1)]) P23 (dc s37 5 rfl) (wd hw 162 rfl) (vw_21 hw) (Own.nfs P23 (wd hw 165 rfl)) E_a1 (rmNc l Z a0 hw [] a1 t1 kb cs mm h0 n0 Z0 f1 f2 A_t hm) (by decide) (by decide) rfl (hml rfl) rfl rfl (by decide) (by decide) rfl ?_
  rintro v24 T24 h24 L24 ⟨rfl, N24q, e24⟩ P24
  rw [e24] at P24
  have N24 := Fr.app (Fr.nil n0) N24q
  refine Own.aloadN (q := 28) P24 (dc s37 6 rfl) rfl rfl rfl ?_
  refine Own.getfield (q := 31) P24 (dc s37 7 rfl) (wd hw 29 rfl) f2 rfl ?_
  intro T25 P25
  refine Own.ishl (q := 32) P25 (dc s37 8 rfl)  rfl ?_
  rw [show ((Int32.ofNat mm) <<< ((0 : Int32) &&& 31)) = (Int32.ofNat mm) from Own.shl0 _]
  refine Own.cS (q := 35) (W := 1) (rest := [(.ref a1)]) P25 (dc s37 9 rfl) (wd hw 176 rfl) (sw_22 hw) (rmCof l Z a0 hw [] t1 kb 16 (((cs.map fun c : Int32 => c.toInt8.toInt32).map Value.int) ++ List.replicate (16 - cs.length) (Value.int 0)) mm h0 n0 Z0 A_t (Own.vd_len hc) (by omega)) (by decide) (by decide) rfl (hml rfl) rfl rfl (by decide) (by decide) rfl ?_
  rintro v26 T26 h26 L26 ⟨r26, k26, rfl, N26q, E26, gr26, B26, X26⟩ P26
  have N26 := Fr.app N24 N26q
  rw [show (((cs.map fun c : Int32 => c.toInt8.toInt32).map Value.int) ++ List.replicate (16 - cs.length) (Value.int 0)) ++ List.replicate (mm - 16) (Value.int 0) = (((cs.map fun c : Int32 => c.toInt8.toInt32).map Value.int) ++ List.replicate (mm - cs.length) (Value.int 0)) from Own.vd_grow hc (by omega)] at B26
  have E0_1_27 : Ext h0 h26 := E26
  refine Own.putfield (q := 38) P26 (dc s37 10 rfl) (wd hw 27 rfl) (f1.ext E0_1_27) (E_a1.ext E0_1_27) (Or.inl (wd hw 28 rfl)) (wd hw 11 rfl) (ty := (.array .byte)) (by decide) rfl rfl rfl ?_
  intro T28 h28 lc28 hl28 P28 W28
  have F28_value := Fld.same W28 (f1.ext E0_1_27)
  have F28_coder := (f2.ext E0_1_27).other W28 (Or.inr (slot_ne (Or.inl (wd hw 30 rfl)) (Or.inl (wd hw 28 rfl)) (by decide) (t := .byte) (t' := (.array .byte)) (by decide) (by decide)))
  have F28_count := (f3.ext E0_1_27).other W28 (Or.inr (slot_ne (Or.inl (wd hw 61 rfl)) (Or.inl (wd hw 28 rfl)) (by decide) (t := .int) (t' := (.array .byte)) (by decide) (by decide)))
  have A28 := (E_a1.ext E0_1_27).wr W28
  have N28 := Own.Fr.one N26 hl28 g_a1
  have qf29 := (Arv.keep B26 (Keep.of_wr W28) (ninS (Ne.symm (Exa.neArv (E_a1.ext E26) B26 (wd hw 11 rfl))) nin0))
  have qf30 := (X26.wr W28)
  refine Own.retV P28 (dc s15 11 rfl) hret hlk (by decide) (by decide) ?_
  exact ⟨rfl, N28, (Keep.wr (Keep.ext (Keep.refl h0 _) E26) W28 (Or.inl (by simp))), r26, _, gr26, A28, F28_value, F28_coder, F28_count, qf29, qf30⟩
theorem s38 : decs jdk_68_method_2_code [(0, .aload_n 0, 1), (1, .invokespecial 3, 3), (4, .getstatic 18, 3), (7, .ifCond .eq 18, 3), (10, .aload_n 0, 1), (11, .iload_n 1, 1), (12, .newarray .byte, 2), (14, .putfield 15, 3), (17, .aload_n 0, 1), (18, .iconst 0, 1), (19, .putfield 22, 3), (22, .goto 16, 3), (38, .return_, 1)] = true := by decide +kernel
theorem pn_4 : plainFor (⟨"java/lang/AbstractStringBuilder", "<init>", "(I)V"⟩ : MethodName) = true := by first | exact plainFor_of_name (by first | (simp [plainName, overriddenIn]; done) | decide +kernel) | decide +kernel
def QrmAI (Z : State) (a1 : Addr) (u1 : Value) (u2 : Value) (zc : Int32) (h0 : Heap) (n0 : Nat) (v : Option Value) (h : Heap) (L : List Loc) : Prop := v = none ∧ Fr n0 L ∧ Keep h0 h [a1] ∧ ∃ t kb, h0.size ≤ t ∧ Exa Z h a1 "java/lang/StringBuilder" ∧ Own.Bf Z h a1 "value" "[B" (.ref t) ∧ Own.Bf Z h a1 "coder" "B" (.int 0) ∧ Own.Bf Z h a1 "count" "I" (.int 0) ∧ Arv Z h t kb .byte 16 (List.replicate 16 (.int 0)) (.int 0)
theorem rmAI (l : Launch) (Z : State) (a0 : Array Value) (hw : HW a0 Z) (ws : List Jvm.Cond) (a1 : Addr) (u1 : Value) (u2 : Value) (zc : Int32) (h0 : Heap) (n0 : Nat) (Z0 : n0 ≤ h0.size) (SC : Own.Cst Z h0 zc) (hzc : ¬ zc = 0) (E_a1 : Exa Z h0 a1 "java/lang/StringBuilder") (f1 : Own.Bf Z h0 a1 "value" "[B" u1) (f2 : Own.Bf Z h0 a1 "coder" "B" u2) (f3 : Own.Bf Z h0 a1 "count" "I" (.int 0)) (g_a1 : n0 ≤ a1) :
    Own.MF l Z (⟨"java/lang/AbstractStringBuilder", "<init>", "(I)V"⟩ : MethodName) jdk_68_method_2_code 2 none ws (⟨1, 1, 16, 12⟩ : Room) #[(.ref a1), (.int (16 : Int32))] h0 (QrmAI Z a1 u1 u2 zc h0 n0) := by
  refine Own.MF.of (own := "java/lang/AbstractStringBuilder") (n := 2) rfl rfl pn_4 (fun p e s m below meth c s₁ hml hlk hret hnm P0 => ?_)
  rw [show entryFrame m #[(.ref a1), (.int (16 : Int32))] 2 = mkF m 0 #[.val (.ref a1), .val (.int (16 : Int32))] [] from by first | (simp [entryFrame, mkF, argsToLocals, Value.category]; done) | rfl]
  refine Own.aloadN (q := 1) P0 (dc s38 0 rfl) rfl rfl rfl ?_
  refine Own.objinit (q := 4) (W := 0) P0 (dc s38 1 rfl) (wd hw 22 rfl) (wd hw 23 rfl) (wd hw 24 rfl) (hml rfl) (by decide) (Own.w0 rfl) (by decide) rfl ?_
  intro T21 P21
  refine Own.getstatic (q := 7) P21 (dc s38 2 rfl) (wd hw 25 rfl) SC rfl ?_
  intro T22 P22
  refine Own.if_eq (q := 10) (qy := 25) P22 (dc s38 3 rfl) (by decide) rfl (fun q => absurd q hzc) (fun _ => ?_)
  refine Own.aloadN (q := 11) P22 (dc s38 4 rfl) rfl rfl rfl ?_
  refine Own.iloadN (q := 12) P22 (dc s38 5 rfl) rfl rfl ?_
  refine Own.newarr (q := 14) (cap := 16) P22 (dc s38 6 rfl) (wd hw 1 rfl) (by decide) (by decide) (by decide) (by decide) (by decide) rfl ?_
  intro T23 h23 a23 k23 ha23 P23 E23 A23
  have V23 : Arv Z h23 a23 k23 .byte (16 : Int32) [(.int 0), (.int 0), (.int 0), (.int 0), (.int 0), (.int 0), (.int 0), (.int 0), (.int 0), (.int 0), (.int 0), (.int 0), (.int 0), (.int 0), (.int 0), (.int 0)] (.int 0) := Arv.pad A23 (pad_rep [] _ 16)
  have E0_1_24 : Ext h0 h23 := E23
  refine Own.putfield (q := 17) P23 (dc s38 7 rfl) (wd hw 27 rfl) (f1.ext E0_1_24) (E_a1.ext E0_1_24) (Or.inl (wd hw 28 rfl)) (wd hw 11 rfl) (ty := (.array .byte)) (by decide) rfl rfl rfl ?_
  intro T25 h25 lc25 hl25 P25 W25
  have F25_value := Fld.same W25 (f1.ext E0_1_24)
  have F25_coder := (f2.ext E0_1_24).other W25 (Or.inr (slot_ne (Or.inl (wd hw 30 rfl)) (Or.inl (wd hw 28 rfl)) (by decide) (t := .byte) (t' := (.array .byte)) (by decide) (by decide)))
  have F25_count := (f3.ext E0_1_24).other W25 (Or.inr (slot_ne (Or.inl (wd hw 61 rfl)) (Or.inl (wd hw 28 rfl)) (by decide) (t := .int) (t' := (.array .byte)) (by decide) (by decide)))
  have A25 := (E_a1.ext E0_1_24).wr W25
  have N25 := Own.Fr.one (Fr.nil n0) hl25 g_a1
  refine Own.aloadN (q := 18) P25 (dc s38 8 rfl) rfl rfl rfl ?_
  refine Own.iconst (q := 19) (v := (0 : Int32)) P25 (dc s38 9 rfl) rfl rfl ?_
  refine Own.putfield (q := 22) P25 (dc s38 10 rfl) (wd hw 29 rfl) F25_coder A25 (Or.inl (wd hw 30 rfl)) (wd hw 11 rfl) (ty := .byte) (by decide) rfl rfl rfl ?_
  intro T26 h26 lc26 hl26 P26 W26
  have F26_value := F25_value.other W26 (Or.inr (slot_ne (Or.inl (wd hw 28 rfl)) (Or.inl (wd hw 30 rfl)) (by decide) (t := (.array .byte)) (t' := .byte) (by decide) (by decide)))
  have F26_coder := Fld.same W26 F25_coder
  have F26_count := F25_count.other W26 (Or.inr (slot_ne (Or.inl (wd hw 61 rfl)) (Or.inl (wd hw 30 rfl)) (by decide) (t := .int) (t' := .byte) (by decide) (by decide)))
  have A26 := A25.wr W26
  have N26 := Own.Fr.one N25 hl26 g_a1
  refine Own.goto (q := 38) P26 (dc s38 11 rfl) (by decide) ?_
  have qf27 := (Arv.keep V23 (Keep.of_wr W25) (ninS (Ne.symm (Exa.neArv (E_a1.ext E23) V23 (wd hw 11 rfl))) nin0))
  have qf28 := (Arv.keep qf27 (Keep.of_wr W26) (ninS (Ne.symm (Exa.neArv A25 qf27 (wd hw 11 rfl))) nin0))
  refine Own.retV P26 (dc s38 12 rfl) hret hlk (by decide) (by decide) ?_
  exact ⟨rfl, N26, (Keep.wr (Keep.wr (Keep.ext (Keep.refl h0 _) E23) W25 (Or.inl (by simp))) W26 (Or.inl (by simp))), a23, _, (Nat.le_of_eq ha23.symm), A26, F26_value, F26_coder, F26_count, qf28⟩
theorem pd_18 : parseMethodDescriptor "(I)V" = some ⟨[.int], none⟩ := by decide +kernel
theorem iw_23 {Z : State} {a0 : Array Value} (hw : HW a0 Z) : Own.IW Z a0 ⟨"java/lang/AbstractStringBuilder", "<init>", "(I)V"⟩ jdk_68_method_2_code 2 1 := ⟨rfl, (wd hw 17 rfl), (wd hw 20 rfl), (wd hw 21 rfl), by decide, _, _, pd_18, rfl⟩
theorem s39 : decs jdk_67_method_1_code [(0, .aload_n 0, 1), (1, .bipush 16, 2), (3, .invokespecial 1, 3), (6, .return_, 1)] = true := by decide +kernel
theorem pn_3 : plainFor (⟨"java/lang/StringBuilder", "<init>", "()V"⟩ : MethodName) = true := by first | exact plainFor_of_name (by first | (simp [plainName, overriddenIn]; done) | decide +kernel) | decide +kernel
def QrmSI (Z : State) (a1 : Addr) (u1 : Value) (u2 : Value) (zc : Int32) (h0 : Heap) (n0 : Nat) (v : Option Value) (h : Heap) (L : List Loc) : Prop := v = none ∧ Fr n0 L ∧ Keep h0 h [a1] ∧ ∃ t kb, h0.size ≤ t ∧ Exa Z h a1 "java/lang/StringBuilder" ∧ Own.Bf Z h a1 "value" "[B" (.ref t) ∧ Own.Bf Z h a1 "coder" "B" (.int 0) ∧ Own.Bf Z h a1 "count" "I" (.int 0) ∧ Arv Z h t kb .byte 16 (List.replicate 16 (.int 0)) (.int 0)
theorem rmSI (l : Launch) (Z : State) (a0 : Array Value) (hw : HW a0 Z) (ws : List Jvm.Cond) (a1 : Addr) (u1 : Value) (u2 : Value) (zc : Int32) (h0 : Heap) (n0 : Nat) (Z0 : n0 ≤ h0.size) (SC : Own.Cst Z h0 zc) (hzc : ¬ zc = 0) (E_a1 : Exa Z h0 a1 "java/lang/StringBuilder") (f1 : Own.Bf Z h0 a1 "value" "[B" u1) (f2 : Own.Bf Z h0 a1 "coder" "B" u2) (f3 : Own.Bf Z h0 a1 "count" "I" (.int 0)) (g_a1 : n0 ≤ a1) :
    Own.MF l Z (⟨"java/lang/StringBuilder", "<init>", "()V"⟩ : MethodName) jdk_67_method_1_code 1 none ws (⟨2, 1, 16, 25⟩ : Room) #[(.ref a1)] h0 (QrmSI Z a1 u1 u2 zc h0 n0) := by
  refine Own.MF.of (own := "java/lang/StringBuilder") (n := 1) rfl rfl pn_3 (fun p e s m below meth c s₁ hml hlk hret hnm P0 => ?_)
  rw [show entryFrame m #[(.ref a1)] 1 = mkF m 0 #[.val (.ref a1)] [] from by first | (simp [entryFrame, mkF, argsToLocals, Value.category]; done) | rfl]
  refine Own.aloadN (q := 1) P0 (dc s39 0 rfl) rfl rfl rfl ?_
  refine Own.bipush (q := 3) (v := (16 : Int32)) P0 (dc s39 1 rfl) rfl rfl ?_
  refine Own.cI (q := 6) (W := 0) (rest := []) P0 (dc s39 2 rfl) (wd hw 16 rfl) (iw_23 hw) (rmAI l Z a0 hw [] a1 u1 u2 zc h0 n0 Z0 SC hzc E_a1 f1 f2 f3 g_a1) (by decide) (by decide) rfl (hml rfl) rfl rfl (by decide) (by decide) rfl ?_
  rintro v21 T21 h21 L21 ⟨rfl, N21q, K21, t21, kb21, G21, X21⟩ P21
  have N21 := Fr.app (Fr.nil n0) N21q
  refine Own.retV P21 (dc s39 3 rfl) hret hlk (by decide) (by decide) ?_
  exact ⟨rfl, N21, K21, t21, kb21, G21, X21⟩
theorem s40 : decs jdk_42_method_147_code [(0, .aload_n 0, 1), (1, .invokevirtual 335, 3), (4, .iload_n 3, 1), (5, .if_icmp .ne 23, 3), (8, .aload_n 0, 1), (9, .getfield 9, 3), (12, .iconst 0, 1), (13, .aload_n 1, 1), (14, .iload_n 2, 1), (15, .iload_n 3, 1), (16, .ishl, 1), (17, .aload_n 0, 1), (18, .getfield 9, 3), (21, .arraylength, 1), (22, .invokestatic 212, 3), (25, .goto 18, 3), (43, .return_, 1)] = true := by decide +kernel
theorem pn_13 : plainFor (⟨"java/lang/String", "getBytes", "([BIB)V"⟩ : MethodName) = true := by first | exact plainFor_of_name (by first | (simp [plainName, overriddenIn]; done) | decide +kernel) | decide +kernel
def QrmGb (Z : State) (a1 : Addr) (t1 : Addr) (kb : ClassId) (vd : List Value) (ds : List Int32) (pos : Nat) (zc : Int32) (h0 : Heap) (n0 : Nat) (v : Option Value) (h : Heap) (L : List Loc) : Prop := v = none ∧ Fr n0 L ∧ Keep h0 h [t1] ∧ Arv Z h t1 kb .byte 16 (vd.take pos ++ ((ds.map fun c : Int32 => c.toInt8.toInt32).map Value.int) ++ vd.drop (pos + ds.length)) (.int 0)
theorem rmGb (l : Launch) (Z : State) (a0 : Array Value) (hw : HW a0 Z) (ws : List Jvm.Cond) (a1 : Addr) (t1 : Addr) (kb : ClassId) (vd : List Value) (ds : List Int32) (pos : Nat) (zc : Int32) (h0 : Heap) (n0 : Nat) (Z0 : n0 ≤ h0.size) (SC : Own.Cst Z h0 zc) (hzc : ¬ zc = 0) (S1 : Own.Str Z h0 a1 ds) (A_t : Arv Z h0 t1 kb .byte 16 vd (.int 0)) (hpos : pos + ds.length ≤ 16) (hvl : vd.length = 16) (g_t1 : n0 ≤ t1) :
    Own.MF l Z (⟨"java/lang/String", "getBytes", "([BIB)V"⟩ : MethodName) jdk_42_method_147_code 4 none ws (⟨1, 0, 0, 18⟩ : Room) #[(.ref a1), (.ref t1), (.int (Int32.ofNat pos)), (.int (0 : Int32))] h0 (QrmGb Z a1 t1 kb vd ds pos zc h0 n0) := by
  refine Own.MF.of (own := "java/lang/String") (n := 4) rfl rfl pn_13 (fun p e s m below meth c s₁ hml hlk hret hnm P0 => ?_)
  rw [show entryFrame m #[(.ref a1), (.ref t1), (.int (Int32.ofNat pos)), (.int (0 : Int32))] 4 = mkF m 0 #[.val (.ref a1), .val (.ref t1), .val (.int (Int32.ofNat pos)), .val (.int (0 : Int32))] [] from by first | (simp [entryFrame, mkF, argsToLocals, Value.category]; done) | rfl]
  refine Own.aloadN (q := 1) P0 (dc s40 0 rfl) rfl rfl rfl ?_
  obtain ⟨⟨t21, kb21, y21a, y21v, y21c, y21b⟩, -, -⟩ := id S1
  refine Own.cV (q := 4) (W := 0) (rest := []) P0 (dc s40 1 rfl) (wd hw 53 rfl) (vw_0 hw) (Own.nfs P0 (wd hw 56 rfl)) S1.exa (rmCod l Z a0 hw [] a1 zc h0 n0 Z0 SC hzc y21c) (by decide) (by decide) rfl (hml rfl) rfl rfl (by decide) (by decide) rfl ?_
  rintro v22 T22 h22 L22 ⟨rfl, N22q, e22⟩ P22
  rw [e22] at P22
  have N22 := Fr.app (Fr.nil n0) N22q
  refine Own.iloadN (q := 5) P22 (dc s40 2 rfl) rfl rfl ?_
  refine Own.icmp_ne (q := 8) (qy := 28) P22 (dc s40 3 rfl) (by decide) rfl (fun q => absurd rfl q) (fun _ => ?_)
  refine Own.aloadN (q := 9) P22 (dc s40 4 rfl) rfl rfl rfl ?_
  refine Own.getfield (q := 12) P22 (dc s40 5 rfl) (wd hw 52 rfl) y21v rfl ?_
  intro T23 P23
  refine Own.iconst (q := 13) (v := (0 : Int32)) P23 (dc s40 6 rfl) rfl rfl ?_
  refine Own.aloadN (q := 14) P23 (dc s40 7 rfl) rfl rfl rfl ?_
  refine Own.iloadN (q := 15) P23 (dc s40 8 rfl) rfl rfl ?_
  refine Own.iloadN (q := 16) P23 (dc s40 9 rfl) rfl rfl ?_
  refine Own.ishl (q := 17) P23 (dc s40 10 rfl)  rfl ?_
  rw [show ((Int32.ofNat pos) <<< ((0 : Int32) &&& 31)) = Int32.ofNat pos from Own.shl0 _]
  refine Own.aloadN (q := 18) P23 (dc s40 11 rfl) rfl rfl rfl ?_
  refine Own.getfield (q := 21) P23 (dc s40 12 rfl) (wd hw 52 rfl) y21v rfl ?_
  intro T24 P24
  refine Own.arraylength (q := 22) P24 (dc s40 13 rfl) y21b rfl ?_
  refine Own.copyA (q := 25) (W := 0) (n0 := n0) (d := pos) (j := ds.length) (us := ((ds.map fun c : Int32 => c.toInt8.toInt32).map Value.int)) P24 N22 (dc s40 14 rfl) (wd hw 83 rfl) (wd hw 86 rfl) (wd hw 84 rfl) (wd hw 85 rfl) y21b A_t rfl (by decide) (Own.nneg (by have := hpos; omega)) (Own.nneg (by have := hpos; omega)) (by decide) (Own.clamp (by have := hpos; omega)) (Own.clamp (by have := hpos; omega)) (by rw [Own.clamp (by have := hpos; omega)]; exact Nat.le_refl _) (by show _ ≤ 16; exact hpos) (Own.range_get2 ds) (by rw [hvl]; exact hpos) g_t1 (hml rfl) (by decide) (Own.w0 rfl) (by decide) rfl ?_
  intro T25 h25 L25 N25 P25 K25 A25
  refine Own.goto (q := 43) P25 (dc s40 15 rfl) (by decide) ?_
  refine Own.retV P25 (dc s40 16 rfl) hret hlk (by decide) (by decide) ?_
  exact ⟨rfl, N25, (Keep.trans (Keep.refl h0 _) K25 (allS (Or.inl (by simp)) all0)), A25⟩
theorem pd_19 : parseMethodDescriptor "(Ljava/lang/String;)V" = some ⟨[(.object "java/lang/String")], none⟩ := by decide +kernel
theorem vw_24 {Z : State} {a0 : Array Value} (hw : HW a0 Z) : Own.VW Z a0 "java/lang/StringBuilder" ⟨"java/lang/AbstractStringBuilder", "inflateIfNeededFor", "(Ljava/lang/String;)V"⟩ ⟨"java/lang/AbstractStringBuilder", "inflateIfNeededFor", "(Ljava/lang/String;)V"⟩ jdk_68_method_71_code 2 none 1 := ⟨(Own.declOf (wd hw 73 rfl) (wd hw 76 rfl)), (wd hw 75 rfl), (wd hw 73 rfl), (wd hw 20 rfl), (wd hw 76 rfl), by decide, _, _, pd_19, rfl⟩
theorem pd_20 : parseMethodDescriptor "([BIB)V" = some ⟨[(.array .byte), .int, .byte], none⟩ := by decide +kernel
theorem vw_25 {Z : State} {a0 : Array Value} (hw : HW a0 Z) : Own.VW Z a0 "java/lang/String" ⟨"java/lang/String", "getBytes", "([BIB)V"⟩ ⟨"java/lang/String", "getBytes", "([BIB)V"⟩ jdk_42_method_147_code 4 none 3 := ⟨(wd hw 79 rfl), (wd hw 81 rfl), (wd hw 80 rfl), (wd hw 26 rfl), (wd hw 82 rfl), by decide, _, _, pd_20, rfl⟩
theorem s41 : decs jdk_68_method_73_code [(0, .aload_n 0, 1), (1, .aload_n 2, 1), (2, .invokevirtual 397, 3), (5, .aload_n 2, 1), (6, .aload_n 0, 1), (7, .getfield 15, 3), (10, .iload_n 1, 1), (11, .aload_n 0, 1), (12, .getfield 22, 3), (15, .invokevirtual 399, 3), (18, .return_, 1)] = true := by decide +kernel
theorem pn_11 : plainFor (⟨"java/lang/AbstractStringBuilder", "putStringAt", "(ILjava/lang/String;)V"⟩ : MethodName) = true := by first | exact plainFor_of_name (by first | (simp [plainName, overriddenIn]; done) | decide +kernel) | decide +kernel
def QrmPut (Z : State) (a1 : Addr) (t1 : Addr) (kb : ClassId) (vd : List Value) (a2 : Addr) (ds : List Int32) (pos : Nat) (zc : Int32) (h0 : Heap) (n0 : Nat) (v : Option Value) (h : Heap) (L : List Loc) : Prop := v = none ∧ Fr n0 L ∧ Keep h0 h [t1] ∧ Arv Z h t1 kb .byte 16 (vd.take pos ++ ((ds.map fun c : Int32 => c.toInt8.toInt32).map Value.int) ++ vd.drop (pos + ds.length)) (.int 0)
theorem rmPut (l : Launch) (Z : State) (a0 : Array Value) (hw : HW a0 Z) (ws : List Jvm.Cond) (a1 : Addr) (t1 : Addr) (kb : ClassId) (vd : List Value) (a2 : Addr) (ds : List Int32) (pos : Nat) (zc : Int32) (h0 : Heap) (n0 : Nat) (Z0 : n0 ≤ h0.size) (SC : Own.Cst Z h0 zc) (hzc : ¬ zc = 0) (E_a1 : Exa Z h0 a1 "java/lang/StringBuilder") (f1 : Own.Bf Z h0 a1 "value" "[B" (.ref t1)) (f2 : Own.Bf Z h0 a1 "coder" "B" (.int 0)) (S2 : Own.Str Z h0 a2 ds) (A_t : Arv Z h0 t1 kb .byte 16 vd (.int 0)) (hpos : pos + ds.length ≤ 16) (hvl : vd.length = 16) (g_t1 : n0 ≤ t1) :
    Own.MF l Z (⟨"java/lang/AbstractStringBuilder", "putStringAt", "(ILjava/lang/String;)V"⟩ : MethodName) jdk_68_method_73_code 3 none ws (⟨2, 0, 0, 33⟩ : Room) #[(.ref a1), (.int (Int32.ofNat pos)), (.ref a2)] h0 (QrmPut Z a1 t1 kb vd a2 ds pos zc h0 n0) := by
  refine Own.MF.of (own := "java/lang/AbstractStringBuilder") (n := 3) rfl rfl pn_11 (fun p e s m below meth c s₁ hml hlk hret hnm P0 => ?_)
  rw [show entryFrame m #[(.ref a1), (.int (Int32.ofNat pos)), (.ref a2)] 3 = mkF m 0 #[.val (.ref a1), .val (.int (Int32.ofNat pos)), .val (.ref a2)] [] from by first | (simp [entryFrame, mkF, argsToLocals, Value.category]; done) | rfl]
  refine Own.aloadN (q := 1) P0 (dc s41 0 rfl) rfl rfl rfl ?_
  refine Own.aloadN (q := 2) P0 (dc s41 1 rfl) rfl rfl rfl ?_
  refine Own.cV (q := 5) (W := 0) (rest := []) P0 (dc s41 2 rfl) (wd hw 72 rfl) (vw_24 hw) (Own.nfs P0 (wd hw 75 rfl)) E_a1 (rmInf l Z a0 hw [] a1 a2 ds zc h0 n0 Z0 SC hzc f2 S2) (by decide) (by decide) rfl (hml rfl) rfl rfl (by decide) (by decide) rfl ?_
  rintro v21 T21 h21 L21 ⟨rfl, N21q, e21⟩ P21
  rw [e21] at P21
  have N21 := Fr.app (Fr.nil n0) N21q
  refine Own.aloadN (q := 6) P21 (dc s41 3 rfl) rfl rfl rfl ?_
  refine Own.aloadN (q := 7) P21 (dc s41 4 rfl) rfl rfl rfl ?_
  refine Own.getfield (q := 10) P21 (dc s41 5 rfl) (wd hw 27 rfl) f1 rfl ?_
  intro T22 P22
  refine Own.iloadN (q := 11) P22 (dc s41 6 rfl) rfl rfl ?_
  refine Own.aloadN (q := 12) P22 (dc s41 7 rfl) rfl rfl rfl ?_
  refine Own.getfield (q := 15) P22 (dc s41 8 rfl) (wd hw 29 rfl) f2 rfl ?_
  intro T23 P23
  refine Own.cV (q := 18) (W := 0) (rest := []) P23 (dc s41 9 rfl) (wd hw 78 rfl) (vw_25 hw) (Own.nfs P23 (wd hw 81 rfl)) S2.exa (rmGb l Z a0 hw [] a2 t1 kb vd ds pos zc h0 n0 Z0 SC hzc S2 A_t hpos hvl g_t1) (by decide) (by decide) rfl (hml rfl) rfl rfl (by decide) (by decide) rfl ?_
  rintro v24 T24 h24 L24 ⟨rfl, N24q, K24, A24⟩ P24
  have N24 := Fr.app N21 N24q
  refine Own.retV P24 (dc s41 10 rfl) hret hlk (by decide) (by decide) ?_
  exact ⟨rfl, N24, K24, A24⟩
theorem pd_21 : parseMethodDescriptor "()I" = some ⟨[], some .int⟩ := by decide +kernel
theorem vw_26 {Z : State} {a0 : Array Value} (hw : HW a0 Z) : Own.VW Z a0 "java/lang/String" ⟨"java/lang/String", "length", "()I"⟩ ⟨"java/lang/String", "length", "()I"⟩ jdk_42_method_54_code 1 (some .int) 0 := ⟨(wd hw 48 rfl), (wd hw 50 rfl), (wd hw 49 rfl), (wd hw 26 rfl), (wd hw 51 rfl), by decide, _, _, pd_21, rfl⟩
theorem vw_27 {Z : State} {a0 : Array Value} (hw : HW a0 Z) : Own.VW Z a0 "java/lang/StringBuilder" ⟨"java/lang/AbstractStringBuilder", "ensureCapacityInternal", "(I)V"⟩ ⟨"java/lang/AbstractStringBuilder", "ensureCapacityInternal", "(I)V"⟩ jdk_68_method_9_code 3 none 1 := ⟨(Own.declOf (wd hw 63 rfl) (wd hw 66 rfl)), (wd hw 65 rfl), (wd hw 63 rfl), (wd hw 20 rfl), (wd hw 66 rfl), by decide, _, _, pd_18, rfl⟩
theorem pd_22 : parseMethodDescriptor "(ILjava/lang/String;)V" = some ⟨[.int, (.object "java/lang/String")], none⟩ := by decide +kernel
theorem vw_28 {Z : State} {a0 : Array Value} (hw : HW a0 Z) : Own.VW Z a0 "java/lang/StringBuilder" ⟨"java/lang/AbstractStringBuilder", "putStringAt", "(ILjava/lang/String;)V"⟩ ⟨"java/lang/AbstractStringBuilder", "putStringAt", "(ILjava/lang/String;)V"⟩ jdk_68_method_73_code 3 none 2 := ⟨(Own.declOf (wd hw 68 rfl) (wd hw 71 rfl)), (wd hw 70 rfl), (wd hw 68 rfl), (wd hw 20 rfl), (wd hw 71 rfl), by decide, _, _, pd_22, rfl⟩
theorem s42 : decs jdk_68_method_22_code [(0, .aload_n 1, 1), (1, .ifnonnull 8, 3), (9, .aload_n 1, 1), (10, .invokevirtual 32, 3), (13, .istore_n 2, 1), (14, .aload_n 0, 1), (15, .aload_n 0, 1), (16, .getfield 79, 3), (19, .iload_n 2, 1), (20, .iadd, 1), (21, .invokevirtual 100, 3), (24, .aload_n 0, 1), (25, .aload_n 0, 1), (26, .getfield 79, 3), (29, .aload_n 1, 1), (30, .invokevirtual 208, 3), (33, .aload_n 0, 1), (34, .dup, 1), (35, .getfield 79, 3), (38, .iload_n 2, 1), (39, .iadd, 1), (40, .putfield 79, 3), (43, .aload_n 0, 1), (44, .areturn, 1)] = true := by decide +kernel
theorem pn_7 : plainFor (⟨"java/lang/AbstractStringBuilder", "append", "(Ljava/lang/String;)Ljava/lang/AbstractStringBuilder;"⟩ : MethodName) = true := by first | exact plainFor_of_name (by first | (simp [plainName, overriddenIn]; done) | decide +kernel) | decide +kernel
def QrmAap (Z : State) (a1 : Addr) (t1 : Addr) (kb : ClassId) (cs : List Int32) (a2 : Addr) (ds : List Int32) (zc : Int32) (h0 : Heap) (n0 : Nat) (v : Option Value) (h : Heap) (L : List Loc) : Prop := v = some (.ref a1) ∧ Fr n0 L ∧ Keep h0 h [a1, t1] ∧ Exa Z h a1 "java/lang/StringBuilder" ∧ Own.Bf Z h a1 "value" "[B" (.ref t1) ∧ Own.Bf Z h a1 "coder" "B" (.int 0) ∧ Own.Bf Z h a1 "count" "I" (.int (Int32.ofNat (cs ++ ds).length)) ∧ Arv Z h t1 kb .byte 16 ((((cs ++ ds).map fun c : Int32 => c.toInt8.toInt32).map Value.int) ++ List.replicate (16 - (cs ++ ds).length) (Value.int 0)) (.int 0)
theorem rmAap (l : Launch) (Z : State) (a0 : Array Value) (hw : HW a0 Z) (ws : List Jvm.Cond) (a1 : Addr) (t1 : Addr) (kb : ClassId) (cs : List Int32) (a2 : Addr) (ds : List Int32) (zc : Int32) (h0 : Heap) (n0 : Nat) (Z0 : n0 ≤ h0.size) (SC : Own.Cst Z h0 zc) (hzc : ¬ zc = 0) (E_a1 : Exa Z h0 a1 "java/lang/StringBuilder") (f1 : Own.Bf Z h0 a1 "value" "[B" (.ref t1)) (f2 : Own.Bf Z h0 a1 "coder" "B" (.int 0)) (f3 : Own.Bf Z h0 a1 "count" "I" (.int (Int32.ofNat cs.length))) (A_t : Arv Z h0 t1 kb .byte 16 (((cs.map fun c : Int32 => c.toInt8.toInt32).map Value.int) ++ List.replicate (16 - cs.length) (Value.int 0)) (.int 0)) (S2 : Own.Str Z h0 a2 ds) (hsz : cs.length + ds.length ≤ 16) (g_a1 : n0 ≤ a1) (g_t1 : n0 ≤ t1) :
    Own.MF l Z (⟨"java/lang/AbstractStringBuilder", "append", "(Ljava/lang/String;)Ljava/lang/AbstractStringBuilder;"⟩ : MethodName) jdk_68_method_22_code 3 (some (.object "java/lang/AbstractStringBuilder")) ws (⟨3, 0, 0, 48⟩ : Room) #[(.ref a1), (.ref a2)] h0 (QrmAap Z a1 t1 kb cs a2 ds zc h0 n0) := by
  refine Own.MF.of (own := "java/lang/AbstractStringBuilder") (n := 3) rfl rfl pn_7 (fun p e s m below meth c s₁ hml hlk hret hnm P0 => ?_)
  rw [show entryFrame m #[(.ref a1), (.ref a2)] 3 = mkF m 0 #[.val (.ref a1), .val (.ref a2), .unset] [] from by first | (simp [entryFrame, mkF, argsToLocals, Value.category]; done) | rfl]
  refine Own.aloadN (q := 1) P0 (dc s42 0 rfl) rfl rfl rfl ?_
  refine Own.nonnullY (q := 9) P0 (dc s42 1 rfl) (by decide) ?_
  refine Own.aloadN (q := 10) P0 (dc s42 2 rfl) rfl rfl rfl ?_
  refine Own.cV (q := 13) (W := 0) (rest := []) P0 (dc s42 3 rfl) (wd hw 47 rfl) (vw_26 hw) (Own.nfs P0 (wd hw 50 rfl)) S2.exa (rmLn0 l Z a0 hw [] a2 ds zc h0 n0 Z0 SC hzc S2) (by decide) (by decide) rfl (hml rfl) rfl rfl (by decide) (by decide) rfl ?_
  rintro v21 T21 h21 L21 ⟨rfl, N21q, e21⟩ P21
  rw [e21] at P21
  have N21 := Fr.app (Fr.nil n0) N21q
  refine Own.istoreN (q := 14) (L2 := #[.val (.ref a1), .val (.ref a2), .val (.int (Int32.ofNat (ds : List Int32).length))]) P21 (dc s42 4 rfl) rfl rfl ?_
  refine Own.aloadN (q := 15) P21 (dc s42 5 rfl) rfl rfl rfl ?_
  refine Own.aloadN (q := 16) P21 (dc s42 6 rfl) rfl rfl rfl ?_
  refine Own.getfield (q := 19) P21 (dc s42 7 rfl) (wd hw 60 rfl) f3 rfl ?_
  intro T22 P22
  refine Own.iloadN (q := 20) P22 (dc s42 8 rfl) rfl rfl ?_
  refine Own.iadd (q := 21) P22 (dc s42 9 rfl)  rfl ?_
  refine Own.cV (q := 24) (W := 0) (rest := []) P22 (dc s42 10 rfl) (wd hw 62 rfl) (vw_27 hw) (Own.nfs P22 (wd hw 65 rfl)) E_a1 (rmEns l Z a0 hw [] a1 t1 kb (((cs.map fun c : Int32 => c.toInt8.toInt32).map Value.int) ++ List.replicate (16 - cs.length) (Value.int 0)) ((Int32.ofNat cs.length) + (Int32.ofNat (ds : List Int32).length)) h0 n0 Z0 f1 f2 A_t (Own.room16 hsz)) (by decide) (by decide) rfl (hml rfl) rfl rfl (by decide) (by decide) rfl ?_
  rintro v23 T23 h23 L23 ⟨rfl, N23q, e23⟩ P23
  rw [e23] at P23
  have N23 := Fr.app N21 N23q
  refine Own.aloadN (q := 25) P23 (dc s42 11 rfl) rfl rfl rfl ?_
  refine Own.aloadN (q := 26) P23 (dc s42 12 rfl) rfl rfl rfl ?_
  refine Own.getfield (q := 29) P23 (dc s42 13 rfl) (wd hw 60 rfl) f3 rfl ?_
  intro T24 P24
  refine Own.aloadN (q := 30) P24 (dc s42 14 rfl) rfl rfl rfl ?_
  refine Own.cV (q := 33) (W := 0) (rest := []) P24 (dc s42 15 rfl) (wd hw 67 rfl) (vw_28 hw) (Own.nfs P24 (wd hw 70 rfl)) E_a1 (rmPut l Z a0 hw [] a1 t1 kb (((cs.map fun c : Int32 => c.toInt8.toInt32).map Value.int) ++ List.replicate (16 - cs.length) (Value.int 0)) a2 ds cs.length zc h0 n0 Z0 SC hzc E_a1 f1 f2 S2 A_t hsz (Own.vd_len (cs := cs) (by have := hsz; omega)) g_t1) (by decide) (by decide) rfl (hml rfl) rfl rfl (by decide) (by decide) rfl ?_
  rintro v25 T25 h25 L25 ⟨rfl, N25q, K25, A25⟩ P25
  have N25 := Fr.app N23 N25q
  rw [Own.put_list] at A25
  refine Own.aloadN (q := 34) P25 (dc s42 16 rfl) rfl rfl rfl ?_
  refine Own.dup (q := 35) P25 (dc s42 17 rfl) rfl rfl ?_
  have qf26 := (Fld.keep f3 K25 (ninS (Exa.neArv E_a1 A_t (wd hw 11 rfl)) nin0))
  refine Own.getfield (q := 38) P25 (dc s42 18 rfl) (wd hw 60 rfl) qf26 rfl ?_
  intro T27 P27
  refine Own.iloadN (q := 39) P27 (dc s42 19 rfl) rfl rfl ?_
  refine Own.iadd (q := 40) P27 (dc s42 20 rfl)  rfl ?_
  have qf28 := (Fld.keep f1 K25 (ninS (Exa.neArv E_a1 A_t (wd hw 11 rfl)) nin0))
  have qf29 := (Fld.keep f2 K25 (ninS (Exa.neArv E_a1 A_t (wd hw 11 rfl)) nin0))
  refine Own.putfield (q := 43) P27 (dc s42 21 rfl) (wd hw 60 rfl) qf26 (E_a1.keep K25) (Or.inl (wd hw 61 rfl)) (wd hw 11 rfl) (ty := .int) (by decide) rfl rfl rfl ?_
  intro T30 h30 lc30 hl30 P30 W30
  have F30_value := qf28.other W30 (Or.inr (slot_ne (Or.inl (wd hw 28 rfl)) (Or.inl (wd hw 61 rfl)) (by decide) (t := (.array .byte)) (t' := .int) (by decide) (by decide)))
  have F30_coder := qf29.other W30 (Or.inr (slot_ne (Or.inl (wd hw 30 rfl)) (Or.inl (wd hw 61 rfl)) (by decide) (t := .byte) (t' := .int) (by decide) (by decide)))
  have F30_count := Fld.same W30 qf26
  have A30 := (E_a1.keep K25).wr W30
  have N30 := Own.Fr.one N25 hl30 g_a1
  refine Own.aloadN (q := 44) P30 (dc s42 22 rfl) rfl rfl rfl ?_
  have qf31 := (Arv.keep A25 (Keep.of_wr W30) (ninS (Ne.symm (Exa.neArv (E_a1.keep K25) A25 (wd hw 11 rfl))) nin0))
  refine Own.retA P30 (dc s42 23 rfl) hret rfl rfl rfl hlk (by decide) (by decide) ?_
  exact ⟨rfl, N30, (Keep.wr (Keep.trans (Keep.refl h0 _) K25 (allS (Or.inl (by simp)) all0)) W30 (Or.inl (by simp))), A30, F30_value, F30_coder, by rw [List.length_append, Int32.ofNat_add]; exact F30_count, qf31⟩
theorem pd_23 : parseMethodDescriptor "(Ljava/lang/String;)Ljava/lang/AbstractStringBuilder;" = some ⟨[(.object "java/lang/String")], some (.object "java/lang/AbstractStringBuilder")⟩ := by decide +kernel
theorem s43 : decs jdk_67_method_7_code [(0, .aload_n 0, 1), (1, .aload_n 1, 1), (2, .invokespecial 29, 3), (5, .pop, 1), (6, .aload_n 0, 1), (7, .areturn, 1)] = true := by decide +kernel
theorem pn_6 : plainFor (⟨"java/lang/StringBuilder", "append", "(Ljava/lang/String;)Ljava/lang/StringBuilder;"⟩ : MethodName) = true := by first | exact plainFor_of_name (by first | (simp [plainName, overriddenIn]; done) | decide +kernel) | decide +kernel
def QrmSap (Z : State) (a1 : Addr) (t1 : Addr) (kb : ClassId) (cs : List Int32) (a2 : Addr) (ds : List Int32) (zc : Int32) (h0 : Heap) (n0 : Nat) (v : Option Value) (h : Heap) (L : List Loc) : Prop := v = some (.ref a1) ∧ Fr n0 L ∧ Keep h0 h [a1, t1] ∧ Exa Z h a1 "java/lang/StringBuilder" ∧ Own.Bf Z h a1 "value" "[B" (.ref t1) ∧ Own.Bf Z h a1 "coder" "B" (.int 0) ∧ Own.Bf Z h a1 "count" "I" (.int (Int32.ofNat (cs ++ ds).length)) ∧ Arv Z h t1 kb .byte 16 ((((cs ++ ds).map fun c : Int32 => c.toInt8.toInt32).map Value.int) ++ List.replicate (16 - (cs ++ ds).length) (Value.int 0)) (.int 0)
theorem rmSap (l : Launch) (Z : State) (a0 : Array Value) (hw : HW a0 Z) (ws : List Jvm.Cond) (a1 : Addr) (t1 : Addr) (kb : ClassId) (cs : List Int32) (a2 : Addr) (ds : List Int32) (zc : Int32) (h0 : Heap) (n0 : Nat) (Z0 : n0 ≤ h0.size) (SC : Own.Cst Z h0 zc) (hzc : ¬ zc = 0) (E_a1 : Exa Z h0 a1 "java/lang/StringBuilder") (f1 : Own.Bf Z h0 a1 "value" "[B" (.ref t1)) (f2 : Own.Bf Z h0 a1 "coder" "B" (.int 0)) (f3 : Own.Bf Z h0 a1 "count" "I" (.int (Int32.ofNat cs.length))) (A_t : Arv Z h0 t1 kb .byte 16 (((cs.map fun c : Int32 => c.toInt8.toInt32).map Value.int) ++ List.replicate (16 - cs.length) (Value.int 0)) (.int 0)) (S2 : Own.Str Z h0 a2 ds) (hsz : cs.length + ds.length ≤ 16) (g_a1 : n0 ≤ a1) (g_t1 : n0 ≤ t1) :
    Own.MF l Z (⟨"java/lang/StringBuilder", "append", "(Ljava/lang/String;)Ljava/lang/StringBuilder;"⟩ : MethodName) jdk_67_method_7_code 2 (some (.object "java/lang/StringBuilder")) ws (⟨4, 0, 0, 62⟩ : Room) #[(.ref a1), (.ref a2)] h0 (QrmSap Z a1 t1 kb cs a2 ds zc h0 n0) := by
  refine Own.MF.of (own := "java/lang/StringBuilder") (n := 2) rfl rfl pn_6 (fun p e s m below meth c s₁ hml hlk hret hnm P0 => ?_)
  rw [show entryFrame m #[(.ref a1), (.ref a2)] 2 = mkF m 0 #[.val (.ref a1), .val (.ref a2)] [] from by first | (simp [entryFrame, mkF, argsToLocals, Value.category]; done) | rfl]
  refine Own.aloadN (q := 1) P0 (dc s43 0 rfl) rfl rfl rfl ?_
  refine Own.aloadN (q := 2) P0 (dc s43 1 rfl) rfl rfl rfl ?_
  refine Own.invSuper (q := 5) (W := 0) (y := (⟨"java/lang/AbstractStringBuilder", "append", "(Ljava/lang/String;)Ljava/lang/AbstractStringBuilder;"⟩ : MethodName)) (a := a1) (argsL := [(.ref a2)]) (rest := []) P0 (dc s43 2 rfl) (by decide) (wd hw 42 rfl) (Own.sameOwn (y := (⟨"java/lang/AbstractStringBuilder", "append", "(Ljava/lang/String;)Ljava/lang/AbstractStringBuilder;"⟩ : MethodName)) (wd hw 43 rfl) (wd hw 195 rfl) (wd hw 196 rfl) rfl (by decide)) (wd hw 43 rfl) (wd hw 44 rfl) (wd hw 46 rfl) (Own.mfBack (W := 0) (rmAap l Z a0 hw [] a1 t1 kb cs a2 ds zc h0 n0 Z0 SC hzc E_a1 f1 f2 f3 A_t S2 hsz g_a1 g_t1) P0.2.2.2.1 (wd hw 46 rfl) (wd hw 20 rfl) (by decide) (by decide)) E_a1 rfl rfl (hml rfl) (lenOf pd_23 rfl) (Own.w0 rfl) (by decide) (by decide) rfl ?_
  rintro v21 T21 h21 L21 ⟨rfl, N21q, K21, E21a, V21, C21, n21, A21⟩ P21
  have N21 := Fr.app (Fr.nil n0) N21q
  refine Own.pop (q := 6) P21 (dc s43 3 rfl) rfl rfl ?_
  refine Own.aloadN (q := 7) P21 (dc s43 4 rfl) rfl rfl rfl ?_
  refine Own.retA P21 (dc s43 5 rfl) hret rfl rfl rfl hlk (by decide) (by decide) ?_
  exact ⟨rfl, N21, K21, E21a, V21, C21, n21, A21⟩

def QrmGbN (Z : State) (a1 : Addr) (t1 : Addr) (kb : ClassId) (N : Nat) (vd : List Value) (ds : List Int32) (pos : Nat) (zc : Int32) (h0 : Heap) (n0 : Nat) (v : Option Value) (h : Heap) (L : List Loc) : Prop := v = none ∧ Fr n0 L ∧ Keep h0 h [t1] ∧ Arv Z h t1 kb .byte (Int32.ofNat N) (vd.take pos ++ ((ds.map fun c : Int32 => c.toInt8.toInt32).map Value.int) ++ vd.drop (pos + ds.length)) (.int 0)
theorem rmGbN (l : Launch) (Z : State) (a0 : Array Value) (hw : HW a0 Z) (ws : List Jvm.Cond) (a1 : Addr) (t1 : Addr) (kb : ClassId) (N : Nat) (vd : List Value) (ds : List Int32) (pos : Nat) (zc : Int32) (h0 : Heap) (n0 : Nat) (Z0 : n0 ≤ h0.size) (SC : Own.Cst Z h0 zc) (hzc : ¬ zc = 0) (S1 : Own.Str Z h0 a1 ds) (A_t : Arv Z h0 t1 kb .byte (Int32.ofNat N) vd (.int 0)) (hpos : pos + ds.length ≤ N ∧ N ≤ 100) (hvl : vd.length = N) (g_t1 : n0 ≤ t1) :
    Own.MF l Z (⟨"java/lang/String", "getBytes", "([BIB)V"⟩ : MethodName) jdk_42_method_147_code 4 none ws (⟨1, 0, 0, 18⟩ : Room) #[(.ref a1), (.ref t1), (.int (Int32.ofNat pos)), (.int (0 : Int32))] h0 (QrmGbN Z a1 t1 kb N vd ds pos zc h0 n0) := by
  refine Own.MF.of (own := "java/lang/String") (n := 4) rfl rfl pn_13 (fun p e s m below meth c s₁ hml hlk hret hnm P0 => ?_)
  rw [show entryFrame m #[(.ref a1), (.ref t1), (.int (Int32.ofNat pos)), (.int (0 : Int32))] 4 = mkF m 0 #[.val (.ref a1), .val (.ref t1), .val (.int (Int32.ofNat pos)), .val (.int (0 : Int32))] [] from by first | (simp [entryFrame, mkF, argsToLocals, Value.category]; done) | rfl]
  refine Own.aloadN (q := 1) P0 (dc s40 0 rfl) rfl rfl rfl ?_
  obtain ⟨⟨t21, kb21, y21a, y21v, y21c, y21b⟩, -, -⟩ := id S1
  refine Own.cV (q := 4) (W := 0) (rest := []) P0 (dc s40 1 rfl) (wd hw 53 rfl) (vw_0 hw) (Own.nfs P0 (wd hw 56 rfl)) S1.exa (rmCod l Z a0 hw [] a1 zc h0 n0 Z0 SC hzc y21c) (by decide) (by decide) rfl (hml rfl) rfl rfl (by decide) (by decide) rfl ?_
  rintro v22 T22 h22 L22 ⟨rfl, N22q, e22⟩ P22
  rw [e22] at P22
  have N22 := Fr.app (Fr.nil n0) N22q
  refine Own.iloadN (q := 5) P22 (dc s40 2 rfl) rfl rfl ?_
  refine Own.icmp_ne (q := 8) (qy := 28) P22 (dc s40 3 rfl) (by decide) rfl (fun q => absurd rfl q) (fun _ => ?_)
  refine Own.aloadN (q := 9) P22 (dc s40 4 rfl) rfl rfl rfl ?_
  refine Own.getfield (q := 12) P22 (dc s40 5 rfl) (wd hw 52 rfl) y21v rfl ?_
  intro T23 P23
  refine Own.iconst (q := 13) (v := (0 : Int32)) P23 (dc s40 6 rfl) rfl rfl ?_
  refine Own.aloadN (q := 14) P23 (dc s40 7 rfl) rfl rfl rfl ?_
  refine Own.iloadN (q := 15) P23 (dc s40 8 rfl) rfl rfl ?_
  refine Own.iloadN (q := 16) P23 (dc s40 9 rfl) rfl rfl ?_
  refine Own.ishl (q := 17) P23 (dc s40 10 rfl)  rfl ?_
  rw [show ((Int32.ofNat pos) <<< ((0 : Int32) &&& 31)) = Int32.ofNat pos from Own.shl0 _]
  refine Own.aloadN (q := 18) P23 (dc s40 11 rfl) rfl rfl rfl ?_
  refine Own.getfield (q := 21) P23 (dc s40 12 rfl) (wd hw 52 rfl) y21v rfl ?_
  intro T24 P24
  refine Own.arraylength (q := 22) P24 (dc s40 13 rfl) y21b rfl ?_
  refine Own.copyA (q := 25) (W := 0) (n0 := n0) (d := pos) (j := ds.length) (us := ((ds.map fun c : Int32 => c.toInt8.toInt32).map Value.int)) P24 N22 (dc s40 14 rfl) (wd hw 83 rfl) (wd hw 86 rfl) (wd hw 84 rfl) (wd hw 85 rfl) y21b A_t rfl (by decide) (Own.nneg (by omega)) (Own.nneg (by omega)) (by decide) (Own.clamp (by omega)) (Own.clamp (by omega)) (by rw [Own.clamp (by omega)]; exact Nat.le_refl _) (by rw [Own.clamp (by omega)]; exact hpos.1) (Own.range_get2 ds) (by rw [hvl]; exact hpos.1) g_t1 (hml rfl) (by decide) (Own.w0 rfl) (by decide) rfl ?_
  intro T25 h25 L25 N25 P25 K25 A25
  refine Own.goto (q := 43) P25 (dc s40 15 rfl) (by decide) ?_
  refine Own.retV P25 (dc s40 16 rfl) hret hlk (by decide) (by decide) ?_
  exact ⟨rfl, N25, (Keep.trans (Keep.refl h0 _) K25 (allS (Or.inl (by simp)) all0)), A25⟩

def QrmPutN (Z : State) (a1 : Addr) (t1 : Addr) (kb : ClassId) (N : Nat) (vd : List Value) (a2 : Addr) (ds : List Int32) (pos : Nat) (zc : Int32) (h0 : Heap) (n0 : Nat) (v : Option Value) (h : Heap) (L : List Loc) : Prop := v = none ∧ Fr n0 L ∧ Keep h0 h [t1] ∧ Arv Z h t1 kb .byte (Int32.ofNat N) (vd.take pos ++ ((ds.map fun c : Int32 => c.toInt8.toInt32).map Value.int) ++ vd.drop (pos + ds.length)) (.int 0)
theorem rmPutN (l : Launch) (Z : State) (a0 : Array Value) (hw : HW a0 Z) (ws : List Jvm.Cond) (a1 : Addr) (t1 : Addr) (kb : ClassId) (N : Nat) (vd : List Value) (a2 : Addr) (ds : List Int32) (pos : Nat) (zc : Int32) (h0 : Heap) (n0 : Nat) (Z0 : n0 ≤ h0.size) (SC : Own.Cst Z h0 zc) (hzc : ¬ zc = 0) (E_a1 : Exa Z h0 a1 "java/lang/StringBuilder") (f1 : Own.Bf Z h0 a1 "value" "[B" (.ref t1)) (f2 : Own.Bf Z h0 a1 "coder" "B" (.int 0)) (S2 : Own.Str Z h0 a2 ds) (A_t : Arv Z h0 t1 kb .byte (Int32.ofNat N) vd (.int 0)) (hpos : pos + ds.length ≤ N ∧ N ≤ 100) (hvl : vd.length = N) (g_t1 : n0 ≤ t1) :
    Own.MF l Z (⟨"java/lang/AbstractStringBuilder", "putStringAt", "(ILjava/lang/String;)V"⟩ : MethodName) jdk_68_method_73_code 3 none ws (⟨2, 0, 0, 33⟩ : Room) #[(.ref a1), (.int (Int32.ofNat pos)), (.ref a2)] h0 (QrmPutN Z a1 t1 kb N vd a2 ds pos zc h0 n0) := by
  refine Own.MF.of (own := "java/lang/AbstractStringBuilder") (n := 3) rfl rfl pn_11 (fun p e s m below meth c s₁ hml hlk hret hnm P0 => ?_)
  rw [show entryFrame m #[(.ref a1), (.int (Int32.ofNat pos)), (.ref a2)] 3 = mkF m 0 #[.val (.ref a1), .val (.int (Int32.ofNat pos)), .val (.ref a2)] [] from by first | (simp [entryFrame, mkF, argsToLocals, Value.category]; done) | rfl]
  refine Own.aloadN (q := 1) P0 (dc s41 0 rfl) rfl rfl rfl ?_
  refine Own.aloadN (q := 2) P0 (dc s41 1 rfl) rfl rfl rfl ?_
  refine Own.cV (q := 5) (W := 0) (rest := []) P0 (dc s41 2 rfl) (wd hw 72 rfl) (vw_24 hw) (Own.nfs P0 (wd hw 75 rfl)) E_a1 (rmInf l Z a0 hw [] a1 a2 ds zc h0 n0 Z0 SC hzc f2 S2) (by decide) (by decide) rfl (hml rfl) rfl rfl (by decide) (by decide) rfl ?_
  rintro v21 T21 h21 L21 ⟨rfl, N21q, e21⟩ P21
  rw [e21] at P21
  have N21 := Fr.app (Fr.nil n0) N21q
  refine Own.aloadN (q := 6) P21 (dc s41 3 rfl) rfl rfl rfl ?_
  refine Own.aloadN (q := 7) P21 (dc s41 4 rfl) rfl rfl rfl ?_
  refine Own.getfield (q := 10) P21 (dc s41 5 rfl) (wd hw 27 rfl) f1 rfl ?_
  intro T22 P22
  refine Own.iloadN (q := 11) P22 (dc s41 6 rfl) rfl rfl ?_
  refine Own.aloadN (q := 12) P22 (dc s41 7 rfl) rfl rfl rfl ?_
  refine Own.getfield (q := 15) P22 (dc s41 8 rfl) (wd hw 29 rfl) f2 rfl ?_
  intro T23 P23
  refine Own.cV (q := 18) (W := 0) (rest := []) P23 (dc s41 9 rfl) (wd hw 78 rfl) (vw_25 hw) (Own.nfs P23 (wd hw 81 rfl)) S2.exa (rmGbN l Z a0 hw [] a2 t1 kb N vd ds pos zc h0 n0 Z0 SC hzc S2 A_t hpos hvl g_t1) (by decide) (by decide) rfl (hml rfl) rfl rfl (by decide) (by decide) rfl ?_
  rintro v24 T24 h24 L24 ⟨rfl, N24q, K24, A24⟩ P24
  have N24 := Fr.app N21 N24q
  refine Own.retV P24 (dc s41 10 rfl) hret hlk (by decide) (by decide) ?_
  exact ⟨rfl, N24, K24, A24⟩

def QrmAag (Z : State) (a1 : Addr) (t1 : Addr) (kb : ClassId) (cs : List Int32) (a2 : Addr) (ds : List Int32) (zc : Int32) (h0 : Heap) (n0 : Nat) (v : Option Value) (h : Heap) (L : List Loc) : Prop := v = some (.ref a1) ∧ Fr n0 L ∧ Keep h0 h [a1] ∧ ∃ t k, h0.size ≤ t ∧ Exa Z h a1 "java/lang/StringBuilder" ∧ Own.Bf Z h a1 "value" "[B" (.ref t) ∧ Own.Bf Z h a1 "coder" "B" (.int 0) ∧ Own.Bf Z h a1 "count" "I" (.int (Int32.ofNat (cs ++ ds).length)) ∧ Arv Z h t k .byte (Int32.ofNat (cs ++ ds).length) (((cs ++ ds).map fun c : Int32 => c.toInt8.toInt32).map Value.int) (.int 0) ∧ Exa Z h t "[B"
theorem rmAag (l : Launch) (Z : State) (a0 : Array Value) (hw : HW a0 Z) (ws : List Jvm.Cond) (a1 : Addr) (t1 : Addr) (kb : ClassId) (cs : List Int32) (a2 : Addr) (ds : List Int32) (zc : Int32) (h0 : Heap) (n0 : Nat) (Z0 : n0 ≤ h0.size) (SC : Own.Cst Z h0 zc) (hzc : ¬ zc = 0) (E_a1 : Exa Z h0 a1 "java/lang/StringBuilder") (f1 : Own.Bf Z h0 a1 "value" "[B" (.ref t1)) (f2 : Own.Bf Z h0 a1 "coder" "B" (.int 0)) (f3 : Own.Bf Z h0 a1 "count" "I" (.int (Int32.ofNat cs.length))) (A_t : Arv Z h0 t1 kb .byte 16 (((cs.map fun c : Int32 => c.toInt8.toInt32).map Value.int) ++ List.replicate (16 - cs.length) (Value.int 0)) (.int 0)) (S2 : Own.Str Z h0 a2 ds) (hc : cs.length ≤ 16) (hm : 34 ≤ cs.length + ds.length ∧ cs.length + ds.length ≤ 100) (g_a1 : n0 ≤ a1) :
    Own.MF l Z (⟨"java/lang/AbstractStringBuilder", "append", "(Ljava/lang/String;)Ljava/lang/AbstractStringBuilder;"⟩ : MethodName) jdk_68_method_22_code 3 (some (.object "java/lang/AbstractStringBuilder")) ws (⟨4, 1, 100, 70⟩ : Room) #[(.ref a1), (.ref a2)] h0 (QrmAag Z a1 t1 kb cs a2 ds zc h0 n0) := by
  refine Own.MF.of (own := "java/lang/AbstractStringBuilder") (n := 3) rfl rfl pn_7 (fun p e s m below meth c s₁ hml hlk hret hnm P0 => ?_)
  rw [show entryFrame m #[(.ref a1), (.ref a2)] 3 = mkF m 0 #[.val (.ref a1), .val (.ref a2), .unset] [] from by first | (simp [entryFrame, mkF, argsToLocals, Value.category]; done) | rfl]
  refine Own.aloadN (q := 1) P0 (dc s42 0 rfl) rfl rfl rfl ?_
  refine Own.nonnullY (q := 9) P0 (dc s42 1 rfl) (by decide) ?_
  refine Own.aloadN (q := 10) P0 (dc s42 2 rfl) rfl rfl rfl ?_
  refine Own.cV (q := 13) (W := 0) (rest := []) P0 (dc s42 3 rfl) (wd hw 47 rfl) (vw_26 hw) (Own.nfs P0 (wd hw 50 rfl)) S2.exa (rmLn0 l Z a0 hw [] a2 ds zc h0 n0 Z0 SC hzc S2) (by decide) (by decide) rfl (hml rfl) rfl rfl (by decide) (by decide) rfl ?_
  rintro v21 T21 h21 L21 ⟨rfl, N21q, e21⟩ P21
  rw [e21] at P21
  have N21 := Fr.app (Fr.nil n0) N21q
  refine Own.istoreN (q := 14) (L2 := #[.val (.ref a1), .val (.ref a2), .val (.int (Int32.ofNat (ds : List Int32).length))]) P21 (dc s42 4 rfl) rfl rfl ?_
  refine Own.aloadN (q := 15) P21 (dc s42 5 rfl) rfl rfl rfl ?_
  refine Own.aloadN (q := 16) P21 (dc s42 6 rfl) rfl rfl rfl ?_
  refine Own.getfield (q := 19) P21 (dc s42 7 rfl) (wd hw 60 rfl) f3 rfl ?_
  intro T22 P22
  refine Own.iloadN (q := 20) P22 (dc s42 8 rfl) rfl rfl ?_
  refine Own.iadd (q := 21) P22 (dc s42 9 rfl)  rfl ?_
  rw [show ((Int32.ofNat cs.length) + (Int32.ofNat (ds : List Int32).length)) = (Int32.ofNat (cs.length + ds.length)) from (Int32.ofNat_add _ _).symm]
  refine Own.cV (q := 24) (W := 0) (rest := []) P22 (dc s42 10 rfl) (wd hw 62 rfl) (vw_27 hw) (Own.nfs P22 (wd hw 65 rfl)) E_a1 (rmEnG l Z a0 hw [] a1 t1 kb cs (cs.length + ds.length) h0 n0 Z0 E_a1 f1 f2 f3 A_t hc hm g_a1) (by decide) (by decide) rfl (hml rfl) rfl rfl (by decide) (by decide) rfl ?_
  rintro v23 T23 h23 L23 ⟨rfl, N23q, K23, t23, k23, gt23, E23a, V23, C23, n23, A23, X23⟩ P23
  have N23 := Fr.app N21 N23q
  refine Own.aloadN (q := 25) P23 (dc s42 11 rfl) rfl rfl rfl ?_
  refine Own.aloadN (q := 26) P23 (dc s42 12 rfl) rfl rfl rfl ?_
  refine Own.getfield (q := 29) P23 (dc s42 13 rfl) (wd hw 60 rfl) n23 rfl ?_
  intro T24 P24
  refine Own.aloadN (q := 30) P24 (dc s42 14 rfl) rfl rfl rfl ?_
  have qf25 := (Own.Sta_kp1 SC K23 E_a1)
  have qf26 := (Own.Str.kp1 S2 K23 E_a1 (by decide) (wd hw 11 rfl))
  have Z1_27 : n0 ≤ h23.size := Nat.le_trans Z0 K23.1
  refine Own.cV (q := 33) (W := 0) (rest := []) P24 (dc s42 15 rfl) (wd hw 67 rfl) (vw_28 hw) (Own.nfs P24 (wd hw 70 rfl)) E23a (rmPutN l Z a0 hw [] a1 t23 k23 (cs.length + ds.length) (((cs.map fun c : Int32 => c.toInt8.toInt32).map Value.int) ++ List.replicate ((cs.length + ds.length) - cs.length) (Value.int 0)) a2 ds cs.length zc h23 n0 Z1_27 qf25 hzc E23a V23 C23 qf26 A23 (by omega) (Own.vdN_len' (by omega)) (Nat.le_trans Z0 gt23)) (by decide) (by decide) rfl (hml rfl) rfl rfl (by decide) (by decide) rfl ?_
  rintro v28 T28 h28 L28 ⟨rfl, N28q, K28, A28⟩ P28
  have N28 := Fr.app N23 N28q
  rw [Own.put_listG rfl] at A28
  have V28 : Arv Z h28 t23 k23 .byte (Int32.ofNat (cs ++ ds).length) (((cs ++ ds).map fun c : Int32 => c.toInt8.toInt32).map Value.int) (.int 0) := by
    rw [List.length_append]
    exact A28
  refine Own.aloadN (q := 34) P28 (dc s42 16 rfl) rfl rfl rfl ?_
  refine Own.dup (q := 35) P28 (dc s42 17 rfl) rfl rfl ?_
  have qf29 := (Fld.keep n23 K28 (ninS (Exa.neArv E23a A23 (wd hw 11 rfl)) nin0))
  refine Own.getfield (q := 38) P28 (dc s42 18 rfl) (wd hw 60 rfl) qf29 rfl ?_
  intro T30 P30
  refine Own.iloadN (q := 39) P30 (dc s42 19 rfl) rfl rfl ?_
  refine Own.iadd (q := 40) P30 (dc s42 20 rfl)  rfl ?_
  have qf31 := (Fld.keep V23 K28 (ninS (Exa.neArv E23a A23 (wd hw 11 rfl)) nin0))
  have qf32 := (Fld.keep C23 K28 (ninS (Exa.neArv E23a A23 (wd hw 11 rfl)) nin0))
  refine Own.putfield (q := 43) P30 (dc s42 21 rfl) (wd hw 60 rfl) qf29 (E23a.keep K28) (Or.inl (wd hw 61 rfl)) (wd hw 11 rfl) (ty := .int) (by decide) rfl rfl rfl ?_
  intro T33 h33 lc33 hl33 P33 W33
  have F33_value := qf31.other W33 (Or.inr (slot_ne (Or.inl (wd hw 28 rfl)) (Or.inl (wd hw 61 rfl)) (by decide) (t := (.array .byte)) (t' := .int) (by decide) (by decide)))
  have F33_coder := qf32.other W33 (Or.inr (slot_ne (Or.inl (wd hw 30 rfl)) (Or.inl (wd hw 61 rfl)) (by decide) (t := .byte) (t' := .int) (by decide) (by decide)))
  have F33_count := Fld.same W33 qf29
  have A33 := (E23a.keep K28).wr W33
  have N33 := Own.Fr.one N28 hl33 g_a1
  refine Own.aloadN (q := 44) P33 (dc s42 22 rfl) rfl rfl rfl ?_
  have qf34 := (Arv.keep V28 (Keep.of_wr W33) (ninS (Ne.symm (Exa.neArv (E23a.keep K28) V28 (wd hw 11 rfl))) nin0))
  have qf35 := (X23.keep K28)
  have qf36 := (qf35.wr W33)
  refine Own.retA P33 (dc s42 23 rfl) hret rfl rfl rfl hlk (by decide) (by decide) ?_
  exact ⟨rfl, N33, (Keep.wr (Keep.trans (Keep.trans (Keep.refl h0 _) K23 (allS (Or.inl (by simp)) all0)) K28 (allS (Or.inr gt23) all0)) W33 (Or.inl (by simp))), t23, _, gt23, A33, F33_value, F33_coder, by rw [List.length_append, Int32.ofNat_add]; exact F33_count, qf34, qf36⟩

def QrmSag (Z : State) (a1 : Addr) (t1 : Addr) (kb : ClassId) (cs : List Int32) (a2 : Addr) (ds : List Int32) (zc : Int32) (h0 : Heap) (n0 : Nat) (v : Option Value) (h : Heap) (L : List Loc) : Prop := v = some (.ref a1) ∧ Fr n0 L ∧ Keep h0 h [a1] ∧ ∃ t k, h0.size ≤ t ∧ Exa Z h a1 "java/lang/StringBuilder" ∧ Own.Bf Z h a1 "value" "[B" (.ref t) ∧ Own.Bf Z h a1 "coder" "B" (.int 0) ∧ Own.Bf Z h a1 "count" "I" (.int (Int32.ofNat (cs ++ ds).length)) ∧ Arv Z h t k .byte (Int32.ofNat (cs ++ ds).length) (((cs ++ ds).map fun c : Int32 => c.toInt8.toInt32).map Value.int) (.int 0) ∧ Exa Z h t "[B"
theorem rmSag (l : Launch) (Z : State) (a0 : Array Value) (hw : HW a0 Z) (ws : List Jvm.Cond) (a1 : Addr) (t1 : Addr) (kb : ClassId) (cs : List Int32) (a2 : Addr) (ds : List Int32) (zc : Int32) (h0 : Heap) (n0 : Nat) (Z0 : n0 ≤ h0.size) (SC : Own.Cst Z h0 zc) (hzc : ¬ zc = 0) (E_a1 : Exa Z h0 a1 "java/lang/StringBuilder") (f1 : Own.Bf Z h0 a1 "value" "[B" (.ref t1)) (f2 : Own.Bf Z h0 a1 "coder" "B" (.int 0)) (f3 : Own.Bf Z h0 a1 "count" "I" (.int (Int32.ofNat cs.length))) (A_t : Arv Z h0 t1 kb .byte 16 (((cs.map fun c : Int32 => c.toInt8.toInt32).map Value.int) ++ List.replicate (16 - cs.length) (Value.int 0)) (.int 0)) (S2 : Own.Str Z h0 a2 ds) (hc : cs.length ≤ 16) (hm : 34 ≤ cs.length + ds.length ∧ cs.length + ds.length ≤ 100) (g_a1 : n0 ≤ a1) :
    Own.MF l Z (⟨"java/lang/StringBuilder", "append", "(Ljava/lang/String;)Ljava/lang/StringBuilder;"⟩ : MethodName) jdk_67_method_7_code 2 (some (.object "java/lang/StringBuilder")) ws (⟨5, 1, 100, 84⟩ : Room) #[(.ref a1), (.ref a2)] h0 (QrmSag Z a1 t1 kb cs a2 ds zc h0 n0) := by
  refine Own.MF.of (own := "java/lang/StringBuilder") (n := 2) rfl rfl pn_6 (fun p e s m below meth c s₁ hml hlk hret hnm P0 => ?_)
  rw [show entryFrame m #[(.ref a1), (.ref a2)] 2 = mkF m 0 #[.val (.ref a1), .val (.ref a2)] [] from by first | (simp [entryFrame, mkF, argsToLocals, Value.category]; done) | rfl]
  refine Own.aloadN (q := 1) P0 (dc s43 0 rfl) rfl rfl rfl ?_
  refine Own.aloadN (q := 2) P0 (dc s43 1 rfl) rfl rfl rfl ?_
  refine Own.invSuper (q := 5) (W := 0) (y := (⟨"java/lang/AbstractStringBuilder", "append", "(Ljava/lang/String;)Ljava/lang/AbstractStringBuilder;"⟩ : MethodName)) (a := a1) (argsL := [(.ref a2)]) (rest := []) P0 (dc s43 2 rfl) (by decide) (wd hw 42 rfl) (Own.sameOwn (y := (⟨"java/lang/AbstractStringBuilder", "append", "(Ljava/lang/String;)Ljava/lang/AbstractStringBuilder;"⟩ : MethodName)) (wd hw 43 rfl) (wd hw 195 rfl) (wd hw 196 rfl) rfl (by decide)) (wd hw 43 rfl) (wd hw 44 rfl) (wd hw 46 rfl) (Own.mfBack (W := 0) (rmAag l Z a0 hw [] a1 t1 kb cs a2 ds zc h0 n0 Z0 SC hzc E_a1 f1 f2 f3 A_t S2 hc hm g_a1) P0.2.2.2.1 (wd hw 46 rfl) (wd hw 20 rfl) (by decide) (by decide)) E_a1 rfl rfl (hml rfl) (lenOf pd_23 rfl) (Own.w0 rfl) (by decide) (by decide) rfl ?_
  rintro v21 T21 h21 L21 ⟨rfl, N21q, K21, X21⟩ P21
  have N21 := Fr.app (Fr.nil n0) N21q
  refine Own.pop (q := 6) P21 (dc s43 3 rfl) rfl rfl ?_
  refine Own.aloadN (q := 7) P21 (dc s43 4 rfl) rfl rfl rfl ?_
  refine Own.retA P21 (dc s43 5 rfl) hret rfl rfl rfl hlk (by decide) (by decide) ?_
  exact ⟨rfl, N21, K21, X21⟩
theorem s44 : decs jdk_67_method_93_code [(0, .aload_n 0, 1), (1, .invokespecial 343, 3), (4, .ireturn, 1)] = true := by decide +kernel
theorem pn_34 : plainFor (⟨"java/lang/StringBuilder", "length", "()I"⟩ : MethodName) = true := by first | exact plainFor_of_name (by first | (simp [plainName, overriddenIn]; done) | decide +kernel) | decide +kernel
def QrmSln (Z : State) (a1 : Addr) (n1 : Int32) (h0 : Heap) (n0 : Nat) (v : Option Value) (h : Heap) (L : List Loc) : Prop := v = some (.int n1) ∧ Fr n0 L ∧ h = h0
theorem rmSln (l : Launch) (Z : State) (a0 : Array Value) (hw : HW a0 Z) (ws : List Jvm.Cond) (a1 : Addr) (n1 : Int32) (h0 : Heap) (n0 : Nat) (Z0 : n0 ≤ h0.size) (E_a1 : Exa Z h0 a1 "java/lang/StringBuilder") (f3 : Own.Bf Z h0 a1 "count" "I" (.int n1)) :
    Own.MF l Z (⟨"java/lang/StringBuilder", "length", "()I"⟩ : MethodName) jdk_67_method_93_code 1 (some .int) ws (⟨1, 0, 0, 12⟩ : Room) #[(.ref a1)] h0 (QrmSln Z a1 n1 h0 n0) := by
  refine Own.MF.of (own := "java/lang/StringBuilder") (n := 1) rfl rfl pn_34 (fun p e s m below meth c s₁ hml hlk hret hnm P0 => ?_)
  rw [show entryFrame m #[(.ref a1)] 1 = mkF m 0 #[.val (.ref a1)] [] from by first | (simp [entryFrame, mkF, argsToLocals, Value.category]; done) | rfl]
  refine Own.aloadN (q := 1) P0 (dc s44 0 rfl) rfl rfl rfl ?_
  refine Own.invSuper (q := 4) (W := 0) (y := (⟨"java/lang/AbstractStringBuilder", "length", "()I"⟩ : MethodName)) (a := a1) (argsL := []) (rest := []) P0 (dc s44 1 rfl) (by decide) (wd hw 204 rfl) (Own.sameOwn (y := (⟨"java/lang/AbstractStringBuilder", "length", "()I"⟩ : MethodName)) (wd hw 200 rfl) (wd hw 195 rfl) (wd hw 196 rfl) rfl (by decide)) (wd hw 200 rfl) (wd hw 44 rfl) (wd hw 205 rfl) (Own.mfBack (W := 0) (rmLn l Z a0 hw [] a1 n1 h0 n0 Z0 f3) P0.2.2.2.1 (wd hw 205 rfl) (wd hw 20 rfl) (by decide) (by decide)) E_a1 rfl rfl (hml rfl) (lenOf pd_21 rfl) (Own.w0 rfl) (by decide) (by decide) rfl ?_
  rintro v21 T21 h21 L21 ⟨rfl, N21q, e21⟩ P21
  rw [e21] at P21
  have N21 := Fr.app (Fr.nil n0) N21q
  refine Own.retI P21 (dc s44 2 rfl) hret hlk (by decide) (by decide) ?_
  exact ⟨rfl, N21, rfl⟩
theorem pd_24 : parseMethodDescriptor "()[B" = some ⟨[], some (.array .byte)⟩ := by decide +kernel
theorem vw_29 {Z : State} {a0 : Array Value} (hw : HW a0 Z) : Own.VW Z a0 "java/lang/StringBuilder" ⟨"java/lang/AbstractStringBuilder", "getValue", "()[B"⟩ ⟨"java/lang/AbstractStringBuilder", "getValue", "()[B"⟩ jdk_68_method_64_code 1 (some (.array .byte)) 0 := ⟨(wd hw 194 rfl), (wd hw 196 rfl), (wd hw 195 rfl), (wd hw 20 rfl), (wd hw 197 rfl), by decide, _, _, pd_24, rfl⟩
theorem vw_30 {Z : State} {a0 : Array Value} (hw : HW a0 Z) : Own.VW Z a0 "java/lang/StringBuilder" ⟨"java/lang/AbstractStringBuilder", "length", "()I"⟩ ⟨"java/lang/StringBuilder", "length", "()I"⟩ jdk_67_method_93_code 1 (some .int) 0 := ⟨(wd hw 199 rfl), (wd hw 201 rfl), (wd hw 202 rfl), (wd hw 12 rfl), (wd hw 203 rfl), by decide, _, _, pd_21, rfl⟩
theorem vw_31 {Z : State} {a0 : Array Value} (hw : HW a0 Z) : Own.VW Z a0 "java/lang/StringBuilder" ⟨"java/lang/AbstractStringBuilder", "isLatin1", "()Z"⟩ ⟨"java/lang/AbstractStringBuilder", "isLatin1", "()Z"⟩ jdk_68_method_68_code 1 (some .boolean) 0 := ⟨(wd hw 207 rfl), (wd hw 209 rfl), (wd hw 208 rfl), (wd hw 20 rfl), (wd hw 210 rfl), by decide, _, _, pd_3, rfl⟩
theorem s45 : decs jdk_42_method_150_code [(0, .aload_n 0, 1), (1, .invokespecial 1, 3), (4, .aload_n 1, 1), (5, .invokevirtual 552, 3), (8, .astore_n 3, 1), (9, .aload_n 1, 1), (10, .invokevirtual 549, 3), (13, .istore 4, 2), (15, .aload_n 1, 1), (16, .invokevirtual 1047, 3), (19, .ifCond .eq 22, 3), (22, .aload_n 0, 1), (23, .iconst 0, 1), (24, .putfield 15, 3), (27, .aload_n 0, 1), (28, .aload_n 3, 1), (29, .iconst 0, 1), (30, .iload 4, 2), (32, .invokestatic 54, 3), (35, .putfield 9, 3), (38, .goto 59, 3), (97, .return_, 1)] = true := by decide +kernel
theorem pn_32 : plainFor (⟨"java/lang/String", "<init>", "(Ljava/lang/AbstractStringBuilder;Ljava/lang/Void;)V"⟩ : MethodName) = true := by first | exact plainFor_of_name (by first | (simp [plainName, overriddenIn]; done) | decide +kernel) | decide +kernel
def QrmSavG (Z : State) (a1 : Addr) (u1 : Value) (u2 : Value) (a2 : Addr) (t1 : Addr) (kb : ClassId) (cs : List Int32) (zc : Int32) (h0 : Heap) (n0 : Nat) (v : Option Value) (h : Heap) (L : List Loc) : Prop := v = none ∧ Fr n0 L ∧ Keep h0 h [a1] ∧ Own.Str Z h a1 cs
theorem rmSavG (l : Launch) (Z : State) (a0 : Array Value) (hw : HW a0 Z) (ws : List Jvm.Cond) (a1 : Addr) (u1 : Value) (u2 : Value) (a2 : Addr) (t1 : Addr) (kb : ClassId) (cs : List Int32) (zc : Int32) (h0 : Heap) (n0 : Nat) (Z0 : n0 ≤ h0.size) (SC : Own.Cst Z h0 zc) (hzc : ¬ zc = 0) (E_a1 : Exa Z h0 a1 "java/lang/String") (f1 : Fld Z h0 a1 "java/lang/String" "value" "[B" u1) (f2 : Fld Z h0 a1 "java/lang/String" "coder" "B" u2) (g_a1 : n0 ≤ a1) (E_a2 : Exa Z h0 a2 "java/lang/StringBuilder") (s1 : Own.Bf Z h0 a2 "value" "[B" (.ref t1)) (s2 : Own.Bf Z h0 a2 "coder" "B" (.int 0)) (s3 : Own.Bf Z h0 a2 "count" "I" (.int (Int32.ofNat cs.length))) (A_t : Arv Z h0 t1 kb .byte (Int32.ofNat cs.length) ((cs.map fun c : Int32 => c.toInt8.toInt32).map Value.int) (.int 0)) (X_t : Exa Z h0 t1 "[B") (hcs : cs.length ≤ 100) (hp : ∀ c ∈ cs, ¬ c < 0 ∧ ¬ (255 : Int32) < c) :
    Own.MF l Z (⟨"java/lang/String", "<init>", "(Ljava/lang/AbstractStringBuilder;Ljava/lang/Void;)V"⟩ : MethodName) jdk_42_method_150_code 5 none ws (⟨2, 1, 100, 40⟩ : Room) #[(.ref a1), (.ref a2), .null] h0 (QrmSavG Z a1 u1 u2 a2 t1 kb cs zc h0 n0) := by
  refine Own.MF.of (own := "java/lang/String") (n := 5) rfl rfl pn_32 (fun p e s m below meth c s₁ hml hlk hret hnm P0 => ?_)
  rw [show entryFrame m #[(.ref a1), (.ref a2), .null] 5 = mkF m 0 #[.val (.ref a1), .val (.ref a2), .val .null, .unset, .unset] [] from by first | (simp [entryFrame, mkF, argsToLocals, Value.category]; done) | rfl]
  refine Own.aloadN (q := 1) P0 (dc s45 0 rfl) rfl rfl rfl ?_
  refine Own.objinit (q := 4) (W := 0) P0 (dc s45 1 rfl) (wd hw 140 rfl) (wd hw 23 rfl) (wd hw 24 rfl) (hml rfl) (by decide) (Own.w0 rfl) (by decide) rfl ?_
  intro T21 P21
  refine Own.aloadN (q := 5) P21 (dc s45 2 rfl) rfl rfl rfl ?_
  refine Own.cV (q := 8) (W := 0) (rest := []) P21 (dc s45 3 rfl) (wd hw 193 rfl) (vw_29 hw) (Own.nfs P21 (wd hw 196 rfl)) E_a2 (rmGv l Z a0 hw [] a2 t1 h0 n0 Z0 s1) (by decide) (by decide) rfl (hml rfl) rfl rfl (by decide) (by decide) rfl ?_
  rintro v22 T22 h22 L22 ⟨rfl, N22q, e22⟩ P22
  rw [e22] at P22
  have N22 := Fr.app (Fr.nil n0) N22q
  refine Own.astoreN (q := 9) (L2 := #[.val (.ref a1), .val (.ref a2), .val .null, .val (.ref t1), .unset]) P22 (dc s45 4 rfl) rfl rfl rfl ?_
  refine Own.aloadN (q := 10) P22 (dc s45 5 rfl) rfl rfl rfl ?_
  refine Own.cV (q := 13) (W := 0) (rest := []) P22 (dc s45 6 rfl) (wd hw 198 rfl) (vw_30 hw) (Own.nfOwn (Z := Z) (a0 := #[]) (mvT P22.2.2.2.1 (wd hw 196 rfl)) (mvT P22.2.2.2.1 (wd hw 195 rfl)) rfl) E_a2 (rmSln l Z a0 hw [] a2 (Int32.ofNat cs.length) h0 n0 Z0 E_a2 s3) (by decide) (by decide) rfl (hml rfl) rfl rfl (by decide) (by decide) rfl ?_
  rintro v23 T23 h23 L23 ⟨rfl, N23q, e23⟩ P23
  rw [e23] at P23
  have N23 := Fr.app N22 N23q
  refine Own.istore (q := 15) (L2 := #[.val (.ref a1), .val (.ref a2), .val .null, .val (.ref t1), .val (.int (Int32.ofNat cs.length))]) P23 (dc s45 7 rfl) rfl rfl ?_
  refine Own.aloadN (q := 16) P23 (dc s45 8 rfl) rfl rfl rfl ?_
  refine Own.cV (q := 19) (W := 0) (rest := []) P23 (dc s45 9 rfl) (wd hw 206 rfl) (vw_31 hw) (Own.nfs P23 (wd hw 209 rfl)) E_a2 (rmIl l Z a0 hw [] a2 zc h0 n0 Z0 SC hzc s2) (by decide) (by decide) rfl (hml rfl) rfl rfl (by decide) (by decide) rfl ?_
  rintro v24 T24 h24 L24 ⟨rfl, N24q, e24⟩ P24
  rw [e24] at P24
  have N24 := Fr.app N23 N24q
  refine Own.if_eq (q := 22) (qy := 41) P24 (dc s45 10 rfl) (by decide) rfl (fun q => absurd q (by decide)) (fun _ => ?_)
  refine Own.aloadN (q := 23) P24 (dc s45 11 rfl) rfl rfl rfl ?_
  refine Own.iconst (q := 24) (v := (0 : Int32)) P24 (dc s45 12 rfl) rfl rfl ?_
  refine Own.putfield (q := 27) P24 (dc s45 13 rfl) (wd hw 59 rfl) f2 E_a1 (Or.inr ⟨(wd hw 34 rfl), rfl, hnm⟩) (wd hw 32 rfl) (ty := .byte) (by decide) rfl rfl rfl ?_
  intro T25 h25 lc25 hl25 P25 W25
  have F25_value := f1.other W25 (Or.inr (slot_ne (Or.inr (wd hw 33 rfl)) (Or.inr (wd hw 34 rfl)) (by decide) (t := (.array .byte)) (t' := .byte) (by decide) (by decide)))
  have F25_coder := Fld.same W25 f2
  have A25 := E_a1.wr W25
  have N25 := Own.Fr.one N24 hl25 g_a1
  refine Own.aloadN (q := 28) P25 (dc s45 14 rfl) rfl rfl rfl ?_
  refine Own.aloadN (q := 29) P25 (dc s45 15 rfl) rfl rfl rfl ?_
  refine Own.iconst (q := 30) (v := (0 : Int32)) P25 (dc s45 16 rfl) rfl rfl ?_
  refine Own.iload (q := 32) P25 (dc s45 17 rfl) rfl rfl ?_
  have qf26 := (Arv.keep A_t (Keep.of_wr W25) (ninS (Ne.symm (Exa.neArv E_a1 A_t (wd hw 32 rfl))) nin0))
  have qf27 := (X_t.wr W25)
  have Z1_28 : n0 ≤ h25.size := by rw [W25.size]; exact Z0
  refine Own.cS (q := 35) (W := 1) (rest := [(.ref a1)]) P25 (dc s45 18 rfl) (wd hw 149 rfl) (sw_16 hw) (rmCrc l Z a0 hw [] t1 kb cs h25 n0 Z1_28 qf26 qf27 hcs) (by decide) (by decide) rfl (hml rfl) rfl rfl (by decide) (by decide) rfl ?_
  rintro v29 T29 h29 L29 ⟨r29, rfl, N29q, E29, gr29, B29, X29⟩ P29
  have N29 := Fr.app N25 N29q
  have E1_2_30 : Ext h25 h29 := E29
  refine Own.putfield (q := 38) P29 (dc s45 19 rfl) (wd hw 52 rfl) (F25_value.ext E1_2_30) (A25.ext E1_2_30) (Or.inr ⟨(wd hw 33 rfl), rfl, hnm⟩) (wd hw 32 rfl) (ty := (.array .byte)) (by decide) rfl rfl rfl ?_
  intro T31 h31 lc31 hl31 P31 W31
  have F31_value := Fld.same W31 (F25_value.ext E1_2_30)
  have F31_coder := (F25_coder.ext E1_2_30).other W31 (Or.inr (slot_ne (Or.inr (wd hw 34 rfl)) (Or.inr (wd hw 33 rfl)) (by decide) (t := .byte) (t' := (.array .byte)) (by decide) (by decide)))
  have A31 := (A25.ext E1_2_30).wr W31
  have N31 := Own.Fr.one N29 hl31 g_a1
  refine Own.goto (q := 97) P31 (dc s45 20 rfl) (by decide) ?_
  have qf32 := (Arv.keep B29 (Keep.of_wr W31) (ninS (Ne.symm (Exa.neArv (A25.ext E29) B29 (wd hw 32 rfl))) nin0))
  refine Own.retV P31 (dc s45 21 rfl) hret hlk (by decide) (by decide) ?_
  exact ⟨rfl, N31, (Keep.wr (Keep.ext (Keep.wr (Keep.refl h0 _) W25 (Or.inl (by simp))) E29) W31 (Or.inl (by simp))), ⟨_, _, A31, F31_value, F31_coder, qf32⟩, hp, by omega⟩
theorem pd_25 : parseMethodDescriptor "(Ljava/lang/AbstractStringBuilder;Ljava/lang/Void;)V" = some ⟨[(.object "java/lang/AbstractStringBuilder"), (.object "java/lang/Void")], none⟩ := by decide +kernel
theorem iw_32 {Z : State} {a0 : Array Value} (hw : HW a0 Z) : Own.IW Z a0 ⟨"java/lang/String", "<init>", "(Ljava/lang/AbstractStringBuilder;Ljava/lang/Void;)V"⟩ jdk_42_method_150_code 5 2 := ⟨rfl, (wd hw 191 rfl), (wd hw 26 rfl), (wd hw 192 rfl), by decide, _, _, pd_25, rfl⟩
theorem s46 : decs jdk_42_method_53_code [(0, .aload_n 0, 1), (1, .aload_n 1, 1), (2, .aconst_null, 1), (3, .invokespecial 489, 3), (6, .return_, 1)] = true := by decide +kernel
theorem pn_31 : plainFor (⟨"java/lang/String", "<init>", "(Ljava/lang/StringBuilder;)V"⟩ : MethodName) = true := by first | exact plainFor_of_name (by first | (simp [plainName, overriddenIn]; done) | decide +kernel) | decide +kernel
def QrmSsbG (Z : State) (a1 : Addr) (u1 : Value) (u2 : Value) (a2 : Addr) (t1 : Addr) (kb : ClassId) (cs : List Int32) (zc : Int32) (h0 : Heap) (n0 : Nat) (v : Option Value) (h : Heap) (L : List Loc) : Prop := v = none ∧ Fr n0 L ∧ Keep h0 h [a1] ∧ Own.Str Z h a1 cs
theorem rmSsbG (l : Launch) (Z : State) (a0 : Array Value) (hw : HW a0 Z) (ws : List Jvm.Cond) (a1 : Addr) (u1 : Value) (u2 : Value) (a2 : Addr) (t1 : Addr) (kb : ClassId) (cs : List Int32) (zc : Int32) (h0 : Heap) (n0 : Nat) (Z0 : n0 ≤ h0.size) (SC : Own.Cst Z h0 zc) (hzc : ¬ zc = 0) (E_a1 : Exa Z h0 a1 "java/lang/String") (f1 : Fld Z h0 a1 "java/lang/String" "value" "[B" u1) (f2 : Fld Z h0 a1 "java/lang/String" "coder" "B" u2) (g_a1 : n0 ≤ a1) (E_a2 : Exa Z h0 a2 "java/lang/StringBuilder") (s1 : Own.Bf Z h0 a2 "value" "[B" (.ref t1)) (s2 : Own.Bf Z h0 a2 "coder" "B" (.int 0)) (s3 : Own.Bf Z h0 a2 "count" "I" (.int (Int32.ofNat cs.length))) (A_t : Arv Z h0 t1 kb .byte (Int32.ofNat cs.length) ((cs.map fun c : Int32 => c.toInt8.toInt32).map Value.int) (.int 0)) (X_t : Exa Z h0 t1 "[B") (hcs : cs.length ≤ 100) (hp : ∀ c ∈ cs, ¬ c < 0 ∧ ¬ (255 : Int32) < c) :
    Own.MF l Z (⟨"java/lang/String", "<init>", "(Ljava/lang/StringBuilder;)V"⟩ : MethodName) jdk_42_method_53_code 2 none ws (⟨3, 1, 100, 60⟩ : Room) #[(.ref a1), (.ref a2)] h0 (QrmSsbG Z a1 u1 u2 a2 t1 kb cs zc h0 n0) := by
  refine Own.MF.of (own := "java/lang/String") (n := 2) rfl rfl pn_31 (fun p e s m below meth c s₁ hml hlk hret hnm P0 => ?_)
  rw [show entryFrame m #[(.ref a1), (.ref a2)] 2 = mkF m 0 #[.val (.ref a1), .val (.ref a2)] [] from by first | (simp [entryFrame, mkF, argsToLocals, Value.category]; done) | rfl]
  refine Own.aloadN (q := 1) P0 (dc s46 0 rfl) rfl rfl rfl ?_
  refine Own.aloadN (q := 2) P0 (dc s46 1 rfl) rfl rfl rfl ?_
  refine Own.aconst (q := 3) P0 (dc s46 2 rfl)  rfl ?_
  refine Own.cI (q := 6) (W := 0) (rest := []) P0 (dc s46 3 rfl) (wd hw 190 rfl) (iw_32 hw) (rmSavG l Z a0 hw [] a1 u1 u2 a2 t1 kb cs zc h0 n0 Z0 SC hzc E_a1 f1 f2 g_a1 E_a2 s1 s2 s3 A_t X_t hcs hp) (by decide) (by decide) rfl (hml rfl) rfl rfl (by decide) (by decide) rfl ?_
  rintro v21 T21 h21 L21 ⟨rfl, N21q, K21, St21⟩ P21
  have N21 := Fr.app (Fr.nil n0) N21q
  refine Own.retV P21 (dc s46 4 rfl) hret hlk (by decide) (by decide) ?_
  exact ⟨rfl, N21, K21, St21⟩
theorem pd_26 : parseMethodDescriptor "(Ljava/lang/StringBuilder;)V" = some ⟨[(.object "java/lang/StringBuilder")], none⟩ := by decide +kernel
theorem iw_33 {Z : State} {a0 : Array Value} (hw : HW a0 Z) : Own.IW Z a0 ⟨"java/lang/String", "<init>", "(Ljava/lang/StringBuilder;)V"⟩ jdk_42_method_53_code 2 1 := ⟨rfl, (wd hw 188 rfl), (wd hw 26 rfl), (wd hw 189 rfl), by decide, _, _, pd_26, rfl⟩
theorem s47 : decs jdk_67_method_42_code [(0, .new 18, 3), (3, .dup, 1), (4, .aload_n 0, 1), (5, .invokespecial 137, 3), (8, .areturn, 1)] = true := by decide +kernel
theorem pn_30 : plainFor (⟨"java/lang/StringBuilder", "toString", "()Ljava/lang/String;"⟩ : MethodName) = true := by first | exact plainFor_of_name (by first | (simp [plainName, overriddenIn]; done) | decide +kernel) | decide +kernel
def QrmTsG (Z : State) (a2 : Addr) (t1 : Addr) (kb : ClassId) (cs : List Int32) (zc : Int32) (h0 : Heap) (n0 : Nat) (v : Option Value) (h : Heap) (L : List Loc) : Prop := ∃ r, v = some (.ref r) ∧ Fr n0 L ∧ Ext h0 h ∧ h0.size ≤ r ∧ Own.Str Z h r cs
theorem rmTsG (l : Launch) (Z : State) (a0 : Array Value) (hw : HW a0 Z) (ws : List Jvm.Cond) (a2 : Addr) (t1 : Addr) (kb : ClassId) (cs : List Int32) (zc : Int32) (h0 : Heap) (n0 : Nat) (Z0 : n0 ≤ h0.size) (SC : Own.Cst Z h0 zc) (hzc : ¬ zc = 0) (E_a2 : Exa Z h0 a2 "java/lang/StringBuilder") (s1 : Own.Bf Z h0 a2 "value" "[B" (.ref t1)) (s2 : Own.Bf Z h0 a2 "coder" "B" (.int 0)) (s3 : Own.Bf Z h0 a2 "count" "I" (.int (Int32.ofNat cs.length))) (A_t : Arv Z h0 t1 kb .byte (Int32.ofNat cs.length) ((cs.map fun c : Int32 => c.toInt8.toInt32).map Value.int) (.int 0)) (X_t : Exa Z h0 t1 "[B") (hcs : cs.length ≤ 100) (hp : ∀ c ∈ cs, ¬ c < 0 ∧ ¬ (255 : Int32) < c) :
    Own.MF l Z (⟨"java/lang/StringBuilder", "toString", "()Ljava/lang/String;"⟩ : MethodName) jdk_67_method_42_code 1 (some (.object "java/lang/String")) ws (⟨4, 2, 104, 76⟩ : Room) #[(.ref a2)] h0 (QrmTsG Z a2 t1 kb cs zc h0 n0) := by
  refine Own.MF.of (own := "java/lang/StringBuilder") (n := 1) rfl rfl pn_30 (fun p e s m below meth c s₁ hml hlk hret hnm P0 => ?_)
  rw [show entryFrame m #[(.ref a2)] 1 = mkF m 0 #[.val (.ref a2)] [] from by first | (simp [entryFrame, mkF, argsToLocals, Value.category]; done) | rfl]
  refine Own.newobj (q := 3) P0 (dc s47 0 rfl) (wd hw 186 rfl) (wd hw 32 rfl) (wd hw 26 rfl) (by decide) (by decide) rfl ?_
  intro T21 h21 a21 ha21 P21 E21 A21 D21
  have F21_value : Fld Z h21 a21 "java/lang/String" "value" "[B" .null := D21 (Or.inr (wd hw 33 rfl)) (ty := (.array .byte)) (by decide)
  have F21_coder : Fld Z h21 a21 "java/lang/String" "coder" "B" (.int (0 : Int32)) := D21 (Or.inr (wd hw 34 rfl)) (ty := .byte) (by decide)
  refine Own.dup (q := 4) P21 (dc s47 1 rfl) rfl rfl ?_
  refine Own.aloadN (q := 5) P21 (dc s47 2 rfl) rfl rfl rfl ?_
  have E0_1_22 : Ext h0 h21 := E21
  refine Own.cI (q := 8) (W := 1) (rest := [(.ref a21)]) P21 (dc s47 3 rfl) (wd hw 187 rfl) (iw_33 hw) (rmSsbG l Z a0 hw [] a21 .null (.int (0 : Int32)) a2 t1 kb cs zc h21 n0 (Nat.le_trans Z0 E0_1_22.1) (SC.ext E0_1_22) hzc A21 F21_value F21_coder (Nat.le_trans Z0 (Nat.le_of_eq ha21.symm)) (E_a2.ext E0_1_22) (s1.ext E0_1_22) (s2.ext E0_1_22) (s3.ext E0_1_22) (A_t.ext E0_1_22) (X_t.ext E0_1_22) hcs hp) (by decide) (by decide) rfl (hml rfl) rfl rfl (by decide) (by decide) rfl ?_
  rintro v23 T23 h23 L23 ⟨rfl, N23q, K23, St23⟩ P23
  have N23 := Fr.app (Fr.nil n0) N23q
  have E0_2_24 : Ext h0 h23 := (Own.Ext.kp E0_1_22 K23 (allS (Nat.le_of_eq ha21.symm) all0))
  refine Own.retA P23 (dc s47 4 rfl) hret rfl rfl rfl hlk (by decide) (by decide) ?_
  exact ⟨_, rfl, N23, E0_2_24, (Nat.le_of_eq ha21.symm), St23⟩
theorem pd_27 : parseMethodDescriptor "()V" = some ⟨[], none⟩ := by decide +kernel
theorem iw_34 {Z : State} {a0 : Array Value} (hw : HW a0 Z) : Own.IW Z a0 ⟨"java/lang/StringBuilder", "<init>", "()V"⟩ jdk_67_method_1_code 1 0 := ⟨rfl, (wd hw 14 rfl), (wd hw 12 rfl), (wd hw 15 rfl), by decide, _, _, pd_27, rfl⟩
theorem pd_28 : parseMethodDescriptor "(Ljava/lang/String;)Ljava/lang/StringBuilder;" = some ⟨[(.object "java/lang/String")], some (.object "java/lang/StringBuilder")⟩ := by decide +kernel
theorem vw_35 {Z : State} {a0 : Array Value} (hw : HW a0 Z) : Own.VW Z a0 "java/lang/StringBuilder" ⟨"java/lang/StringBuilder", "append", "(Ljava/lang/String;)Ljava/lang/StringBuilder;"⟩ ⟨"java/lang/StringBuilder", "append", "(Ljava/lang/String;)Ljava/lang/StringBuilder;"⟩ jdk_67_method_7_code 2 (some (.object "java/lang/StringBuilder")) 1 := ⟨(wd hw 38 rfl), (wd hw 40 rfl), (wd hw 39 rfl), (wd hw 12 rfl), (wd hw 41 rfl), by decide, _, _, pd_28, rfl⟩
theorem pd_29 : parseMethodDescriptor "()Ljava/util/Base64$Encoder;" = some ⟨[], some (.object "java/util/Base64$Encoder")⟩ := by decide +kernel
theorem sw_36 {Z : State} {a0 : Array Value} (hw : HW a0 Z) : Own.SW Z a0 ⟨"java/util/Base64", "getEncoder", "()Ljava/util/Base64$Encoder;"⟩ jdk_2448_method_2_code 0 (some (.object "java/util/Base64$Encoder")) 0 := ⟨(wd hw 88 rfl), (wd hw 89 rfl), (wd hw 90 rfl), by decide, _, _, pd_29, rfl⟩
theorem pd_30 : parseMethodDescriptor "([B)Ljava/lang/String;" = some ⟨[(.array .byte)], some (.object "java/lang/String")⟩ := by decide +kernel
theorem vw_37 {Z : State} {a0 : Array Value} (hw : HW a0 Z) : Own.VW Z a0 "java/util/Base64$Encoder" ⟨"java/util/Base64$Encoder", "encodeToString", "([B)Ljava/lang/String;"⟩ ⟨"java/util/Base64$Encoder", "encodeToString", "([B)Ljava/lang/String;"⟩ jdk_2452_method_5_code 3 (some (.object "java/lang/String")) 1 := ⟨(wd hw 94 rfl), (wd hw 96 rfl), (wd hw 95 rfl), (wd hw 92 rfl), (wd hw 97 rfl), by decide, _, _, pd_30, rfl⟩
theorem pd_31 : parseMethodDescriptor "()Ljava/lang/String;" = some ⟨[], some (.object "java/lang/String")⟩ := by decide +kernel
theorem vw_38 {Z : State} {a0 : Array Value} (hw : HW a0 Z) : Own.VW Z a0 "java/lang/StringBuilder" ⟨"java/lang/StringBuilder", "toString", "()Ljava/lang/String;"⟩ ⟨"java/lang/StringBuilder", "toString", "()Ljava/lang/String;"⟩ jdk_67_method_42_code 1 (some (.object "java/lang/String")) 0 := ⟨(wd hw 182 rfl), (wd hw 184 rfl), (wd hw 183 rfl), (wd hw 12 rfl), (wd hw 185 rfl), by decide, _, _, pd_31, rfl⟩
theorem s48 : decs prog_38_method_4_code [(0, .aload_n 0, 1), (1, .arraylength, 1), (2, .bipush 24, 2), (4, .if_icmp .lt 10, 3), (7, .aload_n 0, 1), (8, .arraylength, 1), (9, .bipush 64, 2), (11, .if_icmp .le 31, 3), (42, .new 35, 3), (45, .dup, 1), (46, .invokespecial 37, 3), (49, .ldc 62, 2), (51, .invokevirtual 40, 3), (54, .invokestatic 44, 3), (57, .aload_n 0, 1), (58, .invokevirtual 50, 3), (61, .invokevirtual 40, 3), (64, .invokevirtual 56, 3), (67, .areturn, 1)] = true := by decide +kernel
theorem pn_2 : plainFor (⟨"com/example/hookwright/hookwright/signing/StandardWebhooksSignature", "secret", "([B)Ljava/lang/String;"⟩ : MethodName) = true := by first | exact plainFor_of_name (by first | (simp [plainName, overriddenIn]; done) | decide +kernel) | decide +kernel
def QrmSec (Z : State) (ee : Addr) (tt : Addr) (kt : ClassId) (t1 : Addr) (k1 : ClassId) (us : List Int32) (zc : Int32) (fm : Value) (h0 : Heap) (n0 : Nat) (v : Option Value) (h : Heap) (L : List Loc) : Prop := ∃ r, v = some (.ref r) ∧ Fr n0 L ∧ Ext h0 h ∧ h0.size ≤ r ∧ Own.Str Z h r ([(119 : Int32), (104 : Int32), (115 : Int32), (101 : Int32), (99 : Int32), (95 : Int32)] ++ Own.encL us)
theorem rmSec (l : Launch) (Z : State) (a0 : Array Value) (hw : HW a0 Z) (ws : List Jvm.Cond) (ee : Addr) (tt : Addr) (kt : ClassId) (t1 : Addr) (k1 : ClassId) (us : List Int32) (zc : Int32) (fm : Value) (h0 : Heap) (n0 : Nat) (Z0 : n0 ≤ h0.size) (en : Own.EN Z h0 ee tt kt) (SC : Own.Cst Z h0 zc) (hzc : ¬ zc = 0) (SF : Own.Fst Z h0 fm) (hfm : fm.isRef = true) (A1 : Arv Z h0 t1 k1 .byte (Int32.ofNat us.length) ((us.map fun c : Int32 => c.toInt8.toInt32).map Value.int) (.int 0)) (hp : ∀ c ∈ us, ¬ c < 0 ∧ ¬ (255 : Int32) < c) (hl : 24 ≤ us.length ∧ us.length ≤ 64) :
    Own.MFH l Z EL (⟨"com/example/hookwright/hookwright/signing/StandardWebhooksSignature", "secret", "([B)Ljava/lang/String;"⟩ : MethodName) prog_38_method_4_code 1 (some (.object "java/lang/String")) ws (⟨6, 10, 500, 110⟩ : Room) #[(.ref t1)] [] h0 (QrmSec Z ee tt kt t1 k1 us zc fm h0 n0) := by
  refine Own.MFH.of (own := "com/example/hookwright/hookwright/signing/StandardWebhooksSignature") (n := 1) rfl rfl pn_2 (fun p e s m below meth c s₁ hml hlk hret hnm hh H0 hSf P0 => ?_)
  rw [show entryFrame m #[(.ref t1)] 1 = mkF m 0 #[.val (.ref t1)] [] from by first | (simp [entryFrame, mkF, argsToLocals, Value.category]; done) | rfl]
  have hn2 := Own.encL_len us
  refine Own.aloadN (q := 1) P0 (dc s48 0 rfl) rfl rfl rfl ?_
  refine Own.arraylength (q := 2) P0 (dc s48 1 rfl) A1 rfl ?_
  refine Own.bipush (q := 4) (v := (24 : Int32)) P0 (dc s48 2 rfl) rfl rfl ?_
  refine Own.icmp_lt (q := 7) (qy := 14) P0 (dc s48 3 rfl) (by decide) rfl (fun q => absurd q (by rw [show (24 : Int32) = Int32.ofNat 24 from rfl, Own.ofNat_lt (by omega) (by omega)]; omega)) (fun _ => ?_)
  refine Own.aloadN (q := 8) P0 (dc s48 4 rfl) rfl rfl rfl ?_
  refine Own.arraylength (q := 9) P0 (dc s48 5 rfl) A1 rfl ?_
  refine Own.bipush (q := 11) (v := (64 : Int32)) P0 (dc s48 6 rfl) rfl rfl ?_
  refine Own.icmp_le (q := 14) (qy := 42) P0 (dc s48 7 rfl) (by decide) rfl (fun _ => ?_) (fun q => absurd q (by rw [show (64 : Int32) = Int32.ofNat 64 from rfl, Own.ofNat_lt (by omega) (by omega)]; omega))
  refine Own.newobj (q := 45) P0 (dc s48 8 rfl) (wd hw 10 rfl) (wd hw 11 rfl) (wd hw 12 rfl) (by decide) (by decide) rfl ?_
  intro T21 h21 a21 ha21 P21 E21 A21 D21
  have F21_value : Fld Z h21 a21 "java/lang/AbstractStringBuilder" "value" "[B" .null := D21 (Or.inl (wd hw 28 rfl)) (ty := (.array .byte)) (by decide)
  have F21_coder : Fld Z h21 a21 "java/lang/AbstractStringBuilder" "coder" "B" (.int (0 : Int32)) := D21 (Or.inl (wd hw 30 rfl)) (ty := .byte) (by decide)
  have F21_count : Fld Z h21 a21 "java/lang/AbstractStringBuilder" "count" "I" (.int (0 : Int32)) := D21 (Or.inl (wd hw 61 rfl)) (ty := .int) (by decide)
  refine Own.dup (q := 46) P21 (dc s48 9 rfl) rfl rfl ?_
  have E0_1_22 : Ext h0 h21 := E21
  refine Own.cI (q := 49) (W := 1) (rest := [(.ref a21)]) P21 (dc s48 10 rfl) (wd hw 13 rfl) (iw_34 hw) (rmSI l Z a0 hw [] a21 .null (.int (0 : Int32)) zc h21 n0 (Nat.le_trans Z0 E0_1_22.1) (SC.ext E0_1_22) hzc A21 F21_value F21_coder F21_count (Nat.le_trans Z0 (Nat.le_of_eq ha21.symm))) (by decide) (by decide) rfl (hml rfl) rfl rfl (by decide) (by decide) rfl ?_
  rintro v23 T23 h23 L23 ⟨rfl, N23q, K23, t23, kb23, gt23, X23, V23, C23, n23, A23⟩ P23
  have N23 := Fr.app (Fr.nil n0) N23q
  have E0_2_24 : Ext h0 h23 := (Own.Ext.kp E0_1_22 K23 (allS (Nat.le_of_eq ha21.symm) all0))
  have Hd25 := (H0.ext E0_2_24)
  refine Own.ldcStr (q := 51) (n := 24) (cs := [(119 : Int32), (104 : Int32), (115 : Int32), (101 : Int32), (99 : Int32), (95 : Int32)]) P23 Hd25 (dc s48 11 rfl) (wd hw 31 rfl) (fun a ha => hw a (sub_str a ha)) (ew hw) (by decide) (by decide) (Own.chS (by decide) (Own.chS (by decide) (Own.chS (by decide) (Own.chS (by decide) (Own.chS (by decide) (Own.chS (by decide) Own.ch0)))))) (by decide) (by decide) (by decide) (by decide) (by decide) (by decide) (by decide) rfl ?_
  intro T26 vm26 h26 a26 P26 H26 hr26 E26 St26
  have E0_3_27 : Ext h0 h26 := (Own.Ext.tr E0_2_24 E26)
  have E2_3_28 : Ext h23 h26 := E26
  refine Own.cV (q := 54) (W := 0) (rest := []) P26 (dc s48 12 rfl) (wd hw 37 rfl) (vw_35 hw) (Own.nfs P26 (wd hw 40 rfl)) (X23.ext E2_3_28) (rmSap l Z a0 hw [] a21 t23 kb23 ([] : List Int32) a26 [(119 : Int32), (104 : Int32), (115 : Int32), (101 : Int32), (99 : Int32), (95 : Int32)] zc h26 n0 (Nat.le_trans Z0 E0_3_27.1) (SC.ext E0_3_27) hzc (X23.ext E2_3_28) (V23.ext E2_3_28) (C23.ext E2_3_28) (n23.ext E2_3_28) (A23.ext E2_3_28) St26 (by decide) (Nat.le_trans Z0 (Nat.le_of_eq ha21.symm)) (Nat.le_trans Z0 (Nat.le_trans E0_1_22.1 gt23))) (by decide) (by decide) rfl (hml rfl) rfl rfl (by decide) (by decide) rfl ?_
  rintro v29 T29 h29 L29 ⟨rfl, N29q, K29, E29a, V29, C29, n29, A29⟩ P29
  have N29 := Fr.app N23 N29q
  have E0_4_30 : Ext h0 h29 := (Own.Ext.kp E0_3_27 K29 (allS (Nat.le_of_eq ha21.symm) (allS (Nat.le_trans E0_1_22.1 gt23) all0)))
  refine Own.cS (q := 57) (W := 1) (rest := [(.ref a21)]) P29 (dc s48 13 rfl) (wd hw 87 rfl) (sw_36 hw) (rmGe l Z a0 hw [] ee tt kt h29 n0 (Nat.le_trans Z0 E0_4_30.1) (en.ext E0_4_30)) (by decide) (by decide) rfl (hml rfl) rfl rfl (by decide) (by decide) rfl ?_
  rintro v31 T31 h31 L31 ⟨rfl, N31q, e31⟩ P31
  rw [e31] at P31
  have N31 := Fr.app N29 N31q
  refine Own.aloadN (q := 58) P31 (dc s48 14 rfl) rfl rfl rfl ?_
  refine Own.cV (q := 61) (W := 1) (rest := [(.ref a21)]) P31 (dc s48 15 rfl) (wd hw 93 rfl) (vw_37 hw) (Own.nfs P31 (wd hw 96 rfl)) (en.2.1.ext E0_4_30) (rmEts l Z a0 hw [] ee tt kt t1 k1 us zc fm h29 n0 (Nat.le_trans Z0 E0_4_30.1) (en.ext E0_4_30) (SC.ext E0_4_30) hzc (SF.ext E0_4_30) hfm (A1.ext E0_4_30) hp hl) (by decide) (by decide) rfl (hml rfl) rfl rfl (by decide) (by decide) rfl ?_
  rintro v32 T32 h32 L32 ⟨r32, rfl, N32q, E32, gr32, St32⟩ P32
  have N32 := Fr.app N31 N32q
  have E0_5_33 : Ext h0 h32 := (Own.Ext.tr E0_4_30 E32)
  have E4_5_34 : Ext h29 h32 := E32
  refine Own.cV (q := 64) (W := 0) (rest := []) P32 (dc s48 16 rfl) (wd hw 37 rfl) (vw_35 hw) (Own.nfs P32 (wd hw 40 rfl)) (E29a.ext E4_5_34) (rmSag l Z a0 hw [] a21 t23 kb23 ([] ++ [(119 : Int32), (104 : Int32), (115 : Int32), (101 : Int32), (99 : Int32), (95 : Int32)]) r32 (Own.encL us) zc h32 n0 (Nat.le_trans Z0 E0_5_33.1) (SC.ext E0_5_33) hzc (E29a.ext E4_5_34) (V29.ext E4_5_34) (C29.ext E4_5_34) (n29.ext E4_5_34) (A29.ext E4_5_34) St32 (by decide) (by rw [hn2]; show 34 ≤ 6 + _ ∧ 6 + _ ≤ 100; omega) (Nat.le_trans Z0 (Nat.le_of_eq ha21.symm))) (by decide) (by decide) rfl (hml rfl) rfl rfl (by decide) (by decide) rfl ?_
  rintro v35 T35 h35 L35 ⟨rfl, N35q, K35, t35, k35, gt35, E35a, V35, C35, n35, A35, X35⟩ P35
  have N35 := Fr.app N32 N35q
  have E0_6_36 : Ext h0 h35 := (Own.Ext.kp E0_5_33 K35 (allS (Nat.le_of_eq ha21.symm) all0))
  refine Own.cV (q := 67) (W := 0) (rest := []) P35 (dc s48 17 rfl) (wd hw 181 rfl) (vw_38 hw) (Own.nfs P35 (wd hw 184 rfl)) E35a (rmTsG l Z a0 hw [] a21 t35 k35 ([] ++ [(119 : Int32), (104 : Int32), (115 : Int32), (101 : Int32), (99 : Int32), (95 : Int32)] ++ Own.encL us) zc h35 n0 (Nat.le_trans Z0 E0_6_36.1) (SC.ext E0_6_36) hzc E35a V35 C35 n35 A35 X35 (by rw [List.length_append, hn2]; show 6 + _ ≤ 100; omega) (Own.rng_app (by decide) (Own.encL_rng hp))) (by decide) (by decide) rfl (hml rfl) rfl rfl (by decide) (by decide) rfl ?_
  rintro v37 T37 h37 L37 ⟨r37, rfl, N37q, E37, gr37, St37⟩ P37
  have N37 := Fr.app N35 N37q
  have E0_7_38 : Ext h0 h37 := (Own.Ext.tr E0_6_36 E37)
  have Hd39 := (H0.ext E0_1_22)
  have Sf40 := (Safe.keep K23 (sfS (Safe.exa P23.2.2.2.1.alike A21 (by decide) (by decide)) sf0) Hd39.2.1 (Safe.new gt23))
  have Sf41 := (CHr.safe hr26 A23.lt Sf40)
  have Hd42 := (Own.Hd.kp H26 K29 (sfS (Safe.exa P37.2.2.2.1.alike (X23.ext E26) (by decide) (by decide)) (sfS Sf41 sf0)))
  have Hd43 := (Hd42.ext E32)
  have Hd44 := (Own.Hd.kp Hd43 K35 (sfS (Safe.exa P37.2.2.2.1.alike (E29a.ext E32) (by decide) (by decide)) sf0))
  have Hd45 := (Hd44.ext E37)
  refine Own.retAH P37 hh (ew hw) Hd45 (dc s48 18 rfl) hret rfl rfl rfl hlk (by decide) (by decide) ?_
  exact ⟨_, rfl, N37, E0_7_38, (Nat.le_trans E0_6_36.1 gr37), St37⟩
theorem s49 : decs jdk_2450_method_7_code [(0, .aload_n 0, 1), (1, .getfield 7, 3), (4, .ifCond .eq 9, 3), (13, .getstatic 99, 3), (16, .astore 4, 2), (18, .iconst 0, 1), (19, .istore 5, 2), (21, .iload_n 3, 1), (22, .iload_n 2, 1), (23, .isub, 1), (24, .istore 6, 2), (26, .iload 6, 2), (28, .ifCond .ne 5, 3), (33, .iload 6, 2), (35, .iconst 2, 1), (36, .if_icmp .ge 30, 3), (66, .aload_n 0, 1), (67, .getfield 13, 3), (70, .ifCond .eq 71, 3), (141, .aload_n 1, 1), (142, .iload_n 3, 1), (143, .iconst 1, 1), (144, .isub, 1), (145, .baload, 1), (146, .bipush 61, 2), (148, .if_icmp .ne 19, 3), (151, .iinc 5 1, 3), (154, .aload_n 1, 1), (155, .iload_n 3, 1), (156, .iconst 2, 1), (157, .isub, 1), (158, .baload, 1), (159, .bipush 61, 2), (161, .if_icmp .ne 6, 3), (164, .iinc 5 1, 3), (167, .iload 5, 2), (169, .ifCond .ne 18, 3), (172, .iload 6, 2), (174, .iconst 3, 1), (175, .iand, 1), (176, .ifCond .eq 11, 3), (187, .iconst 3, 1), (188, .iload 6, 2), (190, .i2l, 1), (191, .ldc2_w 107, 3), (194, .ladd, 1), (195, .ldc2_w 109, 3), (198, .ldiv, 1), (199, .l2i, 1), (200, .imul, 1), (201, .iload 5, 2), (203, .isub, 1), (204, .ireturn, 1)] = true := by decide +kernel
theorem pn_64 : plainFor (⟨"java/util/Base64$Decoder", "decodedOutLength", "([BII)I"⟩ : MethodName) = true := by first | exact plainFor_of_name (by first | (simp [plainName, overriddenIn]; done) | decide +kernel) | decide +kernel
def QrmDol (Z : State) (dd : Addr) (ft : Addr) (ci : Addr) (cu : Addr) (kf : ClassId) (t1 : Addr) (k1 : ClassId) (us : List Int32) (mm : Nat) (h0 : Heap) (n0 : Nat) (v : Option Value) (h : Heap) (L : List Loc) : Prop := v = some (.int (Int32.ofNat us.length)) ∧ Fr n0 L ∧ h = h0
theorem rmDol (l : Launch) (Z : State) (a0 : Array Value) (hw : HW a0 Z) (ws : List Jvm.Cond) (dd : Addr) (ft : Addr) (ci : Addr) (cu : Addr) (kf : ClassId) (t1 : Addr) (k1 : ClassId) (us : List Int32) (mm : Nat) (h0 : Heap) (n0 : Nat) (Z0 : n0 ≤ h0.size) (de : Own.DE Z h0 dd ft ci cu kf) (A1 : Arv Z h0 t1 k1 .byte (Int32.ofNat (Own.encL us).length) (((Own.encL us).map fun c : Int32 => c.toInt8.toInt32).map Value.int) (.int 0)) (hp : ∀ c ∈ us, ¬ c < 0 ∧ ¬ (255 : Int32) < c) (hl : 24 ≤ us.length ∧ us.length ≤ 64) (hmm : mm = us.length / 3) :
    Own.MF l Z (⟨"java/util/Base64$Decoder", "decodedOutLength", "([BII)I"⟩ : MethodName) jdk_2450_method_7_code 9 (some .int) ws (⟨0, 0, 0, 0⟩ : Room) #[(.ref dd), (.ref t1), (.int (0 : Int32)), (.int (Int32.ofNat (Own.encL us).length))] h0 (QrmDol Z dd ft ci cu kf t1 k1 us mm h0 n0) := by
  refine Own.MF.of (own := "java/util/Base64$Decoder") (n := 9) rfl rfl pn_64 (fun p e s m below meth c s₁ hml hlk hret hnm P0 => ?_)
  rw [show entryFrame m #[(.ref dd), (.ref t1), (.int (0 : Int32)), (.int (Int32.ofNat (Own.encL us).length))] 9 = mkF m 0 #[.val (.ref dd), .val (.ref t1), .val (.int (0 : Int32)), .val (.int (Int32.ofNat (Own.encL us).length)), .unset, .unset, .unset, .unset, .unset] [] from by first | (simp [entryFrame, mkF, argsToLocals, Value.category]; done) | rfl]
  have hn2 := Own.encL_len us
  refine Own.aloadN (q := 1) P0 (dc s49 0 rfl) rfl rfl rfl ?_
  refine Own.getfield (q := 4) P0 (dc s49 1 rfl) (wd hw 336 rfl) de.2.2.1 rfl ?_
  intro T21 P21
  refine Own.if_eq (q := 7) (qy := 13) P21 (dc s49 2 rfl) (by decide) rfl (fun _ => ?_) (fun q => absurd rfl q)
  refine Own.getstatic (q := 16) P21 (dc s49 3 rfl) (wd hw 338 rfl) de.2.2.2.2.1 rfl ?_
  intro T22 P22
  refine Own.astore (q := 18) (L2 := #[.val (.ref dd), .val (.ref t1), .val (.int (0 : Int32)), .val (.int (Int32.ofNat (Own.encL us).length)), .val (.ref ft), .unset, .unset, .unset, .unset]) P22 (dc s49 4 rfl) rfl rfl rfl ?_
  refine Own.iconst (q := 19) (v := (0 : Int32)) P22 (dc s49 5 rfl) rfl rfl ?_
  refine Own.istore (q := 21) (L2 := #[.val (.ref dd), .val (.ref t1), .val (.int (0 : Int32)), .val (.int (Int32.ofNat (Own.encL us).length)), .val (.ref ft), .val (.int (0 : Int32)), .unset, .unset, .unset]) P22 (dc s49 6 rfl) rfl rfl ?_
  refine Own.iloadN (q := 22) P22 (dc s49 7 rfl) rfl rfl ?_
  refine Own.iloadN (q := 23) P22 (dc s49 8 rfl) rfl rfl ?_
  refine Own.isub (q := 24) P22 (dc s49 9 rfl)  rfl ?_
  rw [show ((Int32.ofNat (Own.encL us).length) - (0 : Int32)) = (Int32.ofNat (Own.encL us).length) from Int32.sub_zero _]
  refine Own.istore (q := 26) (L2 := #[.val (.ref dd), .val (.ref t1), .val (.int (0 : Int32)), .val (.int (Int32.ofNat (Own.encL us).length)), .val (.ref ft), .val (.int (0 : Int32)), .val (.int (Int32.ofNat (Own.encL us).length)), .unset, .unset]) P22 (dc s49 10 rfl) rfl rfl ?_
  refine Own.iload (q := 28) P22 (dc s49 11 rfl) rfl rfl ?_
  refine Own.if_ne (q := 31) (qy := 33) P22 (dc s49 12 rfl) (by decide) rfl (fun _ => ?_) (fun q => absurd q (Own.n0_of (by omega) (by omega)))
  refine Own.iload (q := 35) P22 (dc s49 13 rfl) rfl rfl ?_
  refine Own.iconst (q := 36) (v := (2 : Int32)) P22 (dc s49 14 rfl) rfl rfl ?_
  refine Own.icmp_ge (q := 39) (qy := 66) P22 (dc s49 15 rfl) (by decide) rfl (fun _ => ?_) (fun q => absurd q (by rw [show (2 : Int32) = Int32.ofNat 2 from rfl, Own.ofNat_lt (by omega) (by omega)]; omega))
  refine Own.aloadN (q := 67) P22 (dc s49 16 rfl) rfl rfl rfl ?_
  refine Own.getfield (q := 70) P22 (dc s49 17 rfl) (wd hw 339 rfl) de.2.2.2.1 rfl ?_
  intro T23 P23
  refine Own.if_eq (q := 73) (qy := 141) P23 (dc s49 18 rfl) (by decide) rfl (fun _ => ?_) (fun q => absurd rfl q)
  have hr3 : us.length = 3 * mm ∨ us.length = 3 * mm + 1 ∨ us.length = 3 * mm + 2 := by omega
  rcases hr3 with hr | hr | hr
  · have hX := Own.encT0 hr
    have hNg : (Own.encL us).length = 4 * mm := by omega
    refine Own.aloadN (q := 142) P23 (dc s49 19 rfl) rfl rfl rfl ?_
    refine Own.iloadN (q := 143) P23 (dc s49 20 rfl) rfl rfl ?_
    refine Own.iconst (q := 144) (v := (1 : Int32)) P23 (dc s49 21 rfl) rfl rfl ?_
    refine Own.isub (q := 145) P23 (dc s49 22 rfl)  rfl ?_
    rw [show (Int32.ofNat (Own.encL us).length - (1 : Int32)) = Int32.ofNat ((Own.encL us).length - 1) from Own.subE (f := 1) (by omega)]
    refine Own.bget (q := 146) (i := ((Own.encL us).length - 1)) P23 (dc s49 23 rfl) A1 (by omega) (by omega) rfl ?_
    rw [show (Own.encL us).getD ((Own.encL us).length - 1) 0 = Own.e64 (Own.q4 (us.getD (3 * (mm - 1)) 0) (us.getD (3 * (mm - 1) + 1) 0) (us.getD (3 * (mm - 1) + 2) 0)) from (by rw [show (Own.encL us).length - 1 = 4 * (mm - 1) + 3 by omega, Own.encL_head (by omega) (by decide)]; rfl)]
    refine Own.bipush (q := 148) (v := (61 : Int32)) P23 (dc s49 24 rfl) rfl rfl ?_
    refine Own.icmp_ne (q := 151) (qy := 167) P23 (dc s49 25 rfl) (by decide) rfl (fun _ => ?_) (fun q => absurd q (Own.e64_ne Own.b6q.2.2.2))
    refine Own.iload (q := 169) P23 (dc s49 35 rfl) rfl rfl ?_
    refine Own.if_ne (q := 172) (qy := 187) P23 (dc s49 36 rfl) (by decide) rfl (fun q => absurd rfl q) (fun _ => ?_)
    refine Own.iload (q := 174) P23 (dc s49 37 rfl) rfl rfl ?_
    refine Own.iconst (q := 175) (v := (3 : Int32)) P23 (dc s49 38 rfl) rfl rfl ?_
    refine Own.iand (q := 176) P23 (dc s49 39 rfl)  rfl ?_
    refine Own.if_eq (q := 179) (qy := 187) P23 (dc s49 40 rfl) (by decide) rfl (fun _ => ?_) (fun q => absurd (by rw [hNg]; exact (Own.mask4 _ (by omega)).2) q)
    refine Own.iconst (q := 188) (v := (3 : Int32)) P23 (dc s49 41 rfl) rfl rfl ?_
    refine Own.iload (q := 190) P23 (dc s49 42 rfl) rfl rfl ?_
    refine Own.i2l (q := 191) P23 (dc s49 43 rfl)  rfl ?_
    refine Own.ldcJ (q := 194) (v := (3 : Int64)) P23 (dc s49 44 rfl) (wd hw 341 rfl) rfl ?_
    refine Own.ladd (q := 195) P23 (dc s49 45 rfl)  rfl ?_
    refine Own.ldcJ (q := 198) (v := (4 : Int64)) P23 (dc s49 46 rfl) (wd hw 342 rfl) rfl ?_
    refine Own.ldiv (q := 199) P23 (dc s49 47 rfl) (by decide) rfl ?_
    refine Own.l2i (q := 200) P23 (dc s49 48 rfl)  rfl ?_
    refine Own.imul (q := 201) P23 (dc s49 49 rfl)  rfl ?_
    refine Own.iload (q := 203) P23 (dc s49 50 rfl) rfl rfl ?_
    refine Own.isub (q := 204) P23 (dc s49 51 rfl)  rfl ?_
    refine Own.retI P23 (dc s49 52 rfl) hret hlk (by decide) (by decide) ?_
    exact ⟨by rw [hNg]; exact congrArg (fun x => some (Value.int x)) ((Own.dol (g := mm) (p := 0) (by omega) (by omega)).trans (by rw [show 3 * mm - 0 = us.length by omega])), (Fr.nil n0), rfl⟩
  · have hX := Own.encT1 hr
    have hNg : (Own.encL us).length = 4 * (mm + 1) := by omega
    refine Own.aloadN (q := 142) P23 (dc s49 19 rfl) rfl rfl rfl ?_
    refine Own.iloadN (q := 143) P23 (dc s49 20 rfl) rfl rfl ?_
    refine Own.iconst (q := 144) (v := (1 : Int32)) P23 (dc s49 21 rfl) rfl rfl ?_
    refine Own.isub (q := 145) P23 (dc s49 22 rfl)  rfl ?_
    rw [show (Int32.ofNat (Own.encL us).length - (1 : Int32)) = Int32.ofNat ((Own.encL us).length - 1) from Own.subE (f := 1) (by omega)]
    refine Own.bget (q := 146) (i := ((Own.encL us).length - 1)) P23 (dc s49 23 rfl) A1 (by omega) (by omega) rfl ?_
    rw [show (Own.encL us).getD ((Own.encL us).length - 1) 0 = (61 : Int32) from (by rw [show (Own.encL us).length - 1 = 4 * mm + 3 by omega, Own.encL_tail hmm, hX]; rfl)]
    refine Own.bipush (q := 148) (v := (61 : Int32)) P23 (dc s49 24 rfl) rfl rfl ?_
    refine Own.icmp_ne (q := 151) (qy := 167) P23 (dc s49 25 rfl) (by decide) rfl (fun q => absurd rfl q) (fun _ => ?_)
    refine Own.iinc (q := 154) (v := (1 : Int32)) (L2 := #[.val (.ref dd), .val (.ref t1), .val (.int (0 : Int32)), .val (.int (Int32.ofNat (Own.encL us).length)), .val (.ref ft), .val (.int ((0 : Int32) + (1 : Int32))), .val (.int (Int32.ofNat (Own.encL us).length)), .unset, .unset]) P23 (dc s49 26 rfl) rfl rfl rfl rfl ?_
    refine Own.aloadN (q := 155) P23 (dc s49 27 rfl) rfl rfl rfl ?_
    refine Own.iloadN (q := 156) P23 (dc s49 28 rfl) rfl rfl ?_
    refine Own.iconst (q := 157) (v := (2 : Int32)) P23 (dc s49 29 rfl) rfl rfl ?_
    refine Own.isub (q := 158) P23 (dc s49 30 rfl)  rfl ?_
    rw [show (Int32.ofNat (Own.encL us).length - (2 : Int32)) = Int32.ofNat ((Own.encL us).length - 2) from Own.subE (f := 2) (by omega)]
    refine Own.bget (q := 159) (i := ((Own.encL us).length - 2)) P23 (dc s49 31 rfl) A1 (by omega) (by omega) rfl ?_
    rw [show (Own.encL us).getD ((Own.encL us).length - 2) 0 = (61 : Int32) from (by rw [show (Own.encL us).length - 2 = 4 * mm + 2 by omega, Own.encL_tail hmm, hX]; rfl)]
    refine Own.bipush (q := 161) (v := (61 : Int32)) P23 (dc s49 32 rfl) rfl rfl ?_
    refine Own.icmp_ne (q := 164) (qy := 167) P23 (dc s49 33 rfl) (by decide) rfl (fun q => absurd rfl q) (fun _ => ?_)
    refine Own.iinc (q := 167) (v := (1 : Int32)) (L2 := #[.val (.ref dd), .val (.ref t1), .val (.int (0 : Int32)), .val (.int (Int32.ofNat (Own.encL us).length)), .val (.ref ft), .val (.int (((0 : Int32) + (1 : Int32)) + (1 : Int32))), .val (.int (Int32.ofNat (Own.encL us).length)), .unset, .unset]) P23 (dc s49 34 rfl) rfl rfl rfl rfl ?_
    refine Own.iload (q := 169) P23 (dc s49 35 rfl) rfl rfl ?_
    refine Own.if_ne (q := 172) (qy := 187) P23 (dc s49 36 rfl) (by decide) rfl (fun _ => ?_) (fun q => absurd q (by decide))
    refine Own.iconst (q := 188) (v := (3 : Int32)) P23 (dc s49 41 rfl) rfl rfl ?_
    refine Own.iload (q := 190) P23 (dc s49 42 rfl) rfl rfl ?_
    refine Own.i2l (q := 191) P23 (dc s49 43 rfl)  rfl ?_
    refine Own.ldcJ (q := 194) (v := (3 : Int64)) P23 (dc s49 44 rfl) (wd hw 341 rfl) rfl ?_
    refine Own.ladd (q := 195) P23 (dc s49 45 rfl)  rfl ?_
    refine Own.ldcJ (q := 198) (v := (4 : Int64)) P23 (dc s49 46 rfl) (wd hw 342 rfl) rfl ?_
    refine Own.ldiv (q := 199) P23 (dc s49 47 rfl) (by decide) rfl ?_
    refine Own.l2i (q := 200) P23 (dc s49 48 rfl)  rfl ?_
    refine Own.imul (q := 201) P23 (dc s49 49 rfl)  rfl ?_
    refine Own.iload (q := 203) P23 (dc s49 50 rfl) rfl rfl ?_
    refine Own.isub (q := 204) P23 (dc s49 51 rfl)  rfl ?_
    refine Own.retI P23 (dc s49 52 rfl) hret hlk (by decide) (by decide) ?_
    exact ⟨by rw [hNg]; exact congrArg (fun x => some (Value.int x)) ((Own.dol (g := (mm + 1)) (p := 2) (by omega) (by omega)).trans (by rw [show 3 * (mm + 1) - 2 = us.length by omega])), (Fr.nil n0), rfl⟩
  · have hX := Own.encT2 hr
    have hNg : (Own.encL us).length = 4 * (mm + 1) := by omega
    refine Own.aloadN (q := 142) P23 (dc s49 19 rfl) rfl rfl rfl ?_
    refine Own.iloadN (q := 143) P23 (dc s49 20 rfl) rfl rfl ?_
    refine Own.iconst (q := 144) (v := (1 : Int32)) P23 (dc s49 21 rfl) rfl rfl ?_
    refine Own.isub (q := 145) P23 (dc s49 22 rfl)  rfl ?_
    rw [show (Int32.ofNat (Own.encL us).length - (1 : Int32)) = Int32.ofNat ((Own.encL us).length - 1) from Own.subE (f := 1) (by omega)]
    refine Own.bget (q := 146) (i := ((Own.encL us).length - 1)) P23 (dc s49 23 rfl) A1 (by omega) (by omega) rfl ?_
    rw [show (Own.encL us).getD ((Own.encL us).length - 1) 0 = (61 : Int32) from (by rw [show (Own.encL us).length - 1 = 4 * mm + 3 by omega, Own.encL_tail hmm, hX]; rfl)]
    refine Own.bipush (q := 148) (v := (61 : Int32)) P23 (dc s49 24 rfl) rfl rfl ?_
    refine Own.icmp_ne (q := 151) (qy := 167) P23 (dc s49 25 rfl) (by decide) rfl (fun q => absurd rfl q) (fun _ => ?_)
    refine Own.iinc (q := 154) (v := (1 : Int32)) (L2 := #[.val (.ref dd), .val (.ref t1), .val (.int (0 : Int32)), .val (.int (Int32.ofNat (Own.encL us).length)), .val (.ref ft), .val (.int ((0 : Int32) + (1 : Int32))), .val (.int (Int32.ofNat (Own.encL us).length)), .unset, .unset]) P23 (dc s49 26 rfl) rfl rfl rfl rfl ?_
    refine Own.aloadN (q := 155) P23 (dc s49 27 rfl) rfl rfl rfl ?_
    refine Own.iloadN (q := 156) P23 (dc s49 28 rfl) rfl rfl ?_
    refine Own.iconst (q := 157) (v := (2 : Int32)) P23 (dc s49 29 rfl) rfl rfl ?_
    refine Own.isub (q := 158) P23 (dc s49 30 rfl)  rfl ?_
    rw [show (Int32.ofNat (Own.encL us).length - (2 : Int32)) = Int32.ofNat ((Own.encL us).length - 2) from Own.subE (f := 2) (by omega)]
    refine Own.bget (q := 159) (i := ((Own.encL us).length - 2)) P23 (dc s49 31 rfl) A1 (by omega) (by omega) rfl ?_
    rw [show (Own.encL us).getD ((Own.encL us).length - 2) 0 = Own.e64 ((us.getD (3 * mm + 1) 0 <<< ((2 : Int32) &&& 31)) &&& 63) from (by rw [show (Own.encL us).length - 2 = 4 * mm + 2 by omega, Own.encL_tail hmm, hX]; rfl)]
    refine Own.bipush (q := 161) (v := (61 : Int32)) P23 (dc s49 32 rfl) rfl rfl ?_
    refine Own.icmp_ne (q := 164) (qy := 167) P23 (dc s49 33 rfl) (by decide) rfl (fun _ => ?_) (fun q => absurd q (Own.e64_ne (Own.b6m _)))
    refine Own.iload (q := 169) P23 (dc s49 35 rfl) rfl rfl ?_
    refine Own.if_ne (q := 172) (qy := 187) P23 (dc s49 36 rfl) (by decide) rfl (fun _ => ?_) (fun q => absurd q (by decide))
    refine Own.iconst (q := 188) (v := (3 : Int32)) P23 (dc s49 41 rfl) rfl rfl ?_
    refine Own.iload (q := 190) P23 (dc s49 42 rfl) rfl rfl ?_
    refine Own.i2l (q := 191) P23 (dc s49 43 rfl)  rfl ?_
    refine Own.ldcJ (q := 194) (v := (3 : Int64)) P23 (dc s49 44 rfl) (wd hw 341 rfl) rfl ?_
    refine Own.ladd (q := 195) P23 (dc s49 45 rfl)  rfl ?_
    refine Own.ldcJ (q := 198) (v := (4 : Int64)) P23 (dc s49 46 rfl) (wd hw 342 rfl) rfl ?_
    refine Own.ldiv (q := 199) P23 (dc s49 47 rfl) (by decide) rfl ?_
    refine Own.l2i (q := 200) P23 (dc s49 48 rfl)  rfl ?_
    refine Own.imul (q := 201) P23 (dc s49 49 rfl)  rfl ?_
    refine Own.iload (q := 203) P23 (dc s49 50 rfl) rfl rfl ?_
    refine Own.isub (q := 204) P23 (dc s49 51 rfl)  rfl ?_
    refine Own.retI P23 (dc s49 52 rfl) hret hlk (by decide) (by decide) ?_
    exact ⟨by rw [hNg]; exact congrArg (fun x => some (Value.int x)) ((Own.dol (g := (mm + 1)) (p := 1) (by omega) (by omega)).trans (by rw [show 3 * (mm + 1) - 1 = us.length by omega])), (Fr.nil n0), rfl⟩
theorem s50 : decs jdk_2450_method_8_code [(0, .iload 6, 2), (2, .ifCond .eq 9, 3), (11, .getstatic 99, 3), (14, .astore 8, 2), (16, .iload_n 2, 1), (17, .iload_n 3, 1), (18, .iload_n 2, 1), (19, .isub, 1), (20, .bipush (-4), 2), (22, .iand, 1), (23, .iadd, 1), (24, .istore 9, 2), (26, .iload 5, 2), (28, .istore 10, 2), (30, .iload_n 2, 1), (31, .iload 9, 2), (33, .if_icmp .ge 147, 3), (36, .aload 8, 2), (38, .aload_n 1, 1), (39, .iload_n 2, 1), (40, .iinc 2 1, 3), (43, .baload, 1), (44, .sipush 255, 3), (47, .iand, 1), (48, .iaload, 1), (49, .istore 11, 2), (51, .aload 8, 2), (53, .aload_n 1, 1), (54, .iload_n 2, 1), (55, .iinc 2 1, 3), (58, .baload, 1), (59, .sipush 255, 3), (62, .iand, 1), (63, .iaload, 1), (64, .istore 12, 2), (66, .aload 8, 2), (68, .aload_n 1, 1), (69, .iload_n 2, 1), (70, .iinc 2 1, 3), (73, .baload, 1), (74, .sipush 255, 3), (77, .iand, 1), (78, .iaload, 1), (79, .istore 13, 2), (81, .aload 8, 2), (83, .aload_n 1, 1), (84, .iload_n 2, 1), (85, .iinc 2 1, 3), (88, .baload, 1), (89, .sipush 255, 3), (92, .iand, 1), (93, .iaload, 1), (94, .istore 14, 2), (96, .iload 11, 2), (98, .iload 12, 2), (100, .ior, 1), (101, .iload 13, 2), (103, .ior, 1), (104, .iload 14, 2), (106, .ior, 1), (107, .ifCond .ge 9, 3), (110, .iload 10, 2), (112, .iload 5, 2), (114, .isub, 1), (115, .ireturn, 1), (116, .iload 11, 2), (118, .bipush 18, 2), (120, .ishl, 1), (121, .iload 12, 2), (123, .bipush 12, 2), (125, .ishl, 1), (126, .ior, 1), (127, .iload 13, 2), (129, .bipush 6, 2), (131, .ishl, 1), (132, .ior, 1), (133, .iload 14, 2), (135, .ior, 1), (136, .istore 15, 2), (138, .aload 4, 2), (140, .iload 10, 2), (142, .iinc 10 1, 3), (145, .iload 15, 2), (147, .bipush 16, 2), (149, .ishr, 1), (150, .i2b, 1), (151, .bastore, 1), (152, .aload 4, 2), (154, .iload 10, 2), (156, .iinc 10 1, 3), (159, .iload 15, 2), (161, .bipush 8, 2), (163, .ishr, 1), (164, .i2b, 1), (165, .bastore, 1), (166, .aload 4, 2), (168, .iload 10, 2), (170, .iinc 10 1, 3), (173, .iload 15, 2), (175, .i2b, 1), (176, .bastore, 1), (177, .goto (-147), 3), (180, .iload 10, 2), (182, .iload 5, 2), (184, .isub, 1), (185, .ireturn, 1)] = true := by decide +kernel
theorem pn_66 : plainFor (⟨"java/util/Base64$Decoder", "decodeBlock", "([BII[BIZZ)I"⟩ : MethodName) = true := by first | exact plainFor_of_name (by first | (simp [plainName, overriddenIn]; done) | decide +kernel) | decide +kernel
def QrmDb (Z : State) (dd : Addr) (ft : Addr) (ci : Addr) (cu : Addr) (kf : ClassId) (t1 : Addr) (k1 : ClassId) (t2 : Addr) (k2 : ClassId) (us : List Int32) (mm : Nat) (h0 : Heap) (n0 : Nat) (v : Option Value) (h : Heap) (L : List Loc) : Prop := v = some (.int (Int32.ofNat (3 * mm))) ∧ Fr n0 L ∧ Keep h0 h [t2] ∧ Arv Z h t2 k2 .byte (Int32.ofNat us.length) ((((us.take (3 * mm)).map fun c : Int32 => c.toInt8.toInt32).map Value.int) ++ List.replicate (us.length - (us.take (3 * mm)).length) (Value.int 0)) (.int 0)
theorem rmDb (l : Launch) (Z : State) (a0 : Array Value) (hw : HW a0 Z) (ws : List Jvm.Cond) (dd : Addr) (ft : Addr) (ci : Addr) (cu : Addr) (kf : ClassId) (t1 : Addr) (k1 : ClassId) (t2 : Addr) (k2 : ClassId) (us : List Int32) (mm : Nat) (h0 : Heap) (n0 : Nat) (Z0 : n0 ≤ h0.size) (de : Own.DE Z h0 dd ft ci cu kf) (A1 : Arv Z h0 t1 k1 .byte (Int32.ofNat (Own.encL us).length) (((Own.encL us).map fun c : Int32 => c.toInt8.toInt32).map Value.int) (.int 0)) (A2 : Arv Z h0 t2 k2 .byte (Int32.ofNat us.length) (((([] : List Int32).map fun c : Int32 => c.toInt8.toInt32).map Value.int) ++ List.replicate (us.length - ([] : List Int32).length) (Value.int 0)) (.int 0)) (hp : ∀ c ∈ us, ¬ c < 0 ∧ ¬ (255 : Int32) < c) (hl : 24 ≤ us.length ∧ us.length ≤ 64) (hmm : mm = us.length / 3) (ne1 : t1 ≠ t2) (ne2 : ft ≠ t2) (ne3 : dd ≠ t2) (g_t2 : n0 ≤ t2) :
    Own.MF l Z (⟨"java/util/Base64$Decoder", "decodeBlock", "([BII[BIZZ)I"⟩ : MethodName) jdk_2450_method_8_code 16 (some .int) ws (⟨0, 0, 0, 0⟩ : Room) #[(.ref dd), (.ref t1), (.int (0 : Int32)), (.int (Int32.ofNat (Own.encL us).length)), (.ref t2), (.int (0 : Int32)), (.int (0 : Int32)), (.int (0 : Int32))] h0 (QrmDb Z dd ft ci cu kf t1 k1 t2 k2 us mm h0 n0) := by
  refine Own.MF.of (own := "java/util/Base64$Decoder") (n := 16) rfl rfl pn_66 (fun p e s m below meth c s₁ hml hlk hret hnm P0 => ?_)
  rw [show entryFrame m #[(.ref dd), (.ref t1), (.int (0 : Int32)), (.int (Int32.ofNat (Own.encL us).length)), (.ref t2), (.int (0 : Int32)), (.int (0 : Int32)), (.int (0 : Int32))] 16 = mkF m 0 #[.val (.ref dd), .val (.ref t1), .val (.int (0 : Int32)), .val (.int (Int32.ofNat (Own.encL us).length)), .val (.ref t2), .val (.int (0 : Int32)), .val (.int (0 : Int32)), .val (.int (0 : Int32)), .unset, .unset, .unset, .unset, .unset, .unset, .unset, .unset] [] from by first | (simp [entryFrame, mkF, argsToLocals, Value.category]; done) | rfl]
  have hn2 := Own.encL_len us
  have hNg : ∃ g, g ≤ 30 ∧ (Own.encL us).length = 4 * g := ⟨(us.length + 2) / 3, by omega, hn2⟩
  refine Own.iload (q := 2) P0 (dc s50 0 rfl) rfl rfl ?_
  refine Own.if_eq (q := 5) (qy := 11) P0 (dc s50 1 rfl) (by decide) rfl (fun _ => ?_) (fun q => absurd rfl q)
  refine Own.getstatic (q := 14) P0 (dc s50 2 rfl) (wd hw 338 rfl) de.2.2.2.2.1 rfl ?_
  intro T21 P21
  refine Own.astore (q := 16) (L2 := #[.val (.ref dd), .val (.ref t1), .val (.int (0 : Int32)), .val (.int (Int32.ofNat (Own.encL us).length)), .val (.ref t2), .val (.int (0 : Int32)), .val (.int (0 : Int32)), .val (.int (0 : Int32)), .val (.ref ft), .unset, .unset, .unset, .unset, .unset, .unset, .unset]) P21 (dc s50 3 rfl) rfl rfl rfl ?_
  refine Own.iloadN (q := 17) P21 (dc s50 4 rfl) rfl rfl ?_
  refine Own.iloadN (q := 18) P21 (dc s50 5 rfl) rfl rfl ?_
  refine Own.iloadN (q := 19) P21 (dc s50 6 rfl) rfl rfl ?_
  refine Own.isub (q := 20) P21 (dc s50 7 rfl)  rfl ?_
  rw [show ((Int32.ofNat (Own.encL us).length) - (0 : Int32)) = (Int32.ofNat (Own.encL us).length) from Int32.sub_zero _]
  refine Own.bipush (q := 22) (v := (-4 : Int32)) P21 (dc s50 8 rfl) rfl rfl ?_
  refine Own.iand (q := 23) P21 (dc s50 9 rfl)  rfl ?_
  rw [show ((Int32.ofNat (Own.encL us).length) &&& (-4 : Int32)) = (Int32.ofNat (Own.encL us).length) from (by obtain ⟨g, g1, g2⟩ := hNg; rw [g2]; exact (Own.mask4 g g1).1)]
  refine Own.iadd (q := 24) P21 (dc s50 10 rfl)  rfl ?_
  rw [show ((0 : Int32) + (Int32.ofNat (Own.encL us).length)) = (Int32.ofNat (Own.encL us).length) from Int32.zero_add _]
  refine Own.istore (q := 26) (L2 := #[.val (.ref dd), .val (.ref t1), .val (.int (0 : Int32)), .val (.int (Int32.ofNat (Own.encL us).length)), .val (.ref t2), .val (.int (0 : Int32)), .val (.int (0 : Int32)), .val (.int (0 : Int32)), .val (.ref ft), .val (.int (Int32.ofNat (Own.encL us).length)), .unset, .unset, .unset, .unset, .unset, .unset]) P21 (dc s50 11 rfl) rfl rfl ?_
  refine Own.iload (q := 28) P21 (dc s50 12 rfl) rfl rfl ?_
  refine Own.istore (q := 30) (L2 := #[.val (.ref dd), .val (.ref t1), .val (.int (0 : Int32)), .val (.int (Int32.ofNat (Own.encL us).length)), .val (.ref t2), .val (.int (0 : Int32)), .val (.int (0 : Int32)), .val (.int (0 : Int32)), .val (.ref ft), .val (.int (Int32.ofNat (Own.encL us).length)), .val (.int (0 : Int32)), .unset, .unset, .unset, .unset, .unset]) P21 (dc s50 13 rfl) rfl rfl ?_
  have loop : ∀ (kk i : Nat), mm ≤ i + kk → i ≤ mm → ∀ (T22 : State) (lc22 : List Loc) (hL22 : Heap) (sl11 : Slot) (sl12 : Slot) (sl13 : Slot) (sl14 : Slot) (sl15 : Slot), Own.Wk Z "java/util/Base64$Decoder" jdk_2450_method_8_code hL22 p l e (⟨0, 0, 0, 0⟩ : Room) s m #[(.ref dd), (.ref t1), (.int (0 : Int32)), (.int (Int32.ofNat (Own.encL us).length)), (.ref t2), (.int (0 : Int32)), (.int (0 : Int32)), (.int (0 : Int32))] below meth c T22 lc22 0 0 → Fr n0 lc22 → (sl11 = .unset ∨ ∃ x, sl11 = .val (.int x)) → (sl12 = .unset ∨ ∃ x, sl12 = .val (.int x)) → (sl13 = .unset ∨ ∃ x, sl13 = .val (.int x)) → (sl14 = .unset ∨ ∃ x, sl14 = .val (.int x)) → (sl15 = .unset ∨ ∃ x, sl15 = .val (.int x)) → Keep h0 hL22 [t2] → Arv Z hL22 t1 k1 .byte (Int32.ofNat (Own.encL us).length) (((Own.encL us).map fun c : Int32 => c.toInt8.toInt32).map Value.int) (.int 0) → Arv Z hL22 t2 k2 .byte (Int32.ofNat us.length) ((((us.take (3 * i)).map fun c : Int32 => c.toInt8.toInt32).map Value.int) ++ List.replicate (us.length - (us.take (3 * i)).length) (Value.int 0)) (.int 0) → Arv Z hL22 ft kf .int 256 (Own.ftab.map Value.int) (.int 0) → Own.Goes p.tables e below (Own.KE (QrmDb Z dd ft ci cu kf t1 k1 t2 k2 us mm h0 n0) s (⟨0, 0, 0, 0⟩ : Room).cells (⟨0, 0, 0, 0⟩ : Room).slots) (T22.setTop (mkF m 30 #[.val (.ref dd), .val (.ref t1), .val (.int (Int32.ofNat (4 * i))), .val (.int (Int32.ofNat (Own.encL us).length)), .val (.ref t2), .val (.int (0 : Int32)), .val (.int (0 : Int32)), .val (.int (0 : Int32)), .val (.ref ft), .val (.int (Int32.ofNat (Own.encL us).length)), .val (.int (Int32.ofNat (us.take (3 * i)).length)), sl11, sl12, sl13, sl14, sl15] [])) := by
    intro kk
    induction kk with
    | zero =>
      intro i hk hi T22 lc22 hL22 sl11 sl12 sl13 sl14 sl15 P22 N22 hs11 hs12 hs13 hs14 hs15 KL L1 L2 L3
      have him : i = mm := by omega
      subst him
      refine Own.iloadN (q := 31) P22 (dc s50 14 rfl) rfl rfl ?_
      refine Own.iload (q := 33) P22 (dc s50 15 rfl) rfl rfl ?_
      refine Own.icmp_ge (q := 36) (qy := 180) P22 (dc s50 16 rfl) (by decide) rfl (fun q33 => ?_) (fun q33 => ?_)
      · refine Own.iload (q := 182) P22 (dc s50 102 rfl) rfl rfl ?_
        refine Own.iload (q := 184) P22 (dc s50 103 rfl) rfl rfl ?_
        refine Own.isub (q := 185) P22 (dc s50 104 rfl)  rfl ?_
        refine Own.retI P22 (dc s50 105 rfl) hret hlk (by decide) (by decide) ?_
        exact ⟨by rw [List.length_take, Nat.min_eq_left (by omega)]; exact congrArg (fun x => some (Value.int x)) (Int32.sub_zero _), N22, (Keep.trans (Keep.refl h0 _) KL (allS (Or.inl (by simp)) all0)), L2⟩
      · have hlt := (Own.ofNat_lt (by omega) (by omega)).mp q33
        have h61 : (Own.encL us).getD (4 * i + 3) 0 = 61 := by
          rw [Own.encL_tail hmm]
          have hr : us.length = 3 * i + 1 ∨ us.length = 3 * i + 2 := by omega
          rcases hr with hr | hr
          · rw [Own.encT1 hr]; rfl
          · rw [Own.encT2 hr]; rfl
        refine Own.aload (q := 38) P22 (dc s50 17 rfl) rfl rfl rfl ?_
        refine Own.aloadN (q := 39) P22 (dc s50 18 rfl) rfl rfl rfl ?_
        refine Own.iloadN (q := 40) P22 (dc s50 19 rfl) rfl rfl ?_
        refine Own.iinc (q := 43) (v := (1 : Int32)) (L2 := #[.val (.ref dd), .val (.ref t1), .val (.int ((Int32.ofNat (4 * i)) + (1 : Int32))), .val (.int (Int32.ofNat (Own.encL us).length)), .val (.ref t2), .val (.int (0 : Int32)), .val (.int (0 : Int32)), .val (.int (0 : Int32)), .val (.ref ft), .val (.int (Int32.ofNat (Own.encL us).length)), .val (.int (Int32.ofNat (us.take (3 * i)).length)), sl11, sl12, sl13, sl14, sl15]) P22 (dc s50 20 rfl) rfl rfl rfl rfl ?_
        rw [show ((Int32.ofNat (4 * i)) + (1 : Int32)) = Int32.ofNat (4 * i + 1) from (Int32.ofNat_add (4 * i) 1).symm]
        refine Own.bget (q := 44) (i := (4 * i)) P22 (dc s50 21 rfl) L1 (by omega) (by omega) rfl ?_
        refine Own.sipush (q := 47) (v := (255 : Int32)) P22 (dc s50 22 rfl) rfl rfl ?_
        refine Own.iand (q := 48) P22 (dc s50 23 rfl)  rfl ?_
        rw [show (((Own.encL us).getD (4 * i) 0).toInt8.toInt32 &&& (255 : Int32)) = ((Own.encL us).getD (4 * i) 0) from Own.and255 (Own.rng_getD (Own.encL_rng hp) _)]
        refine Own.fget (q := 49) P22 (dc s50 24 rfl) L3 (Own.rng_getD (Own.encL_rng hp) _) rfl ?_
        refine Own.istore (q := 51) (L2 := #[.val (.ref dd), .val (.ref t1), .val (.int (Int32.ofNat (4 * i + 1))), .val (.int (Int32.ofNat (Own.encL us).length)), .val (.ref t2), .val (.int (0 : Int32)), .val (.int (0 : Int32)), .val (.int (0 : Int32)), .val (.ref ft), .val (.int (Int32.ofNat (Own.encL us).length)), .val (.int (Int32.ofNat (us.take (3 * i)).length)), .val (.int (Own.d64 ((Own.encL us).getD (4 * i) 0))), sl12, sl13, sl14, sl15]) P22 (dc s50 25 rfl) (by rcases hs11 with rfl | ⟨_, rfl⟩ <;> rfl) rfl ?_
        refine Own.aload (q := 53) P22 (dc s50 26 rfl) rfl rfl rfl ?_
        refine Own.aloadN (q := 54) P22 (dc s50 27 rfl) rfl rfl rfl ?_
        refine Own.iloadN (q := 55) P22 (dc s50 28 rfl) rfl rfl ?_
        refine Own.iinc (q := 58) (v := (1 : Int32)) (L2 := #[.val (.ref dd), .val (.ref t1), .val (.int ((Int32.ofNat (4 * i + 1)) + (1 : Int32))), .val (.int (Int32.ofNat (Own.encL us).length)), .val (.ref t2), .val (.int (0 : Int32)), .val (.int (0 : Int32)), .val (.int (0 : Int32)), .val (.ref ft), .val (.int (Int32.ofNat (Own.encL us).length)), .val (.int (Int32.ofNat (us.take (3 * i)).length)), .val (.int (Own.d64 ((Own.encL us).getD (4 * i) 0))), sl12, sl13, sl14, sl15]) P22 (dc s50 29 rfl) rfl rfl rfl rfl ?_
        rw [show ((Int32.ofNat (4 * i + 1)) + (1 : Int32)) = Int32.ofNat (4 * i + 2) from (Int32.ofNat_add (4 * i + 1) 1).symm]
        refine Own.bget (q := 59) (i := (4 * i + 1)) P22 (dc s50 30 rfl) L1 (by omega) (by omega) rfl ?_
        refine Own.sipush (q := 62) (v := (255 : Int32)) P22 (dc s50 31 rfl) rfl rfl ?_
        refine Own.iand (q := 63) P22 (dc s50 32 rfl)  rfl ?_
        rw [show (((Own.encL us).getD (4 * i + 1) 0).toInt8.toInt32 &&& (255 : Int32)) = ((Own.encL us).getD (4 * i + 1) 0) from Own.and255 (Own.rng_getD (Own.encL_rng hp) _)]
        refine Own.fget (q := 64) P22 (dc s50 33 rfl) L3 (Own.rng_getD (Own.encL_rng hp) _) rfl ?_
        refine Own.istore (q := 66) (L2 := #[.val (.ref dd), .val (.ref t1), .val (.int (Int32.ofNat (4 * i + 2))), .val (.int (Int32.ofNat (Own.encL us).length)), .val (.ref t2), .val (.int (0 : Int32)), .val (.int (0 : Int32)), .val (.int (0 : Int32)), .val (.ref ft), .val (.int (Int32.ofNat (Own.encL us).length)), .val (.int (Int32.ofNat (us.take (3 * i)).length)), .val (.int (Own.d64 ((Own.encL us).getD (4 * i) 0))), .val (.int (Own.d64 ((Own.encL us).getD (4 * i + 1) 0))), sl13, sl14, sl15]) P22 (dc s50 34 rfl) (by rcases hs12 with rfl | ⟨_, rfl⟩ <;> rfl) rfl ?_
        refine Own.aload (q := 68) P22 (dc s50 35 rfl) rfl rfl rfl ?_
        refine Own.aloadN (q := 69) P22 (dc s50 36 rfl) rfl rfl rfl ?_
        refine Own.iloadN (q := 70) P22 (dc s50 37 rfl) rfl rfl ?_
        refine Own.iinc (q := 73) (v := (1 : Int32)) (L2 := #[.val (.ref dd), .val (.ref t1), .val (.int ((Int32.ofNat (4 * i + 2)) + (1 : Int32))), .val (.int (Int32.ofNat (Own.encL us).length)), .val (.ref t2), .val (.int (0 : Int32)), .val (.int (0 : Int32)), .val (.int (0 : Int32)), .val (.ref ft), .val (.int (Int32.ofNat (Own.encL us).length)), .val (.int (Int32.ofNat (us.take (3 * i)).length)), .val (.int (Own.d64 ((Own.encL us).getD (4 * i) 0))), .val (.int (Own.d64 ((Own.encL us).getD (4 * i + 1) 0))), sl13, sl14, sl15]) P22 (dc s50 38 rfl) rfl rfl rfl rfl ?_
        rw [show ((Int32.ofNat (4 * i + 2)) + (1 : Int32)) = Int32.ofNat (4 * i + 3) from (Int32.ofNat_add (4 * i + 2) 1).symm]
        refine Own.bget (q := 74) (i := (4 * i + 2)) P22 (dc s50 39 rfl) L1 (by omega) (by omega) rfl ?_
        refine Own.sipush (q := 77) (v := (255 : Int32)) P22 (dc s50 40 rfl) rfl rfl ?_
        refine Own.iand (q := 78) P22 (dc s50 41 rfl)  rfl ?_
        rw [show (((Own.encL us).getD (4 * i + 2) 0).toInt8.toInt32 &&& (255 : Int32)) = ((Own.encL us).getD (4 * i + 2) 0) from Own.and255 (Own.rng_getD (Own.encL_rng hp) _)]
        refine Own.fget (q := 79) P22 (dc s50 42 rfl) L3 (Own.rng_getD (Own.encL_rng hp) _) rfl ?_
        refine Own.istore (q := 81) (L2 := #[.val (.ref dd), .val (.ref t1), .val (.int (Int32.ofNat (4 * i + 3))), .val (.int (Int32.ofNat (Own.encL us).length)), .val (.ref t2), .val (.int (0 : Int32)), .val (.int (0 : Int32)), .val (.int (0 : Int32)), .val (.ref ft), .val (.int (Int32.ofNat (Own.encL us).length)), .val (.int (Int32.ofNat (us.take (3 * i)).length)), .val (.int (Own.d64 ((Own.encL us).getD (4 * i) 0))), .val (.int (Own.d64 ((Own.encL us).getD (4 * i + 1) 0))), .val (.int (Own.d64 ((Own.encL us).getD (4 * i + 2) 0))), sl14, sl15]) P22 (dc s50 43 rfl) (by rcases hs13 with rfl | ⟨_, rfl⟩ <;> rfl) rfl ?_
        refine Own.aload (q := 83) P22 (dc s50 44 rfl) rfl rfl rfl ?_
        refine Own.aloadN (q := 84) P22 (dc s50 45 rfl) rfl rfl rfl ?_
        refine Own.iloadN (q := 85) P22 (dc s50 46 rfl) rfl rfl ?_
        refine Own.iinc (q := 88) (v := (1 : Int32)) (L2 := #[.val (.ref dd), .val (.ref t1), .val (.int ((Int32.ofNat (4 * i + 3)) + (1 : Int32))), .val (.int (Int32.ofNat (Own.encL us).length)), .val (.ref t2), .val (.int (0 : Int32)), .val (.int (0 : Int32)), .val (.int (0 : Int32)), .val (.ref ft), .val (.int (Int32.ofNat (Own.encL us).length)), .val (.int (Int32.ofNat (us.take (3 * i)).length)), .val (.int (Own.d64 ((Own.encL us).getD (4 * i) 0))), .val (.int (Own.d64 ((Own.encL us).getD (4 * i + 1) 0))), .val (.int (Own.d64 ((Own.encL us).getD (4 * i + 2) 0))), sl14, sl15]) P22 (dc s50 47 rfl) rfl rfl rfl rfl ?_
        rw [show ((Int32.ofNat (4 * i + 3)) + (1 : Int32)) = Int32.ofNat (4 * i + 4) from (Int32.ofNat_add (4 * i + 3) 1).symm]
        refine Own.bget (q := 89) (i := (4 * i + 3)) P22 (dc s50 48 rfl) L1 (by omega) (by omega) rfl ?_
        refine Own.sipush (q := 92) (v := (255 : Int32)) P22 (dc s50 49 rfl) rfl rfl ?_
        refine Own.iand (q := 93) P22 (dc s50 50 rfl)  rfl ?_
        rw [show (((Own.encL us).getD (4 * i + 3) 0).toInt8.toInt32 &&& (255 : Int32)) = ((Own.encL us).getD (4 * i + 3) 0) from Own.and255 (Own.rng_getD (Own.encL_rng hp) _)]
        refine Own.fget (q := 94) P22 (dc s50 51 rfl) L3 (Own.rng_getD (Own.encL_rng hp) _) rfl ?_
        rw [show Own.d64 ((Own.encL us).getD (4 * i + 3) 0) = (-2 : Int32) from (by rw [h61]; exact Own.d_pad)]
        refine Own.istore (q := 96) (L2 := #[.val (.ref dd), .val (.ref t1), .val (.int (Int32.ofNat (4 * i + 4))), .val (.int (Int32.ofNat (Own.encL us).length)), .val (.ref t2), .val (.int (0 : Int32)), .val (.int (0 : Int32)), .val (.int (0 : Int32)), .val (.ref ft), .val (.int (Int32.ofNat (Own.encL us).length)), .val (.int (Int32.ofNat (us.take (3 * i)).length)), .val (.int (Own.d64 ((Own.encL us).getD (4 * i) 0))), .val (.int (Own.d64 ((Own.encL us).getD (4 * i + 1) 0))), .val (.int (Own.d64 ((Own.encL us).getD (4 * i + 2) 0))), .val (.int (-2 : Int32)), sl15]) P22 (dc s50 52 rfl) (by rcases hs14 with rfl | ⟨_, rfl⟩ <;> rfl) rfl ?_
        refine Own.iload (q := 98) P22 (dc s50 53 rfl) rfl rfl ?_
        refine Own.iload (q := 100) P22 (dc s50 54 rfl) rfl rfl ?_
        refine Own.ior (q := 101) P22 (dc s50 55 rfl)  rfl ?_
        refine Own.iload (q := 103) P22 (dc s50 56 rfl) rfl rfl ?_
        refine Own.ior (q := 104) P22 (dc s50 57 rfl)  rfl ?_
        refine Own.iload (q := 106) P22 (dc s50 58 rfl) rfl rfl ?_
        refine Own.ior (q := 107) P22 (dc s50 59 rfl)  rfl ?_
        refine Own.if_ge (q := 110) (qy := 116) P22 (dc s50 60 rfl) (by decide) rfl (fun q => absurd (Own.or_neg _ (by decide)) q) (fun _ => ?_)
        refine Own.iload (q := 112) P22 (dc s50 61 rfl) rfl rfl ?_
        refine Own.iload (q := 114) P22 (dc s50 62 rfl) rfl rfl ?_
        refine Own.isub (q := 115) P22 (dc s50 63 rfl)  rfl ?_
        refine Own.retI P22 (dc s50 64 rfl) hret hlk (by decide) (by decide) ?_
        exact ⟨by rw [List.length_take, Nat.min_eq_left (by omega)]; exact congrArg (fun x => some (Value.int x)) (Int32.sub_zero _), N22, (Keep.trans (Keep.refl h0 _) KL (allS (Or.inl (by simp)) all0)), L2⟩
    | succ kk ih =>
      intro i hk hi T22 lc22 hL22 sl11 sl12 sl13 sl14 sl15 P22 N22 hs11 hs12 hs13 hs14 hs15 KL L1 L2 L3
      refine (Nat.lt_or_ge i mm).elim (fun hi2 => ?_) (fun hge => ih i (by omega) hi _ _ _ _ _ _ _ _ P22 N22 hs11 hs12 hs13 hs14 hs15 KL L1 L2 L3)
      refine Own.iloadN (q := 31) P22 (dc s50 14 rfl) rfl rfl ?_
      refine Own.iload (q := 33) P22 (dc s50 15 rfl) rfl rfl ?_
      refine Own.icmp_ge (q := 36) (qy := 180) P22 (dc s50 16 rfl) (by decide) rfl (fun q => absurd (Own.ltN (a := 4 * i) (by omega) (by omega) (by omega)) q) (fun _ => ?_)
      refine Own.aload (q := 38) P22 (dc s50 17 rfl) rfl rfl rfl ?_
      refine Own.aloadN (q := 39) P22 (dc s50 18 rfl) rfl rfl rfl ?_
      refine Own.iloadN (q := 40) P22 (dc s50 19 rfl) rfl rfl ?_
      refine Own.iinc (q := 43) (v := (1 : Int32)) (L2 := #[.val (.ref dd), .val (.ref t1), .val (.int ((Int32.ofNat (4 * i)) + (1 : Int32))), .val (.int (Int32.ofNat (Own.encL us).length)), .val (.ref t2), .val (.int (0 : Int32)), .val (.int (0 : Int32)), .val (.int (0 : Int32)), .val (.ref ft), .val (.int (Int32.ofNat (Own.encL us).length)), .val (.int (Int32.ofNat (us.take (3 * i)).length)), sl11, sl12, sl13, sl14, sl15]) P22 (dc s50 20 rfl) rfl rfl rfl rfl ?_
      rw [show ((Int32.ofNat (4 * i)) + (1 : Int32)) = Int32.ofNat (4 * i + 1) from (Int32.ofNat_add (4 * i) 1).symm]
      refine Own.bget (q := 44) (i := (4 * i)) P22 (dc s50 21 rfl) L1 (by omega) (by omega) rfl ?_
      refine Own.sipush (q := 47) (v := (255 : Int32)) P22 (dc s50 22 rfl) rfl rfl ?_
      refine Own.iand (q := 48) P22 (dc s50 23 rfl)  rfl ?_
      rw [show (((Own.encL us).getD (4 * i) 0).toInt8.toInt32 &&& (255 : Int32)) = ((Own.encL us).getD (4 * i) 0) from Own.and255 (Own.rng_getD (Own.encL_rng hp) _)]
      refine Own.fget (q := 49) P22 (dc s50 24 rfl) L3 (Own.rng_getD (Own.encL_rng hp) _) rfl ?_
      rw [show Own.d64 ((Own.encL us).getD (4 * i) 0) = (Own.q1 (us.getD (3 * i) 0) (us.getD (3 * i + 1) 0) (us.getD (3 * i + 2) 0)) from (by rw [show 4 * i = 4 * i + 0 from rfl, Own.encL_head (by omega) (by decide)]; exact Own.d_e Own.b6q.1)]
      refine Own.istore (q := 51) (L2 := #[.val (.ref dd), .val (.ref t1), .val (.int (Int32.ofNat (4 * i + 1))), .val (.int (Int32.ofNat (Own.encL us).length)), .val (.ref t2), .val (.int (0 : Int32)), .val (.int (0 : Int32)), .val (.int (0 : Int32)), .val (.ref ft), .val (.int (Int32.ofNat (Own.encL us).length)), .val (.int (Int32.ofNat (us.take (3 * i)).length)), .val (.int (Own.q1 (us.getD (3 * i) 0) (us.getD (3 * i + 1) 0) (us.getD (3 * i + 2) 0))), sl12, sl13, sl14, sl15]) P22 (dc s50 25 rfl) (by rcases hs11 with rfl | ⟨_, rfl⟩ <;> rfl) rfl ?_
      refine Own.aload (q := 53) P22 (dc s50 26 rfl) rfl rfl rfl ?_
      refine Own.aloadN (q := 54) P22 (dc s50 27 rfl) rfl rfl rfl ?_
      refine Own.iloadN (q := 55) P22 (dc s50 28 rfl) rfl rfl ?_
      refine Own.iinc (q := 58) (v := (1 : Int32)) (L2 := #[.val (.ref dd), .val (.ref t1), .val (.int ((Int32.ofNat (4 * i + 1)) + (1 : Int32))), .val (.int (Int32.ofNat (Own.encL us).length)), .val (.ref t2), .val (.int (0 : Int32)), .val (.int (0 : Int32)), .val (.int (0 : Int32)), .val (.ref ft), .val (.int (Int32.ofNat (Own.encL us).length)), .val (.int (Int32.ofNat (us.take (3 * i)).length)), .val (.int (Own.q1 (us.getD (3 * i) 0) (us.getD (3 * i + 1) 0) (us.getD (3 * i + 2) 0))), sl12, sl13, sl14, sl15]) P22 (dc s50 29 rfl) rfl rfl rfl rfl ?_
      rw [show ((Int32.ofNat (4 * i + 1)) + (1 : Int32)) = Int32.ofNat (4 * i + 2) from (Int32.ofNat_add (4 * i + 1) 1).symm]
      refine Own.bget (q := 59) (i := (4 * i + 1)) P22 (dc s50 30 rfl) L1 (by omega) (by omega) rfl ?_
      refine Own.sipush (q := 62) (v := (255 : Int32)) P22 (dc s50 31 rfl) rfl rfl ?_
      refine Own.iand (q := 63) P22 (dc s50 32 rfl)  rfl ?_
      rw [show (((Own.encL us).getD (4 * i + 1) 0).toInt8.toInt32 &&& (255 : Int32)) = ((Own.encL us).getD (4 * i + 1) 0) from Own.and255 (Own.rng_getD (Own.encL_rng hp) _)]
      refine Own.fget (q := 64) P22 (dc s50 33 rfl) L3 (Own.rng_getD (Own.encL_rng hp) _) rfl ?_
      rw [show Own.d64 ((Own.encL us).getD (4 * i + 1) 0) = (Own.q2 (us.getD (3 * i) 0) (us.getD (3 * i + 1) 0) (us.getD (3 * i + 2) 0)) from (by rw [show 4 * i + 1 = 4 * i + 1 from rfl, Own.encL_head (by omega) (by decide)]; exact Own.d_e Own.b6q.2.1)]
      refine Own.istore (q := 66) (L2 := #[.val (.ref dd), .val (.ref t1), .val (.int (Int32.ofNat (4 * i + 2))), .val (.int (Int32.ofNat (Own.encL us).length)), .val (.ref t2), .val (.int (0 : Int32)), .val (.int (0 : Int32)), .val (.int (0 : Int32)), .val (.ref ft), .val (.int (Int32.ofNat (Own.encL us).length)), .val (.int (Int32.ofNat (us.take (3 * i)).length)), .val (.int (Own.q1 (us.getD (3 * i) 0) (us.getD (3 * i + 1) 0) (us.getD (3 * i + 2) 0))), .val (.int (Own.q2 (us.getD (3 * i) 0) (us.getD (3 * i + 1) 0) (us.getD (3 * i + 2) 0))), sl13, sl14, sl15]) P22 (dc s50 34 rfl) (by rcases hs12 with rfl | ⟨_, rfl⟩ <;> rfl) rfl ?_
      refine Own.aload (q := 68) P22 (dc s50 35 rfl) rfl rfl rfl ?_
      refine Own.aloadN (q := 69) P22 (dc s50 36 rfl) rfl rfl rfl ?_
      refine Own.iloadN (q := 70) P22 (dc s50 37 rfl) rfl rfl ?_
      refine Own.iinc (q := 73) (v := (1 : Int32)) (L2 := #[.val (.ref dd), .val (.ref t1), .val (.int ((Int32.ofNat (4 * i + 2)) + (1 : Int32))), .val (.int (Int32.ofNat (Own.encL us).length)), .val (.ref t2), .val (.int (0 : Int32)), .val (.int (0 : Int32)), .val (.int (0 : Int32)), .val (.ref ft), .val (.int (Int32.ofNat (Own.encL us).length)), .val (.int (Int32.ofNat (us.take (3 * i)).length)), .val (.int (Own.q1 (us.getD (3 * i) 0) (us.getD (3 * i + 1) 0) (us.getD (3 * i + 2) 0))), .val (.int (Own.q2 (us.getD (3 * i) 0) (us.getD (3 * i + 1) 0) (us.getD (3 * i + 2) 0))), sl13, sl14, sl15]) P22 (dc s50 38 rfl) rfl rfl rfl rfl ?_
      rw [show ((Int32.ofNat (4 * i + 2)) + (1 : Int32)) = Int32.ofNat (4 * i + 3) from (Int32.ofNat_add (4 * i + 2) 1).symm]
      refine Own.bget (q := 74) (i := (4 * i + 2)) P22 (dc s50 39 rfl) L1 (by omega) (by omega) rfl ?_
      refine Own.sipush (q := 77) (v := (255 : Int32)) P22 (dc s50 40 rfl) rfl rfl ?_
      refine Own.iand (q := 78) P22 (dc s50 41 rfl)  rfl ?_
      rw [show (((Own.encL us).getD (4 * i + 2) 0).toInt8.toInt32 &&& (255 : Int32)) = ((Own.encL us).getD (4 * i + 2) 0) from Own.and255 (Own.rng_getD (Own.encL_rng hp) _)]
      refine Own.fget (q := 79) P22 (dc s50 42 rfl) L3 (Own.rng_getD (Own.encL_rng hp) _) rfl ?_
      rw [show Own.d64 ((Own.encL us).getD (4 * i + 2) 0) = (Own.q3 (us.getD (3 * i) 0) (us.getD (3 * i + 1) 0) (us.getD (3 * i + 2) 0)) from (by rw [show 4 * i + 2 = 4 * i + 2 from rfl, Own.encL_head (by omega) (by decide)]; exact Own.d_e Own.b6q.2.2.1)]
      refine Own.istore (q := 81) (L2 := #[.val (.ref dd), .val (.ref t1), .val (.int (Int32.ofNat (4 * i + 3))), .val (.int (Int32.ofNat (Own.encL us).length)), .val (.ref t2), .val (.int (0 : Int32)), .val (.int (0 : Int32)), .val (.int (0 : Int32)), .val (.ref ft), .val (.int (Int32.ofNat (Own.encL us).length)), .val (.int (Int32.ofNat (us.take (3 * i)).length)), .val (.int (Own.q1 (us.getD (3 * i) 0) (us.getD (3 * i + 1) 0) (us.getD (3 * i + 2) 0))), .val (.int (Own.q2 (us.getD (3 * i) 0) (us.getD (3 * i + 1) 0) (us.getD (3 * i + 2) 0))), .val (.int (Own.q3 (us.getD (3 * i) 0) (us.getD (3 * i + 1) 0) (us.getD (3 * i + 2) 0))), sl14, sl15]) P22 (dc s50 43 rfl) (by rcases hs13 with rfl | ⟨_, rfl⟩ <;> rfl) rfl ?_
      refine Own.aload (q := 83) P22 (dc s50 44 rfl) rfl rfl rfl ?_
      refine Own.aloadN (q := 84) P22 (dc s50 45 rfl) rfl rfl rfl ?_
      refine Own.iloadN (q := 85) P22 (dc s50 46 rfl) rfl rfl ?_
      refine Own.iinc (q := 88) (v := (1 : Int32)) (L2 := #[.val (.ref dd), .val (.ref t1), .val (.int ((Int32.ofNat (4 * i + 3)) + (1 : Int32))), .val (.int (Int32.ofNat (Own.encL us).length)), .val (.ref t2), .val (.int (0 : Int32)), .val (.int (0 : Int32)), .val (.int (0 : Int32)), .val (.ref ft), .val (.int (Int32.ofNat (Own.encL us).length)), .val (.int (Int32.ofNat (us.take (3 * i)).length)), .val (.int (Own.q1 (us.getD (3 * i) 0) (us.getD (3 * i + 1) 0) (us.getD (3 * i + 2) 0))), .val (.int (Own.q2 (us.getD (3 * i) 0) (us.getD (3 * i + 1) 0) (us.getD (3 * i + 2) 0))), .val (.int (Own.q3 (us.getD (3 * i) 0) (us.getD (3 * i + 1) 0) (us.getD (3 * i + 2) 0))), sl14, sl15]) P22 (dc s50 47 rfl) rfl rfl rfl rfl ?_
      rw [show ((Int32.ofNat (4 * i + 3)) + (1 : Int32)) = Int32.ofNat (4 * i + 4) from (Int32.ofNat_add (4 * i + 3) 1).symm]
      refine Own.bget (q := 89) (i := (4 * i + 3)) P22 (dc s50 48 rfl) L1 (by omega) (by omega) rfl ?_
      refine Own.sipush (q := 92) (v := (255 : Int32)) P22 (dc s50 49 rfl) rfl rfl ?_
      refine Own.iand (q := 93) P22 (dc s50 50 rfl)  rfl ?_
      rw [show (((Own.encL us).getD (4 * i + 3) 0).toInt8.toInt32 &&& (255 : Int32)) = ((Own.encL us).getD (4 * i + 3) 0) from Own.and255 (Own.rng_getD (Own.encL_rng hp) _)]
      refine Own.fget (q := 94) P22 (dc s50 51 rfl) L3 (Own.rng_getD (Own.encL_rng hp) _) rfl ?_
      rw [show Own.d64 ((Own.encL us).getD (4 * i + 3) 0) = (Own.q4 (us.getD (3 * i) 0) (us.getD (3 * i + 1) 0) (us.getD (3 * i + 2) 0)) from (by rw [show 4 * i + 3 = 4 * i + 3 from rfl, Own.encL_head (by omega) (by decide)]; exact Own.d_e Own.b6q.2.2.2)]
      refine Own.istore (q := 96) (L2 := #[.val (.ref dd), .val (.ref t1), .val (.int (Int32.ofNat (4 * i + 4))), .val (.int (Int32.ofNat (Own.encL us).length)), .val (.ref t2), .val (.int (0 : Int32)), .val (.int (0 : Int32)), .val (.int (0 : Int32)), .val (.ref ft), .val (.int (Int32.ofNat (Own.encL us).length)), .val (.int (Int32.ofNat (us.take (3 * i)).length)), .val (.int (Own.q1 (us.getD (3 * i) 0) (us.getD (3 * i + 1) 0) (us.getD (3 * i + 2) 0))), .val (.int (Own.q2 (us.getD (3 * i) 0) (us.getD (3 * i + 1) 0) (us.getD (3 * i + 2) 0))), .val (.int (Own.q3 (us.getD (3 * i) 0) (us.getD (3 * i + 1) 0) (us.getD (3 * i + 2) 0))), .val (.int (Own.q4 (us.getD (3 * i) 0) (us.getD (3 * i + 1) 0) (us.getD (3 * i + 2) 0))), sl15]) P22 (dc s50 52 rfl) (by rcases hs14 with rfl | ⟨_, rfl⟩ <;> rfl) rfl ?_
      refine Own.iload (q := 98) P22 (dc s50 53 rfl) rfl rfl ?_
      refine Own.iload (q := 100) P22 (dc s50 54 rfl) rfl rfl ?_
      refine Own.ior (q := 101) P22 (dc s50 55 rfl)  rfl ?_
      refine Own.iload (q := 103) P22 (dc s50 56 rfl) rfl rfl ?_
      refine Own.ior (q := 104) P22 (dc s50 57 rfl)  rfl ?_
      refine Own.iload (q := 106) P22 (dc s50 58 rfl) rfl rfl ?_
      refine Own.ior (q := 107) P22 (dc s50 59 rfl)  rfl ?_
      refine Own.if_ge (q := 110) (qy := 116) P22 (dc s50 60 rfl) (by decide) rfl (fun _ => ?_) (fun q => absurd q (Own.un3 (Own.rng_getD hp _) (Own.rng_getD hp _) (Own.rng_getD hp _)).2)
      refine Own.iload (q := 118) P22 (dc s50 65 rfl) rfl rfl ?_
      refine Own.bipush (q := 120) (v := (18 : Int32)) P22 (dc s50 66 rfl) rfl rfl ?_
      refine Own.ishl (q := 121) P22 (dc s50 67 rfl)  rfl ?_
      refine Own.iload (q := 123) P22 (dc s50 68 rfl) rfl rfl ?_
      refine Own.bipush (q := 125) (v := (12 : Int32)) P22 (dc s50 69 rfl) rfl rfl ?_
      refine Own.ishl (q := 126) P22 (dc s50 70 rfl)  rfl ?_
      refine Own.ior (q := 127) P22 (dc s50 71 rfl)  rfl ?_
      refine Own.iload (q := 129) P22 (dc s50 72 rfl) rfl rfl ?_
      refine Own.bipush (q := 131) (v := (6 : Int32)) P22 (dc s50 73 rfl) rfl rfl ?_
      refine Own.ishl (q := 132) P22 (dc s50 74 rfl)  rfl ?_
      refine Own.ior (q := 133) P22 (dc s50 75 rfl)  rfl ?_
      refine Own.iload (q := 135) P22 (dc s50 76 rfl) rfl rfl ?_
      refine Own.ior (q := 136) P22 (dc s50 77 rfl)  rfl ?_
      rw [show (((((Own.q1 (us.getD (3 * i) 0) (us.getD (3 * i + 1) 0) (us.getD (3 * i + 2) 0)) <<< ((18 : Int32) &&& 31)) ||| ((Own.q2 (us.getD (3 * i) 0) (us.getD (3 * i + 1) 0) (us.getD (3 * i + 2) 0)) <<< ((12 : Int32) &&& 31))) ||| ((Own.q3 (us.getD (3 * i) 0) (us.getD (3 * i + 1) 0) (us.getD (3 * i + 2) 0)) <<< ((6 : Int32) &&& 31))) ||| (Own.q4 (us.getD (3 * i) 0) (us.getD (3 * i + 1) 0) (us.getD (3 * i + 2) 0))) = (Own.w3 (us.getD (3 * i) 0) (us.getD (3 * i + 1) 0) (us.getD (3 * i + 2) 0)) from (Own.un3 (Own.rng_getD hp _) (Own.rng_getD hp _) (Own.rng_getD hp _)).1]
      refine Own.istore (q := 138) (L2 := #[.val (.ref dd), .val (.ref t1), .val (.int (Int32.ofNat (4 * i + 4))), .val (.int (Int32.ofNat (Own.encL us).length)), .val (.ref t2), .val (.int (0 : Int32)), .val (.int (0 : Int32)), .val (.int (0 : Int32)), .val (.ref ft), .val (.int (Int32.ofNat (Own.encL us).length)), .val (.int (Int32.ofNat (us.take (3 * i)).length)), .val (.int (Own.q1 (us.getD (3 * i) 0) (us.getD (3 * i + 1) 0) (us.getD (3 * i + 2) 0))), .val (.int (Own.q2 (us.getD (3 * i) 0) (us.getD (3 * i + 1) 0) (us.getD (3 * i + 2) 0))), .val (.int (Own.q3 (us.getD (3 * i) 0) (us.getD (3 * i + 1) 0) (us.getD (3 * i + 2) 0))), .val (.int (Own.q4 (us.getD (3 * i) 0) (us.getD (3 * i + 1) 0) (us.getD (3 * i + 2) 0))), .val (.int (Own.w3 (us.getD (3 * i) 0) (us.getD (3 * i + 1) 0) (us.getD (3 * i + 2) 0)))]) P22 (dc s50 78 rfl) (by rcases hs15 with rfl | ⟨_, rfl⟩ <;> rfl) rfl ?_
      refine Own.aload (q := 140) P22 (dc s50 79 rfl) rfl rfl rfl ?_
      refine Own.iload (q := 142) P22 (dc s50 80 rfl) rfl rfl ?_
      refine Own.iinc (q := 145) (v := (1 : Int32)) (L2 := #[.val (.ref dd), .val (.ref t1), .val (.int (Int32.ofNat (4 * i + 4))), .val (.int (Int32.ofNat (Own.encL us).length)), .val (.ref t2), .val (.int (0 : Int32)), .val (.int (0 : Int32)), .val (.int (0 : Int32)), .val (.ref ft), .val (.int (Int32.ofNat (Own.encL us).length)), .val (.int ((Int32.ofNat (us.take (3 * i)).length) + (1 : Int32))), .val (.int (Own.q1 (us.getD (3 * i) 0) (us.getD (3 * i + 1) 0) (us.getD (3 * i + 2) 0))), .val (.int (Own.q2 (us.getD (3 * i) 0) (us.getD (3 * i + 1) 0) (us.getD (3 * i + 2) 0))), .val (.int (Own.q3 (us.getD (3 * i) 0) (us.getD (3 * i + 1) 0) (us.getD (3 * i + 2) 0))), .val (.int (Own.q4 (us.getD (3 * i) 0) (us.getD (3 * i + 1) 0) (us.getD (3 * i + 2) 0))), .val (.int (Own.w3 (us.getD (3 * i) 0) (us.getD (3 * i + 1) 0) (us.getD (3 * i + 2) 0)))]) P22 (dc s50 81 rfl) rfl rfl rfl rfl ?_
      refine Own.iload (q := 147) P22 (dc s50 82 rfl) rfl rfl ?_
      refine Own.bipush (q := 149) (v := (16 : Int32)) P22 (dc s50 83 rfl) rfl rfl ?_
      refine Own.ishr (q := 150) P22 (dc s50 84 rfl)  rfl ?_
      refine Own.i2b (q := 151) P22 (dc s50 85 rfl)  rfl ?_
      rw [show (((Own.w3 (us.getD (3 * i) 0) (us.getD (3 * i + 1) 0) (us.getD (3 * i + 2) 0)) >>> ((16 : Int32) &&& 31))).toInt8.toInt32 = (us.getD (3 * i) 0).toInt8.toInt32 from (Own.w3_b (Own.rng_getD hp _) (Own.rng_getD hp _) (Own.rng_getD hp _)).1]
      rw [show ((Int32.ofNat (us.take (3 * i)).length) + (1 : Int32)) = Int32.ofNat ((us.take (3 * i)) ++ [(us.getD (3 * i) 0)]).length from (Own.len1 _ _).symm]
      refine Own.bapp (q := 152) (X := (us.take (3 * i))) (x := (us.getD (3 * i) 0)) P22 (dc s50 86 rfl) L2 (by simp only [List.length_take]; omega) (by omega) rfl ?_
      intro T23 h23 lc23 hb23 P23 W23 A23
      have N23 := Own.Fr.one N22 hb23 g_t2
      refine Own.aload (q := 154) P23 (dc s50 87 rfl) rfl rfl rfl ?_
      refine Own.iload (q := 156) P23 (dc s50 88 rfl) rfl rfl ?_
      refine Own.iinc (q := 159) (v := (1 : Int32)) (L2 := #[.val (.ref dd), .val (.ref t1), .val (.int (Int32.ofNat (4 * i + 4))), .val (.int (Int32.ofNat (Own.encL us).length)), .val (.ref t2), .val (.int (0 : Int32)), .val (.int (0 : Int32)), .val (.int (0 : Int32)), .val (.ref ft), .val (.int (Int32.ofNat (Own.encL us).length)), .val (.int ((Int32.ofNat ((us.take (3 * i)) ++ [(us.getD (3 * i) 0)]).length) + (1 : Int32))), .val (.int (Own.q1 (us.getD (3 * i) 0) (us.getD (3 * i + 1) 0) (us.getD (3 * i + 2) 0))), .val (.int (Own.q2 (us.getD (3 * i) 0) (us.getD (3 * i + 1) 0) (us.getD (3 * i + 2) 0))), .val (.int (Own.q3 (us.getD (3 * i) 0) (us.getD (3 * i + 1) 0) (us.getD (3 * i + 2) 0))), .val (.int (Own.q4 (us.getD (3 * i) 0) (us.getD (3 * i + 1) 0) (us.getD (3 * i + 2) 0))), .val (.int (Own.w3 (us.getD (3 * i) 0) (us.getD (3 * i + 1) 0) (us.getD (3 * i + 2) 0)))]) P23 (dc s50 89 rfl) rfl rfl rfl rfl ?_
      refine Own.iload (q := 161) P23 (dc s50 90 rfl) rfl rfl ?_
      refine Own.bipush (q := 163) (v := (8 : Int32)) P23 (dc s50 91 rfl) rfl rfl ?_
      refine Own.ishr (q := 164) P23 (dc s50 92 rfl)  rfl ?_
      refine Own.i2b (q := 165) P23 (dc s50 93 rfl)  rfl ?_
      rw [show (((Own.w3 (us.getD (3 * i) 0) (us.getD (3 * i + 1) 0) (us.getD (3 * i + 2) 0)) >>> ((8 : Int32) &&& 31))).toInt8.toInt32 = (us.getD (3 * i + 1) 0).toInt8.toInt32 from (Own.w3_b (Own.rng_getD hp _) (Own.rng_getD hp _) (Own.rng_getD hp _)).2.1]
      rw [show ((Int32.ofNat ((us.take (3 * i)) ++ [(us.getD (3 * i) 0)]).length) + (1 : Int32)) = Int32.ofNat (((us.take (3 * i)) ++ [(us.getD (3 * i) 0)]) ++ [(us.getD (3 * i + 1) 0)]).length from (Own.len1 _ _).symm]
      refine Own.bapp (q := 166) (X := ((us.take (3 * i)) ++ [(us.getD (3 * i) 0)])) (x := (us.getD (3 * i + 1) 0)) P23 (dc s50 94 rfl) A23 (by simp only [List.length_append, List.length_cons, List.length_nil, List.length_take]; omega) (by omega) rfl ?_
      intro T24 h24 lc24 hb24 P24 W24 A24
      have N24 := Own.Fr.one N23 hb24 g_t2
      refine Own.aload (q := 168) P24 (dc s50 95 rfl) rfl rfl rfl ?_
      refine Own.iload (q := 170) P24 (dc s50 96 rfl) rfl rfl ?_
      refine Own.iinc (q := 173) (v := (1 : Int32)) (L2 := #[.val (.ref dd), .val (.ref t1), .val (.int (Int32.ofNat (4 * i + 4))), .val (.int (Int32.ofNat (Own.encL us).length)), .val (.ref t2), .val (.int (0 : Int32)), .val (.int (0 : Int32)), .val (.int (0 : Int32)), .val (.ref ft), .val (.int (Int32.ofNat (Own.encL us).length)), .val (.int ((Int32.ofNat (((us.take (3 * i)) ++ [(us.getD (3 * i) 0)]) ++ [(us.getD (3 * i + 1) 0)]).length) + (1 : Int32))), .val (.int (Own.q1 (us.getD (3 * i) 0) (us.getD (3 * i + 1) 0) (us.getD (3 * i + 2) 0))), .val (.int (Own.q2 (us.getD (3 * i) 0) (us.getD (3 * i + 1) 0) (us.getD (3 * i + 2) 0))), .val (.int (Own.q3 (us.getD (3 * i) 0) (us.getD (3 * i + 1) 0) (us.getD (3 * i + 2) 0))), .val (.int (Own.q4 (us.getD (3 * i) 0) (us.getD (3 * i + 1) 0) (us.getD (3 * i + 2) 0))), .val (.int (Own.w3 (us.getD (3 * i) 0) (us.getD (3 * i + 1) 0) (us.getD (3 * i + 2) 0)))]) P24 (dc s50 97 rfl) rfl rfl rfl rfl ?_
      refine Own.iload (q := 175) P24 (dc s50 98 rfl) rfl rfl ?_
      refine Own.i2b (q := 176) P24 (dc s50 99 rfl)  rfl ?_
      rw [show ((Own.w3 (us.getD (3 * i) 0) (us.getD (3 * i + 1) 0) (us.getD (3 * i + 2) 0))).toInt8.toInt32 = (us.getD (3 * i + 2) 0).toInt8.toInt32 from (Own.w3_b (Own.rng_getD hp _) (Own.rng_getD hp _) (Own.rng_getD hp _)).2.2]
      rw [show ((Int32.ofNat (((us.take (3 * i)) ++ [(us.getD (3 * i) 0)]) ++ [(us.getD (3 * i + 1) 0)]).length) + (1 : Int32)) = Int32.ofNat ((((us.take (3 * i)) ++ [(us.getD (3 * i) 0)]) ++ [(us.getD (3 * i + 1) 0)]) ++ [(us.getD (3 * i + 2) 0)]).length from (Own.len1 _ _).symm]
      refine Own.bapp (q := 177) (X := (((us.take (3 * i)) ++ [(us.getD (3 * i) 0)]) ++ [(us.getD (3 * i + 1) 0)])) (x := (us.getD (3 * i + 2) 0)) P24 (dc s50 100 rfl) A24 (by simp only [List.length_append, List.length_cons, List.length_nil, List.length_take]; omega) (by omega) rfl ?_
      intro T25 h25 lc25 hb25 P25 W25 A25
      have N25 := Own.Fr.one N24 hb25 g_t2
      refine Own.goto (q := 30) P25 (dc s50 101 rfl) (by decide) ?_
      have hX26 : ((((us.take (3 * i)) ++ [(us.getD (3 * i) 0)]) ++ [(us.getD (3 * i + 1) 0)]) ++ [(us.getD (3 * i + 2) 0)]) = us.take (3 * (i + 1)) := Own.take3 (by omega)
      rw [hX26] at A25
      rw [hX26]
      rw [show 4 * i + 4 = 4 * (i + 1) from rfl]
      have qf27 := (Arv.keep L1 (Keep.of_wr W23) (ninS ne1 nin0))
      have qf28 := (Arv.keep qf27 (Keep.of_wr W24) (ninS ne1 nin0))
      have qf29 := (Arv.keep qf28 (Keep.of_wr W25) (ninS ne1 nin0))
      have qf30 := (Arv.keep L3 (Keep.of_wr W23) (ninS ne2 nin0))
      have qf31 := (Arv.keep qf30 (Keep.of_wr W24) (ninS ne2 nin0))
      have qf32 := (Arv.keep qf31 (Keep.of_wr W25) (ninS ne2 nin0))
      exact ih (i + 1) (by omega) (by omega) _ _ _ _ _ _ _ _ P25 N25 (Or.inr ⟨_, rfl⟩) (Or.inr ⟨_, rfl⟩) (Or.inr ⟨_, rfl⟩) (Or.inr ⟨_, rfl⟩) (Or.inr ⟨_, rfl⟩) (Keep.wr (Keep.wr (Keep.wr (Keep.trans (Keep.refl h0 _) KL (allS (Or.inl (by simp)) all0)) W23 (Or.inl (by simp))) W24 (Or.inl (by simp))) W25 (Or.inl (by simp))) qf29 A25 qf32
  exact loop mm 0 (Nat.le_of_eq (Nat.zero_add _).symm) (Nat.zero_le _) _ _ _ _ _ _ _ _ P21 (Fr.nil n0) (Or.inl rfl) (Or.inl rfl) (Or.inl rfl) (Or.inl rfl) (Or.inl rfl) (Keep.refl h0 _) A1 A2 de.2.2.2.2.2.1
theorem pd_32 : parseMethodDescriptor "([BII[BIZZ)I" = some ⟨[(.array .byte), .int, .int, (.array .byte), .int, .boolean, .boolean], some .int⟩ := by decide +kernel
theorem vw_39 {Z : State} {a0 : Array Value} (hw : HW a0 Z) : Own.VW Z a0 "java/util/Base64$Decoder" ⟨"java/util/Base64$Decoder", "decodeBlock", "([BII[BIZZ)I"⟩ ⟨"java/util/Base64$Decoder", "decodeBlock", "([BII[BIZZ)I"⟩ jdk_2450_method_8_code 16 (some .int) 7 := ⟨(Own.declOf (wd hw 349 rfl) (wd hw 352 rfl)), (wd hw 351 rfl), (wd hw 349 rfl), (wd hw 299 rfl), (wd hw 352 rfl), by decide, _, _, pd_32, rfl⟩
theorem s51 : decs jdk_2450_method_9_code [(0, .aload_n 0, 1), (1, .getfield 7, 3), (4, .ifCond .eq 9, 3), (13, .getstatic 99, 3), (16, .astore 5, 2), (18, .iconst 0, 1), (19, .istore 6, 2), (21, .iconst 0, 1), (22, .istore 7, 2), (24, .bipush 18, 2), (26, .istore 8, 2), (28, .iload_n 2, 1), (29, .iload_n 3, 1), (30, .if_icmp .ge 251, 3), (33, .iload 8, 2), (35, .bipush 18, 2), (37, .if_icmp .ne 53, 3), (40, .iload_n 2, 1), (41, .iload_n 3, 1), (42, .iconst 4, 1), (43, .isub, 1), (44, .if_icmp .ge 46, 3), (47, .aload_n 0, 1), (48, .aload_n 1, 1), (49, .iload_n 2, 1), (50, .iload_n 3, 1), (51, .aload 4, 2), (53, .iload 6, 2), (55, .aload_n 0, 1), (56, .getfield 7, 3), (59, .aload_n 0, 1), (60, .getfield 13, 3), (63, .invokevirtual 111, 3), (66, .istore 9, 2), (68, .iload 9, 2), (70, .iconst 2, 1), (71, .iadd, 1), (72, .iconst 3, 1), (73, .idiv, 1), (74, .iconst 4, 1), (75, .imul, 1), (76, .istore 10, 2), (78, .iload_n 2, 1), (79, .iload 10, 2), (81, .iadd, 1), (82, .istore_n 2, 1), (83, .iload 6, 2), (85, .iload 9, 2), (87, .iadd, 1), (88, .istore 6, 2), (90, .iload_n 2, 1), (91, .iload_n 3, 1), (92, .if_icmp .lt 6, 3), (95, .goto 186, 3), (98, .aload_n 1, 1), (99, .iload_n 2, 1), (100, .iinc 2 1, 3), (103, .baload, 1), (104, .sipush 255, 3), (107, .iand, 1), (108, .istore 9, 2), (110, .aload 5, 2), (112, .iload 9, 2), (114, .iaload, 1), (115, .dup, 1), (116, .istore 9, 2), (118, .ifCond .ge 96, 3), (121, .iload 9, 2), (123, .bipush (-2), 2), (125, .if_icmp .ne 43, 3), (128, .iload 8, 2), (130, .bipush 6, 2), (132, .if_icmp .ne 19, 3), (135, .iload_n 2, 1), (136, .iload_n 3, 1), (137, .if_icmp .eq 21, 3), (140, .aload_n 1, 1), (141, .iload_n 2, 1), (142, .iinc 2 1, 3), (145, .baload, 1), (146, .bipush 61, 2), (148, .if_icmp .ne 10, 3), (151, .iload 8, 2), (153, .bipush 18, 2), (155, .if_icmp .ne 126, 3), (214, .iload 7, 2), (216, .iload 9, 2), (218, .iload 8, 2), (220, .ishl, 1), (221, .ior, 1), (222, .istore 7, 2), (224, .iinc 8 (-6), 3), (227, .iload 8, 2), (229, .ifCond .ge 49, 3), (278, .goto (-250), 3), (281, .iload 8, 2), (283, .bipush 6, 2), (285, .if_icmp .ne 20, 3), (288, .aload 4, 2), (290, .iload 6, 2), (292, .iinc 6 1, 3), (295, .iload 7, 2), (297, .bipush 16, 2), (299, .ishr, 1), (300, .i2b, 1), (301, .bastore, 1), (302, .goto 56, 3), (305, .iload 8, 2), (307, .ifCond .ne 34, 3), (310, .aload 4, 2), (312, .iload 6, 2), (314, .iinc 6 1, 3), (317, .iload 7, 2), (319, .bipush 16, 2), (321, .ishr, 1), (322, .i2b, 1), (323, .bastore, 1), (324, .aload 4, 2), (326, .iload 6, 2), (328, .iinc 6 1, 3), (331, .iload 7, 2), (333, .bipush 8, 2), (335, .ishr, 1), (336, .i2b, 1), (337, .bastore, 1), (338, .goto 20, 3), (341, .iload 8, 2), (343, .bipush 12, 2), (345, .if_icmp .ne 13, 3), (358, .iload_n 2, 1), (359, .iload_n 3, 1), (360, .if_icmp .ge 56, 3), (416, .iload 6, 2), (418, .ireturn, 1)] = true := by decide +kernel
theorem pn_65 : plainFor (⟨"java/util/Base64$Decoder", "decode0", "([BII[B)I"⟩ : MethodName) = true := by first | exact plainFor_of_name (by first | (simp [plainName, overriddenIn]; done) | decide +kernel) | decide +kernel
def QrmD0 (Z : State) (dd : Addr) (ft : Addr) (ci : Addr) (cu : Addr) (kf : ClassId) (t1 : Addr) (k1 : ClassId) (t2 : Addr) (k2 : ClassId) (us : List Int32) (mm : Nat) (h0 : Heap) (n0 : Nat) (v : Option Value) (h : Heap) (L : List Loc) : Prop := v = some (.int (Int32.ofNat us.length)) ∧ Fr n0 L ∧ Keep h0 h [t2] ∧ Arv Z h t2 k2 .byte (Int32.ofNat us.length) ((us.map fun c : Int32 => c.toInt8.toInt32).map Value.int) (.int 0)
theorem rmD0 (l : Launch) (Z : State) (a0 : Array Value) (hw : HW a0 Z) (ws : List Jvm.Cond) (dd : Addr) (ft : Addr) (ci : Addr) (cu : Addr) (kf : ClassId) (t1 : Addr) (k1 : ClassId) (t2 : Addr) (k2 : ClassId) (us : List Int32) (mm : Nat) (h0 : Heap) (n0 : Nat) (Z0 : n0 ≤ h0.size) (de : Own.DE Z h0 dd ft ci cu kf) (A1 : Arv Z h0 t1 k1 .byte (Int32.ofNat (Own.encL us).length) (((Own.encL us).map fun c : Int32 => c.toInt8.toInt32).map Value.int) (.int 0)) (A2 : Arv Z h0 t2 k2 .byte (Int32.ofNat us.length) (((([] : List Int32).map fun c : Int32 => c.toInt8.toInt32).map Value.int) ++ List.replicate (us.length - ([] : List Int32).length) (Value.int 0)) (.int 0)) (hp : ∀ c ∈ us, ¬ c < 0 ∧ ¬ (255 : Int32) < c) (hl : 24 ≤ us.length ∧ us.length ≤ 64) (hmm : mm = us.length / 3) (ne1 : t1 ≠ t2) (ne2 : ft ≠ t2) (ne3 : dd ≠ t2) (g_t2 : n0 ≤ t2) :
    Own.MF l Z (⟨"java/util/Base64$Decoder", "decode0", "([BII[B)I"⟩ : MethodName) jdk_2450_method_9_code 11 (some .int) ws (⟨1, 0, 0, 36⟩ : Room) #[(.ref dd), (.ref t1), (.int (0 : Int32)), (.int (Int32.ofNat (Own.encL us).length)), (.ref t2)] h0 (QrmD0 Z dd ft ci cu kf t1 k1 t2 k2 us mm h0 n0) := by
  refine Own.MF.of (own := "java/util/Base64$Decoder") (n := 11) rfl rfl pn_65 (fun p e s m below meth c s₁ hml hlk hret hnm P0 => ?_)
  rw [show entryFrame m #[(.ref dd), (.ref t1), (.int (0 : Int32)), (.int (Int32.ofNat (Own.encL us).length)), (.ref t2)] 11 = mkF m 0 #[.val (.ref dd), .val (.ref t1), .val (.int (0 : Int32)), .val (.int (Int32.ofNat (Own.encL us).length)), .val (.ref t2), .unset, .unset, .unset, .unset, .unset, .unset] [] from by first | (simp [entryFrame, mkF, argsToLocals, Value.category]; done) | rfl]
  have hn2 := Own.encL_len us
  refine Own.aloadN (q := 1) P0 (dc s51 0 rfl) rfl rfl rfl ?_
  refine Own.getfield (q := 4) P0 (dc s51 1 rfl) (wd hw 336 rfl) de.2.2.1 rfl ?_
  intro T21 P21
  refine Own.if_eq (q := 7) (qy := 13) P21 (dc s51 2 rfl) (by decide) rfl (fun _ => ?_) (fun q => absurd rfl q)
  refine Own.getstatic (q := 16) P21 (dc s51 3 rfl) (wd hw 338 rfl) de.2.2.2.2.1 rfl ?_
  intro T22 P22
  refine Own.astore (q := 18) (L2 := #[.val (.ref dd), .val (.ref t1), .val (.int (0 : Int32)), .val (.int (Int32.ofNat (Own.encL us).length)), .val (.ref t2), .val (.ref ft), .unset, .unset, .unset, .unset, .unset]) P22 (dc s51 4 rfl) rfl rfl rfl ?_
  refine Own.iconst (q := 19) (v := (0 : Int32)) P22 (dc s51 5 rfl) rfl rfl ?_
  refine Own.istore (q := 21) (L2 := #[.val (.ref dd), .val (.ref t1), .val (.int (0 : Int32)), .val (.int (Int32.ofNat (Own.encL us).length)), .val (.ref t2), .val (.ref ft), .val (.int (0 : Int32)), .unset, .unset, .unset, .unset]) P22 (dc s51 6 rfl) rfl rfl ?_
  refine Own.iconst (q := 22) (v := (0 : Int32)) P22 (dc s51 7 rfl) rfl rfl ?_
  refine Own.istore (q := 24) (L2 := #[.val (.ref dd), .val (.ref t1), .val (.int (0 : Int32)), .val (.int (Int32.ofNat (Own.encL us).length)), .val (.ref t2), .val (.ref ft), .val (.int (0 : Int32)), .val (.int (0 : Int32)), .unset, .unset, .unset]) P22 (dc s51 8 rfl) rfl rfl ?_
  refine Own.bipush (q := 26) (v := (18 : Int32)) P22 (dc s51 9 rfl) rfl rfl ?_
  refine Own.istore (q := 28) (L2 := #[.val (.ref dd), .val (.ref t1), .val (.int (0 : Int32)), .val (.int (Int32.ofNat (Own.encL us).length)), .val (.ref t2), .val (.ref ft), .val (.int (0 : Int32)), .val (.int (0 : Int32)), .val (.int (18 : Int32)), .unset, .unset]) P22 (dc s51 10 rfl) rfl rfl ?_
  refine Own.iloadN (q := 29) P22 (dc s51 11 rfl) rfl rfl ?_
  refine Own.iloadN (q := 30) P22 (dc s51 12 rfl) rfl rfl ?_
  refine Own.icmp_ge (q := 33) (qy := 281) P22 (dc s51 13 rfl) (by decide) rfl (fun q => absurd (Own.ltN (a := 0) (by omega) (by omega) (by omega)) q) (fun _ => ?_)
  refine Own.iload (q := 35) P22 (dc s51 14 rfl) rfl rfl ?_
  refine Own.bipush (q := 37) (v := (18 : Int32)) P22 (dc s51 15 rfl) rfl rfl ?_
  refine Own.icmp_ne (q := 40) (qy := 90) P22 (dc s51 16 rfl) (by decide) rfl (fun q => absurd rfl q) (fun _ => ?_)
  refine Own.iloadN (q := 41) P22 (dc s51 17 rfl) rfl rfl ?_
  refine Own.iloadN (q := 42) P22 (dc s51 18 rfl) rfl rfl ?_
  refine Own.iconst (q := 43) (v := (4 : Int32)) P22 (dc s51 19 rfl) rfl rfl ?_
  refine Own.isub (q := 44) P22 (dc s51 20 rfl)  rfl ?_
  rw [show ((Int32.ofNat (Own.encL us).length) - (4 : Int32)) = (Int32.ofNat ((Own.encL us).length - 4)) from Own.subE (f := 4) (by omega)]
  refine Own.icmp_ge (q := 47) (qy := 90) P22 (dc s51 21 rfl) (by decide) rfl (fun q => absurd (Own.ltN (a := 0) (by omega) (by omega) (by omega)) q) (fun _ => ?_)
  refine Own.aloadN (q := 48) P22 (dc s51 22 rfl) rfl rfl rfl ?_
  refine Own.aloadN (q := 49) P22 (dc s51 23 rfl) rfl rfl rfl ?_
  refine Own.iloadN (q := 50) P22 (dc s51 24 rfl) rfl rfl ?_
  refine Own.iloadN (q := 51) P22 (dc s51 25 rfl) rfl rfl ?_
  refine Own.aload (q := 53) P22 (dc s51 26 rfl) rfl rfl rfl ?_
  refine Own.iload (q := 55) P22 (dc s51 27 rfl) rfl rfl ?_
  refine Own.aloadN (q := 56) P22 (dc s51 28 rfl) rfl rfl rfl ?_
  refine Own.getfield (q := 59) P22 (dc s51 29 rfl) (wd hw 336 rfl) de.2.2.1 rfl ?_
  intro T23 P23
  refine Own.aloadN (q := 60) P23 (dc s51 30 rfl) rfl rfl rfl ?_
  refine Own.getfield (q := 63) P23 (dc s51 31 rfl) (wd hw 339 rfl) de.2.2.2.1 rfl ?_
  intro T24 P24
  refine Own.cV (q := 66) (W := 0) (rest := []) P24 (dc s51 32 rfl) (wd hw 348 rfl) (vw_39 hw) (Own.nfs P24 (wd hw 351 rfl)) de.2.1 (rmDb l Z a0 hw [] dd ft ci cu kf t1 k1 t2 k2 us mm h0 n0 Z0 de A1 A2 hp hl hmm ne1 ne2 ne3 g_t2) (by decide) (by decide) rfl (hml rfl) rfl rfl (by decide) (by decide) rfl ?_
  rintro v25 T25 h25 L25 ⟨rfl, N25q, K25, A25⟩ P25
  have N25 := Fr.app (Fr.nil n0) N25q
  refine Own.istore (q := 68) (L2 := #[.val (.ref dd), .val (.ref t1), .val (.int (0 : Int32)), .val (.int (Int32.ofNat (Own.encL us).length)), .val (.ref t2), .val (.ref ft), .val (.int (0 : Int32)), .val (.int (0 : Int32)), .val (.int (18 : Int32)), .val (.int (Int32.ofNat (3 * mm))), .unset]) P25 (dc s51 33 rfl) rfl rfl ?_
  refine Own.iload (q := 70) P25 (dc s51 34 rfl) rfl rfl ?_
  refine Own.iconst (q := 71) (v := (2 : Int32)) P25 (dc s51 35 rfl) rfl rfl ?_
  refine Own.iadd (q := 72) P25 (dc s51 36 rfl)  rfl ?_
  rw [show ((Int32.ofNat (3 * mm)) + (2 : Int32)) = (Int32.ofNat (3 * mm + 2)) from (Int32.ofNat_add (3 * mm) 2).symm]
  refine Own.iconst (q := 73) (v := (3 : Int32)) P25 (dc s51 37 rfl) rfl rfl ?_
  refine Own.idiv (q := 74) P25 (dc s51 38 rfl) (by decide) rfl ?_
  rw [show ((Int32.ofNat (3 * mm + 2)) / (3 : Int32)) = (Int32.ofNat mm) from (by rw [show Int32.ofNat mm = Int32.ofNat ((3 * mm + 2) / 3) from by rw [show (3 * mm + 2) / 3 = mm by omega]]; exact Own.divN (d := 3) (by omega) (by decide) (by decide))]
  refine Own.iconst (q := 75) (v := (4 : Int32)) P25 (dc s51 39 rfl) rfl rfl ?_
  refine Own.imul (q := 76) P25 (dc s51 40 rfl)  rfl ?_
  rw [show ((Int32.ofNat mm) * (4 : Int32)) = (Int32.ofNat (4 * mm)) from (by rw [Nat.mul_comm 4 mm]; exact (Int32.ofNat_mul mm 4).symm)]
  refine Own.istore (q := 78) (L2 := #[.val (.ref dd), .val (.ref t1), .val (.int (0 : Int32)), .val (.int (Int32.ofNat (Own.encL us).length)), .val (.ref t2), .val (.ref ft), .val (.int (0 : Int32)), .val (.int (0 : Int32)), .val (.int (18 : Int32)), .val (.int (Int32.ofNat (3 * mm))), .val (.int (Int32.ofNat (4 * mm)))]) P25 (dc s51 41 rfl) rfl rfl ?_
  refine Own.iloadN (q := 79) P25 (dc s51 42 rfl) rfl rfl ?_
  refine Own.iload (q := 81) P25 (dc s51 43 rfl) rfl rfl ?_
  refine Own.iadd (q := 82) P25 (dc s51 44 rfl)  rfl ?_
  rw [show ((0 : Int32) + (Int32.ofNat (4 * mm))) = (Int32.ofNat (4 * mm)) from Int32.zero_add _]
  refine Own.istoreN (q := 83) (L2 := #[.val (.ref dd), .val (.ref t1), .val (.int (Int32.ofNat (4 * mm))), .val (.int (Int32.ofNat (Own.encL us).length)), .val (.ref t2), .val (.ref ft), .val (.int (0 : Int32)), .val (.int (0 : Int32)), .val (.int (18 : Int32)), .val (.int (Int32.ofNat (3 * mm))), .val (.int (Int32.ofNat (4 * mm)))]) P25 (dc s51 45 rfl) rfl rfl ?_
  refine Own.iload (q := 85) P25 (dc s51 46 rfl) rfl rfl ?_
  refine Own.iload (q := 87) P25 (dc s51 47 rfl) rfl rfl ?_
  refine Own.iadd (q := 88) P25 (dc s51 48 rfl)  rfl ?_
  rw [show ((0 : Int32) + (Int32.ofNat (3 * mm))) = (Int32.ofNat (us.take (3 * mm)).length) from (by rw [List.length_take, Nat.min_eq_left (by omega)]; exact Int32.zero_add _)]
  refine Own.istore (q := 90) (L2 := #[.val (.ref dd), .val (.ref t1), .val (.int (Int32.ofNat (4 * mm))), .val (.int (Int32.ofNat (Own.encL us).length)), .val (.ref t2), .val (.ref ft), .val (.int (Int32.ofNat (us.take (3 * mm)).length)), .val (.int (0 : Int32)), .val (.int (18 : Int32)), .val (.int (Int32.ofNat (3 * mm))), .val (.int (Int32.ofNat (4 * mm)))]) P25 (dc s51 49 rfl) rfl rfl ?_
  have hr3 : us.length = 3 * mm ∨ us.length = 3 * mm + 1 ∨ us.length = 3 * mm + 2 := by omega
  rcases hr3 with hr | hr | hr
  · have hX := Own.encT0 hr
    refine Own.iloadN (q := 91) P25 (dc s51 50 rfl) rfl rfl ?_
    refine Own.iloadN (q := 92) P25 (dc s51 51 rfl) rfl rfl ?_
    refine Own.icmp_lt (q := 95) (qy := 98) P25 (dc s51 52 rfl) (by decide) rfl (fun q => absurd q (by rw [Own.ofNat_lt (by omega) (by omega)]; omega)) (fun _ => ?_)
    refine Own.goto (q := 281) P25 (dc s51 53 rfl) (by decide) ?_
    refine Own.iload (q := 283) P25 (dc s51 95 rfl) rfl rfl ?_
    refine Own.bipush (q := 285) (v := (6 : Int32)) P25 (dc s51 96 rfl) rfl rfl ?_
    refine Own.icmp_ne (q := 288) (qy := 305) P25 (dc s51 97 rfl) (by decide) rfl (fun _ => ?_) (fun q => absurd q (by decide))
    refine Own.iload (q := 307) P25 (dc s51 107 rfl) rfl rfl ?_
    refine Own.if_ne (q := 310) (qy := 341) P25 (dc s51 108 rfl) (by decide) rfl (fun _ => ?_) (fun q => absurd q (by decide))
    refine Own.iload (q := 343) P25 (dc s51 126 rfl) rfl rfl ?_
    refine Own.bipush (q := 345) (v := (12 : Int32)) P25 (dc s51 127 rfl) rfl rfl ?_
    refine Own.icmp_ne (q := 348) (qy := 358) P25 (dc s51 128 rfl) (by decide) rfl (fun _ => ?_) (fun q => absurd q (by decide))
    refine Own.iloadN (q := 359) P25 (dc s51 129 rfl) rfl rfl ?_
    refine Own.iloadN (q := 360) P25 (dc s51 130 rfl) rfl rfl ?_
    refine Own.icmp_ge (q := 363) (qy := 416) P25 (dc s51 131 rfl) (by decide) rfl (fun _ => ?_) (fun q => absurd q (by rw [Own.ofNat_lt (by omega) (by omega)]; omega))
    refine Own.iload (q := 418) P25 (dc s51 132 rfl) rfl rfl ?_
    have hE26 : (us.take (3 * mm)) = us := List.take_of_length_le (by omega)
    refine Own.retI P25 (dc s51 133 rfl) hret hlk (by decide) (by decide) ?_
    exact ⟨by rw [hE26], N25, (Keep.trans (Keep.refl h0 _) K25 (allS (Or.inl (by simp)) all0)), by rw [hE26, Nat.sub_self, List.replicate_zero, List.append_nil] at A25; exact A25⟩
  · have hX := Own.encT1 hr
    refine Own.iloadN (q := 91) P25 (dc s51 50 rfl) rfl rfl ?_
    refine Own.iloadN (q := 92) P25 (dc s51 51 rfl) rfl rfl ?_
    refine Own.icmp_lt (q := 95) (qy := 98) P25 (dc s51 52 rfl) (by decide) rfl (fun _ => ?_) (fun q => absurd (Own.ltN (a := (4 * mm)) (by omega) (by omega) (by omega)) q)
    refine Own.aloadN (q := 99) P25 (dc s51 54 rfl) rfl rfl rfl ?_
    refine Own.iloadN (q := 100) P25 (dc s51 55 rfl) rfl rfl ?_
    refine Own.iinc (q := 103) (v := (1 : Int32)) (L2 := #[.val (.ref dd), .val (.ref t1), .val (.int ((Int32.ofNat (4 * mm)) + (1 : Int32))), .val (.int (Int32.ofNat (Own.encL us).length)), .val (.ref t2), .val (.ref ft), .val (.int (Int32.ofNat (us.take (3 * mm)).length)), .val (.int (0 : Int32)), .val (.int (18 : Int32)), .val (.int (Int32.ofNat (3 * mm))), .val (.int (Int32.ofNat (4 * mm)))]) P25 (dc s51 56 rfl) rfl rfl rfl rfl ?_
    rw [show ((Int32.ofNat (4 * mm)) + (1 : Int32)) = Int32.ofNat (4 * mm + 1) from (Int32.ofNat_add (4 * mm) 1).symm]
    have qf27 := (Arv.keep A1 K25 (ninS ne1 nin0))
    refine Own.bget (q := 104) (i := (4 * mm)) P25 (dc s51 57 rfl) qf27 (by omega) (by omega) rfl ?_
    refine Own.sipush (q := 107) (v := (255 : Int32)) P25 (dc s51 58 rfl) rfl rfl ?_
    refine Own.iand (q := 108) P25 (dc s51 59 rfl)  rfl ?_
    rw [show (((Own.encL us).getD (4 * mm) 0).toInt8.toInt32 &&& (255 : Int32)) = ((Own.encL us).getD (4 * mm) 0) from Own.and255 (Own.rng_getD (Own.encL_rng hp) _)]
    refine Own.istore (q := 110) (L2 := #[.val (.ref dd), .val (.ref t1), .val (.int (Int32.ofNat (4 * mm + 1))), .val (.int (Int32.ofNat (Own.encL us).length)), .val (.ref t2), .val (.ref ft), .val (.int (Int32.ofNat (us.take (3 * mm)).length)), .val (.int (0 : Int32)), .val (.int (18 : Int32)), .val (.int ((Own.encL us).getD (4 * mm) 0)), .val (.int (Int32.ofNat (4 * mm)))]) P25 (dc s51 60 rfl) rfl rfl ?_
    refine Own.aload (q := 112) P25 (dc s51 61 rfl) rfl rfl rfl ?_
    refine Own.iload (q := 114) P25 (dc s51 62 rfl) rfl rfl ?_
    have qf28 := (Arv.keep de.2.2.2.2.2.1 K25 (ninS ne2 nin0))
    refine Own.fget (q := 115) P25 (dc s51 63 rfl) qf28 (Own.rng_getD (Own.encL_rng hp) _) rfl ?_
    rw [show Own.d64 ((Own.encL us).getD (4 * mm) 0) = ((us.getD (3 * mm) 0) >>> ((2 : Int32) &&& 31)) from (by rw [show 4 * mm = 4 * mm + 0 from rfl, Own.encL_tail hmm, hX]; exact Own.d_e (Own.b6s (Own.rng_getD hp (3 * mm))))]
    refine Own.dup (q := 116) P25 (dc s51 64 rfl) rfl rfl ?_
    refine Own.istore (q := 118) (L2 := #[.val (.ref dd), .val (.ref t1), .val (.int (Int32.ofNat (4 * mm + 1))), .val (.int (Int32.ofNat (Own.encL us).length)), .val (.ref t2), .val (.ref ft), .val (.int (Int32.ofNat (us.take (3 * mm)).length)), .val (.int (0 : Int32)), .val (.int (18 : Int32)), .val (.int ((us.getD (3 * mm) 0) >>> ((2 : Int32) &&& 31))), .val (.int (Int32.ofNat (4 * mm)))]) P25 (dc s51 65 rfl) rfl rfl ?_
    refine Own.if_ge (q := 121) (qy := 214) P25 (dc s51 66 rfl) (by decide) rfl (fun _ => ?_) (fun q => absurd q (Own.nn_b6 (Own.b6s (Own.rng_getD hp (3 * mm)))))
    refine Own.iload (q := 216) P25 (dc s51 85 rfl) rfl rfl ?_
    refine Own.iload (q := 218) P25 (dc s51 86 rfl) rfl rfl ?_
    refine Own.iload (q := 220) P25 (dc s51 87 rfl) rfl rfl ?_
    refine Own.ishl (q := 221) P25 (dc s51 88 rfl)  rfl ?_
    refine Own.ior (q := 222) P25 (dc s51 89 rfl)  rfl ?_
    refine Own.istore (q := 224) (L2 := #[.val (.ref dd), .val (.ref t1), .val (.int (Int32.ofNat (4 * mm + 1))), .val (.int (Int32.ofNat (Own.encL us).length)), .val (.ref t2), .val (.ref ft), .val (.int (Int32.ofNat (us.take (3 * mm)).length)), .val (.int ((0 : Int32) ||| (((us.getD (3 * mm) 0) >>> ((2 : Int32) &&& 31)) <<< ((18 : Int32) &&& 31)))), .val (.int (18 : Int32)), .val (.int ((us.getD (3 * mm) 0) >>> ((2 : Int32) &&& 31))), .val (.int (Int32.ofNat (4 * mm)))]) P25 (dc s51 90 rfl) rfl rfl ?_
    refine Own.iinc (q := 227) (v := (-6 : Int32)) (L2 := #[.val (.ref dd), .val (.ref t1), .val (.int (Int32.ofNat (4 * mm + 1))), .val (.int (Int32.ofNat (Own.encL us).length)), .val (.ref t2), .val (.ref ft), .val (.int (Int32.ofNat (us.take (3 * mm)).length)), .val (.int ((0 : Int32) ||| (((us.getD (3 * mm) 0) >>> ((2 : Int32) &&& 31)) <<< ((18 : Int32) &&& 31)))), .val (.int ((18 : Int32) + (-6 : Int32))), .val (.int ((us.getD (3 * mm) 0) >>> ((2 : Int32) &&& 31))), .val (.int (Int32.ofNat (4 * mm)))]) P25 (dc s51 91 rfl) rfl rfl rfl rfl ?_
    refine Own.iload (q := 229) P25 (dc s51 92 rfl) rfl rfl ?_
    refine Own.if_ge (q := 232) (qy := 278) P25 (dc s51 93 rfl) (by decide) rfl (fun _ => ?_) (fun q => absurd q (by decide))
    refine Own.goto (q := 28) P25 (dc s51 94 rfl) (by decide) ?_
    refine Own.iloadN (q := 29) P25 (dc s51 11 rfl) rfl rfl ?_
    refine Own.iloadN (q := 30) P25 (dc s51 12 rfl) rfl rfl ?_
    refine Own.icmp_ge (q := 33) (qy := 281) P25 (dc s51 13 rfl) (by decide) rfl (fun q => absurd (Own.ltN (a := (4 * mm + 1)) (by omega) (by omega) (by omega)) q) (fun _ => ?_)
    refine Own.iload (q := 35) P25 (dc s51 14 rfl) rfl rfl ?_
    refine Own.bipush (q := 37) (v := (18 : Int32)) P25 (dc s51 15 rfl) rfl rfl ?_
    refine Own.icmp_ne (q := 40) (qy := 90) P25 (dc s51 16 rfl) (by decide) rfl (fun _ => ?_) (fun q => absurd q (by decide))
    refine Own.iloadN (q := 91) P25 (dc s51 50 rfl) rfl rfl ?_
    refine Own.iloadN (q := 92) P25 (dc s51 51 rfl) rfl rfl ?_
    refine Own.icmp_lt (q := 95) (qy := 98) P25 (dc s51 52 rfl) (by decide) rfl (fun _ => ?_) (fun q => absurd (Own.ltN (a := (4 * mm + 1)) (by omega) (by omega) (by omega)) q)
    refine Own.aloadN (q := 99) P25 (dc s51 54 rfl) rfl rfl rfl ?_
    refine Own.iloadN (q := 100) P25 (dc s51 55 rfl) rfl rfl ?_
    refine Own.iinc (q := 103) (v := (1 : Int32)) (L2 := #[.val (.ref dd), .val (.ref t1), .val (.int ((Int32.ofNat (4 * mm + 1)) + (1 : Int32))), .val (.int (Int32.ofNat (Own.encL us).length)), .val (.ref t2), .val (.ref ft), .val (.int (Int32.ofNat (us.take (3 * mm)).length)), .val (.int ((0 : Int32) ||| (((us.getD (3 * mm) 0) >>> ((2 : Int32) &&& 31)) <<< ((18 : Int32) &&& 31)))), .val (.int ((18 : Int32) + (-6 : Int32))), .val (.int ((us.getD (3 * mm) 0) >>> ((2 : Int32) &&& 31))), .val (.int (Int32.ofNat (4 * mm)))]) P25 (dc s51 56 rfl) rfl rfl rfl rfl ?_
    rw [show ((Int32.ofNat (4 * mm + 1)) + (1 : Int32)) = Int32.ofNat (4 * mm + 2) from (Int32.ofNat_add (4 * mm + 1) 1).symm]
    refine Own.bget (q := 104) (i := (4 * mm + 1)) P25 (dc s51 57 rfl) qf27 (by omega) (by omega) rfl ?_
    refine Own.sipush (q := 107) (v := (255 : Int32)) P25 (dc s51 58 rfl) rfl rfl ?_
    refine Own.iand (q := 108) P25 (dc s51 59 rfl)  rfl ?_
    rw [show (((Own.encL us).getD (4 * mm + 1) 0).toInt8.toInt32 &&& (255 : Int32)) = ((Own.encL us).getD (4 * mm + 1) 0) from Own.and255 (Own.rng_getD (Own.encL_rng hp) _)]
    refine Own.istore (q := 110) (L2 := #[.val (.ref dd), .val (.ref t1), .val (.int (Int32.ofNat (4 * mm + 2))), .val (.int (Int32.ofNat (Own.encL us).length)), .val (.ref t2), .val (.ref ft), .val (.int (Int32.ofNat (us.take (3 * mm)).length)), .val (.int ((0 : Int32) ||| (((us.getD (3 * mm) 0) >>> ((2 : Int32) &&& 31)) <<< ((18 : Int32) &&& 31)))), .val (.int ((18 : Int32) + (-6 : Int32))), .val (.int ((Own.encL us).getD (4 * mm + 1) 0)), .val (.int (Int32.ofNat (4 * mm)))]) P25 (dc s51 60 rfl) rfl rfl ?_
    refine Own.aload (q := 112) P25 (dc s51 61 rfl) rfl rfl rfl ?_
    refine Own.iload (q := 114) P25 (dc s51 62 rfl) rfl rfl ?_
    refine Own.fget (q := 115) P25 (dc s51 63 rfl) qf28 (Own.rng_getD (Own.encL_rng hp) _) rfl ?_
    rw [show Own.d64 ((Own.encL us).getD (4 * mm + 1) 0) = (((us.getD (3 * mm) 0) <<< ((4 : Int32) &&& 31)) &&& 63) from (by rw [show 4 * mm + 1 = 4 * mm + 1 from rfl, Own.encL_tail hmm, hX]; exact Own.d_e (Own.b6m _))]
    refine Own.dup (q := 116) P25 (dc s51 64 rfl) rfl rfl ?_
    refine Own.istore (q := 118) (L2 := #[.val (.ref dd), .val (.ref t1), .val (.int (Int32.ofNat (4 * mm + 2))), .val (.int (Int32.ofNat (Own.encL us).length)), .val (.ref t2), .val (.ref ft), .val (.int (Int32.ofNat (us.take (3 * mm)).length)), .val (.int ((0 : Int32) ||| (((us.getD (3 * mm) 0) >>> ((2 : Int32) &&& 31)) <<< ((18 : Int32) &&& 31)))), .val (.int ((18 : Int32) + (-6 : Int32))), .val (.int (((us.getD (3 * mm) 0) <<< ((4 : Int32) &&& 31)) &&& 63)), .val (.int (Int32.ofNat (4 * mm)))]) P25 (dc s51 65 rfl) rfl rfl ?_
    refine Own.if_ge (q := 121) (qy := 214) P25 (dc s51 66 rfl) (by decide) rfl (fun _ => ?_) (fun q => absurd q (Own.nn_b6 (Own.b6m _)))
    refine Own.iload (q := 216) P25 (dc s51 85 rfl) rfl rfl ?_
    refine Own.iload (q := 218) P25 (dc s51 86 rfl) rfl rfl ?_
    refine Own.iload (q := 220) P25 (dc s51 87 rfl) rfl rfl ?_
    refine Own.ishl (q := 221) P25 (dc s51 88 rfl)  rfl ?_
    refine Own.ior (q := 222) P25 (dc s51 89 rfl)  rfl ?_
    refine Own.istore (q := 224) (L2 := #[.val (.ref dd), .val (.ref t1), .val (.int (Int32.ofNat (4 * mm + 2))), .val (.int (Int32.ofNat (Own.encL us).length)), .val (.ref t2), .val (.ref ft), .val (.int (Int32.ofNat (us.take (3 * mm)).length)), .val (.int (((0 : Int32) ||| (((us.getD (3 * mm) 0) >>> ((2 : Int32) &&& 31)) <<< ((18 : Int32) &&& 31))) ||| ((((us.getD (3 * mm) 0) <<< ((4 : Int32) &&& 31)) &&& 63) <<< (((18 : Int32) + (-6 : Int32)) &&& 31)))), .val (.int ((18 : Int32) + (-6 : Int32))), .val (.int (((us.getD (3 * mm) 0) <<< ((4 : Int32) &&& 31)) &&& 63)), .val (.int (Int32.ofNat (4 * mm)))]) P25 (dc s51 90 rfl) rfl rfl ?_
    refine Own.iinc (q := 227) (v := (-6 : Int32)) (L2 := #[.val (.ref dd), .val (.ref t1), .val (.int (Int32.ofNat (4 * mm + 2))), .val (.int (Int32.ofNat (Own.encL us).length)), .val (.ref t2), .val (.ref ft), .val (.int (Int32.ofNat (us.take (3 * mm)).length)), .val (.int (((0 : Int32) ||| (((us.getD (3 * mm) 0) >>> ((2 : Int32) &&& 31)) <<< ((18 : Int32) &&& 31))) ||| ((((us.getD (3 * mm) 0) <<< ((4 : Int32) &&& 31)) &&& 63) <<< (((18 : Int32) + (-6 : Int32)) &&& 31)))), .val (.int (((18 : Int32) + (-6 : Int32)) + (-6 : Int32))), .val (.int (((us.getD (3 * mm) 0) <<< ((4 : Int32) &&& 31)) &&& 63)), .val (.int (Int32.ofNat (4 * mm)))]) P25 (dc s51 91 rfl) rfl rfl rfl rfl ?_
    refine Own.iload (q := 229) P25 (dc s51 92 rfl) rfl rfl ?_
    refine Own.if_ge (q := 232) (qy := 278) P25 (dc s51 93 rfl) (by decide) rfl (fun _ => ?_) (fun q => absurd q (by decide))
    refine Own.goto (q := 28) P25 (dc s51 94 rfl) (by decide) ?_
    refine Own.iloadN (q := 29) P25 (dc s51 11 rfl) rfl rfl ?_
    refine Own.iloadN (q := 30) P25 (dc s51 12 rfl) rfl rfl ?_
    refine Own.icmp_ge (q := 33) (qy := 281) P25 (dc s51 13 rfl) (by decide) rfl (fun q => absurd (Own.ltN (a := (4 * mm + 2)) (by omega) (by omega) (by omega)) q) (fun _ => ?_)
    refine Own.iload (q := 35) P25 (dc s51 14 rfl) rfl rfl ?_
    refine Own.bipush (q := 37) (v := (18 : Int32)) P25 (dc s51 15 rfl) rfl rfl ?_
    refine Own.icmp_ne (q := 40) (qy := 90) P25 (dc s51 16 rfl) (by decide) rfl (fun _ => ?_) (fun q => absurd q (by decide))
    refine Own.iloadN (q := 91) P25 (dc s51 50 rfl) rfl rfl ?_
    refine Own.iloadN (q := 92) P25 (dc s51 51 rfl) rfl rfl ?_
    refine Own.icmp_lt (q := 95) (qy := 98) P25 (dc s51 52 rfl) (by decide) rfl (fun _ => ?_) (fun q => absurd (Own.ltN (a := (4 * mm + 2)) (by omega) (by omega) (by omega)) q)
    refine Own.aloadN (q := 99) P25 (dc s51 54 rfl) rfl rfl rfl ?_
    refine Own.iloadN (q := 100) P25 (dc s51 55 rfl) rfl rfl ?_
    refine Own.iinc (q := 103) (v := (1 : Int32)) (L2 := #[.val (.ref dd), .val (.ref t1), .val (.int ((Int32.ofNat (4 * mm + 2)) + (1 : Int32))), .val (.int (Int32.ofNat (Own.encL us).length)), .val (.ref t2), .val (.ref ft), .val (.int (Int32.ofNat (us.take (3 * mm)).length)), .val (.int (((0 : Int32) ||| (((us.getD (3 * mm) 0) >>> ((2 : Int32) &&& 31)) <<< ((18 : Int32) &&& 31))) ||| ((((us.getD (3 * mm) 0) <<< ((4 : Int32) &&& 31)) &&& 63) <<< (((18 : Int32) + (-6 : Int32)) &&& 31)))), .val (.int (((18 : Int32) + (-6 : Int32)) + (-6 : Int32))), .val (.int (((us.getD (3 * mm) 0) <<< ((4 : Int32) &&& 31)) &&& 63)), .val (.int (Int32.ofNat (4 * mm)))]) P25 (dc s51 56 rfl) rfl rfl rfl rfl ?_
    rw [show ((Int32.ofNat (4 * mm + 2)) + (1 : Int32)) = Int32.ofNat (4 * mm + 3) from (Int32.ofNat_add (4 * mm + 2) 1).symm]
    refine Own.bget (q := 104) (i := (4 * mm + 2)) P25 (dc s51 57 rfl) qf27 (by omega) (by omega) rfl ?_
    refine Own.sipush (q := 107) (v := (255 : Int32)) P25 (dc s51 58 rfl) rfl rfl ?_
    refine Own.iand (q := 108) P25 (dc s51 59 rfl)  rfl ?_
    rw [show (((Own.encL us).getD (4 * mm + 2) 0).toInt8.toInt32 &&& (255 : Int32)) = ((Own.encL us).getD (4 * mm + 2) 0) from Own.and255 (Own.rng_getD (Own.encL_rng hp) _)]
    refine Own.istore (q := 110) (L2 := #[.val (.ref dd), .val (.ref t1), .val (.int (Int32.ofNat (4 * mm + 3))), .val (.int (Int32.ofNat (Own.encL us).length)), .val (.ref t2), .val (.ref ft), .val (.int (Int32.ofNat (us.take (3 * mm)).length)), .val (.int (((0 : Int32) ||| (((us.getD (3 * mm) 0) >>> ((2 : Int32) &&& 31)) <<< ((18 : Int32) &&& 31))) ||| ((((us.getD (3 * mm) 0) <<< ((4 : Int32) &&& 31)) &&& 63) <<< (((18 : Int32) + (-6 : Int32)) &&& 31)))), .val (.int (((18 : Int32) + (-6 : Int32)) + (-6 : Int32))), .val (.int ((Own.encL us).getD (4 * mm + 2) 0)), .val (.int (Int32.ofNat (4 * mm)))]) P25 (dc s51 60 rfl) rfl rfl ?_
    refine Own.aload (q := 112) P25 (dc s51 61 rfl) rfl rfl rfl ?_
    refine Own.iload (q := 114) P25 (dc s51 62 rfl) rfl rfl ?_
    refine Own.fget (q := 115) P25 (dc s51 63 rfl) qf28 (Own.rng_getD (Own.encL_rng hp) _) rfl ?_
    rw [show Own.d64 ((Own.encL us).getD (4 * mm + 2) 0) = (-2 : Int32) from (by rw [show 4 * mm + 2 = 4 * mm + 2 from rfl, Own.encL_tail hmm, hX]; exact Own.d_pad)]
    refine Own.dup (q := 116) P25 (dc s51 64 rfl) rfl rfl ?_
    refine Own.istore (q := 118) (L2 := #[.val (.ref dd), .val (.ref t1), .val (.int (Int32.ofNat (4 * mm + 3))), .val (.int (Int32.ofNat (Own.encL us).length)), .val (.ref t2), .val (.ref ft), .val (.int (Int32.ofNat (us.take (3 * mm)).length)), .val (.int (((0 : Int32) ||| (((us.getD (3 * mm) 0) >>> ((2 : Int32) &&& 31)) <<< ((18 : Int32) &&& 31))) ||| ((((us.getD (3 * mm) 0) <<< ((4 : Int32) &&& 31)) &&& 63) <<< (((18 : Int32) + (-6 : Int32)) &&& 31)))), .val (.int (((18 : Int32) + (-6 : Int32)) + (-6 : Int32))), .val (.int (-2 : Int32)), .val (.int (Int32.ofNat (4 * mm)))]) P25 (dc s51 65 rfl) rfl rfl ?_
    refine Own.if_ge (q := 121) (qy := 214) P25 (dc s51 66 rfl) (by decide) rfl (fun q => absurd (by decide) q) (fun _ => ?_)
    refine Own.iload (q := 123) P25 (dc s51 67 rfl) rfl rfl ?_
    refine Own.bipush (q := 125) (v := (-2 : Int32)) P25 (dc s51 68 rfl) rfl rfl ?_
    refine Own.icmp_ne (q := 128) (qy := 168) P25 (dc s51 69 rfl) (by decide) rfl (fun q => absurd rfl q) (fun _ => ?_)
    refine Own.iload (q := 130) P25 (dc s51 70 rfl) rfl rfl ?_
    refine Own.bipush (q := 132) (v := (6 : Int32)) P25 (dc s51 71 rfl) rfl rfl ?_
    refine Own.icmp_ne (q := 135) (qy := 151) P25 (dc s51 72 rfl) (by decide) rfl (fun q => absurd rfl q) (fun _ => ?_)
    refine Own.iloadN (q := 136) P25 (dc s51 73 rfl) rfl rfl ?_
    refine Own.iloadN (q := 137) P25 (dc s51 74 rfl) rfl rfl ?_
    refine Own.icmp_eq (q := 140) (qy := 158) P25 (dc s51 75 rfl) (by decide) rfl (fun q => absurd (Own.ofNat_inj (by omega) (by omega) q) (by omega)) (fun _ => ?_)
    refine Own.aloadN (q := 141) P25 (dc s51 76 rfl) rfl rfl rfl ?_
    refine Own.iloadN (q := 142) P25 (dc s51 77 rfl) rfl rfl ?_
    refine Own.iinc (q := 145) (v := (1 : Int32)) (L2 := #[.val (.ref dd), .val (.ref t1), .val (.int ((Int32.ofNat (4 * mm + 3)) + (1 : Int32))), .val (.int (Int32.ofNat (Own.encL us).length)), .val (.ref t2), .val (.ref ft), .val (.int (Int32.ofNat (us.take (3 * mm)).length)), .val (.int (((0 : Int32) ||| (((us.getD (3 * mm) 0) >>> ((2 : Int32) &&& 31)) <<< ((18 : Int32) &&& 31))) ||| ((((us.getD (3 * mm) 0) <<< ((4 : Int32) &&& 31)) &&& 63) <<< (((18 : Int32) + (-6 : Int32)) &&& 31)))), .val (.int (((18 : Int32) + (-6 : Int32)) + (-6 : Int32))), .val (.int (-2 : Int32)), .val (.int (Int32.ofNat (4 * mm)))]) P25 (dc s51 78 rfl) rfl rfl rfl rfl ?_
    rw [show ((Int32.ofNat (4 * mm + 3)) + (1 : Int32)) = Int32.ofNat (4 * mm + 4) from (Int32.ofNat_add (4 * mm + 3) 1).symm]
    refine Own.bget (q := 146) (i := (4 * mm + 3)) P25 (dc s51 79 rfl) qf27 (by omega) (by omega) rfl ?_
    rw [show (Own.encL us).getD (4 * mm + 3) 0 = (61 : Int32) from (by rw [Own.encL_tail hmm, hX]; rfl)]
    refine Own.bipush (q := 148) (v := (61 : Int32)) P25 (dc s51 80 rfl) rfl rfl ?_
    refine Own.icmp_ne (q := 151) (qy := 158) P25 (dc s51 81 rfl) (by decide) rfl (fun q => absurd rfl q) (fun _ => ?_)
    refine Own.iload (q := 153) P25 (dc s51 82 rfl) rfl rfl ?_
    refine Own.bipush (q := 155) (v := (18 : Int32)) P25 (dc s51 83 rfl) rfl rfl ?_
    refine Own.icmp_ne (q := 158) (qy := 281) P25 (dc s51 84 rfl) (by decide) rfl (fun _ => ?_) (fun q => absurd q (by decide))
    refine Own.iload (q := 283) P25 (dc s51 95 rfl) rfl rfl ?_
    refine Own.bipush (q := 285) (v := (6 : Int32)) P25 (dc s51 96 rfl) rfl rfl ?_
    refine Own.icmp_ne (q := 288) (qy := 305) P25 (dc s51 97 rfl) (by decide) rfl (fun q => absurd rfl q) (fun _ => ?_)
    refine Own.aload (q := 290) P25 (dc s51 98 rfl) rfl rfl rfl ?_
    refine Own.iload (q := 292) P25 (dc s51 99 rfl) rfl rfl ?_
    refine Own.iinc (q := 295) (v := (1 : Int32)) (L2 := #[.val (.ref dd), .val (.ref t1), .val (.int (Int32.ofNat (4 * mm + 4))), .val (.int (Int32.ofNat (Own.encL us).length)), .val (.ref t2), .val (.ref ft), .val (.int ((Int32.ofNat (us.take (3 * mm)).length) + (1 : Int32))), .val (.int (((0 : Int32) ||| (((us.getD (3 * mm) 0) >>> ((2 : Int32) &&& 31)) <<< ((18 : Int32) &&& 31))) ||| ((((us.getD (3 * mm) 0) <<< ((4 : Int32) &&& 31)) &&& 63) <<< (((18 : Int32) + (-6 : Int32)) &&& 31)))), .val (.int (((18 : Int32) + (-6 : Int32)) + (-6 : Int32))), .val (.int (-2 : Int32)), .val (.int (Int32.ofNat (4 * mm)))]) P25 (dc s51 100 rfl) rfl rfl rfl rfl ?_
    refine Own.iload (q := 297) P25 (dc s51 101 rfl) rfl rfl ?_
    refine Own.bipush (q := 299) (v := (16 : Int32)) P25 (dc s51 102 rfl) rfl rfl ?_
    refine Own.ishr (q := 300) P25 (dc s51 103 rfl)  rfl ?_
    refine Own.i2b (q := 301) P25 (dc s51 104 rfl)  rfl ?_
    rw [show (((((0 : Int32) ||| (((us.getD (3 * mm) 0) >>> ((2 : Int32) &&& 31)) <<< ((18 : Int32) &&& 31))) ||| ((((us.getD (3 * mm) 0) <<< ((4 : Int32) &&& 31)) &&& 63) <<< (((18 : Int32) + (-6 : Int32)) &&& 31))) >>> ((16 : Int32) &&& 31))).toInt8.toInt32 = (us.getD (3 * mm) 0).toInt8.toInt32 from Own.un1 (Own.rng_getD hp (3 * mm))]
    rw [show ((Int32.ofNat (us.take (3 * mm)).length) + (1 : Int32)) = Int32.ofNat ((us.take (3 * mm)) ++ [(us.getD (3 * mm) 0)]).length from (Own.len1 _ _).symm]
    refine Own.bapp (q := 302) (X := (us.take (3 * mm))) (x := (us.getD (3 * mm) 0)) P25 (dc s51 105 rfl) A25 (by simp only [List.length_append, List.length_cons, List.length_nil, List.length_take]; omega) (by omega) rfl ?_
    intro T29 h29 lc29 hb29 P29 W29 A29
    have N29 := Own.Fr.one N25 hb29 g_t2
    refine Own.goto (q := 358) P29 (dc s51 106 rfl) (by decide) ?_
    refine Own.iloadN (q := 359) P29 (dc s51 129 rfl) rfl rfl ?_
    refine Own.iloadN (q := 360) P29 (dc s51 130 rfl) rfl rfl ?_
    refine Own.icmp_ge (q := 363) (qy := 416) P29 (dc s51 131 rfl) (by decide) rfl (fun _ => ?_) (fun q => absurd q (by rw [Own.ofNat_lt (by omega) (by omega)]; omega))
    refine Own.iload (q := 418) P29 (dc s51 132 rfl) rfl rfl ?_
    have hE30 : ((us.take (3 * mm)) ++ [(us.getD (3 * mm) 0)]) = us := (Own.take_snoc (by omega)).trans (List.take_of_length_le (by omega))
    refine Own.retI P29 (dc s51 133 rfl) hret hlk (by decide) (by decide) ?_
    exact ⟨by rw [hE30], N29, (Keep.wr (Keep.trans (Keep.refl h0 _) K25 (allS (Or.inl (by simp)) all0)) W29 (Or.inl (by simp))), by rw [hE30, Nat.sub_self, List.replicate_zero, List.append_nil] at A29; exact A29⟩
  · have hX := Own.encT2 hr
    refine Own.iloadN (q := 91) P25 (dc s51 50 rfl) rfl rfl ?_
    refine Own.iloadN (q := 92) P25 (dc s51 51 rfl) rfl rfl ?_
    refine Own.icmp_lt (q := 95) (qy := 98) P25 (dc s51 52 rfl) (by decide) rfl (fun _ => ?_) (fun q => absurd (Own.ltN (a := (4 * mm)) (by omega) (by omega) (by omega)) q)
    refine Own.aloadN (q := 99) P25 (dc s51 54 rfl) rfl rfl rfl ?_
    refine Own.iloadN (q := 100) P25 (dc s51 55 rfl) rfl rfl ?_
    refine Own.iinc (q := 103) (v := (1 : Int32)) (L2 := #[.val (.ref dd), .val (.ref t1), .val (.int ((Int32.ofNat (4 * mm)) + (1 : Int32))), .val (.int (Int32.ofNat (Own.encL us).length)), .val (.ref t2), .val (.ref ft), .val (.int (Int32.ofNat (us.take (3 * mm)).length)), .val (.int (0 : Int32)), .val (.int (18 : Int32)), .val (.int (Int32.ofNat (3 * mm))), .val (.int (Int32.ofNat (4 * mm)))]) P25 (dc s51 56 rfl) rfl rfl rfl rfl ?_
    rw [show ((Int32.ofNat (4 * mm)) + (1 : Int32)) = Int32.ofNat (4 * mm + 1) from (Int32.ofNat_add (4 * mm) 1).symm]
    have qf31 := (Arv.keep A1 K25 (ninS ne1 nin0))
    refine Own.bget (q := 104) (i := (4 * mm)) P25 (dc s51 57 rfl) qf31 (by omega) (by omega) rfl ?_
    refine Own.sipush (q := 107) (v := (255 : Int32)) P25 (dc s51 58 rfl) rfl rfl ?_
    refine Own.iand (q := 108) P25 (dc s51 59 rfl)  rfl ?_
    rw [show (((Own.encL us).getD (4 * mm) 0).toInt8.toInt32 &&& (255 : Int32)) = ((Own.encL us).getD (4 * mm) 0) from Own.and255 (Own.rng_getD (Own.encL_rng hp) _)]
    refine Own.istore (q := 110) (L2 := #[.val (.ref dd), .val (.ref t1), .val (.int (Int32.ofNat (4 * mm + 1))), .val (.int (Int32.ofNat (Own.encL us).length)), .val (.ref t2), .val (.ref ft), .val (.int (Int32.ofNat (us.take (3 * mm)).length)), .val (.int (0 : Int32)), .val (.int (18 : Int32)), .val (.int ((Own.encL us).getD (4 * mm) 0)), .val (.int (Int32.ofNat (4 * mm)))]) P25 (dc s51 60 rfl) rfl rfl ?_
    refine Own.aload (q := 112) P25 (dc s51 61 rfl) rfl rfl rfl ?_
    refine Own.iload (q := 114) P25 (dc s51 62 rfl) rfl rfl ?_
    have qf32 := (Arv.keep de.2.2.2.2.2.1 K25 (ninS ne2 nin0))
    refine Own.fget (q := 115) P25 (dc s51 63 rfl) qf32 (Own.rng_getD (Own.encL_rng hp) _) rfl ?_
    rw [show Own.d64 ((Own.encL us).getD (4 * mm) 0) = ((us.getD (3 * mm) 0) >>> ((2 : Int32) &&& 31)) from (by rw [show 4 * mm = 4 * mm + 0 from rfl, Own.encL_tail hmm, hX]; exact Own.d_e (Own.b6s (Own.rng_getD hp (3 * mm))))]
    refine Own.dup (q := 116) P25 (dc s51 64 rfl) rfl rfl ?_
    refine Own.istore (q := 118) (L2 := #[.val (.ref dd), .val (.ref t1), .val (.int (Int32.ofNat (4 * mm + 1))), .val (.int (Int32.ofNat (Own.encL us).length)), .val (.ref t2), .val (.ref ft), .val (.int (Int32.ofNat (us.take (3 * mm)).length)), .val (.int (0 : Int32)), .val (.int (18 : Int32)), .val (.int ((us.getD (3 * mm) 0) >>> ((2 : Int32) &&& 31))), .val (.int (Int32.ofNat (4 * mm)))]) P25 (dc s51 65 rfl) rfl rfl ?_
    refine Own.if_ge (q := 121) (qy := 214) P25 (dc s51 66 rfl) (by decide) rfl (fun _ => ?_) (fun q => absurd q (Own.nn_b6 (Own.b6s (Own.rng_getD hp (3 * mm)))))
    refine Own.iload (q := 216) P25 (dc s51 85 rfl) rfl rfl ?_
    refine Own.iload (q := 218) P25 (dc s51 86 rfl) rfl rfl ?_
    refine Own.iload (q := 220) P25 (dc s51 87 rfl) rfl rfl ?_
    refine Own.ishl (q := 221) P25 (dc s51 88 rfl)  rfl ?_
    refine Own.ior (q := 222) P25 (dc s51 89 rfl)  rfl ?_
    refine Own.istore (q := 224) (L2 := #[.val (.ref dd), .val (.ref t1), .val (.int (Int32.ofNat (4 * mm + 1))), .val (.int (Int32.ofNat (Own.encL us).length)), .val (.ref t2), .val (.ref ft), .val (.int (Int32.ofNat (us.take (3 * mm)).length)), .val (.int ((0 : Int32) ||| (((us.getD (3 * mm) 0) >>> ((2 : Int32) &&& 31)) <<< ((18 : Int32) &&& 31)))), .val (.int (18 : Int32)), .val (.int ((us.getD (3 * mm) 0) >>> ((2 : Int32) &&& 31))), .val (.int (Int32.ofNat (4 * mm)))]) P25 (dc s51 90 rfl) rfl rfl ?_
    refine Own.iinc (q := 227) (v := (-6 : Int32)) (L2 := #[.val (.ref dd), .val (.ref t1), .val (.int (Int32.ofNat (4 * mm + 1))), .val (.int (Int32.ofNat (Own.encL us).length)), .val (.ref t2), .val (.ref ft), .val (.int (Int32.ofNat (us.take (3 * mm)).length)), .val (.int ((0 : Int32) ||| (((us.getD (3 * mm) 0) >>> ((2 : Int32) &&& 31)) <<< ((18 : Int32) &&& 31)))), .val (.int ((18 : Int32) + (-6 : Int32))), .val (.int ((us.getD (3 * mm) 0) >>> ((2 : Int32) &&& 31))), .val (.int (Int32.ofNat (4 * mm)))]) P25 (dc s51 91 rfl) rfl rfl rfl rfl ?_
    refine Own.iload (q := 229) P25 (dc s51 92 rfl) rfl rfl ?_
    refine Own.if_ge (q := 232) (qy := 278) P25 (dc s51 93 rfl) (by decide) rfl (fun _ => ?_) (fun q => absurd q (by decide))
    refine Own.goto (q := 28) P25 (dc s51 94 rfl) (by decide) ?_
    refine Own.iloadN (q := 29) P25 (dc s51 11 rfl) rfl rfl ?_
    refine Own.iloadN (q := 30) P25 (dc s51 12 rfl) rfl rfl ?_
    refine Own.icmp_ge (q := 33) (qy := 281) P25 (dc s51 13 rfl) (by decide) rfl (fun q => absurd (Own.ltN (a := (4 * mm + 1)) (by omega) (by omega) (by omega)) q) (fun _ => ?_)
    refine Own.iload (q := 35) P25 (dc s51 14 rfl) rfl rfl ?_
    refine Own.bipush (q := 37) (v := (18 : Int32)) P25 (dc s51 15 rfl) rfl rfl ?_
    refine Own.icmp_ne (q := 40) (qy := 90) P25 (dc s51 16 rfl) (by decide) rfl (fun _ => ?_) (fun q => absurd q (by decide))
    refine Own.iloadN (q := 91) P25 (dc s51 50 rfl) rfl rfl ?_
    refine Own.iloadN (q := 92) P25 (dc s51 51 rfl) rfl rfl ?_
    refine Own.icmp_lt (q := 95) (qy := 98) P25 (dc s51 52 rfl) (by decide) rfl (fun _ => ?_) (fun q => absurd (Own.ltN (a := (4 * mm + 1)) (by omega) (by omega) (by omega)) q)
    refine Own.aloadN (q := 99) P25 (dc s51 54 rfl) rfl rfl rfl ?_
    refine Own.iloadN (q := 100) P25 (dc s51 55 rfl) rfl rfl ?_
    refine Own.iinc (q := 103) (v := (1 : Int32)) (L2 := #[.val (.ref dd), .val (.ref t1), .val (.int ((Int32.ofNat (4 * mm + 1)) + (1 : Int32))), .val (.int (Int32.ofNat (Own.encL us).length)), .val (.ref t2), .val (.ref ft), .val (.int (Int32.ofNat (us.take (3 * mm)).length)), .val (.int ((0 : Int32) ||| (((us.getD (3 * mm) 0) >>> ((2 : Int32) &&& 31)) <<< ((18 : Int32) &&& 31)))), .val (.int ((18 : Int32) + (-6 : Int32))), .val (.int ((us.getD (3 * mm) 0) >>> ((2 : Int32) &&& 31))), .val (.int (Int32.ofNat (4 * mm)))]) P25 (dc s51 56 rfl) rfl rfl rfl rfl ?_
    rw [show ((Int32.ofNat (4 * mm + 1)) + (1 : Int32)) = Int32.ofNat (4 * mm + 2) from (Int32.ofNat_add (4 * mm + 1) 1).symm]
    refine Own.bget (q := 104) (i := (4 * mm + 1)) P25 (dc s51 57 rfl) qf31 (by omega) (by omega) rfl ?_
    refine Own.sipush (q := 107) (v := (255 : Int32)) P25 (dc s51 58 rfl) rfl rfl ?_
    refine Own.iand (q := 108) P25 (dc s51 59 rfl)  rfl ?_
    rw [show (((Own.encL us).getD (4 * mm + 1) 0).toInt8.toInt32 &&& (255 : Int32)) = ((Own.encL us).getD (4 * mm + 1) 0) from Own.and255 (Own.rng_getD (Own.encL_rng hp) _)]
    refine Own.istore (q := 110) (L2 := #[.val (.ref dd), .val (.ref t1), .val (.int (Int32.ofNat (4 * mm + 2))), .val (.int (Int32.ofNat (Own.encL us).length)), .val (.ref t2), .val (.ref ft), .val (.int (Int32.ofNat (us.take (3 * mm)).length)), .val (.int ((0 : Int32) ||| (((us.getD (3 * mm) 0) >>> ((2 : Int32) &&& 31)) <<< ((18 : Int32) &&& 31)))), .val (.int ((18 : Int32) + (-6 : Int32))), .val (.int ((Own.encL us).getD (4 * mm + 1) 0)), .val (.int (Int32.ofNat (4 * mm)))]) P25 (dc s51 60 rfl) rfl rfl ?_
    refine Own.aload (q := 112) P25 (dc s51 61 rfl) rfl rfl rfl ?_
    refine Own.iload (q := 114) P25 (dc s51 62 rfl) rfl rfl ?_
    refine Own.fget (q := 115) P25 (dc s51 63 rfl) qf32 (Own.rng_getD (Own.encL_rng hp) _) rfl ?_
    rw [show Own.d64 ((Own.encL us).getD (4 * mm + 1) 0) = ((((us.getD (3 * mm) 0) <<< ((4 : Int32) &&& 31)) &&& 63) ||| ((us.getD (3 * mm + 1) 0) >>> ((4 : Int32) &&& 31))) from (by rw [show 4 * mm + 1 = 4 * mm + 1 from rfl, Own.encL_tail hmm, hX]; exact Own.d_e (Own.b6t (Own.rng_getD hp (3 * mm)) (Own.rng_getD hp (3 * mm + 1))))]
    refine Own.dup (q := 116) P25 (dc s51 64 rfl) rfl rfl ?_
    refine Own.istore (q := 118) (L2 := #[.val (.ref dd), .val (.ref t1), .val (.int (Int32.ofNat (4 * mm + 2))), .val (.int (Int32.ofNat (Own.encL us).length)), .val (.ref t2), .val (.ref ft), .val (.int (Int32.ofNat (us.take (3 * mm)).length)), .val (.int ((0 : Int32) ||| (((us.getD (3 * mm) 0) >>> ((2 : Int32) &&& 31)) <<< ((18 : Int32) &&& 31)))), .val (.int ((18 : Int32) + (-6 : Int32))), .val (.int ((((us.getD (3 * mm) 0) <<< ((4 : Int32) &&& 31)) &&& 63) ||| ((us.getD (3 * mm + 1) 0) >>> ((4 : Int32) &&& 31)))), .val (.int (Int32.ofNat (4 * mm)))]) P25 (dc s51 65 rfl) rfl rfl ?_
    refine Own.if_ge (q := 121) (qy := 214) P25 (dc s51 66 rfl) (by decide) rfl (fun _ => ?_) (fun q => absurd q (Own.nn_b6 (Own.b6t (Own.rng_getD hp (3 * mm)) (Own.rng_getD hp (3 * mm + 1)))))
    refine Own.iload (q := 216) P25 (dc s51 85 rfl) rfl rfl ?_
    refine Own.iload (q := 218) P25 (dc s51 86 rfl) rfl rfl ?_
    refine Own.iload (q := 220) P25 (dc s51 87 rfl) rfl rfl ?_
    refine Own.ishl (q := 221) P25 (dc s51 88 rfl)  rfl ?_
    refine Own.ior (q := 222) P25 (dc s51 89 rfl)  rfl ?_
    refine Own.istore (q := 224) (L2 := #[.val (.ref dd), .val (.ref t1), .val (.int (Int32.ofNat (4 * mm + 2))), .val (.int (Int32.ofNat (Own.encL us).length)), .val (.ref t2), .val (.ref ft), .val (.int (Int32.ofNat (us.take (3 * mm)).length)), .val (.int (((0 : Int32) ||| (((us.getD (3 * mm) 0) >>> ((2 : Int32) &&& 31)) <<< ((18 : Int32) &&& 31))) ||| (((((us.getD (3 * mm) 0) <<< ((4 : Int32) &&& 31)) &&& 63) ||| ((us.getD (3 * mm + 1) 0) >>> ((4 : Int32) &&& 31))) <<< (((18 : Int32) + (-6 : Int32)) &&& 31)))), .val (.int ((18 : Int32) + (-6 : Int32))), .val (.int ((((us.getD (3 * mm) 0) <<< ((4 : Int32) &&& 31)) &&& 63) ||| ((us.getD (3 * mm + 1) 0) >>> ((4 : Int32) &&& 31)))), .val (.int (Int32.ofNat (4 * mm)))]) P25 (dc s51 90 rfl) rfl rfl ?_
    refine Own.iinc (q := 227) (v := (-6 : Int32)) (L2 := #[.val (.ref dd), .val (.ref t1), .val (.int (Int32.ofNat (4 * mm + 2))), .val (.int (Int32.ofNat (Own.encL us).length)), .val (.ref t2), .val (.ref ft), .val (.int (Int32.ofNat (us.take (3 * mm)).length)), .val (.int (((0 : Int32) ||| (((us.getD (3 * mm) 0) >>> ((2 : Int32) &&& 31)) <<< ((18 : Int32) &&& 31))) ||| (((((us.getD (3 * mm) 0) <<< ((4 : Int32) &&& 31)) &&& 63) ||| ((us.getD (3 * mm + 1) 0) >>> ((4 : Int32) &&& 31))) <<< (((18 : Int32) + (-6 : Int32)) &&& 31)))), .val (.int (((18 : Int32) + (-6 : Int32)) + (-6 : Int32))), .val (.int ((((us.getD (3 * mm) 0) <<< ((4 : Int32) &&& 31)) &&& 63) ||| ((us.getD (3 * mm + 1) 0) >>> ((4 : Int32) &&& 31)))), .val (.int (Int32.ofNat (4 * mm)))]) P25 (dc s51 91 rfl) rfl rfl rfl rfl ?_
    refine Own.iload (q := 229) P25 (dc s51 92 rfl) rfl rfl ?_
    refine Own.if_ge (q := 232) (qy := 278) P25 (dc s51 93 rfl) (by decide) rfl (fun _ => ?_) (fun q => absurd q (by decide))
    refine Own.goto (q := 28) P25 (dc s51 94 rfl) (by decide) ?_
    refine Own.iloadN (q := 29) P25 (dc s51 11 rfl) rfl rfl ?_
    refine Own.iloadN (q := 30) P25 (dc s51 12 rfl) rfl rfl ?_
    refine Own.icmp_ge (q := 33) (qy := 281) P25 (dc s51 13 rfl) (by decide) rfl (fun q => absurd (Own.ltN (a := (4 * mm + 2)) (by omega) (by omega) (by omega)) q) (fun _ => ?_)
    refine Own.iload (q := 35) P25 (dc s51 14 rfl) rfl rfl ?_
    refine Own.bipush (q := 37) (v := (18 : Int32)) P25 (dc s51 15 rfl) rfl rfl ?_
    refine Own.icmp_ne (q := 40) (qy := 90) P25 (dc s51 16 rfl) (by decide) rfl (fun _ => ?_) (fun q => absurd q (by decide))
    refine Own.iloadN (q := 91) P25 (dc s51 50 rfl) rfl rfl ?_
    refine Own.iloadN (q := 92) P25 (dc s51 51 rfl) rfl rfl ?_
    refine Own.icmp_lt (q := 95) (qy := 98) P25 (dc s51 52 rfl) (by decide) rfl (fun _ => ?_) (fun q => absurd (Own.ltN (a := (4 * mm + 2)) (by omega) (by omega) (by omega)) q)
    refine Own.aloadN (q := 99) P25 (dc s51 54 rfl) rfl rfl rfl ?_
    refine Own.iloadN (q := 100) P25 (dc s51 55 rfl) rfl rfl ?_
    refine Own.iinc (q := 103) (v := (1 : Int32)) (L2 := #[.val (.ref dd), .val (.ref t1), .val (.int ((Int32.ofNat (4 * mm + 2)) + (1 : Int32))), .val (.int (Int32.ofNat (Own.encL us).length)), .val (.ref t2), .val (.ref ft), .val (.int (Int32.ofNat (us.take (3 * mm)).length)), .val (.int (((0 : Int32) ||| (((us.getD (3 * mm) 0) >>> ((2 : Int32) &&& 31)) <<< ((18 : Int32) &&& 31))) ||| (((((us.getD (3 * mm) 0) <<< ((4 : Int32) &&& 31)) &&& 63) ||| ((us.getD (3 * mm + 1) 0) >>> ((4 : Int32) &&& 31))) <<< (((18 : Int32) + (-6 : Int32)) &&& 31)))), .val (.int (((18 : Int32) + (-6 : Int32)) + (-6 : Int32))), .val (.int ((((us.getD (3 * mm) 0) <<< ((4 : Int32) &&& 31)) &&& 63) ||| ((us.getD (3 * mm + 1) 0) >>> ((4 : Int32) &&& 31)))), .val (.int (Int32.ofNat (4 * mm)))]) P25 (dc s51 56 rfl) rfl rfl rfl rfl ?_
    rw [show ((Int32.ofNat (4 * mm + 2)) + (1 : Int32)) = Int32.ofNat (4 * mm + 3) from (Int32.ofNat_add (4 * mm + 2) 1).symm]
    refine Own.bget (q := 104) (i := (4 * mm + 2)) P25 (dc s51 57 rfl) qf31 (by omega) (by omega) rfl ?_
    refine Own.sipush (q := 107) (v := (255 : Int32)) P25 (dc s51 58 rfl) rfl rfl ?_
    refine Own.iand (q := 108) P25 (dc s51 59 rfl)  rfl ?_
    rw [show (((Own.encL us).getD (4 * mm + 2) 0).toInt8.toInt32 &&& (255 : Int32)) = ((Own.encL us).getD (4 * mm + 2) 0) from Own.and255 (Own.rng_getD (Own.encL_rng hp) _)]
    refine Own.istore (q := 110) (L2 := #[.val (.ref dd), .val (.ref t1), .val (.int (Int32.ofNat (4 * mm + 3))), .val (.int (Int32.ofNat (Own.encL us).length)), .val (.ref t2), .val (.ref ft), .val (.int (Int32.ofNat (us.take (3 * mm)).length)), .val (.int (((0 : Int32) ||| (((us.getD (3 * mm) 0) >>> ((2 : Int32) &&& 31)) <<< ((18 : Int32) &&& 31))) ||| (((((us.getD (3 * mm) 0) <<< ((4 : Int32) &&& 31)) &&& 63) ||| ((us.getD (3 * mm + 1) 0) >>> ((4 : Int32) &&& 31))) <<< (((18 : Int32) + (-6 : Int32)) &&& 31)))), .val (.int (((18 : Int32) + (-6 : Int32)) + (-6 : Int32))), .val (.int ((Own.encL us).getD (4 * mm + 2) 0)), .val (.int (Int32.ofNat (4 * mm)))]) P25 (dc s51 60 rfl) rfl rfl ?_
    refine Own.aload (q := 112) P25 (dc s51 61 rfl) rfl rfl rfl ?_
    refine Own.iload (q := 114) P25 (dc s51 62 rfl) rfl rfl ?_
    refine Own.fget (q := 115) P25 (dc s51 63 rfl) qf32 (Own.rng_getD (Own.encL_rng hp) _) rfl ?_
    rw [show Own.d64 ((Own.encL us).getD (4 * mm + 2) 0) = (((us.getD (3 * mm + 1) 0) <<< ((2 : Int32) &&& 31)) &&& 63) from (by rw [show 4 * mm + 2 = 4 * mm + 2 from rfl, Own.encL_tail hmm, hX]; exact Own.d_e (Own.b6m _))]
    refine Own.dup (q := 116) P25 (dc s51 64 rfl) rfl rfl ?_
    refine Own.istore (q := 118) (L2 := #[.val (.ref dd), .val (.ref t1), .val (.int (Int32.ofNat (4 * mm + 3))), .val (.int (Int32.ofNat (Own.encL us).length)), .val (.ref t2), .val (.ref ft), .val (.int (Int32.ofNat (us.take (3 * mm)).length)), .val (.int (((0 : Int32) ||| (((us.getD (3 * mm) 0) >>> ((2 : Int32) &&& 31)) <<< ((18 : Int32) &&& 31))) ||| (((((us.getD (3 * mm) 0) <<< ((4 : Int32) &&& 31)) &&& 63) ||| ((us.getD (3 * mm + 1) 0) >>> ((4 : Int32) &&& 31))) <<< (((18 : Int32) + (-6 : Int32)) &&& 31)))), .val (.int (((18 : Int32) + (-6 : Int32)) + (-6 : Int32))), .val (.int (((us.getD (3 * mm + 1) 0) <<< ((2 : Int32) &&& 31)) &&& 63)), .val (.int (Int32.ofNat (4 * mm)))]) P25 (dc s51 65 rfl) rfl rfl ?_
    refine Own.if_ge (q := 121) (qy := 214) P25 (dc s51 66 rfl) (by decide) rfl (fun _ => ?_) (fun q => absurd q (Own.nn_b6 (Own.b6m _)))
    refine Own.iload (q := 216) P25 (dc s51 85 rfl) rfl rfl ?_
    refine Own.iload (q := 218) P25 (dc s51 86 rfl) rfl rfl ?_
    refine Own.iload (q := 220) P25 (dc s51 87 rfl) rfl rfl ?_
    refine Own.ishl (q := 221) P25 (dc s51 88 rfl)  rfl ?_
    refine Own.ior (q := 222) P25 (dc s51 89 rfl)  rfl ?_
    refine Own.istore (q := 224) (L2 := #[.val (.ref dd), .val (.ref t1), .val (.int (Int32.ofNat (4 * mm + 3))), .val (.int (Int32.ofNat (Own.encL us).length)), .val (.ref t2), .val (.ref ft), .val (.int (Int32.ofNat (us.take (3 * mm)).length)), .val (.int ((((0 : Int32) ||| (((us.getD (3 * mm) 0) >>> ((2 : Int32) &&& 31)) <<< ((18 : Int32) &&& 31))) ||| (((((us.getD (3 * mm) 0) <<< ((4 : Int32) &&& 31)) &&& 63) ||| ((us.getD (3 * mm + 1) 0) >>> ((4 : Int32) &&& 31))) <<< (((18 : Int32) + (-6 : Int32)) &&& 31))) ||| ((((us.getD (3 * mm + 1) 0) <<< ((2 : Int32) &&& 31)) &&& 63) <<< ((((18 : Int32) + (-6 : Int32)) + (-6 : Int32)) &&& 31)))), .val (.int (((18 : Int32) + (-6 : Int32)) + (-6 : Int32))), .val (.int (((us.getD (3 * mm + 1) 0) <<< ((2 : Int32) &&& 31)) &&& 63)), .val (.int (Int32.ofNat (4 * mm)))]) P25 (dc s51 90 rfl) rfl rfl ?_
    refine Own.iinc (q := 227) (v := (-6 : Int32)) (L2 := #[.val (.ref dd), .val (.ref t1), .val (.int (Int32.ofNat (4 * mm + 3))), .val (.int (Int32.ofNat (Own.encL us).length)), .val (.ref t2), .val (.ref ft), .val (.int (Int32.ofNat (us.take (3 * mm)).length)), .val (.int ((((0 : Int32) ||| (((us.getD (3 * mm) 0) >>> ((2 : Int32) &&& 31)) <<< ((18 : Int32) &&& 31))) ||| (((((us.getD (3 * mm) 0) <<< ((4 : Int32) &&& 31)) &&& 63) ||| ((us.getD (3 * mm + 1) 0) >>> ((4 : Int32) &&& 31))) <<< (((18 : Int32) + (-6 : Int32)) &&& 31))) ||| ((((us.getD (3 * mm + 1) 0) <<< ((2 : Int32) &&& 31)) &&& 63) <<< ((((18 : Int32) + (-6 : Int32)) + (-6 : Int32)) &&& 31)))), .val (.int ((((18 : Int32) + (-6 : Int32)) + (-6 : Int32)) + (-6 : Int32))), .val (.int (((us.getD (3 * mm + 1) 0) <<< ((2 : Int32) &&& 31)) &&& 63)), .val (.int (Int32.ofNat (4 * mm)))]) P25 (dc s51 91 rfl) rfl rfl rfl rfl ?_
    refine Own.iload (q := 229) P25 (dc s51 92 rfl) rfl rfl ?_
    refine Own.if_ge (q := 232) (qy := 278) P25 (dc s51 93 rfl) (by decide) rfl (fun _ => ?_) (fun q => absurd q (by decide))
    refine Own.goto (q := 28) P25 (dc s51 94 rfl) (by decide) ?_
    refine Own.iloadN (q := 29) P25 (dc s51 11 rfl) rfl rfl ?_
    refine Own.iloadN (q := 30) P25 (dc s51 12 rfl) rfl rfl ?_
    refine Own.icmp_ge (q := 33) (qy := 281) P25 (dc s51 13 rfl) (by decide) rfl (fun q => absurd (Own.ltN (a := (4 * mm + 3)) (by omega) (by omega) (by omega)) q) (fun _ => ?_)
    refine Own.iload (q := 35) P25 (dc s51 14 rfl) rfl rfl ?_
    refine Own.bipush (q := 37) (v := (18 : Int32)) P25 (dc s51 15 rfl) rfl rfl ?_
    refine Own.icmp_ne (q := 40) (qy := 90) P25 (dc s51 16 rfl) (by decide) rfl (fun _ => ?_) (fun q => absurd q (by decide))
    refine Own.iloadN (q := 91) P25 (dc s51 50 rfl) rfl rfl ?_
    refine Own.iloadN (q := 92) P25 (dc s51 51 rfl) rfl rfl ?_
    refine Own.icmp_lt (q := 95) (qy := 98) P25 (dc s51 52 rfl) (by decide) rfl (fun _ => ?_) (fun q => absurd (Own.ltN (a := (4 * mm + 3)) (by omega) (by omega) (by omega)) q)
    refine Own.aloadN (q := 99) P25 (dc s51 54 rfl) rfl rfl rfl ?_
    refine Own.iloadN (q := 100) P25 (dc s51 55 rfl) rfl rfl ?_
    refine Own.iinc (q := 103) (v := (1 : Int32)) (L2 := #[.val (.ref dd), .val (.ref t1), .val (.int ((Int32.ofNat (4 * mm + 3)) + (1 : Int32))), .val (.int (Int32.ofNat (Own.encL us).length)), .val (.ref t2), .val (.ref ft), .val (.int (Int32.ofNat (us.take (3 * mm)).length)), .val (.int ((((0 : Int32) ||| (((us.getD (3 * mm) 0) >>> ((2 : Int32) &&& 31)) <<< ((18 : Int32) &&& 31))) ||| (((((us.getD (3 * mm) 0) <<< ((4 : Int32) &&& 31)) &&& 63) ||| ((us.getD (3 * mm + 1) 0) >>> ((4 : Int32) &&& 31))) <<< (((18 : Int32) + (-6 : Int32)) &&& 31))) ||| ((((us.getD (3 * mm + 1) 0) <<< ((2 : Int32) &&& 31)) &&& 63) <<< ((((18 : Int32) + (-6 : Int32)) + (-6 : Int32)) &&& 31)))), .val (.int ((((18 : Int32) + (-6 : Int32)) + (-6 : Int32)) + (-6 : Int32))), .val (.int (((us.getD (3 * mm + 1) 0) <<< ((2 : Int32) &&& 31)) &&& 63)), .val (.int (Int32.ofNat (4 * mm)))]) P25 (dc s51 56 rfl) rfl rfl rfl rfl ?_
    rw [show ((Int32.ofNat (4 * mm + 3)) + (1 : Int32)) = Int32.ofNat (4 * mm + 4) from (Int32.ofNat_add (4 * mm + 3) 1).symm]
    refine Own.bget (q := 104) (i := (4 * mm + 3)) P25 (dc s51 57 rfl) qf31 (by omega) (by omega) rfl ?_
    refine Own.sipush (q := 107) (v := (255 : Int32)) P25 (dc s51 58 rfl) rfl rfl ?_
    refine Own.iand (q := 108) P25 (dc s51 59 rfl)  rfl ?_
    rw [show (((Own.encL us).getD (4 * mm + 3) 0).toInt8.toInt32 &&& (255 : Int32)) = ((Own.encL us).getD (4 * mm + 3) 0) from Own.and255 (Own.rng_getD (Own.encL_rng hp) _)]
    refine Own.istore (q := 110) (L2 := #[.val (.ref dd), .val (.ref t1), .val (.int (Int32.ofNat (4 * mm + 4))), .val (.int (Int32.ofNat (Own.encL us).length)), .val (.ref t2), .val (.ref ft), .val (.int (Int32.ofNat (us.take (3 * mm)).length)), .val (.int ((((0 : Int32) ||| (((us.getD (3 * mm) 0) >>> ((2 : Int32) &&& 31)) <<< ((18 : Int32) &&& 31))) ||| (((((us.getD (3 * mm) 0) <<< ((4 : Int32) &&& 31)) &&& 63) ||| ((us.getD (3 * mm + 1) 0) >>> ((4 : Int32) &&& 31))) <<< (((18 : Int32) + (-6 : Int32)) &&& 31))) ||| ((((us.getD (3 * mm + 1) 0) <<< ((2 : Int32) &&& 31)) &&& 63) <<< ((((18 : Int32) + (-6 : Int32)) + (-6 : Int32)) &&& 31)))), .val (.int ((((18 : Int32) + (-6 : Int32)) + (-6 : Int32)) + (-6 : Int32))), .val (.int ((Own.encL us).getD (4 * mm + 3) 0)), .val (.int (Int32.ofNat (4 * mm)))]) P25 (dc s51 60 rfl) rfl rfl ?_
    refine Own.aload (q := 112) P25 (dc s51 61 rfl) rfl rfl rfl ?_
    refine Own.iload (q := 114) P25 (dc s51 62 rfl) rfl rfl ?_
    refine Own.fget (q := 115) P25 (dc s51 63 rfl) qf32 (Own.rng_getD (Own.encL_rng hp) _) rfl ?_
    rw [show Own.d64 ((Own.encL us).getD (4 * mm + 3) 0) = (-2 : Int32) from (by rw [show 4 * mm + 3 = 4 * mm + 3 from rfl, Own.encL_tail hmm, hX]; exact Own.d_pad)]
    refine Own.dup (q := 116) P25 (dc s51 64 rfl) rfl rfl ?_
    refine Own.istore (q := 118) (L2 := #[.val (.ref dd), .val (.ref t1), .val (.int (Int32.ofNat (4 * mm + 4))), .val (.int (Int32.ofNat (Own.encL us).length)), .val (.ref t2), .val (.ref ft), .val (.int (Int32.ofNat (us.take (3 * mm)).length)), .val (.int ((((0 : Int32) ||| (((us.getD (3 * mm) 0) >>> ((2 : Int32) &&& 31)) <<< ((18 : Int32) &&& 31))) ||| (((((us.getD (3 * mm) 0) <<< ((4 : Int32) &&& 31)) &&& 63) ||| ((us.getD (3 * mm + 1) 0) >>> ((4 : Int32) &&& 31))) <<< (((18 : Int32) + (-6 : Int32)) &&& 31))) ||| ((((us.getD (3 * mm + 1) 0) <<< ((2 : Int32) &&& 31)) &&& 63) <<< ((((18 : Int32) + (-6 : Int32)) + (-6 : Int32)) &&& 31)))), .val (.int ((((18 : Int32) + (-6 : Int32)) + (-6 : Int32)) + (-6 : Int32))), .val (.int (-2 : Int32)), .val (.int (Int32.ofNat (4 * mm)))]) P25 (dc s51 65 rfl) rfl rfl ?_
    refine Own.if_ge (q := 121) (qy := 214) P25 (dc s51 66 rfl) (by decide) rfl (fun q => absurd (by decide) q) (fun _ => ?_)
    refine Own.iload (q := 123) P25 (dc s51 67 rfl) rfl rfl ?_
    refine Own.bipush (q := 125) (v := (-2 : Int32)) P25 (dc s51 68 rfl) rfl rfl ?_
    refine Own.icmp_ne (q := 128) (qy := 168) P25 (dc s51 69 rfl) (by decide) rfl (fun q => absurd rfl q) (fun _ => ?_)
    refine Own.iload (q := 130) P25 (dc s51 70 rfl) rfl rfl ?_
    refine Own.bipush (q := 132) (v := (6 : Int32)) P25 (dc s51 71 rfl) rfl rfl ?_
    refine Own.icmp_ne (q := 135) (qy := 151) P25 (dc s51 72 rfl) (by decide) rfl (fun _ => ?_) (fun q => absurd q (by decide))
    refine Own.iload (q := 153) P25 (dc s51 82 rfl) rfl rfl ?_
    refine Own.bipush (q := 155) (v := (18 : Int32)) P25 (dc s51 83 rfl) rfl rfl ?_
    refine Own.icmp_ne (q := 158) (qy := 281) P25 (dc s51 84 rfl) (by decide) rfl (fun _ => ?_) (fun q => absurd q (by decide))
    refine Own.iload (q := 283) P25 (dc s51 95 rfl) rfl rfl ?_
    refine Own.bipush (q := 285) (v := (6 : Int32)) P25 (dc s51 96 rfl) rfl rfl ?_
    refine Own.icmp_ne (q := 288) (qy := 305) P25 (dc s51 97 rfl) (by decide) rfl (fun _ => ?_) (fun q => absurd q (by decide))
    refine Own.iload (q := 307) P25 (dc s51 107 rfl) rfl rfl ?_
    refine Own.if_ne (q := 310) (qy := 341) P25 (dc s51 108 rfl) (by decide) rfl (fun q => absurd rfl q) (fun _ => ?_)
    refine Own.aload (q := 312) P25 (dc s51 109 rfl) rfl rfl rfl ?_
    refine Own.iload (q := 314) P25 (dc s51 110 rfl) rfl rfl ?_
    refine Own.iinc (q := 317) (v := (1 : Int32)) (L2 := #[.val (.ref dd), .val (.ref t1), .val (.int (Int32.ofNat (4 * mm + 4))), .val (.int (Int32.ofNat (Own.encL us).length)), .val (.ref t2), .val (.ref ft), .val (.int ((Int32.ofNat (us.take (3 * mm)).length) + (1 : Int32))), .val (.int ((((0 : Int32) ||| (((us.getD (3 * mm) 0) >>> ((2 : Int32) &&& 31)) <<< ((18 : Int32) &&& 31))) ||| (((((us.getD (3 * mm) 0) <<< ((4 : Int32) &&& 31)) &&& 63) ||| ((us.getD (3 * mm + 1) 0) >>> ((4 : Int32) &&& 31))) <<< (((18 : Int32) + (-6 : Int32)) &&& 31))) ||| ((((us.getD (3 * mm + 1) 0) <<< ((2 : Int32) &&& 31)) &&& 63) <<< ((((18 : Int32) + (-6 : Int32)) + (-6 : Int32)) &&& 31)))), .val (.int ((((18 : Int32) + (-6 : Int32)) + (-6 : Int32)) + (-6 : Int32))), .val (.int (-2 : Int32)), .val (.int (Int32.ofNat (4 * mm)))]) P25 (dc s51 111 rfl) rfl rfl rfl rfl ?_
    refine Own.iload (q := 319) P25 (dc s51 112 rfl) rfl rfl ?_
    refine Own.bipush (q := 321) (v := (16 : Int32)) P25 (dc s51 113 rfl) rfl rfl ?_
    refine Own.ishr (q := 322) P25 (dc s51 114 rfl)  rfl ?_
    refine Own.i2b (q := 323) P25 (dc s51 115 rfl)  rfl ?_
    rw [show ((((((0 : Int32) ||| (((us.getD (3 * mm) 0) >>> ((2 : Int32) &&& 31)) <<< ((18 : Int32) &&& 31))) ||| (((((us.getD (3 * mm) 0) <<< ((4 : Int32) &&& 31)) &&& 63) ||| ((us.getD (3 * mm + 1) 0) >>> ((4 : Int32) &&& 31))) <<< (((18 : Int32) + (-6 : Int32)) &&& 31))) ||| ((((us.getD (3 * mm + 1) 0) <<< ((2 : Int32) &&& 31)) &&& 63) <<< ((((18 : Int32) + (-6 : Int32)) + (-6 : Int32)) &&& 31))) >>> ((16 : Int32) &&& 31))).toInt8.toInt32 = (us.getD (3 * mm) 0).toInt8.toInt32 from (Own.un2 (Own.rng_getD hp (3 * mm)) (Own.rng_getD hp (3 * mm + 1))).1]
    rw [show ((Int32.ofNat (us.take (3 * mm)).length) + (1 : Int32)) = Int32.ofNat ((us.take (3 * mm)) ++ [(us.getD (3 * mm) 0)]).length from (Own.len1 _ _).symm]
    refine Own.bapp (q := 324) (X := (us.take (3 * mm))) (x := (us.getD (3 * mm) 0)) P25 (dc s51 116 rfl) A25 (by simp only [List.length_append, List.length_cons, List.length_nil, List.length_take]; omega) (by omega) rfl ?_
    intro T33 h33 lc33 hb33 P33 W33 A33
    have N33 := Own.Fr.one N25 hb33 g_t2
    refine Own.aload (q := 326) P33 (dc s51 117 rfl) rfl rfl rfl ?_
    refine Own.iload (q := 328) P33 (dc s51 118 rfl) rfl rfl ?_
    refine Own.iinc (q := 331) (v := (1 : Int32)) (L2 := #[.val (.ref dd), .val (.ref t1), .val (.int (Int32.ofNat (4 * mm + 4))), .val (.int (Int32.ofNat (Own.encL us).length)), .val (.ref t2), .val (.ref ft), .val (.int ((Int32.ofNat ((us.take (3 * mm)) ++ [(us.getD (3 * mm) 0)]).length) + (1 : Int32))), .val (.int ((((0 : Int32) ||| (((us.getD (3 * mm) 0) >>> ((2 : Int32) &&& 31)) <<< ((18 : Int32) &&& 31))) ||| (((((us.getD (3 * mm) 0) <<< ((4 : Int32) &&& 31)) &&& 63) ||| ((us.getD (3 * mm + 1) 0) >>> ((4 : Int32) &&& 31))) <<< (((18 : Int32) + (-6 : Int32)) &&& 31))) ||| ((((us.getD (3 * mm + 1) 0) <<< ((2 : Int32) &&& 31)) &&& 63) <<< ((((18 : Int32) + (-6 : Int32)) + (-6 : Int32)) &&& 31)))), .val (.int ((((18 : Int32) + (-6 : Int32)) + (-6 : Int32)) + (-6 : Int32))), .val (.int (-2 : Int32)), .val (.int (Int32.ofNat (4 * mm)))]) P33 (dc s51 119 rfl) rfl rfl rfl rfl ?_
    refine Own.iload (q := 333) P33 (dc s51 120 rfl) rfl rfl ?_
    refine Own.bipush (q := 335) (v := (8 : Int32)) P33 (dc s51 121 rfl) rfl rfl ?_
    refine Own.ishr (q := 336) P33 (dc s51 122 rfl)  rfl ?_
    refine Own.i2b (q := 337) P33 (dc s51 123 rfl)  rfl ?_
    rw [show ((((((0 : Int32) ||| (((us.getD (3 * mm) 0) >>> ((2 : Int32) &&& 31)) <<< ((18 : Int32) &&& 31))) ||| (((((us.getD (3 * mm) 0) <<< ((4 : Int32) &&& 31)) &&& 63) ||| ((us.getD (3 * mm + 1) 0) >>> ((4 : Int32) &&& 31))) <<< (((18 : Int32) + (-6 : Int32)) &&& 31))) ||| ((((us.getD (3 * mm + 1) 0) <<< ((2 : Int32) &&& 31)) &&& 63) <<< ((((18 : Int32) + (-6 : Int32)) + (-6 : Int32)) &&& 31))) >>> ((8 : Int32) &&& 31))).toInt8.toInt32 = (us.getD (3 * mm + 1) 0).toInt8.toInt32 from (Own.un2 (Own.rng_getD hp (3 * mm)) (Own.rng_getD hp (3 * mm + 1))).2]
    rw [show ((Int32.ofNat ((us.take (3 * mm)) ++ [(us.getD (3 * mm) 0)]).length) + (1 : Int32)) = Int32.ofNat (((us.take (3 * mm)) ++ [(us.getD (3 * mm) 0)]) ++ [(us.getD (3 * mm + 1) 0)]).length from (Own.len1 _ _).symm]
    refine Own.bapp (q := 338) (X := ((us.take (3 * mm)) ++ [(us.getD (3 * mm) 0)])) (x := (us.getD (3 * mm + 1) 0)) P33 (dc s51 124 rfl) A33 (by simp only [List.length_append, List.length_cons, List.length_nil, List.length_take]; omega) (by omega) rfl ?_
    intro T34 h34 lc34 hb34 P34 W34 A34
    have N34 := Own.Fr.one N33 hb34 g_t2
    refine Own.goto (q := 358) P34 (dc s51 125 rfl) (by decide) ?_
    refine Own.iloadN (q := 359) P34 (dc s51 129 rfl) rfl rfl ?_
    refine Own.iloadN (q := 360) P34 (dc s51 130 rfl) rfl rfl ?_
    refine Own.icmp_ge (q := 363) (qy := 416) P34 (dc s51 131 rfl) (by decide) rfl (fun _ => ?_) (fun q => absurd q (by rw [Own.ofNat_lt (by omega) (by omega)]; omega))
    refine Own.iload (q := 418) P34 (dc s51 132 rfl) rfl rfl ?_
    have hE35 : (((us.take (3 * mm)) ++ [(us.getD (3 * mm) 0)]) ++ [(us.getD (3 * mm + 1) 0)]) = us := (by rw [Own.take_snoc (by omega), Own.take_snoc (by omega)]; exact List.take_of_length_le (by omega))
    refine Own.retI P34 (dc s51 133 rfl) hret hlk (by decide) (by decide) ?_
    exact ⟨by rw [hE35], N34, (Keep.wr (Keep.wr (Keep.trans (Keep.refl h0 _) K25 (allS (Or.inl (by simp)) all0)) W33 (Or.inl (by simp))) W34 (Or.inl (by simp))), by rw [hE35, Nat.sub_self, List.replicate_zero, List.append_nil] at A34; exact A34⟩
theorem pd_33 : parseMethodDescriptor "([BII)I" = some ⟨[(.array .byte), .int, .int], some .int⟩ := by decide +kernel
theorem vw_40 {Z : State} {a0 : Array Value} (hw : HW a0 Z) : Own.VW Z a0 "java/util/Base64$Decoder" ⟨"java/util/Base64$Decoder", "decodedOutLength", "([BII)I"⟩ ⟨"java/util/Base64$Decoder", "decodedOutLength", "([BII)I"⟩ jdk_2450_method_7_code 9 (some .int) 3 := ⟨(Own.declOf (wd hw 332 rfl) (wd hw 335 rfl)), (wd hw 334 rfl), (wd hw 332 rfl), (wd hw 299 rfl), (wd hw 335 rfl), by decide, _, _, pd_33, rfl⟩
theorem vw_41 {Z : State} {a0 : Array Value} (hw : HW a0 Z) : Own.VW Z a0 "java/util/Base64$Decoder" ⟨"java/util/Base64$Decoder", "decode0", "([BII[B)I"⟩ ⟨"java/util/Base64$Decoder", "decode0", "([BII[B)I"⟩ jdk_2450_method_9_code 11 (some .int) 4 := ⟨(Own.declOf (wd hw 344 rfl) (wd hw 347 rfl)), (wd hw 346 rfl), (wd hw 344 rfl), (wd hw 299 rfl), (wd hw 347 rfl), by decide, _, _, pd_10, rfl⟩
theorem s52 : decs jdk_2450_method_2_code [(0, .aload_n 0, 1), (1, .aload_n 1, 1), (2, .iconst 0, 1), (3, .aload_n 1, 1), (4, .arraylength, 1), (5, .invokevirtual 16, 3), (8, .newarray .byte, 2), (10, .astore_n 2, 1), (11, .aload_n 0, 1), (12, .aload_n 1, 1), (13, .iconst 0, 1), (14, .aload_n 1, 1), (15, .arraylength, 1), (16, .aload_n 2, 1), (17, .invokevirtual 20, 3), (20, .istore_n 3, 1), (21, .iload_n 3, 1), (22, .aload_n 2, 1), (23, .arraylength, 1), (24, .if_icmp .eq 9, 3), (33, .aload_n 2, 1), (34, .areturn, 1)] = true := by decide +kernel
theorem pn_63 : plainFor (⟨"java/util/Base64$Decoder", "decode", "([B)[B"⟩ : MethodName) = true := by first | exact plainFor_of_name (by first | (simp [plainName, overriddenIn]; done) | decide +kernel) | decide +kernel
def QrmDec (Z : State) (dd : Addr) (ft : Addr) (ci : Addr) (cu : Addr) (kf : ClassId) (t1 : Addr) (k1 : ClassId) (us : List Int32) (mm : Nat) (h0 : Heap) (n0 : Nat) (v : Option Value) (h : Heap) (L : List Loc) : Prop := ∃ r k, v = some (.ref r) ∧ Fr n0 L ∧ Ext h0 h ∧ h0.size ≤ r ∧ Arv Z h r k .byte (Int32.ofNat us.length) ((us.map fun c : Int32 => c.toInt8.toInt32).map Value.int) (.int 0)
theorem rmDec (l : Launch) (Z : State) (a0 : Array Value) (hw : HW a0 Z) (ws : List Jvm.Cond) (dd : Addr) (ft : Addr) (ci : Addr) (cu : Addr) (kf : ClassId) (t1 : Addr) (k1 : ClassId) (us : List Int32) (mm : Nat) (h0 : Heap) (n0 : Nat) (Z0 : n0 ≤ h0.size) (de : Own.DE Z h0 dd ft ci cu kf) (A1 : Arv Z h0 t1 k1 .byte (Int32.ofNat (Own.encL us).length) (((Own.encL us).map fun c : Int32 => c.toInt8.toInt32).map Value.int) (.int 0)) (hp : ∀ c ∈ us, ¬ c < 0 ∧ ¬ (255 : Int32) < c) (hl : 24 ≤ us.length ∧ us.length ≤ 64) (hmm : mm = us.length / 3) :
    Own.MF l Z (⟨"java/util/Base64$Decoder", "decode", "([B)[B"⟩ : MethodName) jdk_2450_method_2_code 4 (some (.array .byte)) ws (⟨2, 1, 64, 62⟩ : Room) #[(.ref dd), (.ref t1)] h0 (QrmDec Z dd ft ci cu kf t1 k1 us mm h0 n0) := by
  refine Own.MF.of (own := "java/util/Base64$Decoder") (n := 4) rfl rfl pn_63 (fun p e s m below meth c s₁ hml hlk hret hnm P0 => ?_)
  rw [show entryFrame m #[(.ref dd), (.ref t1)] 4 = mkF m 0 #[.val (.ref dd), .val (.ref t1), .unset, .unset] [] from by first | (simp [entryFrame, mkF, argsToLocals, Value.category]; done) | rfl]
  refine Own.aloadN (q := 1) P0 (dc s52 0 rfl) rfl rfl rfl ?_
  refine Own.aloadN (q := 2) P0 (dc s52 1 rfl) rfl rfl rfl ?_
  refine Own.iconst (q := 3) (v := (0 : Int32)) P0 (dc s52 2 rfl) rfl rfl ?_
  refine Own.aloadN (q := 4) P0 (dc s52 3 rfl) rfl rfl rfl ?_
  refine Own.arraylength (q := 5) P0 (dc s52 4 rfl) A1 rfl ?_
  refine Own.cV (q := 8) (W := 0) (rest := []) P0 (dc s52 5 rfl) (wd hw 331 rfl) (vw_40 hw) (Own.nfs P0 (wd hw 334 rfl)) de.2.1 (rmDol l Z a0 hw [] dd ft ci cu kf t1 k1 us mm h0 n0 Z0 de A1 hp hl hmm) (by decide) (by decide) rfl (hml rfl) rfl rfl (by decide) (by decide) rfl ?_
  rintro v21 T21 h21 L21 ⟨rfl, N21q, e21⟩ P21
  rw [e21] at P21
  have N21 := Fr.app (Fr.nil n0) N21q
  refine Own.newarrE (q := 10) (cap := 64) P21 (dc s52 6 rfl) (wd hw 1 rfl) (Own.nneg (by omega)) (by rw [Own.clamp (by omega)]; exact (by omega)) (by decide) (by decide) (by decide) rfl ?_
  intro T22 h22 a22 k22 ha22 P22 E22 A22 X22
  have V22 : Arv Z h22 a22 k22 .byte (Int32.ofNat us.length) (List.replicate us.length (.int 0)) (.int 0) := Arv.pad A22 (pad_rep [] _ _)
  refine Own.astoreN (q := 11) (L2 := #[.val (.ref dd), .val (.ref t1), .val (.ref a22), .unset]) P22 (dc s52 7 rfl) rfl rfl rfl ?_
  refine Own.aloadN (q := 12) P22 (dc s52 8 rfl) rfl rfl rfl ?_
  refine Own.aloadN (q := 13) P22 (dc s52 9 rfl) rfl rfl rfl ?_
  refine Own.iconst (q := 14) (v := (0 : Int32)) P22 (dc s52 10 rfl) rfl rfl ?_
  refine Own.aloadN (q := 15) P22 (dc s52 11 rfl) rfl rfl rfl ?_
  have E0_1_23 : Ext h0 h22 := E22
  refine Own.arraylength (q := 16) P22 (dc s52 12 rfl) (A1.ext E0_1_23) rfl ?_
  refine Own.aloadN (q := 17) P22 (dc s52 13 rfl) rfl rfl rfl ?_
  have V24 : Arv Z h22 a22 k22 .byte (Int32.ofNat us.length) (((([] : List Int32).map fun c : Int32 => c.toInt8.toInt32).map Value.int) ++ List.replicate (us.length - ([] : List Int32).length) (Value.int 0)) (.int 0) := by
    rw [show (((([] : List Int32).map fun c : Int32 => c.toInt8.toInt32).map Value.int) ++ List.replicate (us.length - ([] : List Int32).length) (Value.int 0)) = List.replicate us.length (Value.int 0) by simp]
    exact V22
  refine Own.cV (q := 20) (W := 0) (rest := []) P22 (dc s52 14 rfl) (wd hw 343 rfl) (vw_41 hw) (Own.nfs P22 (wd hw 346 rfl)) (de.2.1.ext E0_1_23) (rmD0 l Z a0 hw [] dd ft ci cu kf t1 k1 a22 k22 us mm h22 n0 (Nat.le_trans Z0 E0_1_23.1) (de.ext E0_1_23) (A1.ext E0_1_23) V24 hp hl hmm (Nat.ne_of_lt (Nat.lt_of_lt_of_le A1.lt (Nat.le_of_eq ha22.symm))) (Nat.ne_of_lt (Nat.lt_of_lt_of_le de.2.2.2.2.2.1.lt (Nat.le_of_eq ha22.symm))) (Nat.ne_of_lt (Nat.lt_of_lt_of_le de.2.1.lt (Nat.le_of_eq ha22.symm))) (Nat.le_trans Z0 (Nat.le_of_eq ha22.symm))) (by decide) (by decide) rfl (hml rfl) rfl rfl (by decide) (by decide) rfl ?_
  rintro v25 T25 h25 L25 ⟨rfl, N25q, K25, A25⟩ P25
  have N25 := Fr.app N21 N25q
  refine Own.istoreN (q := 21) (L2 := #[.val (.ref dd), .val (.ref t1), .val (.ref a22), .val (.int (Int32.ofNat us.length))]) P25 (dc s52 15 rfl) rfl rfl ?_
  refine Own.iloadN (q := 22) P25 (dc s52 16 rfl) rfl rfl ?_
  refine Own.aloadN (q := 23) P25 (dc s52 17 rfl) rfl rfl rfl ?_
  refine Own.arraylength (q := 24) P25 (dc s52 18 rfl) A25 rfl ?_
  refine Own.icmp_eq (q := 27) (qy := 33) P25 (dc s52 19 rfl) (by decide) rfl (fun _ => ?_) (fun q => absurd rfl q)
  refine Own.aloadN (q := 34) P25 (dc s52 20 rfl) rfl rfl rfl ?_
  have E0_2_26 : Ext h0 h25 := (Own.Ext.kp E0_1_23 K25 (allS (Nat.le_of_eq ha22.symm) all0))
  refine Own.retA P25 (dc s52 21 rfl) hret rfl rfl rfl hlk (by decide) (by decide) ?_
  exact ⟨a22, _, rfl, N25, E0_2_26, (Nat.le_of_eq ha22.symm), A25⟩
theorem s53 : decs jdk_42_method_27_code [(0, .iload_n 0, 1), (1, .ifCond .ne 11, 3), (4, .aload_n 1, 1), (5, .invokevirtual 279, 3), (8, .checkcast 280, 3), (11, .areturn, 1)] = true := by decide +kernel
theorem pn_62 : plainFor (⟨"java/lang/String", "encode8859_1", "(B[BZ)[B"⟩ : MethodName) = true := by first | exact plainFor_of_name (by first | (simp [plainName, overriddenIn]; done) | decide +kernel) | decide +kernel
def QrmE83 (Z : State) (t1 : Addr) (k1 : ClassId) (cs : List Int32) (h0 : Heap) (n0 : Nat) (v : Option Value) (h : Heap) (L : List Loc) : Prop := ∃ r, v = some (.ref r) ∧ Fr n0 L ∧ Ext h0 h ∧ h0.size ≤ r ∧ Arv Z h r k1 .byte (Int32.ofNat cs.length) ((cs.map fun c : Int32 => c.toInt8.toInt32).map Value.int) (.int 0)
theorem rmE83 (l : Launch) (Z : State) (a0 : Array Value) (hw : HW a0 Z) (ws : List Jvm.Cond) (t1 : Addr) (k1 : ClassId) (cs : List Int32) (h0 : Heap) (n0 : Nat) (Z0 : n0 ≤ h0.size) (A1 : Arv Z h0 t1 k1 .byte (Int32.ofNat cs.length) ((cs.map fun c : Int32 => c.toInt8.toInt32).map Value.int) (.int 0)) (X1 : Exa Z h0 t1 "[B") (hl : cs.length ≤ 100) :
    Own.MF l Z (⟨"java/lang/String", "encode8859_1", "(B[BZ)[B"⟩ : MethodName) jdk_42_method_27_code 10 (some (.array .byte)) ws (⟨1, 1, 100, 14⟩ : Room) #[(.int (0 : Int32)), (.ref t1), (.int (1 : Int32))] h0 (QrmE83 Z t1 k1 cs h0 n0) := by
  refine Own.MF.of (own := "java/lang/String") (n := 10) rfl rfl pn_62 (fun p e s m below meth c s₁ hml hlk hret hnm P0 => ?_)
  rw [show entryFrame m #[(.int (0 : Int32)), (.ref t1), (.int (1 : Int32))] 10 = mkF m 0 #[.val (.int (0 : Int32)), .val (.ref t1), .val (.int (1 : Int32)), .unset, .unset, .unset, .unset, .unset, .unset, .unset] [] from by first | (simp [entryFrame, mkF, argsToLocals, Value.category]; done) | rfl]
  refine Own.iloadN (q := 1) P0 (dc s53 0 rfl) rfl rfl ?_
  refine Own.if_ne (q := 4) (qy := 12) P0 (dc s53 1 rfl) (by decide) rfl (fun q => absurd rfl q) (fun _ => ?_)
  refine Own.aloadN (q := 5) P0 (dc s53 2 rfl) rfl rfl rfl ?_
  refine Own.cloneArr (q := 8) (W := 0) (cap := 100) P0 (dc s53 3 rfl) (wd hw 324 rfl) (wd hw 154 rfl) (wd hw 158 rfl) (wd hw 156 rfl) (wd hw 157 rfl) (wd hw 159 rfl) A1 X1 (hml rfl) (by decide) (Own.w0 rfl) (by decide) (by rw [Own.clamp (by omega)]; exact hl) (by decide) (by decide) rfl ?_
  intro T21 h21 r21 ha21 P21 E21 A21 B21
  refine Own.castTo (q := 11) P21 (dc s53 4 rfl) (wd hw 325 rfl) (Ins.self B21) rfl ?_
  intro T22 P22
  have E0_1_23 : Ext h0 h21 := E21
  refine Own.retA P22 (dc s53 5 rfl) hret rfl rfl rfl hlk (by decide) (by decide) ?_
  exact ⟨r21, rfl, (Fr.nil n0), E0_1_23, (Nat.le_of_eq ha21.symm), A21⟩
theorem pd_34 : parseMethodDescriptor "(B[BZ)[B" = some ⟨[.byte, (.array .byte), .boolean], some (.array .byte)⟩ := by decide +kernel
theorem sw_42 {Z : State} {a0 : Array Value} (hw : HW a0 Z) : Own.SW Z a0 ⟨"java/lang/String", "encode8859_1", "(B[BZ)[B"⟩ jdk_42_method_27_code 10 (some (.array .byte)) 3 := ⟨(wd hw 322 rfl), (wd hw 26 rfl), (wd hw 323 rfl), by decide, _, _, pd_34, rfl⟩
theorem s54 : decs jdk_42_method_26_code [(0, .iload_n 0, 1), (1, .aload_n 1, 1), (2, .iconst 1, 1), (3, .invokestatic 351, 3), (6, .areturn, 1)] = true := by decide +kernel
theorem pn_61 : plainFor (⟨"java/lang/String", "encode8859_1", "(B[B)[B"⟩ : MethodName) = true := by first | exact plainFor_of_name (by first | (simp [plainName, overriddenIn]; done) | decide +kernel) | decide +kernel
def QrmE82 (Z : State) (t1 : Addr) (k1 : ClassId) (cs : List Int32) (h0 : Heap) (n0 : Nat) (v : Option Value) (h : Heap) (L : List Loc) : Prop := ∃ r, v = some (.ref r) ∧ Fr n0 L ∧ Ext h0 h ∧ h0.size ≤ r ∧ Arv Z h r k1 .byte (Int32.ofNat cs.length) ((cs.map fun c : Int32 => c.toInt8.toInt32).map Value.int) (.int 0)
theorem rmE82 (l : Launch) (Z : State) (a0 : Array Value) (hw : HW a0 Z) (ws : List Jvm.Cond) (t1 : Addr) (k1 : ClassId) (cs : List Int32) (h0 : Heap) (n0 : Nat) (Z0 : n0 ≤ h0.size) (A1 : Arv Z h0 t1 k1 .byte (Int32.ofNat cs.length) ((cs.map fun c : Int32 => c.toInt8.toInt32).map Value.int) (.int 0)) (X1 : Exa Z h0 t1 "[B") (hl : cs.length ≤ 100) :
    Own.MF l Z (⟨"java/lang/String", "encode8859_1", "(B[B)[B"⟩ : MethodName) jdk_42_method_26_code 2 (some (.array .byte)) ws (⟨2, 1, 100, 38⟩ : Room) #[(.int (0 : Int32)), (.ref t1)] h0 (QrmE82 Z t1 k1 cs h0 n0) := by
  refine Own.MF.of (own := "java/lang/String") (n := 2) rfl rfl pn_61 (fun p e s m below meth c s₁ hml hlk hret hnm P0 => ?_)
  rw [show entryFrame m #[(.int (0 : Int32)), (.ref t1)] 2 = mkF m 0 #[.val (.int (0 : Int32)), .val (.ref t1)] [] from by first | (simp [entryFrame, mkF, argsToLocals, Value.category]; done) | rfl]
  refine Own.iloadN (q := 1) P0 (dc s54 0 rfl) rfl rfl ?_
  refine Own.aloadN (q := 2) P0 (dc s54 1 rfl) rfl rfl rfl ?_
  refine Own.iconst (q := 3) (v := (1 : Int32)) P0 (dc s54 2 rfl) rfl rfl ?_
  refine Own.cS (q := 6) (W := 0) (rest := []) P0 (dc s54 3 rfl) (wd hw 321 rfl) (sw_42 hw) (rmE83 l Z a0 hw [] t1 k1 cs h0 n0 Z0 A1 X1 hl) (by decide) (by decide) rfl (hml rfl) rfl rfl (by decide) (by decide) rfl ?_
  rintro v21 T21 h21 L21 ⟨r21, rfl, N21q, E21, gr21, B21⟩ P21
  have N21 := Fr.app (Fr.nil n0) N21q
  have E0_1_22 : Ext h0 h21 := E21
  refine Own.retA P21 (dc s54 4 rfl) hret rfl rfl rfl hlk (by decide) (by decide) ?_
  exact ⟨_, rfl, N21, E0_1_22, gr21, B21⟩
theorem pd_35 : parseMethodDescriptor "(B[B)[B" = some ⟨[.byte, (.array .byte)], some (.array .byte)⟩ := by decide +kernel
theorem sw_43 {Z : State} {a0 : Array Value} (hw : HW a0 Z) : Own.SW Z a0 ⟨"java/lang/String", "encode8859_1", "(B[B)[B"⟩ jdk_42_method_26_code 2 (some (.array .byte)) 2 := ⟨(wd hw 319 rfl), (wd hw 26 rfl), (wd hw 320 rfl), by decide, _, _, pd_35, rfl⟩
theorem s55 : decs jdk_42_method_18_code [(0, .aload_n 0, 1), (1, .getstatic 86, 3), (4, .if_acmp .ne 10, 3), (14, .aload_n 0, 1), (15, .getstatic 116, 3), (18, .if_acmp .ne 9, 3), (21, .iload_n 1, 1), (22, .aload_n 2, 1), (23, .invokestatic 256, 3), (26, .areturn, 1)] = true := by decide +kernel
theorem pn_60 : plainFor (⟨"java/lang/String", "encode", "(Ljava/nio/charset/Charset;B[B)[B"⟩ : MethodName) = true := by first | exact plainFor_of_name (by first | (simp [plainName, overriddenIn]; done) | decide +kernel) | decide +kernel
def QrmEcs (Z : State) (dd : Addr) (ft : Addr) (ci : Addr) (cu : Addr) (kf : ClassId) (t1 : Addr) (k1 : ClassId) (cs : List Int32) (h0 : Heap) (n0 : Nat) (v : Option Value) (h : Heap) (L : List Loc) : Prop := ∃ r, v = some (.ref r) ∧ Fr n0 L ∧ Ext h0 h ∧ h0.size ≤ r ∧ Arv Z h r k1 .byte (Int32.ofNat cs.length) ((cs.map fun c : Int32 => c.toInt8.toInt32).map Value.int) (.int 0)
theorem rmEcs (l : Launch) (Z : State) (a0 : Array Value) (hw : HW a0 Z) (ws : List Jvm.Cond) (dd : Addr) (ft : Addr) (ci : Addr) (cu : Addr) (kf : ClassId) (t1 : Addr) (k1 : ClassId) (cs : List Int32) (h0 : Heap) (n0 : Nat) (Z0 : n0 ≤ h0.size) (de : Own.DE Z h0 dd ft ci cu kf) (A1 : Arv Z h0 t1 k1 .byte (Int32.ofNat cs.length) ((cs.map fun c : Int32 => c.toInt8.toInt32).map Value.int) (.int 0)) (X1 : Exa Z h0 t1 "[B") (hl : cs.length ≤ 100) :
    Own.MF l Z (⟨"java/lang/String", "encode", "(Ljava/nio/charset/Charset;B[B)[B"⟩ : MethodName) jdk_42_method_18_code 3 (some (.array .byte)) ws (⟨3, 1, 100, 54⟩ : Room) #[(.ref ci), (.int (0 : Int32)), (.ref t1)] h0 (QrmEcs Z dd ft ci cu kf t1 k1 cs h0 n0) := by
  refine Own.MF.of (own := "java/lang/String") (n := 3) rfl rfl pn_60 (fun p e s m below meth c s₁ hml hlk hret hnm P0 => ?_)
  rw [show entryFrame m #[(.ref ci), (.int (0 : Int32)), (.ref t1)] 3 = mkF m 0 #[.val (.ref ci), .val (.int (0 : Int32)), .val (.ref t1)] [] from by first | (simp [entryFrame, mkF, argsToLocals, Value.category]; done) | rfl]
  refine Own.aloadN (q := 1) P0 (dc s55 0 rfl) rfl rfl rfl ?_
  refine Own.getstatic (q := 4) P0 (dc s55 1 rfl) (wd hw 315 rfl) de.2.2.2.2.2.2.2.1 rfl ?_
  intro T21 P21
  refine Own.acmp_ne (q := 7) (qy := 14) P21 (dc s55 2 rfl) rfl rfl (by decide) rfl (fun _ => ?_) (fun q => absurd (Value.ref.inj q) de.2.2.2.2.2.2.2.2)
  refine Own.aloadN (q := 15) P21 (dc s55 3 rfl) rfl rfl rfl ?_
  refine Own.getstatic (q := 18) P21 (dc s55 4 rfl) (wd hw 317 rfl) de.2.2.2.2.2.2.1 rfl ?_
  intro T22 P22
  refine Own.acmp_ne (q := 21) (qy := 27) P22 (dc s55 5 rfl) rfl rfl (by decide) rfl (fun q => absurd rfl q) (fun _ => ?_)
  refine Own.iloadN (q := 22) P22 (dc s55 6 rfl) rfl rfl ?_
  refine Own.aloadN (q := 23) P22 (dc s55 7 rfl) rfl rfl rfl ?_
  refine Own.cS (q := 26) (W := 0) (rest := []) P22 (dc s55 8 rfl) (wd hw 318 rfl) (sw_43 hw) (rmE82 l Z a0 hw [] t1 k1 cs h0 n0 Z0 A1 X1 hl) (by decide) (by decide) rfl (hml rfl) rfl rfl (by decide) (by decide) rfl ?_
  rintro v23 T23 h23 L23 ⟨r23, rfl, N23q, E23, gr23, B23⟩ P23
  have N23 := Fr.app (Fr.nil n0) N23q
  have E0_1_24 : Ext h0 h23 := E23
  refine Own.retA P23 (dc s55 9 rfl) hret rfl rfl rfl hlk (by decide) (by decide) ?_
  exact ⟨_, rfl, N23, E0_1_24, gr23, B23⟩
theorem pd_36 : parseMethodDescriptor "(Ljava/nio/charset/Charset;B[B)[B" = some ⟨[(.object "java/nio/charset/Charset"), .byte, (.array .byte)], some (.array .byte)⟩ := by decide +kernel
theorem sw_44 {Z : State} {a0 : Array Value} (hw : HW a0 Z) : Own.SW Z a0 ⟨"java/lang/String", "encode", "(Ljava/nio/charset/Charset;B[B)[B"⟩ jdk_42_method_18_code 3 (some (.array .byte)) 3 := ⟨(wd hw 313 rfl), (wd hw 26 rfl), (wd hw 314 rfl), by decide, _, _, pd_36, rfl⟩
theorem s56 : decs jdk_42_method_64_code [(0, .aload_n 1, 1), (1, .ifnonnull 11, 3), (12, .aload_n 1, 1), (13, .aload_n 0, 1), (14, .invokevirtual 335, 3), (17, .aload_n 0, 1), (18, .getfield 9, 3), (21, .invokestatic 535, 3), (24, .areturn, 1)] = true := by decide +kernel
theorem pn_59 : plainFor (⟨"java/lang/String", "getBytes", "(Ljava/nio/charset/Charset;)[B"⟩ : MethodName) = true := by first | exact plainFor_of_name (by first | (simp [plainName, overriddenIn]; done) | decide +kernel) | decide +kernel
def QrmGbc (Z : State) (dd : Addr) (ft : Addr) (ci : Addr) (cu : Addr) (kf : ClassId) (a1 : Addr) (t1 : Addr) (k1 : ClassId) (cs : List Int32) (zc : Int32) (h0 : Heap) (n0 : Nat) (v : Option Value) (h : Heap) (L : List Loc) : Prop := ∃ r, v = some (.ref r) ∧ Fr n0 L ∧ Ext h0 h ∧ h0.size ≤ r ∧ Arv Z h r k1 .byte (Int32.ofNat cs.length) ((cs.map fun c : Int32 => c.toInt8.toInt32).map Value.int) (.int 0)
theorem rmGbc (l : Launch) (Z : State) (a0 : Array Value) (hw : HW a0 Z) (ws : List Jvm.Cond) (dd : Addr) (ft : Addr) (ci : Addr) (cu : Addr) (kf : ClassId) (a1 : Addr) (t1 : Addr) (k1 : ClassId) (cs : List Int32) (zc : Int32) (h0 : Heap) (n0 : Nat) (Z0 : n0 ≤ h0.size) (de : Own.DE Z h0 dd ft ci cu kf) (SC : Own.Cst Z h0 zc) (hzc : ¬ zc = 0) (E_a1 : Exa Z h0 a1 "java/lang/String") (f1 : Fld Z h0 a1 "java/lang/String" "value" "[B" (.ref t1)) (f2 : Fld Z h0 a1 "java/lang/String" "coder" "B" (.int 0)) (A1 : Arv Z h0 t1 k1 .byte (Int32.ofNat cs.length) ((cs.map fun c : Int32 => c.toInt8.toInt32).map Value.int) (.int 0)) (X1 : Exa Z h0 t1 "[B") (hl : cs.length ≤ 100) :
    Own.MF l Z (⟨"java/lang/String", "getBytes", "(Ljava/nio/charset/Charset;)[B"⟩ : MethodName) jdk_42_method_64_code 2 (some (.array .byte)) ws (⟨4, 1, 100, 70⟩ : Room) #[(.ref a1), (.ref ci)] h0 (QrmGbc Z dd ft ci cu kf a1 t1 k1 cs zc h0 n0) := by
  refine Own.MF.of (own := "java/lang/String") (n := 2) rfl rfl pn_59 (fun p e s m below meth c s₁ hml hlk hret hnm P0 => ?_)
  rw [show entryFrame m #[(.ref a1), (.ref ci)] 2 = mkF m 0 #[.val (.ref a1), .val (.ref ci)] [] from by first | (simp [entryFrame, mkF, argsToLocals, Value.category]; done) | rfl]
  refine Own.aloadN (q := 1) P0 (dc s56 0 rfl) rfl rfl rfl ?_
  refine Own.nonnullY (q := 12) P0 (dc s56 1 rfl) (by decide) ?_
  refine Own.aloadN (q := 13) P0 (dc s56 2 rfl) rfl rfl rfl ?_
  refine Own.aloadN (q := 14) P0 (dc s56 3 rfl) rfl rfl rfl ?_
  refine Own.cV (q := 17) (W := 1) (rest := [(.ref ci)]) P0 (dc s56 4 rfl) (wd hw 53 rfl) (vw_0 hw) (Own.nfs P0 (wd hw 56 rfl)) E_a1 (rmCod l Z a0 hw [] a1 zc h0 n0 Z0 SC hzc f2) (by decide) (by decide) rfl (hml rfl) rfl rfl (by decide) (by decide) rfl ?_
  rintro v21 T21 h21 L21 ⟨rfl, N21q, e21⟩ P21
  rw [e21] at P21
  have N21 := Fr.app (Fr.nil n0) N21q
  refine Own.aloadN (q := 18) P21 (dc s56 5 rfl) rfl rfl rfl ?_
  refine Own.getfield (q := 21) P21 (dc s56 6 rfl) (wd hw 52 rfl) f1 rfl ?_
  intro T22 P22
  refine Own.cS (q := 24) (W := 0) (rest := []) P22 (dc s56 7 rfl) (wd hw 312 rfl) (sw_44 hw) (rmEcs l Z a0 hw [] dd ft ci cu kf t1 k1 cs h0 n0 Z0 de A1 X1 hl) (by decide) (by decide) rfl (hml rfl) rfl rfl (by decide) (by decide) rfl ?_
  rintro v23 T23 h23 L23 ⟨r23, rfl, N23q, E23, gr23, B23⟩ P23
  have N23 := Fr.app N21 N23q
  have E0_1_24 : Ext h0 h23 := E23
  refine Own.retA P23 (dc s56 8 rfl) hret rfl rfl rfl hlk (by decide) (by decide) ?_
  exact ⟨_, rfl, N23, E0_1_24, gr23, B23⟩
theorem s57 : decs jdk_2448_method_6_code [(0, .getstatic 57, 3), (3, .areturn, 1)] = true := by decide +kernel
theorem pn_57 : plainFor (⟨"java/util/Base64", "getDecoder", "()Ljava/util/Base64$Decoder;"⟩ : MethodName) = true := by first | exact plainFor_of_name (by first | (simp [plainName, overriddenIn]; done) | decide +kernel) | decide +kernel
def QrmGd (Z : State) (dd : Addr) (ft : Addr) (ci : Addr) (cu : Addr) (kf : ClassId) (h0 : Heap) (n0 : Nat) (v : Option Value) (h : Heap) (L : List Loc) : Prop := v = some (.ref dd) ∧ Fr n0 L ∧ h = h0
theorem rmGd (l : Launch) (Z : State) (a0 : Array Value) (hw : HW a0 Z) (ws : List Jvm.Cond) (dd : Addr) (ft : Addr) (ci : Addr) (cu : Addr) (kf : ClassId) (h0 : Heap) (n0 : Nat) (Z0 : n0 ≤ h0.size) (de : Own.DE Z h0 dd ft ci cu kf) :
    Own.MF l Z (⟨"java/util/Base64", "getDecoder", "()Ljava/util/Base64$Decoder;"⟩ : MethodName) jdk_2448_method_6_code 0 (some (.object "java/util/Base64$Decoder")) ws (⟨0, 0, 0, 0⟩ : Room) #[] h0 (QrmGd Z dd ft ci cu kf h0 n0) := by
  refine Own.MF.of (own := "java/util/Base64") (n := 0) rfl rfl pn_57 (fun p e s m below meth c s₁ hml hlk hret hnm P0 => ?_)
  rw [show entryFrame m #[] 0 = mkF m 0 #[] [] from by first | (simp [entryFrame, mkF, argsToLocals, Value.category]; done) | rfl]
  refine Own.getstatic (q := 3) P0 (dc s57 0 rfl) (wd hw 298 rfl) de.1 rfl ?_
  intro T21 P21
  refine Own.retA P21 (dc s57 1 rfl) hret rfl rfl rfl hlk (by decide) (by decide) ?_
  exact ⟨rfl, (Fr.nil n0), rfl⟩
theorem pd_37 : parseMethodDescriptor "(Ljava/nio/charset/Charset;)[B" = some ⟨[(.object "java/nio/charset/Charset")], some (.array .byte)⟩ := by decide +kernel
theorem vw_45 {Z : State} {a0 : Array Value} (hw : HW a0 Z) : Own.VW Z a0 "java/lang/String" ⟨"java/lang/String", "getBytes", "(Ljava/nio/charset/Charset;)[B"⟩ ⟨"java/lang/String", "getBytes", "(Ljava/nio/charset/Charset;)[B"⟩ jdk_42_method_64_code 2 (some (.array .byte)) 1 := ⟨(wd hw 308 rfl), (wd hw 310 rfl), (wd hw 309 rfl), (wd hw 26 rfl), (wd hw 311 rfl), by decide, _, _, pd_37, rfl⟩
theorem vw_46 {Z : State} {a0 : Array Value} (hw : HW a0 Z) : Own.VW Z a0 "java/util/Base64$Decoder" ⟨"java/util/Base64$Decoder", "decode", "([B)[B"⟩ ⟨"java/util/Base64$Decoder", "decode", "([B)[B"⟩ jdk_2450_method_2_code 4 (some (.array .byte)) 1 := ⟨(wd hw 327 rfl), (wd hw 329 rfl), (wd hw 328 rfl), (wd hw 299 rfl), (wd hw 330 rfl), by decide, _, _, pd_14, rfl⟩
theorem s58 : decs jdk_2450_method_3_code [(0, .aload_n 0, 1), (1, .aload_n 1, 1), (2, .getstatic 30, 3), (5, .invokevirtual 36, 3), (8, .invokevirtual 42, 3), (11, .areturn, 1)] = true := by decide +kernel
theorem pn_58 : plainFor (⟨"java/util/Base64$Decoder", "decode", "(Ljava/lang/String;)[B"⟩ : MethodName) = true := by first | exact plainFor_of_name (by first | (simp [plainName, overriddenIn]; done) | decide +kernel) | decide +kernel
def QrmDecS (Z : State) (dd : Addr) (ft : Addr) (ci : Addr) (cu : Addr) (kf : ClassId) (a1 : Addr) (t1 : Addr) (k1 : ClassId) (us : List Int32) (mm : Nat) (zc : Int32) (h0 : Heap) (n0 : Nat) (v : Option Value) (h : Heap) (L : List Loc) : Prop := ∃ r k, v = some (.ref r) ∧ Fr n0 L ∧ Ext h0 h ∧ h0.size ≤ r ∧ Arv Z h r k .byte (Int32.ofNat us.length) ((us.map fun c : Int32 => c.toInt8.toInt32).map Value.int) (.int 0)
theorem rmDecS (l : Launch) (Z : State) (a0 : Array Value) (hw : HW a0 Z) (ws : List Jvm.Cond) (dd : Addr) (ft : Addr) (ci : Addr) (cu : Addr) (kf : ClassId) (a1 : Addr) (t1 : Addr) (k1 : ClassId) (us : List Int32) (mm : Nat) (zc : Int32) (h0 : Heap) (n0 : Nat) (Z0 : n0 ≤ h0.size) (de : Own.DE Z h0 dd ft ci cu kf) (SC : Own.Cst Z h0 zc) (hzc : ¬ zc = 0) (E_a1 : Exa Z h0 a1 "java/lang/String") (f1 : Fld Z h0 a1 "java/lang/String" "value" "[B" (.ref t1)) (f2 : Fld Z h0 a1 "java/lang/String" "coder" "B" (.int 0)) (A1 : Arv Z h0 t1 k1 .byte (Int32.ofNat (Own.encL us).length) (((Own.encL us).map fun c : Int32 => c.toInt8.toInt32).map Value.int) (.int 0)) (X1 : Exa Z h0 t1 "[B") (hp : ∀ c ∈ us, ¬ c < 0 ∧ ¬ (255 : Int32) < c) (hl : 24 ≤ us.length ∧ us.length ≤ 64) (hmm : mm = us.length / 3) :
    Own.MF l Z (⟨"java/util/Base64$Decoder", "decode", "(Ljava/lang/String;)[B"⟩ : MethodName) jdk_2450_method_3_code 2 (some (.array .byte)) ws (⟨5, 2, 164, 90⟩ : Room) #[(.ref dd), (.ref a1)] h0 (QrmDecS Z dd ft ci cu kf a1 t1 k1 us mm zc h0 n0) := by
  refine Own.MF.of (own := "java/util/Base64$Decoder") (n := 2) rfl rfl pn_58 (fun p e s m below meth c s₁ hml hlk hret hnm P0 => ?_)
  rw [show entryFrame m #[(.ref dd), (.ref a1)] 2 = mkF m 0 #[.val (.ref dd), .val (.ref a1)] [] from by first | (simp [entryFrame, mkF, argsToLocals, Value.category]; done) | rfl]
  have hn2 := Own.encL_len us
  refine Own.aloadN (q := 1) P0 (dc s58 0 rfl) rfl rfl rfl ?_
  refine Own.aloadN (q := 2) P0 (dc s58 1 rfl) rfl rfl rfl ?_
  refine Own.getstatic (q := 5) P0 (dc s58 2 rfl) (wd hw 305 rfl) de.2.2.2.2.2.2.1 rfl ?_
  intro T21 P21
  refine Own.cV (q := 8) (W := 1) (rest := [(.ref dd)]) P21 (dc s58 3 rfl) (wd hw 307 rfl) (vw_45 hw) (Own.nfs P21 (wd hw 310 rfl)) E_a1 (rmGbc l Z a0 hw [] dd ft ci cu kf a1 t1 k1 (Own.encL us) zc h0 n0 Z0 de SC hzc E_a1 f1 f2 A1 X1 (by omega)) (by decide) (by decide) rfl (hml rfl) rfl rfl (by decide) (by decide) rfl ?_
  rintro v22 T22 h22 L22 ⟨r22, rfl, N22q, E22, gr22, B22⟩ P22
  have N22 := Fr.app (Fr.nil n0) N22q
  have E0_1_23 : Ext h0 h22 := E22
  refine Own.cV (q := 11) (W := 0) (rest := []) P22 (dc s58 4 rfl) (wd hw 326 rfl) (vw_46 hw) (Own.nfs P22 (wd hw 329 rfl)) (de.2.1.ext E0_1_23) (rmDec l Z a0 hw [] dd ft ci cu kf r22 k1 us mm h22 n0 (Nat.le_trans Z0 E0_1_23.1) (de.ext E0_1_23) B22 hp hl hmm) (by decide) (by decide) rfl (hml rfl) rfl rfl (by decide) (by decide) rfl ?_
  rintro v24 T24 h24 L24 ⟨r24, k24, rfl, N24q, E24, gr24, B24⟩ P24
  have N24 := Fr.app N22 N24q
  have E0_2_25 : Ext h0 h24 := (Own.Ext.tr E0_1_23 E24)
  refine Own.retA P24 (dc s58 5 rfl) hret rfl rfl rfl hlk (by decide) (by decide) ?_
  exact ⟨_, _, rfl, N24, E0_2_25, (Nat.le_trans E0_1_23.1 gr24), B24⟩
theorem sw_47 {Z : State} {a0 : Array Value} (hw : HW a0 Z) : Own.SW Z a0 ⟨"java/util/Arrays", "checkLength", "(II)V"⟩ jdk_65_method_131_code 2 none 2 := ⟨(wd hw 290 rfl), (wd hw 151 rfl), (wd hw 291 rfl), by decide, _, _, pd_2, rfl⟩
theorem s59 : decs jdk_65_method_133_code [(0, .iload_n 1, 1), (1, .iload_n 2, 1), (2, .invokestatic 343, 3), (5, .iload_n 2, 1), (6, .iload_n 1, 1), (7, .isub, 1), (8, .istore_n 3, 1), (9, .iload_n 3, 1), (10, .newarray .byte, 2), (12, .astore 4, 2), (14, .aload_n 0, 1), (15, .iload_n 1, 1), (16, .aload 4, 2), (18, .iconst 0, 1), (19, .aload_n 0, 1), (20, .arraylength, 1), (21, .iload_n 1, 1), (22, .isub, 1), (23, .iload_n 3, 1), (24, .invokestatic 304, 3), (27, .invokestatic 150, 3), (30, .aload 4, 2), (32, .areturn, 1)] = true := by decide +kernel
theorem pn_54 : plainFor (⟨"java/util/Arrays", "copyOfRangeByte", "([BII)[B"⟩ : MethodName) = true := by first | exact plainFor_of_name (by first | (simp [plainName, overriddenIn]; done) | decide +kernel) | decide +kernel
def QrmCrbE (Z : State) (t1 : Addr) (kb : ClassId) (cs : List Int32) (f : Nat) (n : Nat) (h0 : Heap) (n0 : Nat) (v : Option Value) (h : Heap) (L : List Loc) : Prop := ∃ r k, v = some (.ref r) ∧ Fr n0 L ∧ Ext h0 h ∧ h0.size ≤ r ∧ Arv Z h r k .byte (Int32.ofNat (cs.drop f).length) (((cs.drop f).map fun c : Int32 => c.toInt8.toInt32).map Value.int) (.int 0) ∧ Exa Z h r "[B"
theorem rmCrbE (l : Launch) (Z : State) (a0 : Array Value) (hw : HW a0 Z) (ws : List Jvm.Cond) (t1 : Addr) (kb : ClassId) (cs : List Int32) (f : Nat) (n : Nat) (h0 : Heap) (n0 : Nat) (Z0 : n0 ≤ h0.size) (A_t : Arv Z h0 t1 kb .byte (Int32.ofNat cs.length) ((cs.map fun c : Int32 => c.toInt8.toInt32).map Value.int) (.int 0)) (hfn : cs.length = f + n) (hn : 0 < f ∧ 0 < n ∧ f + n ≤ 100) :
    Own.MF l Z (⟨"java/util/Arrays", "copyOfRangeByte", "([BII)[B"⟩ : MethodName) jdk_65_method_133_code 5 (some (.array .byte)) ws (⟨1, 1, 100, 18⟩ : Room) #[(.ref t1), (.int (Int32.ofNat f)), (.int (Int32.ofNat (f + n)))] h0 (QrmCrbE Z t1 kb cs f n h0 n0) := by
  refine Own.MF.of (own := "java/util/Arrays") (n := 5) rfl rfl pn_54 (fun p e s m below meth c s₁ hml hlk hret hnm P0 => ?_)
  rw [show entryFrame m #[(.ref t1), (.int (Int32.ofNat f)), (.int (Int32.ofNat (f + n)))] 5 = mkF m 0 #[.val (.ref t1), .val (.int (Int32.ofNat f)), .val (.int (Int32.ofNat (f + n))), .unset, .unset] [] from by first | (simp [entryFrame, mkF, argsToLocals, Value.category]; done) | rfl]
  refine Own.iloadN (q := 1) P0 (dc s59 0 rfl) rfl rfl ?_
  refine Own.iloadN (q := 2) P0 (dc s59 1 rfl) rfl rfl ?_
  refine Own.cS (q := 5) (W := 0) (rest := []) P0 (dc s59 2 rfl) (wd hw 289 rfl) (sw_47 hw) (rmCl l Z a0 hw [] (Int32.ofNat f) (Int32.ofNat (f + n)) h0 n0 Z0 (Own.leE rfl (by omega))) (by decide) (by decide) rfl (hml rfl) rfl rfl (by decide) (by decide) rfl ?_
  rintro v21 T21 h21 L21 ⟨rfl, N21q, e21⟩ P21
  rw [e21] at P21
  have N21 := Fr.app (Fr.nil n0) N21q
  refine Own.iloadN (q := 6) P21 (dc s59 3 rfl) rfl rfl ?_
  refine Own.iloadN (q := 7) P21 (dc s59 4 rfl) rfl rfl ?_
  refine Own.isub (q := 8) P21 (dc s59 5 rfl)  rfl ?_
  rw [show ((Int32.ofNat (f + n)) - (Int32.ofNat f)) = (Int32.ofNat n) from Own.subE rfl]
  refine Own.istoreN (q := 9) (L2 := #[.val (.ref t1), .val (.int (Int32.ofNat f)), .val (.int (Int32.ofNat (f + n))), .val (.int (Int32.ofNat n)), .unset]) P21 (dc s59 6 rfl) rfl rfl ?_
  refine Own.iloadN (q := 10) P21 (dc s59 7 rfl) rfl rfl ?_
  refine Own.newarrE (q := 12) (cap := 100) P21 (dc s59 8 rfl) (wd hw 1 rfl) (Own.nneg (by omega)) (by rw [Own.clamp (by omega)]; exact (by omega)) (by decide) (by decide) (by decide) rfl ?_
  intro T22 h22 a22 k22 ha22 P22 E22 A22 X22
  have V22 : Arv Z h22 a22 k22 .byte (Int32.ofNat n) (List.replicate n (.int 0)) (.int 0) := Arv.pad A22 (pad_rep [] _ _)
  refine Own.astore (q := 14) (L2 := #[.val (.ref t1), .val (.int (Int32.ofNat f)), .val (.int (Int32.ofNat (f + n))), .val (.int (Int32.ofNat n)), .val (.ref a22)]) P22 (dc s59 9 rfl) rfl rfl rfl ?_
  refine Own.aloadN (q := 15) P22 (dc s59 10 rfl) rfl rfl rfl ?_
  refine Own.iloadN (q := 16) P22 (dc s59 11 rfl) rfl rfl ?_
  refine Own.aload (q := 18) P22 (dc s59 12 rfl) rfl rfl rfl ?_
  refine Own.iconst (q := 19) (v := (0 : Int32)) P22 (dc s59 13 rfl) rfl rfl ?_
  refine Own.aloadN (q := 20) P22 (dc s59 14 rfl) rfl rfl rfl ?_
  have E0_1_23 : Ext h0 h22 := E22
  refine Own.arraylength (q := 21) P22 (dc s59 15 rfl) (A_t.ext E0_1_23) rfl ?_
  refine Own.iloadN (q := 22) P22 (dc s59 16 rfl) rfl rfl ?_
  refine Own.isub (q := 23) P22 (dc s59 17 rfl)  rfl ?_
  refine Own.iloadN (q := 24) P22 (dc s59 18 rfl) rfl rfl ?_
  refine Own.cS (q := 27) (W := 4) (rest := [(.int (0 : Int32)), (.ref a22), (.int (Int32.ofNat f)), (.ref t1)]) P22 (dc s59 19 rfl) (wd hw 179 rfl) (sw_8 hw) (rmMin l Z a0 hw [] ((Int32.ofNat cs.length) - (Int32.ofNat f)) (Int32.ofNat n) h22 n0 (Nat.le_trans Z0 E0_1_23.1) ) (by decide) (by decide) rfl (hml rfl) rfl rfl (by decide) (by decide) rfl ?_
  rintro v24 T24 h24 L24 ⟨rfl, N24q, e24⟩ P24
  rw [e24] at P24
  have N24 := Fr.app N21 N24q
  rw [show (if (Int32.ofNat n) < ((Int32.ofNat cs.length) - (Int32.ofNat f)) then (Int32.ofNat n) else ((Int32.ofNat cs.length) - (Int32.ofNat f))) = (Int32.ofNat n) from Own.minE (Nat.le_of_eq hfn.symm) (by omega)]
  refine Own.copyB (q := 30) (W := 0) (n0 := n0) (sp0 := f) (d := 0) (j := n) (us := (((cs.drop f).map fun c : Int32 => c.toInt8.toInt32).map Value.int)) P24 N24 (dc s59 20 rfl) (wd hw 180 rfl) (wd hw 86 rfl) (wd hw 84 rfl) (wd hw 85 rfl) (A_t.ext E0_1_23) V22 rfl (Own.nneg (by omega)) (by decide) (Own.nneg (by omega)) (Own.clamp (by omega)) (by decide) (Own.clamp (by omega)) (by rw [Own.clamp (by omega)]; omega) (by rw [Own.clamp (by omega), Nat.zero_add]; exact Nat.le_refl _) (Own.drop_range hfn) (by rw [List.length_replicate, Nat.zero_add]; exact Nat.le_refl _) (Nat.le_trans Z0 (Nat.le_of_eq ha22.symm)) (hml rfl) (by decide) (Own.w0 rfl) (by decide) rfl ?_
  intro T25 h25 L25 N25 P25 K25 A25
  rw [Own.cr_list] at A25
  refine Own.aload (q := 32) P25 (dc s59 21 rfl) rfl rfl rfl ?_
  have E0_2_26 : Ext h0 h25 := (Own.Ext.kp E0_1_23 K25 (allS (Nat.le_of_eq ha22.symm) all0))
  have qf27 := (X22.keep K25)
  refine Own.retA P25 (dc s59 22 rfl) hret rfl rfl rfl hlk (by decide) (by decide) ?_
  exact ⟨a22, _, rfl, N25, E0_2_26, (Nat.le_of_eq ha22.symm), by rw [List.length_drop, show cs.length - f = n by omega]; exact A25, qf27⟩
theorem sw_48 {Z : State} {a0 : Array Value} (hw : HW a0 Z) : Own.SW Z a0 ⟨"java/util/Arrays", "copyOfRangeByte", "([BII)[B"⟩ jdk_65_method_133_code 5 (some (.array .byte)) 3 := ⟨(wd hw 287 rfl), (wd hw 151 rfl), (wd hw 288 rfl), by decide, _, _, pd_13, rfl⟩
theorem s60 : decs jdk_65_method_132_code [(10, .aload_n 0, 1), (11, .iload_n 1, 1), (12, .iload_n 2, 1), (13, .invokestatic 339, 3), (16, .areturn, 1)] = true := by decide +kernel
def QrmCrE (Z : State) (t1 : Addr) (kb : ClassId) (cs : List Int32) (f : Nat) (n : Nat) (h0 : Heap) (n0 : Nat) (v : Option Value) (h : Heap) (L : List Loc) : Prop := ∃ r k, v = some (.ref r) ∧ Fr n0 L ∧ Ext h0 h ∧ h0.size ≤ r ∧ Arv Z h r k .byte (Int32.ofNat (cs.drop f).length) (((cs.drop f).map fun c : Int32 => c.toInt8.toInt32).map Value.int) (.int 0) ∧ Exa Z h r "[B"
theorem rmCrE (l : Launch) (Z : State) (a0 : Array Value) (hw : HW a0 Z) (ws : List Jvm.Cond) (t1 : Addr) (kb : ClassId) (cs : List Int32) (f : Nat) (n : Nat) (h0 : Heap) (n0 : Nat) (Z0 : n0 ≤ h0.size) (A_t : Arv Z h0 t1 kb .byte (Int32.ofNat cs.length) ((cs.map fun c : Int32 => c.toInt8.toInt32).map Value.int) (.int 0)) (hfn : cs.length = f + n) (hn : 0 < f ∧ 0 < n ∧ f + n ≤ 100) :
    Own.MF l Z (⟨"java/util/Arrays", "copyOfRange", "([BII)[B"⟩ : MethodName) jdk_65_method_132_code 3 (some (.array .byte)) ws (⟨2, 1, 100, 34⟩ : Room) #[(.ref t1), (.int (Int32.ofNat f)), (.int (Int32.ofNat (f + n)))] h0 (QrmCrE Z t1 kb cs f n h0 n0) := by
  refine Own.MF.of (own := "java/util/Arrays") (n := 3) rfl rfl pn_25 (fun p e s m below meth c s₁ hml hlk hret hnm P0 => ?_)
  rw [show entryFrame m #[(.ref t1), (.int (Int32.ofNat f)), (.int (Int32.ofNat (f + n)))] 3 = mkF m 0 #[.val (.ref t1), .val (.int (Int32.ofNat f)), .val (.int (Int32.ofNat (f + n)))] [] from by first | (simp [entryFrame, mkF, argsToLocals, Value.category]; done) | rfl]
  refine Own.iloadN (q := 1) P0 (dc s28 0 rfl) rfl rfl ?_
  refine Own.if_ne (q := 4) (qy := 10) P0 (dc s28 1 rfl) (by decide) rfl (fun _ => ?_) (fun q => absurd q (Own.n0_of (by omega) (by omega)))
  refine Own.aloadN (q := 11) P0 (dc s60 0 rfl) rfl rfl rfl ?_
  refine Own.iloadN (q := 12) P0 (dc s60 1 rfl) rfl rfl ?_
  refine Own.iloadN (q := 13) P0 (dc s60 2 rfl) rfl rfl ?_
  refine Own.cS (q := 16) (W := 0) (rest := []) P0 (dc s60 3 rfl) (wd hw 286 rfl) (sw_48 hw) (rmCrbE l Z a0 hw [] t1 kb cs f n h0 n0 Z0 A_t hfn hn) (by decide) (by decide) rfl (hml rfl) rfl rfl (by decide) (by decide) rfl ?_
  rintro v21 T21 h21 L21 ⟨r21, k21, rfl, N21q, E21, gr21, B21, X21⟩ P21
  have N21 := Fr.app (Fr.nil n0) N21q
  have E0_1_22 : Ext h0 h21 := E21
  refine Own.retA P21 (dc s60 4 rfl) hret rfl rfl rfl hlk (by decide) (by decide) ?_
  exact ⟨_, _, rfl, N21, E0_1_22, gr21, B21, X21⟩
theorem s61 : decs jdk_42_method_151_code [(0, .aload_n 0, 1), (1, .invokespecial 1, 3), (4, .aload_n 0, 1), (5, .aload_n 1, 1), (6, .putfield 9, 3), (9, .aload_n 0, 1), (10, .iload_n 2, 1), (11, .putfield 15, 3), (14, .return_, 1)] = true := by decide +kernel
theorem pn_56 : plainFor (⟨"java/lang/String", "<init>", "([BB)V"⟩ : MethodName) = true := by first | exact plainFor_of_name (by first | (simp [plainName, overriddenIn]; done) | decide +kernel) | decide +kernel
def QrmSB (Z : State) (a1 : Addr) (a2 : Addr) (u1 : Value) (u2 : Value) (h0 : Heap) (n0 : Nat) (v : Option Value) (h : Heap) (L : List Loc) : Prop := v = none ∧ Fr n0 L ∧ Keep h0 h [a1] ∧ Exa Z h a1 "java/lang/String" ∧ Fld Z h a1 "java/lang/String" "value" "[B" (.ref a2) ∧ Fld Z h a1 "java/lang/String" "coder" "B" (.int 0)
theorem rmSB (l : Launch) (Z : State) (a0 : Array Value) (hw : HW a0 Z) (ws : List Jvm.Cond) (a1 : Addr) (a2 : Addr) (u1 : Value) (u2 : Value) (h0 : Heap) (n0 : Nat) (Z0 : n0 ≤ h0.size) (E_a1 : Exa Z h0 a1 "java/lang/String") (f1 : Fld Z h0 a1 "java/lang/String" "value" "[B" u1) (f2 : Fld Z h0 a1 "java/lang/String" "coder" "B" u2) (g_a1 : n0 ≤ a1) :
    Own.MF l Z (⟨"java/lang/String", "<init>", "([BB)V"⟩ : MethodName) jdk_42_method_151_code 3 none ws (⟨1, 0, 0, 12⟩ : Room) #[(.ref a1), (.ref a2), (.int (0 : Int32))] h0 (QrmSB Z a1 a2 u1 u2 h0 n0) := by
  refine Own.MF.of (own := "java/lang/String") (n := 3) rfl rfl pn_56 (fun p e s m below meth c s₁ hml hlk hret hnm P0 => ?_)
  rw [show entryFrame m #[(.ref a1), (.ref a2), (.int (0 : Int32))] 3 = mkF m 0 #[.val (.ref a1), .val (.ref a2), .val (.int (0 : Int32))] [] from by first | (simp [entryFrame, mkF, argsToLocals, Value.category]; done) | rfl]
  refine Own.aloadN (q := 1) P0 (dc s61 0 rfl) rfl rfl rfl ?_
  refine Own.objinit (q := 4) (W := 0) P0 (dc s61 1 rfl) (wd hw 140 rfl) (wd hw 23 rfl) (wd hw 24 rfl) (hml rfl) (by decide) (Own.w0 rfl) (by decide) rfl ?_
  intro T21 P21
  refine Own.aloadN (q := 5) P21 (dc s61 2 rfl) rfl rfl rfl ?_
  refine Own.aloadN (q := 6) P21 (dc s61 3 rfl) rfl rfl rfl ?_
  refine Own.putfield (q := 9) P21 (dc s61 4 rfl) (wd hw 52 rfl) f1 E_a1 (Or.inr ⟨(wd hw 33 rfl), rfl, hnm⟩) (wd hw 32 rfl) (ty := (.array .byte)) (by decide) rfl rfl rfl ?_
  intro T22 h22 lc22 hl22 P22 W22
  have F22_value := Fld.same W22 f1
  have F22_coder := f2.other W22 (Or.inr (slot_ne (Or.inr (wd hw 34 rfl)) (Or.inr (wd hw 33 rfl)) (by decide) (t := .byte) (t' := (.array .byte)) (by decide) (by decide)))
  have A22 := E_a1.wr W22
  have N22 := Own.Fr.one (Fr.nil n0) hl22 g_a1
  refine Own.aloadN (q := 10) P22 (dc s61 5 rfl) rfl rfl rfl ?_
  refine Own.iloadN (q := 11) P22 (dc s61 6 rfl) rfl rfl ?_
  refine Own.putfield (q := 14) P22 (dc s61 7 rfl) (wd hw 59 rfl) F22_coder A22 (Or.inr ⟨(wd hw 34 rfl), rfl, hnm⟩) (wd hw 32 rfl) (ty := .byte) (by decide) rfl rfl rfl ?_
  intro T23 h23 lc23 hl23 P23 W23
  have F23_value := F22_value.other W23 (Or.inr (slot_ne (Or.inr (wd hw 33 rfl)) (Or.inr (wd hw 34 rfl)) (by decide) (t := (.array .byte)) (t' := .byte) (by decide) (by decide)))
  have F23_coder := Fld.same W23 F22_coder
  have A23 := A22.wr W23
  have N23 := Own.Fr.one N22 hl23 g_a1
  refine Own.retV P23 (dc s61 8 rfl) hret hlk (by decide) (by decide) ?_
  exact ⟨rfl, N23, (Keep.wr (Keep.wr (Keep.refl h0 _) W22 (Or.inl (by simp))) W23 (Or.inl (by simp))), A23, F23_value, F23_coder⟩
theorem pd_38 : parseMethodDescriptor "([BB)V" = some ⟨[(.array .byte), .byte], none⟩ := by decide +kernel
theorem iw_49 {Z : State} {a0 : Array Value} (hw : HW a0 Z) : Own.IW Z a0 ⟨"java/lang/String", "<init>", "([BB)V"⟩ jdk_42_method_151_code 3 2 := ⟨rfl, (wd hw 293 rfl), (wd hw 26 rfl), (wd hw 294 rfl), by decide, _, _, pd_38, rfl⟩
theorem s62 : decs jdk_43_method_47_code [(0, .iload_n 2, 1), (1, .ifCond .ne 6, 3), (7, .new 1, 3), (10, .dup, 1), (11, .aload_n 0, 1), (12, .iload_n 1, 1), (13, .iload_n 1, 1), (14, .iload_n 2, 1), (15, .iadd, 1), (16, .invokestatic 232, 3), (19, .iconst 0, 1), (20, .invokespecial 112, 3), (23, .areturn, 1)] = true := by decide +kernel
theorem pn_53 : plainFor (⟨"java/lang/StringLatin1", "newString", "([BII)Ljava/lang/String;"⟩ : MethodName) = true := by first | exact plainFor_of_name (by first | (simp [plainName, overriddenIn]; done) | decide +kernel) | decide +kernel
def QrmNsE (Z : State) (t1 : Addr) (kb : ClassId) (cs : List Int32) (f : Nat) (n : Nat) (h0 : Heap) (n0 : Nat) (v : Option Value) (h : Heap) (L : List Loc) : Prop := ∃ r t k, v = some (.ref r) ∧ Fr n0 L ∧ Ext h0 h ∧ h0.size ≤ r ∧ Exa Z h r "java/lang/String" ∧ Fld Z h r "java/lang/String" "value" "[B" (.ref t) ∧ Fld Z h r "java/lang/String" "coder" "B" (.int 0) ∧ Arv Z h t k .byte (Int32.ofNat (cs.drop f).length) (((cs.drop f).map fun c : Int32 => c.toInt8.toInt32).map Value.int) (.int 0) ∧ Exa Z h t "[B"
theorem rmNsE (l : Launch) (Z : State) (a0 : Array Value) (hw : HW a0 Z) (ws : List Jvm.Cond) (t1 : Addr) (kb : ClassId) (cs : List Int32) (f : Nat) (n : Nat) (h0 : Heap) (n0 : Nat) (Z0 : n0 ≤ h0.size) (A_t : Arv Z h0 t1 kb .byte (Int32.ofNat cs.length) ((cs.map fun c : Int32 => c.toInt8.toInt32).map Value.int) (.int 0)) (hfn : cs.length = f + n) (hn : 0 < f ∧ 0 < n ∧ f + n ≤ 100) :
    Own.MF l Z (⟨"java/lang/StringLatin1", "newString", "([BII)Ljava/lang/String;"⟩ : MethodName) jdk_43_method_47_code 3 (some (.object "java/lang/String")) ws (⟨3, 2, 104, 50⟩ : Room) #[(.ref t1), (.int (Int32.ofNat f)), (.int (Int32.ofNat n))] h0 (QrmNsE Z t1 kb cs f n h0 n0) := by
  refine Own.MF.of (own := "java/lang/StringLatin1") (n := 3) rfl rfl pn_53 (fun p e s m below meth c s₁ hml hlk hret hnm P0 => ?_)
  rw [show entryFrame m #[(.ref t1), (.int (Int32.ofNat f)), (.int (Int32.ofNat n))] 3 = mkF m 0 #[.val (.ref t1), .val (.int (Int32.ofNat f)), .val (.int (Int32.ofNat n))] [] from by first | (simp [entryFrame, mkF, argsToLocals, Value.category]; done) | rfl]
  refine Own.iloadN (q := 1) P0 (dc s62 0 rfl) rfl rfl ?_
  refine Own.if_ne (q := 4) (qy := 7) P0 (dc s62 1 rfl) (by decide) rfl (fun _ => ?_) (fun q => absurd q (Own.n0_of (by omega) (by omega)))
  refine Own.newobj (q := 10) P0 (dc s62 2 rfl) (wd hw 284 rfl) (wd hw 32 rfl) (wd hw 26 rfl) (by decide) (by decide) rfl ?_
  intro T21 h21 a21 ha21 P21 E21 A21 D21
  have F21_value : Fld Z h21 a21 "java/lang/String" "value" "[B" .null := D21 (Or.inr (wd hw 33 rfl)) (ty := (.array .byte)) (by decide)
  have F21_coder : Fld Z h21 a21 "java/lang/String" "coder" "B" (.int (0 : Int32)) := D21 (Or.inr (wd hw 34 rfl)) (ty := .byte) (by decide)
  refine Own.dup (q := 11) P21 (dc s62 3 rfl) rfl rfl ?_
  refine Own.aloadN (q := 12) P21 (dc s62 4 rfl) rfl rfl rfl ?_
  refine Own.iloadN (q := 13) P21 (dc s62 5 rfl) rfl rfl ?_
  refine Own.iloadN (q := 14) P21 (dc s62 6 rfl) rfl rfl ?_
  refine Own.iloadN (q := 15) P21 (dc s62 7 rfl) rfl rfl ?_
  refine Own.iadd (q := 16) P21 (dc s62 8 rfl)  rfl ?_
  rw [show ((Int32.ofNat f) + (Int32.ofNat n)) = (Int32.ofNat (f + n)) from (Int32.ofNat_add f n).symm]
  have E0_1_22 : Ext h0 h21 := E21
  refine Own.cS (q := 19) (W := 2) (rest := [(.ref a21), (.ref a21)]) P21 (dc s62 9 rfl) (wd hw 285 rfl) (sw_16 hw) (rmCrE l Z a0 hw [] t1 kb cs f n h21 n0 (Nat.le_trans Z0 E0_1_22.1) (A_t.ext E0_1_22) hfn hn) (by decide) (by decide) rfl (hml rfl) rfl rfl (by decide) (by decide) rfl ?_
  rintro v23 T23 h23 L23 ⟨r23, k23, rfl, N23q, E23, gr23, B23, X23⟩ P23
  have N23 := Fr.app (Fr.nil n0) N23q
  refine Own.iconst (q := 20) (v := (0 : Int32)) P23 (dc s62 10 rfl) rfl rfl ?_
  have E1_2_24 : Ext h21 h23 := E23
  have E0_2_25 : Ext h0 h23 := (Own.Ext.tr E0_1_22 E23)
  refine Own.cI (q := 23) (W := 1) (rest := [(.ref a21)]) P23 (dc s62 11 rfl) (wd hw 292 rfl) (iw_49 hw) (rmSB l Z a0 hw [] a21 r23 .null (.int (0 : Int32)) h23 n0 (Nat.le_trans Z0 E0_2_25.1) (A21.ext E1_2_24) (F21_value.ext E1_2_24) (F21_coder.ext E1_2_24) (Nat.le_trans Z0 (Nat.le_of_eq ha21.symm))) (by decide) (by decide) rfl (hml rfl) rfl rfl (by decide) (by decide) rfl ?_
  rintro v26 T26 h26 L26 ⟨rfl, N26q, K26, G26, V26, C26⟩ P26
  have N26 := Fr.app N23 N26q
  have E0_3_27 : Ext h0 h26 := (Own.Ext.kp E0_2_25 K26 (allS (Nat.le_of_eq ha21.symm) all0))
  have qf28 := (Arv.keep B23 K26 (ninS (Ne.symm (Exa.neArv (A21.ext E23) B23 (wd hw 32 rfl))) nin0))
  have qf29 := (X23.keep K26)
  refine Own.retA P26 (dc s62 12 rfl) hret rfl rfl rfl hlk (by decide) (by decide) ?_
  exact ⟨a21, r23, _, rfl, N26, E0_3_27, (Nat.le_of_eq ha21.symm), G26, V26, C26, qf28, qf29⟩
theorem s63 : decs jdk_41_method_12_code [(0, .iload_n 0, 1), (1, .ifCond .lt 13, 3), (4, .iload_n 0, 1), (5, .iload_n 1, 1), (6, .if_icmp .gt 8, 3), (9, .iload_n 1, 1), (10, .iload_n 2, 1), (11, .if_icmp .le 11, 3), (22, .iload_n 0, 1), (23, .ireturn, 1)] = true := by decide +kernel
theorem pn_52 : plainFor (⟨"jdk/internal/util/Preconditions", "checkFromToIndex", "(IIILjava/util/function/BiFunction;)I"⟩ : MethodName) = true := by first | exact plainFor_of_name (by first | (simp [plainName, overriddenIn]; done) | decide +kernel) | decide +kernel
def QrmCft (Z : State) (x1 : Int32) (y1 : Int32) (z1 : Int32) (fm : Value) (h0 : Heap) (n0 : Nat) (v : Option Value) (h : Heap) (L : List Loc) : Prop := v = some (.int x1) ∧ Fr n0 L ∧ h = h0
theorem rmCft (l : Launch) (Z : State) (a0 : Array Value) (hw : HW a0 Z) (ws : List Jvm.Cond) (x1 : Int32) (y1 : Int32) (z1 : Int32) (fm : Value) (h0 : Heap) (n0 : Nat) (Z0 : n0 ≤ h0.size) (hfm : fm.isRef = true) (b1 : ¬ x1 < 0) (b2 : ¬ y1 < x1) (b3 : ¬ z1 < y1) :
    Own.MF l Z (⟨"jdk/internal/util/Preconditions", "checkFromToIndex", "(IIILjava/util/function/BiFunction;)I"⟩ : MethodName) jdk_41_method_12_code 4 (some .int) ws (⟨0, 0, 0, 0⟩ : Room) #[(.int x1), (.int y1), (.int z1), fm] h0 (QrmCft Z x1 y1 z1 fm h0 n0) := by
  refine Own.MF.of (own := "jdk/internal/util/Preconditions") (n := 4) rfl rfl pn_52 (fun p e s m below meth c s₁ hml hlk hret hnm P0 => ?_)
  rw [show entryFrame m #[(.int x1), (.int y1), (.int z1), fm] 4 = mkF m 0 #[.val (.int x1), .val (.int y1), .val (.int z1), .val fm] [] from by first | (simp [entryFrame, mkF, argsToLocals, Value.category]; done) | rfl | (rcases Own.refc hfm with rfl | ⟨_, rfl⟩ <;> rfl)]
  refine Own.iloadN (q := 1) P0 (dc s63 0 rfl) rfl rfl ?_
  refine Own.if_lt (q := 4) (qy := 14) P0 (dc s63 1 rfl) (by decide) rfl (fun q => absurd q b1) (fun _ => ?_)
  refine Own.iloadN (q := 5) P0 (dc s63 2 rfl) rfl rfl ?_
  refine Own.iloadN (q := 6) P0 (dc s63 3 rfl) rfl rfl ?_
  refine Own.icmp_gt (q := 9) (qy := 14) P0 (dc s63 4 rfl) (by decide) rfl (fun q => absurd q b2) (fun _ => ?_)
  refine Own.iloadN (q := 10) P0 (dc s63 5 rfl) rfl rfl ?_
  refine Own.iloadN (q := 11) P0 (dc s63 6 rfl) rfl rfl ?_
  refine Own.icmp_le (q := 14) (qy := 22) P0 (dc s63 7 rfl) (by decide) rfl (fun _ => ?_) (fun q => absurd q b3)
  refine Own.iloadN (q := 23) P0 (dc s63 8 rfl) rfl rfl ?_
  refine Own.retI P0 (dc s63 9 rfl) hret hlk (by decide) (by decide) ?_
  exact ⟨rfl, (Fr.nil n0), rfl⟩
theorem sw_50 {Z : State} {a0 : Array Value} (hw : HW a0 Z) : Own.SW Z a0 ⟨"jdk/internal/util/Preconditions", "checkFromToIndex", "(IIILjava/util/function/BiFunction;)I"⟩ jdk_41_method_12_code 4 (some .int) 4 := ⟨(wd hw 279 rfl), (wd hw 145 rfl), (wd hw 280 rfl), by decide, _, _, pd_11, rfl⟩
theorem s64 : decs jdk_42_method_158_code [(0, .iload_n 0, 1), (1, .iload_n 1, 1), (2, .iload_n 2, 1), (3, .getstatic 1053, 3), (6, .invokestatic 1062, 3), (9, .pop, 1), (10, .return_, 1)] = true := by decide +kernel
theorem pn_51 : plainFor (⟨"java/lang/String", "checkBoundsBeginEnd", "(III)V"⟩ : MethodName) = true := by first | exact plainFor_of_name (by first | (simp [plainName, overriddenIn]; done) | decide +kernel) | decide +kernel
def QrmCbe (Z : State) (x1 : Int32) (y1 : Int32) (z1 : Int32) (fm : Value) (h0 : Heap) (n0 : Nat) (v : Option Value) (h : Heap) (L : List Loc) : Prop := v = none ∧ Fr n0 L ∧ h = h0
theorem rmCbe (l : Launch) (Z : State) (a0 : Array Value) (hw : HW a0 Z) (ws : List Jvm.Cond) (x1 : Int32) (y1 : Int32) (z1 : Int32) (fm : Value) (h0 : Heap) (n0 : Nat) (Z0 : n0 ≤ h0.size) (SF : Own.Fst Z h0 fm) (hfm : fm.isRef = true) (b1 : ¬ x1 < 0) (b2 : ¬ y1 < x1) (b3 : ¬ z1 < y1) :
    Own.MF l Z (⟨"java/lang/String", "checkBoundsBeginEnd", "(III)V"⟩ : MethodName) jdk_42_method_158_code 3 none ws (⟨1, 0, 0, 15⟩ : Room) #[(.int x1), (.int y1), (.int z1)] h0 (QrmCbe Z x1 y1 z1 fm h0 n0) := by
  refine Own.MF.of (own := "java/lang/String") (n := 3) rfl rfl pn_51 (fun p e s m below meth c s₁ hml hlk hret hnm P0 => ?_)
  rw [show entryFrame m #[(.int x1), (.int y1), (.int z1)] 3 = mkF m 0 #[.val (.int x1), .val (.int y1), .val (.int z1)] [] from by first | (simp [entryFrame, mkF, argsToLocals, Value.category]; done) | rfl]
  refine Own.iloadN (q := 1) P0 (dc s64 0 rfl) rfl rfl ?_
  refine Own.iloadN (q := 2) P0 (dc s64 1 rfl) rfl rfl ?_
  refine Own.iloadN (q := 3) P0 (dc s64 2 rfl) rfl rfl ?_
  refine Own.getstatic (q := 6) P0 (dc s64 3 rfl) (wd hw 144 rfl) SF rfl ?_
  intro T21 P21
  refine Own.cS (q := 9) (W := 0) (rest := []) P21 (dc s64 4 rfl) (wd hw 278 rfl) (sw_50 hw) (rmCft l Z a0 hw [] x1 y1 z1 fm h0 n0 Z0 hfm b1 b2 b3) (by decide) (by decide) rfl (hml rfl) rfl rfl (by decide) (by decide) rfl ?_
  rintro v22 T22 h22 L22 ⟨rfl, N22q, e22⟩ P22
  rw [e22] at P22
  have N22 := Fr.app (Fr.nil n0) N22q
  refine Own.pop (q := 10) P22 (dc s64 5 rfl) rfl rfl ?_
  refine Own.retV P22 (dc s64 6 rfl) hret hlk (by decide) (by decide) ?_
  exact ⟨rfl, N22, rfl⟩
theorem pd_39 : parseMethodDescriptor "(III)V" = some ⟨[.int, .int, .int], none⟩ := by decide +kernel
theorem sw_51 {Z : State} {a0 : Array Value} (hw : HW a0 Z) : Own.SW Z a0 ⟨"java/lang/String", "checkBoundsBeginEnd", "(III)V"⟩ jdk_42_method_158_code 3 none 3 := ⟨(wd hw 276 rfl), (wd hw 26 rfl), (wd hw 277 rfl), by decide, _, _, pd_39, rfl⟩
theorem pd_40 : parseMethodDescriptor "([BII)Ljava/lang/String;" = some ⟨[(.array .byte), .int, .int], some (.object "java/lang/String")⟩ := by decide +kernel
theorem sw_52 {Z : State} {a0 : Array Value} (hw : HW a0 Z) : Own.SW Z a0 ⟨"java/lang/StringLatin1", "newString", "([BII)Ljava/lang/String;"⟩ jdk_43_method_47_code 3 (some (.object "java/lang/String")) 3 := ⟨(wd hw 282 rfl), (wd hw 225 rfl), (wd hw 283 rfl), by decide, _, _, pd_40, rfl⟩
theorem s65 : decs jdk_42_method_92_code [(0, .aload_n 0, 1), (1, .invokevirtual 505, 3), (4, .istore_n 3, 1), (5, .iload_n 1, 1), (6, .iload_n 2, 1), (7, .iload_n 3, 1), (8, .invokestatic 521, 3), (11, .iload_n 1, 1), (12, .ifCond .ne 10, 3), (22, .iload_n 2, 1), (23, .iload_n 1, 1), (24, .isub, 1), (25, .istore 4, 2), (27, .aload_n 0, 1), (28, .invokevirtual 492, 3), (31, .ifCond .eq 16, 3), (34, .aload_n 0, 1), (35, .getfield 9, 3), (38, .iload_n 1, 1), (39, .iload 4, 2), (41, .invokestatic 685, 3), (44, .goto 13, 3), (57, .areturn, 1)] = true := by decide +kernel
theorem pn_50 : plainFor (⟨"java/lang/String", "substring", "(II)Ljava/lang/String;"⟩ : MethodName) = true := by first | exact plainFor_of_name (by first | (simp [plainName, overriddenIn]; done) | decide +kernel) | decide +kernel
def QrmSb2E (Z : State) (a1 : Addr) (cs : List Int32) (f : Nat) (zc : Int32) (fm : Value) (h0 : Heap) (n0 : Nat) (v : Option Value) (h : Heap) (L : List Loc) : Prop := ∃ r t k, v = some (.ref r) ∧ Fr n0 L ∧ Ext h0 h ∧ h0.size ≤ r ∧ Exa Z h r "java/lang/String" ∧ Fld Z h r "java/lang/String" "value" "[B" (.ref t) ∧ Fld Z h r "java/lang/String" "coder" "B" (.int 0) ∧ Arv Z h t k .byte (Int32.ofNat (cs.drop f).length) (((cs.drop f).map fun c : Int32 => c.toInt8.toInt32).map Value.int) (.int 0) ∧ Exa Z h t "[B"
theorem rmSb2E (l : Launch) (Z : State) (a0 : Array Value) (hw : HW a0 Z) (ws : List Jvm.Cond) (a1 : Addr) (cs : List Int32) (f : Nat) (zc : Int32) (fm : Value) (h0 : Heap) (n0 : Nat) (Z0 : n0 ≤ h0.size) (SC : Own.Cst Z h0 zc) (hzc : ¬ zc = 0) (SF : Own.Fst Z h0 fm) (hfm : fm.isRef = true) (S1 : Own.Str Z h0 a1 cs) (hf : 0 < f ∧ f < cs.length ∧ cs.length ≤ 100) :
    Own.MF l Z (⟨"java/lang/String", "substring", "(II)Ljava/lang/String;"⟩ : MethodName) jdk_42_method_92_code 5 (some (.object "java/lang/String")) ws (⟨4, 2, 104, 66⟩ : Room) #[(.ref a1), (.int (Int32.ofNat f)), (.int (Int32.ofNat cs.length))] h0 (QrmSb2E Z a1 cs f zc fm h0 n0) := by
  refine Own.MF.of (own := "java/lang/String") (n := 5) rfl rfl pn_50 (fun p e s m below meth c s₁ hml hlk hret hnm P0 => ?_)
  rw [show entryFrame m #[(.ref a1), (.int (Int32.ofNat f)), (.int (Int32.ofNat cs.length))] 5 = mkF m 0 #[.val (.ref a1), .val (.int (Int32.ofNat f)), .val (.int (Int32.ofNat cs.length)), .unset, .unset] [] from by first | (simp [entryFrame, mkF, argsToLocals, Value.category]; done) | rfl]
  refine Own.aloadN (q := 1) P0 (dc s65 0 rfl) rfl rfl rfl ?_
  refine Own.cV (q := 4) (W := 0) (rest := []) P0 (dc s65 1 rfl) (wd hw 260 rfl) (vw_26 hw) (Own.nfs P0 (wd hw 50 rfl)) S1.exa (rmLn0 l Z a0 hw [] a1 cs zc h0 n0 Z0 SC hzc S1) (by decide) (by decide) rfl (hml rfl) rfl rfl (by decide) (by decide) rfl ?_
  rintro v21 T21 h21 L21 ⟨rfl, N21q, e21⟩ P21
  rw [e21] at P21
  have N21 := Fr.app (Fr.nil n0) N21q
  refine Own.istoreN (q := 5) (L2 := #[.val (.ref a1), .val (.int (Int32.ofNat f)), .val (.int (Int32.ofNat cs.length)), .val (.int (Int32.ofNat (cs : List Int32).length)), .unset]) P21 (dc s65 2 rfl) rfl rfl ?_
  refine Own.iloadN (q := 6) P21 (dc s65 3 rfl) rfl rfl ?_
  refine Own.iloadN (q := 7) P21 (dc s65 4 rfl) rfl rfl ?_
  refine Own.iloadN (q := 8) P21 (dc s65 5 rfl) rfl rfl ?_
  refine Own.cS (q := 11) (W := 0) (rest := []) P21 (dc s65 6 rfl) (wd hw 275 rfl) (sw_51 hw) (rmCbe l Z a0 hw [] (Int32.ofNat f) (Int32.ofNat cs.length) (Int32.ofNat (cs : List Int32).length) fm h0 n0 Z0 SF hfm (Own.nneg (by omega)) (by rw [Own.ofNat_lt (by omega) (by omega)]; omega) (by rw [Own.ofNat_lt (by omega) (by omega)]; exact Nat.lt_irrefl _)) (by decide) (by decide) rfl (hml rfl) rfl rfl (by decide) (by decide) rfl ?_
  rintro v22 T22 h22 L22 ⟨rfl, N22q, e22⟩ P22
  rw [e22] at P22
  have N22 := Fr.app N21 N22q
  refine Own.iloadN (q := 12) P22 (dc s65 7 rfl) rfl rfl ?_
  refine Own.if_ne (q := 15) (qy := 22) P22 (dc s65 8 rfl) (by decide) rfl (fun _ => ?_) (fun q => absurd q (Own.n0_of (by omega) (by omega)))
  refine Own.iloadN (q := 23) P22 (dc s65 9 rfl) rfl rfl ?_
  refine Own.iloadN (q := 24) P22 (dc s65 10 rfl) rfl rfl ?_
  refine Own.isub (q := 25) P22 (dc s65 11 rfl)  rfl ?_
  rw [show ((Int32.ofNat cs.length) - (Int32.ofNat f)) = (Int32.ofNat (cs.length - f)) from Own.subE (by omega)]
  refine Own.istore (q := 27) (L2 := #[.val (.ref a1), .val (.int (Int32.ofNat f)), .val (.int (Int32.ofNat cs.length)), .val (.int (Int32.ofNat (cs : List Int32).length)), .val (.int (Int32.ofNat (cs.length - f)))]) P22 (dc s65 12 rfl) rfl rfl ?_
  refine Own.aloadN (q := 28) P22 (dc s65 13 rfl) rfl rfl rfl ?_
  obtain ⟨⟨t23, kb23, y23a, y23v, y23c, y23b⟩, -, -⟩ := id S1
  refine Own.cV (q := 31) (W := 0) (rest := []) P22 (dc s65 14 rfl) (wd hw 218 rfl) (vw_3 hw) (Own.nfs P22 (wd hw 221 rfl)) S1.exa (rmSil l Z a0 hw [] a1 zc h0 n0 Z0 SC hzc y23c) (by decide) (by decide) rfl (hml rfl) rfl rfl (by decide) (by decide) rfl ?_
  rintro v24 T24 h24 L24 ⟨rfl, N24q, e24⟩ P24
  rw [e24] at P24
  have N24 := Fr.app N22 N24q
  refine Own.if_eq (q := 34) (qy := 47) P24 (dc s65 15 rfl) (by decide) rfl (fun q => absurd q (by decide)) (fun _ => ?_)
  refine Own.aloadN (q := 35) P24 (dc s65 16 rfl) rfl rfl rfl ?_
  refine Own.getfield (q := 38) P24 (dc s65 17 rfl) (wd hw 52 rfl) y23v rfl ?_
  intro T25 P25
  refine Own.iloadN (q := 39) P25 (dc s65 18 rfl) rfl rfl ?_
  refine Own.iload (q := 41) P25 (dc s65 19 rfl) rfl rfl ?_
  refine Own.cS (q := 44) (W := 0) (rest := []) P25 (dc s65 20 rfl) (wd hw 281 rfl) (sw_52 hw) (rmNsE l Z a0 hw [] t23 kb23 cs f (cs.length - f) h0 n0 Z0 y23b (by omega) (by omega)) (by decide) (by decide) rfl (hml rfl) rfl rfl (by decide) (by decide) rfl ?_
  rintro v26 T26 h26 L26 ⟨r26, t26, k26, rfl, N26q, E26, gr26, y26a, y26v, y26c, y26b, y26x⟩ P26
  have N26 := Fr.app N24 N26q
  refine Own.goto (q := 57) P26 (dc s65 21 rfl) (by decide) ?_
  refine Own.retA P26 (dc s65 22 rfl) hret rfl rfl rfl hlk (by decide) (by decide) ?_
  exact ⟨_, _, _, rfl, N26, E26, gr26, y26a, y26v, y26c, y26b, y26x⟩
theorem pd_41 : parseMethodDescriptor "(II)Ljava/lang/String;" = some ⟨[.int, .int], some (.object "java/lang/String")⟩ := by decide +kernel
theorem vw_53 {Z : State} {a0 : Array Value} (hw : HW a0 Z) : Own.VW Z a0 "java/lang/String" ⟨"java/lang/String", "substring", "(II)Ljava/lang/String;"⟩ ⟨"java/lang/String", "substring", "(II)Ljava/lang/String;"⟩ jdk_42_method_92_code 5 (some (.object "java/lang/String")) 2 := ⟨(wd hw 271 rfl), (wd hw 273 rfl), (wd hw 272 rfl), (wd hw 26 rfl), (wd hw 274 rfl), by decide, _, _, pd_41, rfl⟩
theorem s66 : decs jdk_42_method_91_code [(0, .aload_n 0, 1), (1, .iload_n 1, 1), (2, .aload_n 0, 1), (3, .invokevirtual 505, 3), (6, .invokevirtual 681, 3), (9, .areturn, 1)] = true := by decide +kernel
theorem pn_49 : plainFor (⟨"java/lang/String", "substring", "(I)Ljava/lang/String;"⟩ : MethodName) = true := by first | exact plainFor_of_name (by first | (simp [plainName, overriddenIn]; done) | decide +kernel) | decide +kernel
def QrmSb1E (Z : State) (a1 : Addr) (cs : List Int32) (f : Nat) (zc : Int32) (fm : Value) (h0 : Heap) (n0 : Nat) (v : Option Value) (h : Heap) (L : List Loc) : Prop := ∃ r t k, v = some (.ref r) ∧ Fr n0 L ∧ Ext h0 h ∧ h0.size ≤ r ∧ Exa Z h r "java/lang/String" ∧ Fld Z h r "java/lang/String" "value" "[B" (.ref t) ∧ Fld Z h r "java/lang/String" "coder" "B" (.int 0) ∧ Arv Z h t k .byte (Int32.ofNat (cs.drop f).length) (((cs.drop f).map fun c : Int32 => c.toInt8.toInt32).map Value.int) (.int 0) ∧ Exa Z h t "[B"
theorem rmSb1E (l : Launch) (Z : State) (a0 : Array Value) (hw : HW a0 Z) (ws : List Jvm.Cond) (a1 : Addr) (cs : List Int32) (f : Nat) (zc : Int32) (fm : Value) (h0 : Heap) (n0 : Nat) (Z0 : n0 ≤ h0.size) (SC : Own.Cst Z h0 zc) (hzc : ¬ zc = 0) (SF : Own.Fst Z h0 fm) (hfm : fm.isRef = true) (S1 : Own.Str Z h0 a1 cs) (hf : 0 < f ∧ f < cs.length ∧ cs.length ≤ 100) :
    Own.MF l Z (⟨"java/lang/String", "substring", "(I)Ljava/lang/String;"⟩ : MethodName) jdk_42_method_91_code 2 (some (.object "java/lang/String")) ws (⟨5, 2, 104, 82⟩ : Room) #[(.ref a1), (.int (Int32.ofNat f))] h0 (QrmSb1E Z a1 cs f zc fm h0 n0) := by
  refine Own.MF.of (own := "java/lang/String") (n := 2) rfl rfl pn_49 (fun p e s m below meth c s₁ hml hlk hret hnm P0 => ?_)
  rw [show entryFrame m #[(.ref a1), (.int (Int32.ofNat f))] 2 = mkF m 0 #[.val (.ref a1), .val (.int (Int32.ofNat f))] [] from by first | (simp [entryFrame, mkF, argsToLocals, Value.category]; done) | rfl]
  refine Own.aloadN (q := 1) P0 (dc s66 0 rfl) rfl rfl rfl ?_
  refine Own.iloadN (q := 2) P0 (dc s66 1 rfl) rfl rfl ?_
  refine Own.aloadN (q := 3) P0 (dc s66 2 rfl) rfl rfl rfl ?_
  refine Own.cV (q := 6) (W := 2) (rest := [(.int (Int32.ofNat f)), (.ref a1)]) P0 (dc s66 3 rfl) (wd hw 260 rfl) (vw_26 hw) (Own.nfs P0 (wd hw 50 rfl)) S1.exa (rmLn0 l Z a0 hw [] a1 cs zc h0 n0 Z0 SC hzc S1) (by decide) (by decide) rfl (hml rfl) rfl rfl (by decide) (by decide) rfl ?_
  rintro v21 T21 h21 L21 ⟨rfl, N21q, e21⟩ P21
  rw [e21] at P21
  have N21 := Fr.app (Fr.nil n0) N21q
  refine Own.cV (q := 9) (W := 0) (rest := []) P21 (dc s66 4 rfl) (wd hw 270 rfl) (vw_53 hw) (Own.nfs P21 (wd hw 273 rfl)) S1.exa (rmSb2E l Z a0 hw [] a1 cs f zc fm h0 n0 Z0 SC hzc SF hfm S1 hf) (by decide) (by decide) rfl (hml rfl) rfl rfl (by decide) (by decide) rfl ?_
  rintro v22 T22 h22 L22 ⟨r22, t22, k22, rfl, N22q, E22, gr22, y22a, y22v, y22c, y22b, y22x⟩ P22
  have N22 := Fr.app N21 N22q
  refine Own.retA P22 (dc s66 5 rfl) hret rfl rfl rfl hlk (by decide) (by decide) ?_
  exact ⟨_, _, _, rfl, N22, E22, gr22, y22a, y22v, y22c, y22b, y22x⟩
theorem s67 : decs jdk_48_method_14_code [(0, .iconst 0, 1), (1, .istore 5, 2), (3, .iload 4, 2), (5, .bipush 7, 2), (7, .if_icmp .le 63, 3), (70, .iload 5, 2), (72, .iload 4, 2), (74, .if_icmp .ge 27, 3), (77, .aload_n 0, 1), (78, .iload_n 1, 1), (79, .iload 5, 2), (81, .iadd, 1), (82, .baload, 1), (83, .aload_n 2, 1), (84, .iload_n 3, 1), (85, .iload 5, 2), (87, .iadd, 1), (88, .baload, 1), (89, .if_icmp .eq 6, 3), (95, .iinc 5 1, 3), (98, .goto (-28), 3), (101, .iconst (-1), 1), (102, .ireturn, 1)] = true := by decide +kernel
theorem pn_48 : plainFor (⟨"jdk/internal/util/ArraysSupport", "mismatch", "([BI[BII)I"⟩ : MethodName) = true := by first | exact plainFor_of_name (by first | (simp [plainName, overriddenIn]; done) | decide +kernel) | decide +kernel
def QrmMmE (Z : State) (t1 : Addr) (k1 : ClassId) (cs : List Int32) (t2 : Addr) (k2 : ClassId) (ds : List Int32) (h0 : Heap) (n0 : Nat) (v : Option Value) (h : Heap) (L : List Loc) : Prop := v = some (.int (-1)) ∧ Fr n0 L ∧ h = h0
theorem rmMmE (l : Launch) (Z : State) (a0 : Array Value) (hw : HW a0 Z) (ws : List Jvm.Cond) (t1 : Addr) (k1 : ClassId) (cs : List Int32) (t2 : Addr) (k2 : ClassId) (ds : List Int32) (h0 : Heap) (n0 : Nat) (Z0 : n0 ≤ h0.size) (A1 : Arv Z h0 t1 k1 .byte (Int32.ofNat cs.length) ((cs.map fun c : Int32 => c.toInt8.toInt32).map Value.int) (.int 0)) (A2 : Arv Z h0 t2 k2 .byte (Int32.ofNat ds.length) ((ds.map fun c : Int32 => c.toInt8.toInt32).map Value.int) (.int 0)) (hfn : ds.length ≤ cs.length) (hl : cs.length ≤ 4000) (hd7 : ds.length ≤ 7) (heq : ∀ i, i < ds.length → cs.getD i 0 = ds.getD i 0) :
    Own.MF l Z (⟨"jdk/internal/util/ArraysSupport", "mismatch", "([BI[BII)I"⟩ : MethodName) jdk_48_method_14_code 8 (some .int) ws (⟨0, 0, 0, 0⟩ : Room) #[(.ref t1), (.int (0 : Int32)), (.ref t2), (.int (0 : Int32)), (.int (Int32.ofNat ds.length))] h0 (QrmMmE Z t1 k1 cs t2 k2 ds h0 n0) := by
  refine Own.MF.of (own := "jdk/internal/util/ArraysSupport") (n := 8) rfl rfl pn_48 (fun p e s m below meth c s₁ hml hlk hret hnm P0 => ?_)
  rw [show entryFrame m #[(.ref t1), (.int (0 : Int32)), (.ref t2), (.int (0 : Int32)), (.int (Int32.ofNat ds.length))] 8 = mkF m 0 #[.val (.ref t1), .val (.int (0 : Int32)), .val (.ref t2), .val (.int (0 : Int32)), .val (.int (Int32.ofNat ds.length)), .unset, .unset, .unset] [] from by first | (simp [entryFrame, mkF, argsToLocals, Value.category]; done) | rfl]
  refine Own.iconst (q := 1) (v := (0 : Int32)) P0 (dc s67 0 rfl) rfl rfl ?_
  refine Own.istore (q := 3) (L2 := #[.val (.ref t1), .val (.int (0 : Int32)), .val (.ref t2), .val (.int (0 : Int32)), .val (.int (Int32.ofNat ds.length)), .val (.int (0 : Int32)), .unset, .unset]) P0 (dc s67 1 rfl) rfl rfl ?_
  refine Own.iload (q := 5) P0 (dc s67 2 rfl) rfl rfl ?_
  refine Own.bipush (q := 7) (v := (7 : Int32)) P0 (dc s67 3 rfl) rfl rfl ?_
  refine Own.icmp_le (q := 10) (qy := 70) P0 (dc s67 4 rfl) (by decide) rfl (fun _ => ?_) (fun q => absurd q (by rw [show (7 : Int32) = Int32.ofNat 7 from rfl, Own.ofNat_lt (by decide) (by omega)]; omega))
  have loop : ∀ (kk i : Nat), ds.length ≤ i + kk → i ≤ ds.length → ∀ (T21 : State) (lc21 : List Loc), Own.Wk Z "jdk/internal/util/ArraysSupport" jdk_48_method_14_code h0 p l e (⟨0, 0, 0, 0⟩ : Room) s m #[(.ref t1), (.int (0 : Int32)), (.ref t2), (.int (0 : Int32)), (.int (Int32.ofNat ds.length))] below meth c T21 lc21 0 0 → Fr n0 lc21 → Own.Goes p.tables e below (Own.KE (QrmMmE Z t1 k1 cs t2 k2 ds h0 n0) s (⟨0, 0, 0, 0⟩ : Room).cells (⟨0, 0, 0, 0⟩ : Room).slots) (T21.setTop (mkF m 70 #[.val (.ref t1), .val (.int (0 : Int32)), .val (.ref t2), .val (.int (0 : Int32)), .val (.int (Int32.ofNat ds.length)), .val (.int (Int32.ofNat i)), .unset, .unset] [])) := by
    intro kk
    induction kk with
    | zero =>
      intro i hk hi T21 lc21 P21 N21
      refine Own.iload (q := 72) P21 (dc s67 5 rfl) rfl rfl ?_
      refine Own.iload (q := 74) P21 (dc s67 6 rfl) rfl rfl ?_
      refine Own.icmp_ge (q := 77) (qy := 101) P21 (dc s67 7 rfl) (by decide) rfl (fun _ => ?_) (fun q => absurd q (by rw [Own.ofNat_lt (by omega) (by omega)]; omega))
      refine Own.iconst (q := 102) (v := (-1 : Int32)) P21 (dc s67 21 rfl) rfl rfl ?_
      refine Own.retI P21 (dc s67 22 rfl) hret hlk (by decide) (by decide) ?_
      exact ⟨rfl, N21, rfl⟩
    | succ kk ih =>
      intro i hk hi T21 lc21 P21 N21
      refine Own.iload (q := 72) P21 (dc s67 5 rfl) rfl rfl ?_
      refine Own.iload (q := 74) P21 (dc s67 6 rfl) rfl rfl ?_
      refine Own.icmp_ge (q := 77) (qy := 101) P21 (dc s67 7 rfl) (by decide) rfl (fun q74 => ?_) (fun q74 => ?_)
      · refine Own.iconst (q := 102) (v := (-1 : Int32)) P21 (dc s67 21 rfl) rfl rfl ?_
        refine Own.retI P21 (dc s67 22 rfl) hret hlk (by decide) (by decide) ?_
        exact ⟨rfl, N21, rfl⟩
      · have hi2 : i < ds.length := (Own.ofNat_lt (by omega) (by omega)).mp q74
        refine Own.aloadN (q := 78) P21 (dc s67 8 rfl) rfl rfl rfl ?_
        refine Own.iloadN (q := 79) P21 (dc s67 9 rfl) rfl rfl ?_
        refine Own.iload (q := 81) P21 (dc s67 10 rfl) rfl rfl ?_
        refine Own.iadd (q := 82) P21 (dc s67 11 rfl)  rfl ?_
        rw [show ((0 : Int32) + (Int32.ofNat i)) = (Int32.ofNat i) from Int32.zero_add _]
        refine Own.bget (q := 83) (i := i) P21 (dc s67 12 rfl) A1 (by omega) (by omega) rfl ?_
        refine Own.aloadN (q := 84) P21 (dc s67 13 rfl) rfl rfl rfl ?_
        refine Own.iloadN (q := 85) P21 (dc s67 14 rfl) rfl rfl ?_
        refine Own.iload (q := 87) P21 (dc s67 15 rfl) rfl rfl ?_
        refine Own.iadd (q := 88) P21 (dc s67 16 rfl)  rfl ?_
        rw [show ((0 : Int32) + (Int32.ofNat i)) = (Int32.ofNat i) from Int32.zero_add _]
        refine Own.bget (q := 89) (i := i) P21 (dc s67 17 rfl) A2 (by omega) (by omega) rfl ?_
        refine Own.icmp_eq (q := 92) (qy := 95) P21 (dc s67 18 rfl) (by decide) rfl (fun _ => ?_) (fun q => absurd (by rw [heq i hi2]) q)
        refine Own.iinc (q := 98) (v := (1 : Int32)) (L2 := #[.val (.ref t1), .val (.int (0 : Int32)), .val (.ref t2), .val (.int (0 : Int32)), .val (.int (Int32.ofNat ds.length)), .val (.int ((Int32.ofNat i) + (1 : Int32))), .unset, .unset]) P21 (dc s67 19 rfl) rfl rfl rfl rfl ?_
        rw [show (Int32.ofNat i + (1 : Int32)) = Int32.ofNat (i + 1) from (Int32.ofNat_add i 1).symm]
        refine Own.goto (q := 70) P21 (dc s67 20 rfl) (by decide) ?_
        exact ih (i + 1) (by omega) hi2 _ _ P21 N21
  exact loop ds.length 0 (Nat.le_of_eq (Nat.zero_add _).symm) (Nat.zero_le _) _ _ P0 (Fr.nil n0)
theorem pd_42 : parseMethodDescriptor "([BI[BII)I" = some ⟨[(.array .byte), .int, (.array .byte), .int, .int], some .int⟩ := by decide +kernel
theorem sw_54 {Z : State} {a0 : Array Value} (hw : HW a0 Z) : Own.SW Z a0 ⟨"jdk/internal/util/ArraysSupport", "mismatch", "([BI[BII)I"⟩ jdk_48_method_14_code 8 (some .int) 5 := ⟨(wd hw 262 rfl), (wd hw 169 rfl), (wd hw 263 rfl), by decide, _, _, pd_42, rfl⟩
theorem s68 : decs jdk_42_method_75_code [(0, .iload_n 2, 1), (1, .ifCond .lt 16, 3), (4, .iload_n 2, 1), (5, .aload_n 0, 1), (6, .invokevirtual 505, 3), (9, .aload_n 1, 1), (10, .invokevirtual 505, 3), (13, .isub, 1), (14, .if_icmp .le 5, 3), (19, .aload_n 0, 1), (20, .getfield 9, 3), (23, .astore_n 3, 1), (24, .aload_n 1, 1), (25, .getfield 9, 3), (28, .astore 4, 2), (30, .iconst 0, 1), (31, .istore 5, 2), (33, .aload 4, 2), (35, .arraylength, 1), (36, .istore 6, 2), (38, .aload_n 0, 1), (39, .invokevirtual 335, 3), (42, .istore 7, 2), (44, .iload 7, 2), (46, .aload_n 1, 1), (47, .invokevirtual 335, 3), (50, .if_icmp .ne 32, 3), (53, .iload 7, 2), (55, .iconst 1, 1), (56, .if_icmp .ne 7, 3), (63, .aload_n 3, 1), (64, .iload_n 2, 1), (65, .aload 4, 2), (67, .iconst 0, 1), (68, .iload 6, 2), (70, .invokestatic 607, 3), (73, .ifCond .ge 7, 3), (76, .iconst 1, 1), (77, .goto 4, 3), (81, .ireturn, 1)] = true := by decide +kernel
theorem pn_47 : plainFor (⟨"java/lang/String", "startsWith", "(Ljava/lang/String;I)Z"⟩ : MethodName) = true := by first | exact plainFor_of_name (by first | (simp [plainName, overriddenIn]; done) | decide +kernel) | decide +kernel
def QrmSwE (Z : State) (a1 : Addr) (cs : List Int32) (a2 : Addr) (ds : List Int32) (zc : Int32) (h0 : Heap) (n0 : Nat) (v : Option Value) (h : Heap) (L : List Loc) : Prop := v = some (.int 1) ∧ Fr n0 L ∧ h = h0
theorem rmSwE (l : Launch) (Z : State) (a0 : Array Value) (hw : HW a0 Z) (ws : List Jvm.Cond) (a1 : Addr) (cs : List Int32) (a2 : Addr) (ds : List Int32) (zc : Int32) (h0 : Heap) (n0 : Nat) (Z0 : n0 ≤ h0.size) (SC : Own.Cst Z h0 zc) (hzc : ¬ zc = 0) (S1 : Own.Str Z h0 a1 cs) (S2 : Own.Str Z h0 a2 ds) (hfn : ds.length ≤ cs.length) (hd7 : ds.length ≤ 7) (heq : ∀ i, i < ds.length → cs.getD i 0 = ds.getD i 0) :
    Own.MF l Z (⟨"java/lang/String", "startsWith", "(Ljava/lang/String;I)Z"⟩ : MethodName) jdk_42_method_75_code 8 (some .boolean) ws (⟨2, 0, 0, 30⟩ : Room) #[(.ref a1), (.ref a2), (.int (0 : Int32))] h0 (QrmSwE Z a1 cs a2 ds zc h0 n0) := by
  refine Own.MF.of (own := "java/lang/String") (n := 8) rfl rfl pn_47 (fun p e s m below meth c s₁ hml hlk hret hnm P0 => ?_)
  rw [show entryFrame m #[(.ref a1), (.ref a2), (.int (0 : Int32))] 8 = mkF m 0 #[.val (.ref a1), .val (.ref a2), .val (.int (0 : Int32)), .unset, .unset, .unset, .unset, .unset] [] from by first | (simp [entryFrame, mkF, argsToLocals, Value.category]; done) | rfl]
  have hl := S1.2.2
  refine Own.iloadN (q := 1) P0 (dc s68 0 rfl) rfl rfl ?_
  refine Own.if_lt (q := 4) (qy := 17) P0 (dc s68 1 rfl) (by decide) rfl (fun q => absurd q (by decide)) (fun _ => ?_)
  refine Own.iloadN (q := 5) P0 (dc s68 2 rfl) rfl rfl ?_
  refine Own.aloadN (q := 6) P0 (dc s68 3 rfl) rfl rfl rfl ?_
  refine Own.cV (q := 9) (W := 1) (rest := [(.int (0 : Int32))]) P0 (dc s68 4 rfl) (wd hw 260 rfl) (vw_26 hw) (Own.nfs P0 (wd hw 50 rfl)) S1.exa (rmLn0 l Z a0 hw [] a1 cs zc h0 n0 Z0 SC hzc S1) (by decide) (by decide) rfl (hml rfl) rfl rfl (by decide) (by decide) rfl ?_
  rintro v21 T21 h21 L21 ⟨rfl, N21q, e21⟩ P21
  rw [e21] at P21
  have N21 := Fr.app (Fr.nil n0) N21q
  refine Own.aloadN (q := 10) P21 (dc s68 5 rfl) rfl rfl rfl ?_
  refine Own.cV (q := 13) (W := 2) (rest := [(.int (Int32.ofNat (cs : List Int32).length)), (.int (0 : Int32))]) P21 (dc s68 6 rfl) (wd hw 260 rfl) (vw_26 hw) (Own.nfs P21 (wd hw 50 rfl)) S2.exa (rmLn0 l Z a0 hw [] a2 ds zc h0 n0 Z0 SC hzc S2) (by decide) (by decide) rfl (hml rfl) rfl rfl (by decide) (by decide) rfl ?_
  rintro v22 T22 h22 L22 ⟨rfl, N22q, e22⟩ P22
  rw [e22] at P22
  have N22 := Fr.app N21 N22q
  refine Own.isub (q := 14) P22 (dc s68 7 rfl)  rfl ?_
  refine Own.icmp_le (q := 17) (qy := 19) P22 (dc s68 8 rfl) (by decide) rfl (fun _ => ?_) (fun q => absurd q (by rw [Own.subE (e := cs.length) (f := ds.length) (n := cs.length - ds.length) (by omega)]; exact Own.nneg (by omega)))
  refine Own.aloadN (q := 20) P22 (dc s68 9 rfl) rfl rfl rfl ?_
  obtain ⟨⟨t23, kb23, y23a, y23v, y23c, y23b⟩, -, -⟩ := id S1
  refine Own.getfield (q := 23) P22 (dc s68 10 rfl) (wd hw 52 rfl) y23v rfl ?_
  intro T24 P24
  refine Own.astoreN (q := 24) (L2 := #[.val (.ref a1), .val (.ref a2), .val (.int (0 : Int32)), .val (.ref t23), .unset, .unset, .unset, .unset]) P24 (dc s68 11 rfl) rfl rfl rfl ?_
  refine Own.aloadN (q := 25) P24 (dc s68 12 rfl) rfl rfl rfl ?_
  obtain ⟨⟨t25, kb25, y25a, y25v, y25c, y25b⟩, -, -⟩ := id S2
  refine Own.getfield (q := 28) P24 (dc s68 13 rfl) (wd hw 52 rfl) y25v rfl ?_
  intro T26 P26
  refine Own.astore (q := 30) (L2 := #[.val (.ref a1), .val (.ref a2), .val (.int (0 : Int32)), .val (.ref t23), .val (.ref t25), .unset, .unset, .unset]) P26 (dc s68 14 rfl) rfl rfl rfl ?_
  refine Own.iconst (q := 31) (v := (0 : Int32)) P26 (dc s68 15 rfl) rfl rfl ?_
  refine Own.istore (q := 33) (L2 := #[.val (.ref a1), .val (.ref a2), .val (.int (0 : Int32)), .val (.ref t23), .val (.ref t25), .val (.int (0 : Int32)), .unset, .unset]) P26 (dc s68 16 rfl) rfl rfl ?_
  refine Own.aload (q := 35) P26 (dc s68 17 rfl) rfl rfl rfl ?_
  refine Own.arraylength (q := 36) P26 (dc s68 18 rfl) y25b rfl ?_
  refine Own.istore (q := 38) (L2 := #[.val (.ref a1), .val (.ref a2), .val (.int (0 : Int32)), .val (.ref t23), .val (.ref t25), .val (.int (0 : Int32)), .val (.int (Int32.ofNat (ds : List Int32).length)), .unset]) P26 (dc s68 19 rfl) rfl rfl ?_
  refine Own.aloadN (q := 39) P26 (dc s68 20 rfl) rfl rfl rfl ?_
  refine Own.cV (q := 42) (W := 0) (rest := []) P26 (dc s68 21 rfl) (wd hw 53 rfl) (vw_0 hw) (Own.nfs P26 (wd hw 56 rfl)) S1.exa (rmCod l Z a0 hw [] a1 zc h0 n0 Z0 SC hzc y23c) (by decide) (by decide) rfl (hml rfl) rfl rfl (by decide) (by decide) rfl ?_
  rintro v27 T27 h27 L27 ⟨rfl, N27q, e27⟩ P27
  rw [e27] at P27
  have N27 := Fr.app N22 N27q
  refine Own.istore (q := 44) (L2 := #[.val (.ref a1), .val (.ref a2), .val (.int (0 : Int32)), .val (.ref t23), .val (.ref t25), .val (.int (0 : Int32)), .val (.int (Int32.ofNat (ds : List Int32).length)), .val (.int (0 : Int32))]) P27 (dc s68 22 rfl) rfl rfl ?_
  refine Own.iload (q := 46) P27 (dc s68 23 rfl) rfl rfl ?_
  refine Own.aloadN (q := 47) P27 (dc s68 24 rfl) rfl rfl rfl ?_
  refine Own.cV (q := 50) (W := 1) (rest := [(.int (0 : Int32))]) P27 (dc s68 25 rfl) (wd hw 53 rfl) (vw_0 hw) (Own.nfs P27 (wd hw 56 rfl)) S2.exa (rmCod l Z a0 hw [] a2 zc h0 n0 Z0 SC hzc y25c) (by decide) (by decide) rfl (hml rfl) rfl rfl (by decide) (by decide) rfl ?_
  rintro v28 T28 h28 L28 ⟨rfl, N28q, e28⟩ P28
  rw [e28] at P28
  have N28 := Fr.app N27 N28q
  refine Own.icmp_ne (q := 53) (qy := 82) P28 (dc s68 26 rfl) (by decide) rfl (fun q => absurd rfl q) (fun _ => ?_)
  refine Own.iload (q := 55) P28 (dc s68 27 rfl) rfl rfl ?_
  refine Own.iconst (q := 56) (v := (1 : Int32)) P28 (dc s68 28 rfl) rfl rfl ?_
  refine Own.icmp_ne (q := 59) (qy := 63) P28 (dc s68 29 rfl) (by decide) rfl (fun _ => ?_) (fun q => absurd q (by decide))
  refine Own.aloadN (q := 64) P28 (dc s68 30 rfl) rfl rfl rfl ?_
  refine Own.iloadN (q := 65) P28 (dc s68 31 rfl) rfl rfl ?_
  refine Own.aload (q := 67) P28 (dc s68 32 rfl) rfl rfl rfl ?_
  refine Own.iconst (q := 68) (v := (0 : Int32)) P28 (dc s68 33 rfl) rfl rfl ?_
  refine Own.iload (q := 70) P28 (dc s68 34 rfl) rfl rfl ?_
  refine Own.cS (q := 73) (W := 0) (rest := []) P28 (dc s68 35 rfl) (wd hw 261 rfl) (sw_54 hw) (rmMmE l Z a0 hw [] t23 kb23 cs t25 kb25 ds h0 n0 Z0 y23b y25b hfn hl hd7 heq) (by decide) (by decide) rfl (hml rfl) rfl rfl (by decide) (by decide) rfl ?_
  rintro v29 T29 h29 L29 ⟨rfl, N29q, e29⟩ P29
  rw [e29] at P29
  have N29 := Fr.app N28 N29q
  refine Own.if_ge (q := 76) (qy := 80) P29 (dc s68 36 rfl) (by decide) rfl (fun q => absurd (by decide) q) (fun _ => ?_)
  refine Own.iconst (q := 77) (v := (1 : Int32)) P29 (dc s68 37 rfl) rfl rfl ?_
  refine Own.goto (q := 81) P29 (dc s68 38 rfl) (by decide) ?_
  refine Own.retZ P29 (dc s68 39 rfl) hret (by simp) hlk (by decide) (by decide) ?_
  exact ⟨rfl, N29, rfl⟩
theorem pd_43 : parseMethodDescriptor "(Ljava/lang/String;I)Z" = some ⟨[(.object "java/lang/String"), .int], some .boolean⟩ := by decide +kernel
theorem vw_55 {Z : State} {a0 : Array Value} (hw : HW a0 Z) : Own.VW Z a0 "java/lang/String" ⟨"java/lang/String", "startsWith", "(Ljava/lang/String;I)Z"⟩ ⟨"java/lang/String", "startsWith", "(Ljava/lang/String;I)Z"⟩ jdk_42_method_75_code 8 (some .boolean) 2 := ⟨(wd hw 256 rfl), (wd hw 258 rfl), (wd hw 257 rfl), (wd hw 26 rfl), (wd hw 259 rfl), by decide, _, _, pd_43, rfl⟩
theorem s69 : decs jdk_42_method_76_code [(0, .aload_n 0, 1), (1, .aload_n 1, 1), (2, .iconst 0, 1), (3, .invokevirtual 624, 3), (6, .ireturn, 1)] = true := by decide +kernel
theorem pn_46 : plainFor (⟨"java/lang/String", "startsWith", "(Ljava/lang/String;)Z"⟩ : MethodName) = true := by first | exact plainFor_of_name (by first | (simp [plainName, overriddenIn]; done) | decide +kernel) | decide +kernel
def QrmSw1E (Z : State) (a1 : Addr) (cs : List Int32) (a2 : Addr) (ds : List Int32) (zc : Int32) (h0 : Heap) (n0 : Nat) (v : Option Value) (h : Heap) (L : List Loc) : Prop := v = some (.int 1) ∧ Fr n0 L ∧ h = h0
theorem rmSw1E (l : Launch) (Z : State) (a0 : Array Value) (hw : HW a0 Z) (ws : List Jvm.Cond) (a1 : Addr) (cs : List Int32) (a2 : Addr) (ds : List Int32) (zc : Int32) (h0 : Heap) (n0 : Nat) (Z0 : n0 ≤ h0.size) (SC : Own.Cst Z h0 zc) (hzc : ¬ zc = 0) (S1 : Own.Str Z h0 a1 cs) (S2 : Own.Str Z h0 a2 ds) (hfn : ds.length ≤ cs.length) (hd7 : ds.length ≤ 7) (heq : ∀ i, i < ds.length → cs.getD i 0 = ds.getD i 0) :
    Own.MF l Z (⟨"java/lang/String", "startsWith", "(Ljava/lang/String;)Z"⟩ : MethodName) jdk_42_method_76_code 2 (some .boolean) ws (⟨3, 0, 0, 52⟩ : Room) #[(.ref a1), (.ref a2)] h0 (QrmSw1E Z a1 cs a2 ds zc h0 n0) := by
  refine Own.MF.of (own := "java/lang/String") (n := 2) rfl rfl pn_46 (fun p e s m below meth c s₁ hml hlk hret hnm P0 => ?_)
  rw [show entryFrame m #[(.ref a1), (.ref a2)] 2 = mkF m 0 #[.val (.ref a1), .val (.ref a2)] [] from by first | (simp [entryFrame, mkF, argsToLocals, Value.category]; done) | rfl]
  refine Own.aloadN (q := 1) P0 (dc s69 0 rfl) rfl rfl rfl ?_
  refine Own.aloadN (q := 2) P0 (dc s69 1 rfl) rfl rfl rfl ?_
  refine Own.iconst (q := 3) (v := (0 : Int32)) P0 (dc s69 2 rfl) rfl rfl ?_
  refine Own.cV (q := 6) (W := 0) (rest := []) P0 (dc s69 3 rfl) (wd hw 255 rfl) (vw_55 hw) (Own.nfs P0 (wd hw 258 rfl)) S1.exa (rmSwE l Z a0 hw [] a1 cs a2 ds zc h0 n0 Z0 SC hzc S1 S2 hfn hd7 heq) (by decide) (by decide) rfl (hml rfl) rfl rfl (by decide) (by decide) rfl ?_
  rintro v21 T21 h21 L21 ⟨rfl, N21q, e21⟩ P21
  rw [e21] at P21
  have N21 := Fr.app (Fr.nil n0) N21q
  refine Own.retZ P21 (dc s69 4 rfl) hret (by simp) hlk (by decide) (by decide) ?_
  exact ⟨rfl, N21, rfl⟩
theorem s70 : decs jdk_31_method_11_code [(0, .aload_n 0, 1), (1, .ifnonnull 12, 3), (13, .aload_n 0, 1), (14, .areturn, 1)] = true := by decide +kernel
theorem pn_45 : plainFor (⟨"java/util/Objects", "requireNonNull", "(Ljava/lang/Object;Ljava/lang/String;)Ljava/lang/Object;"⟩ : MethodName) = true := by first | exact plainFor_of_name (by first | (simp [plainName, overriddenIn]; done) | decide +kernel) | decide +kernel
def QrmRnn (Z : State) (a1 : Addr) (a2 : Addr) (h0 : Heap) (n0 : Nat) (v : Option Value) (h : Heap) (L : List Loc) : Prop := v = some (.ref a1) ∧ Fr n0 L ∧ h = h0
theorem rmRnn (l : Launch) (Z : State) (a0 : Array Value) (hw : HW a0 Z) (ws : List Jvm.Cond) (a1 : Addr) (a2 : Addr) (h0 : Heap) (n0 : Nat) (Z0 : n0 ≤ h0.size)  :
    Own.MF l Z (⟨"java/util/Objects", "requireNonNull", "(Ljava/lang/Object;Ljava/lang/String;)Ljava/lang/Object;"⟩ : MethodName) jdk_31_method_11_code 2 (some (.object "java/lang/Object")) ws (⟨0, 0, 0, 0⟩ : Room) #[(.ref a1), (.ref a2)] h0 (QrmRnn Z a1 a2 h0 n0) := by
  refine Own.MF.of (own := "java/util/Objects") (n := 2) rfl rfl pn_45 (fun p e s m below meth c s₁ hml hlk hret hnm P0 => ?_)
  rw [show entryFrame m #[(.ref a1), (.ref a2)] 2 = mkF m 0 #[.val (.ref a1), .val (.ref a2)] [] from by first | (simp [entryFrame, mkF, argsToLocals, Value.category]; done) | rfl]
  refine Own.aloadN (q := 1) P0 (dc s70 0 rfl) rfl rfl rfl ?_
  refine Own.nonnullY (q := 13) P0 (dc s70 1 rfl) (by decide) ?_
  refine Own.aloadN (q := 14) P0 (dc s70 2 rfl) rfl rfl rfl ?_
  refine Own.retA P0 (dc s70 3 rfl) hret rfl rfl rfl hlk (by decide) (by decide) ?_
  exact ⟨rfl, (Fr.nil n0), rfl⟩
theorem pd_44 : parseMethodDescriptor "(Ljava/lang/Object;Ljava/lang/String;)Ljava/lang/Object;" = some ⟨[(.object "java/lang/Object"), (.object "java/lang/String")], some (.object "java/lang/Object")⟩ := by decide +kernel
theorem sw_56 {Z : State} {a0 : Array Value} (hw : HW a0 Z) : Own.SW Z a0 ⟨"java/util/Objects", "requireNonNull", "(Ljava/lang/Object;Ljava/lang/String;)Ljava/lang/Object;"⟩ jdk_31_method_11_code 2 (some (.object "java/lang/Object")) 2 := ⟨(wd hw 247 rfl), (wd hw 248 rfl), (wd hw 249 rfl), by decide, _, _, pd_44, rfl⟩
theorem pd_45 : parseMethodDescriptor "(Ljava/lang/String;)Z" = some ⟨[(.object "java/lang/String")], some .boolean⟩ := by decide +kernel
theorem vw_57 {Z : State} {a0 : Array Value} (hw : HW a0 Z) : Own.VW Z a0 "java/lang/String" ⟨"java/lang/String", "startsWith", "(Ljava/lang/String;)Z"⟩ ⟨"java/lang/String", "startsWith", "(Ljava/lang/String;)Z"⟩ jdk_42_method_76_code 2 (some .boolean) 1 := ⟨(wd hw 251 rfl), (wd hw 253 rfl), (wd hw 252 rfl), (wd hw 26 rfl), (wd hw 254 rfl), by decide, _, _, pd_45, rfl⟩
theorem pd_46 : parseMethodDescriptor "(I)Ljava/lang/String;" = some ⟨[.int], some (.object "java/lang/String")⟩ := by decide +kernel
theorem vw_58 {Z : State} {a0 : Array Value} (hw : HW a0 Z) : Own.VW Z a0 "java/lang/String" ⟨"java/lang/String", "substring", "(I)Ljava/lang/String;"⟩ ⟨"java/lang/String", "substring", "(I)Ljava/lang/String;"⟩ jdk_42_method_91_code 2 (some (.object "java/lang/String")) 1 := ⟨(wd hw 266 rfl), (wd hw 268 rfl), (wd hw 267 rfl), (wd hw 26 rfl), (wd hw 269 rfl), by decide, _, _, pd_46, rfl⟩
theorem pd_47 : parseMethodDescriptor "()Ljava/util/Base64$Decoder;" = some ⟨[], some (.object "java/util/Base64$Decoder")⟩ := by decide +kernel
theorem sw_59 {Z : State} {a0 : Array Value} (hw : HW a0 Z) : Own.SW Z a0 ⟨"java/util/Base64", "getDecoder", "()Ljava/util/Base64$Decoder;"⟩ jdk_2448_method_6_code 0 (some (.object "java/util/Base64$Decoder")) 0 := ⟨(wd hw 296 rfl), (wd hw 89 rfl), (wd hw 297 rfl), by decide, _, _, pd_47, rfl⟩
theorem pd_48 : parseMethodDescriptor "(Ljava/lang/String;)[B" = some ⟨[(.object "java/lang/String")], some (.array .byte)⟩ := by decide +kernel
theorem vw_60 {Z : State} {a0 : Array Value} (hw : HW a0 Z) : Own.VW Z a0 "java/util/Base64$Decoder" ⟨"java/util/Base64$Decoder", "decode", "(Ljava/lang/String;)[B"⟩ ⟨"java/util/Base64$Decoder", "decode", "(Ljava/lang/String;)[B"⟩ jdk_2450_method_3_code 2 (some (.array .byte)) 1 := ⟨(wd hw 301 rfl), (wd hw 303 rfl), (wd hw 302 rfl), (wd hw 299 rfl), (wd hw 304 rfl), by decide, _, _, pd_48, rfl⟩
theorem pd_49 : parseMethodDescriptor "(Ljava/lang/Object;)Z" = some ⟨[(.object "java/lang/Object")], some .boolean⟩ := by decide +kernel
theorem vw_61 {Z : State} {a0 : Array Value} (hw : HW a0 Z) : Own.VW Z a0 "java/lang/String" ⟨"java/lang/String", "equals", "(Ljava/lang/Object;)Z"⟩ ⟨"java/lang/String", "equals", "(Ljava/lang/Object;)Z"⟩ jdk_42_method_66_code 3 (some .boolean) 1 := ⟨(wd hw 354 rfl), (wd hw 356 rfl), (wd hw 355 rfl), (wd hw 26 rfl), (wd hw 357 rfl), by decide, _, _, pd_49, rfl⟩
theorem s71 : decs prog_38_method_3_code [(0, .aload_n 0, 1), (1, .ldc 60, 2), (3, .invokestatic 11, 3), (6, .pop, 1), (7, .aload_n 0, 1), (8, .ldc 62, 2), (10, .invokevirtual 64, 3), (13, .ifCond .ne 13, 3), (26, .aload_n 0, 1), (27, .ldc 62, 2), (29, .invokevirtual 77, 3), (32, .invokevirtual 81, 3), (35, .astore_n 1, 1), (36, .invokestatic 85, 3), (39, .aload_n 1, 1), (40, .invokevirtual 89, 3), (43, .astore_n 2, 1), (44, .goto 14, 3), (58, .aload_n 2, 1), (59, .arraylength, 1), (60, .bipush 24, 2), (62, .if_icmp .lt 24, 3), (65, .aload_n 2, 1), (66, .arraylength, 1), (67, .bipush 64, 2), (69, .if_icmp .gt 17, 3), (72, .invokestatic 44, 3), (75, .aload_n 2, 1), (76, .invokevirtual 50, 3), (79, .aload_n 1, 1), (80, .invokevirtual 94, 3), (83, .ifCond .ne 13, 3), (96, .aload_n 2, 1), (97, .areturn, 1)] = true := by decide +kernel
theorem pn_170 : plainFor (⟨"com/example/hookwright/hookwright/signing/StandardWebhooksSignature", "key", "(Ljava/lang/String;)[B"⟩ : MethodName) = true := by first | exact plainFor_of_name (by first | (simp [plainName, overriddenIn]; done) | decide +kernel) | decide +kernel
def QrmKey (Z : State) (ee : Addr) (tt : Addr) (kt : ClassId) (dd : Addr) (ft : Addr) (ci : Addr) (cu : Addr) (kf : ClassId) (a1 : Addr) (us : List Int32) (mm : Nat) (zc : Int32) (fm : Value) (h0 : Heap) (n0 : Nat) (v : Option Value) (h : Heap) (L : List Loc) : Prop := ∃ r k, v = some (.ref r) ∧ Fr n0 L ∧ Ext h0 h ∧ h0.size ≤ r ∧ Arv Z h r k .byte (Int32.ofNat us.length) ((us.map fun c : Int32 => c.toInt8.toInt32).map Value.int) (.int 0)
theorem rmKey (l : Launch) (Z : State) (a0 : Array Value) (hw : HW a0 Z) (ws : List Jvm.Cond) (ee : Addr) (tt : Addr) (kt : ClassId) (dd : Addr) (ft : Addr) (ci : Addr) (cu : Addr) (kf : ClassId) (a1 : Addr) (us : List Int32) (mm : Nat) (zc : Int32) (fm : Value) (h0 : Heap) (n0 : Nat) (Z0 : n0 ≤ h0.size) (en : Own.EN Z h0 ee tt kt) (de : Own.DE Z h0 dd ft ci cu kf) (SC : Own.Cst Z h0 zc) (hzc : ¬ zc = 0) (SF : Own.Fst Z h0 fm) (hfm : fm.isRef = true) (S1 : Own.Str Z h0 a1 ([(119 : Int32), (104 : Int32), (115 : Int32), (101 : Int32), (99 : Int32), (95 : Int32)] ++ Own.encL us)) (hp : ∀ c ∈ us, ¬ c < 0 ∧ ¬ (255 : Int32) < c) (hl : 24 ≤ us.length ∧ us.length ≤ 64) (hmm : mm = us.length / 3) :
    Own.MFHW l Z EL (⟨"com/example/hookwright/hookwright/signing/StandardWebhooksSignature", "key", "(Ljava/lang/String;)[B"⟩ : MethodName) prog_38_method_3_code 4 (some (.array .byte)) [(36, 44, 47, 70)] ws (⟨6, 13, 600, 115⟩ : Room) #[(.ref a1)] [] h0 (QrmKey Z ee tt kt dd ft ci cu kf a1 us mm zc fm h0 n0) := by
  refine Own.MFHW.of (own := "com/example/hookwright/hookwright/signing/StandardWebhooksSignature") (n := 4) rfl rfl pn_170 (fun p e s m below meth c s₁ hml hlk hret hnm hh H0 hSf P0 => ?_)
  rw [show entryFrame m #[(.ref a1)] 4 = mkF m 0 #[.val (.ref a1), .unset, .unset, .unset] [] from by first | (simp [entryFrame, mkF, argsToLocals, Value.category]; done) | rfl]
  have hn2 := Own.encL_len us
  refine Own.aloadN (q := 1) P0 (dc s71 0 rfl) rfl rfl rfl ?_
  refine Own.ldcStr (q := 3) (n := 24) (cs := [(115 : Int32), (101 : Int32), (99 : Int32), (114 : Int32), (101 : Int32), (116 : Int32)]) P0 H0 (dc s71 1 rfl) (wd hw 245 rfl) (fun a ha => hw a (sub_str a ha)) (ew hw) (by decide) (by decide) (Own.chS (by decide) (Own.chS (by decide) (Own.chS (by decide) (Own.chS (by decide) (Own.chS (by decide) (Own.chS (by decide) Own.ch0)))))) (by decide) (by decide) (by decide) (by decide) (by decide) (by decide) (by decide) rfl ?_
  intro T21 vm21 h21 a21 P21 H21 hr21 E21 St21
  have E0_1_22 : Ext h0 h21 := E21
  refine Own.cS (q := 6) (W := 0) (rest := []) P21 (dc s71 2 rfl) (wd hw 246 rfl) (sw_56 hw) (rmRnn l Z a0 hw [] a1 a21 h21 n0 (Nat.le_trans Z0 E0_1_22.1) ) (by decide) (by decide) rfl (hml rfl) rfl rfl (by decide) (by decide) rfl ?_
  rintro v23 T23 h23 L23 ⟨rfl, N23q, e23⟩ P23
  rw [e23] at P23
  have N23 := Fr.app (Fr.nil n0) N23q
  refine Own.pop (q := 7) P23 (dc s71 3 rfl) rfl rfl ?_
  refine Own.aloadN (q := 8) P23 (dc s71 4 rfl) rfl rfl rfl ?_
  refine Own.ldcStr (q := 10) (n := 24) (cs := [(119 : Int32), (104 : Int32), (115 : Int32), (101 : Int32), (99 : Int32), (95 : Int32)]) P23 H21 (dc s71 5 rfl) (wd hw 31 rfl) (fun a ha => hw a (sub_str a ha)) (ew hw) (by decide) (by decide) (Own.chS (by decide) (Own.chS (by decide) (Own.chS (by decide) (Own.chS (by decide) (Own.chS (by decide) (Own.chS (by decide) Own.ch0)))))) (by decide) (by decide) (by decide) (by decide) (by decide) (by decide) (by decide) rfl ?_
  intro T24 vm24 h24 a24 P24 H24 hr24 E24 St24
  have E0_2_25 : Ext h0 h24 := (Own.Ext.tr E0_1_22 E24)
  refine Own.cV (q := 13) (W := 0) (rest := []) P24 (dc s71 6 rfl) (wd hw 250 rfl) (vw_57 hw) (Own.nfs P24 (wd hw 253 rfl)) (S1.ext E0_2_25).exa (rmSw1E l Z a0 hw [] a1 ([(119 : Int32), (104 : Int32), (115 : Int32), (101 : Int32), (99 : Int32), (95 : Int32)] ++ Own.encL us) a24 [(119 : Int32), (104 : Int32), (115 : Int32), (101 : Int32), (99 : Int32), (95 : Int32)] zc h24 n0 (Nat.le_trans Z0 E0_2_25.1) (SC.ext E0_2_25) hzc (S1.ext E0_2_25) St24 (by rw [List.length_append]; exact Nat.le_add_right _ _) (by decide) (fun i hi => by rw [List.getD_eq_getElem?_getD, List.getElem?_append_left hi, ← List.getD_eq_getElem?_getD])) (by decide) (by decide) rfl (hml rfl) rfl rfl (by decide) (by decide) rfl ?_
  rintro v26 T26 h26 L26 ⟨rfl, N26q, e26⟩ P26
  rw [e26] at P26
  have N26 := Fr.app N23 N26q
  refine Own.if_ne (q := 16) (qy := 26) P26 (dc s71 7 rfl) (by decide) rfl (fun _ => ?_) (fun q => absurd q (by decide))
  refine Own.aloadN (q := 27) P26 (dc s71 8 rfl) rfl rfl rfl ?_
  refine Own.ldcStr (q := 29) (n := 24) (cs := [(119 : Int32), (104 : Int32), (115 : Int32), (101 : Int32), (99 : Int32), (95 : Int32)]) P26 H24 (dc s71 9 rfl) (wd hw 31 rfl) (fun a ha => hw a (sub_str a ha)) (ew hw) (by decide) (by decide) (Own.chS (by decide) (Own.chS (by decide) (Own.chS (by decide) (Own.chS (by decide) (Own.chS (by decide) (Own.chS (by decide) Own.ch0)))))) (by decide) (by decide) (by decide) (by decide) (by decide) (by decide) (by decide) rfl ?_
  intro T27 vm27 h27 a27 P27 H27 hr27 E27 St27
  have E0_3_28 : Ext h0 h27 := (Own.Ext.tr E0_2_25 E27)
  refine Own.cV (q := 32) (W := 1) (rest := [(.ref a1)]) P27 (dc s71 10 rfl) (wd hw 264 rfl) (vw_26 hw) (Own.nfs P27 (wd hw 50 rfl)) St27.exa (rmLn0 l Z a0 hw [] a27 [(119 : Int32), (104 : Int32), (115 : Int32), (101 : Int32), (99 : Int32), (95 : Int32)] zc h27 n0 (Nat.le_trans Z0 E0_3_28.1) (SC.ext E0_3_28) hzc St27) (by decide) (by decide) rfl (hml rfl) rfl rfl (by decide) (by decide) rfl ?_
  rintro v29 T29 h29 L29 ⟨rfl, N29q, e29⟩ P29
  rw [e29] at P29
  have N29 := Fr.app N26 N29q
  refine Own.cV (q := 35) (W := 0) (rest := []) P29 (dc s71 11 rfl) (wd hw 265 rfl) (vw_58 hw) (Own.nfs P29 (wd hw 268 rfl)) (S1.ext E0_3_28).exa (rmSb1E l Z a0 hw [] a1 ([(119 : Int32), (104 : Int32), (115 : Int32), (101 : Int32), (99 : Int32), (95 : Int32)] ++ Own.encL us) 6 zc fm h27 n0 (Nat.le_trans Z0 E0_3_28.1) (SC.ext E0_3_28) hzc (SF.ext E0_3_28) hfm (S1.ext E0_3_28) (by rw [List.length_append, hn2]; show 0 < 6 ∧ 6 < 6 + _ ∧ 6 + _ ≤ 100; omega)) (by decide) (by decide) rfl (hml rfl) rfl rfl (by decide) (by decide) rfl ?_
  rintro v30 T30 h30 L30 ⟨r30, t30, k30, rfl, N30q, E30, gr30, y30a, y30v, y30c, y30b, y30x⟩ P30
  have N30 := Fr.app N29 N30q
  have yb30 : Arv Z h30 t30 k30 .byte (Int32.ofNat (Own.encL us).length) (((Own.encL us).map fun c : Int32 => c.toInt8.toInt32).map Value.int) (.int 0) := y30b
  have St30 : Own.Str Z h30 r30 (Own.encL us) := ⟨⟨_, _, y30a, y30v, y30c, yb30⟩, Own.encL_rng hp, by omega⟩
  refine Own.astoreN (q := 36) (L2 := #[.val (.ref a1), .val (.ref r30), .unset, .unset]) P30 (dc s71 12 rfl) rfl rfl rfl ?_
  have E0_4_31 : Ext h0 h30 := (Own.Ext.tr E0_3_28 E30)
  refine Own.cS (q := 39) (W := 0) (rest := []) P30 (dc s71 13 rfl) (wd hw 295 rfl) (sw_59 hw) (rmGd l Z a0 hw [] dd ft ci cu kf h30 n0 (Nat.le_trans Z0 E0_4_31.1) (de.ext E0_4_31)) (by decide) (by decide) rfl (hml rfl) rfl rfl (by decide) (by decide) rfl ?_
  rintro v32 T32 h32 L32 ⟨rfl, N32q, e32⟩ P32
  rw [e32] at P32
  have N32 := Fr.app N30 N32q
  refine Own.aloadN (q := 40) P32 (dc s71 14 rfl) rfl rfl rfl ?_
  refine Own.cV (q := 43) (W := 0) (rest := []) P32 (dc s71 15 rfl) (wd hw 300 rfl) (vw_60 hw) (Own.nfs P32 (wd hw 303 rfl)) (de.2.1.ext E0_4_31) (rmDecS l Z a0 hw [] dd ft ci cu kf r30 t30 k30 us mm zc h30 n0 (Nat.le_trans Z0 E0_4_31.1) (de.ext E0_4_31) (SC.ext E0_4_31) hzc y30a y30v y30c yb30 y30x hp hl hmm) (by decide) (by decide) rfl (hml rfl) rfl rfl (by decide) (by decide) rfl ?_
  rintro v33 T33 h33 L33 ⟨r33, k33, rfl, N33q, E33, gr33, B33⟩ P33
  have N33 := Fr.app N32 N33q
  refine Own.astoreN (q := 44) (L2 := #[.val (.ref a1), .val (.ref r30), .val (.ref r33), .unset]) P33 (dc s71 16 rfl) rfl rfl rfl ?_
  refine Own.goto (q := 58) P33 (dc s71 17 rfl) (by decide) ?_
  refine Own.aloadN (q := 59) P33 (dc s71 18 rfl) rfl rfl rfl ?_
  refine Own.arraylength (q := 60) P33 (dc s71 19 rfl) B33 rfl ?_
  refine Own.bipush (q := 62) (v := (24 : Int32)) P33 (dc s71 20 rfl) rfl rfl ?_
  refine Own.icmp_lt (q := 65) (qy := 86) P33 (dc s71 21 rfl) (by decide) rfl (fun q => absurd q (by rw [show (24 : Int32) = Int32.ofNat 24 from rfl, Own.ofNat_lt (by omega) (by omega)]; omega)) (fun _ => ?_)
  refine Own.aloadN (q := 66) P33 (dc s71 22 rfl) rfl rfl rfl ?_
  refine Own.arraylength (q := 67) P33 (dc s71 23 rfl) B33 rfl ?_
  refine Own.bipush (q := 69) (v := (64 : Int32)) P33 (dc s71 24 rfl) rfl rfl ?_
  refine Own.icmp_gt (q := 72) (qy := 86) P33 (dc s71 25 rfl) (by decide) rfl (fun q => absurd q (by rw [show (64 : Int32) = Int32.ofNat 64 from rfl, Own.ofNat_lt (by omega) (by omega)]; omega)) (fun _ => ?_)
  have E0_5_34 : Ext h0 h33 := (Own.Ext.tr E0_4_31 E33)
  refine Own.cS (q := 75) (W := 0) (rest := []) P33 (dc s71 26 rfl) (wd hw 87 rfl) (sw_36 hw) (rmGe l Z a0 hw [] ee tt kt h33 n0 (Nat.le_trans Z0 E0_5_34.1) (en.ext E0_5_34)) (by decide) (by decide) rfl (hml rfl) rfl rfl (by decide) (by decide) rfl ?_
  rintro v35 T35 h35 L35 ⟨rfl, N35q, e35⟩ P35
  rw [e35] at P35
  have N35 := Fr.app N33 N35q
  refine Own.aloadN (q := 76) P35 (dc s71 27 rfl) rfl rfl rfl ?_
  refine Own.cV (q := 79) (W := 0) (rest := []) P35 (dc s71 28 rfl) (wd hw 93 rfl) (vw_37 hw) (Own.nfs P35 (wd hw 96 rfl)) (en.2.1.ext E0_5_34) (rmEts l Z a0 hw [] ee tt kt r33 k33 us zc fm h33 n0 (Nat.le_trans Z0 E0_5_34.1) (en.ext E0_5_34) (SC.ext E0_5_34) hzc (SF.ext E0_5_34) hfm B33 hp hl) (by decide) (by decide) rfl (hml rfl) rfl rfl (by decide) (by decide) rfl ?_
  rintro v36 T36 h36 L36 ⟨r36, rfl, N36q, E36, gr36, St36⟩ P36
  have N36 := Fr.app N35 N36q
  refine Own.aloadN (q := 80) P36 (dc s71 29 rfl) rfl rfl rfl ?_
  have E0_6_37 : Ext h0 h36 := (Own.Ext.tr E0_5_34 E36)
  have E4_5_38 : Ext h30 h33 := E33
  have E4_6_39 : Ext h30 h36 := (Own.Ext.tr E4_5_38 E36)
  refine Own.cV (q := 83) (W := 0) (rest := []) P36 (dc s71 30 rfl) (wd hw 353 rfl) (vw_61 hw) (Own.nfs P36 (wd hw 356 rfl)) St36.exa (rmSeq l Z a0 hw [] r36 r30 (Own.encL us) zc h36 n0 (Nat.le_trans Z0 E0_6_37.1) (SC.ext E0_6_37) hzc St36 (St30.ext E4_6_39)) (by decide) (by decide) rfl (hml rfl) rfl rfl (by decide) (by decide) rfl ?_
  rintro v40 T40 h40 L40 ⟨rfl, N40q, e40⟩ P40
  rw [e40] at P40
  have N40 := Fr.app N36 N40q
  refine Own.if_ne (q := 86) (qy := 96) P40 (dc s71 31 rfl) (by decide) rfl (fun _ => ?_) (fun q => absurd q (by decide))
  refine Own.aloadN (q := 97) P40 (dc s71 32 rfl) rfl rfl rfl ?_
  have E5_6_41 : Ext h33 h36 := E36
  have E3_4_42 : Ext h27 h30 := E30
  have E3_5_43 : Ext h27 h33 := (Own.Ext.tr E3_4_42 E33)
  have E3_6_44 : Ext h27 h36 := (Own.Ext.tr E3_5_43 E36)
  have Hd45 := (H27.ext E3_6_44)
  refine Own.retAH P40 hh (ew hw) Hd45 (dc s71 33 rfl) hret rfl rfl rfl hlk (by decide) (by decide) ?_
  exact ⟨r33, _, rfl, N40, E0_6_37, (Nat.le_trans E0_4_31.1 gr33), (B33.ext E5_6_41)⟩
theorem pd_50 : parseMethodDescriptor "([BIJ)V" = some ⟨[(.array .byte), .int, .long], none⟩ := by decide +kernel
theorem sw_62 {Z : State} {a0 : Array Value} (hw : HW a0 Z) : Own.SW Z a0 ⟨"com/example/hookwright/hookwright/signing/StandardWebhooksSignatureSecretPinLaw", "put", "([BIJ)V"⟩ method_3_code 4 none 3 := ⟨(wd hw 3 rfl), (wd hw 4 rfl), (wd hw 5 rfl), by decide, _, _, pd_50, rfl⟩
theorem sw_63 {Z : State} {a0 : Array Value} (hw : HW a0 Z) : Own.SW Z a0 ⟨"com/example/hookwright/hookwright/signing/StandardWebhooksSignature", "secret", "([B)Ljava/lang/String;"⟩ prog_38_method_4_code 1 (some (.object "java/lang/String")) 1 := ⟨(wd hw 7 rfl), (wd hw 8 rfl), (wd hw 9 rfl), by decide, _, _, pd_30, rfl⟩
theorem pd_51 : parseMethodDescriptor "([BI)I" = some ⟨[(.array .byte), .int], some .int⟩ := by decide +kernel
theorem sw_64 {Z : State} {a0 : Array Value} (hw : HW a0 Z) : Own.SW Z a0 ⟨"com/example/hookwright/hookwright/signing/StandardWebhooksSignatureSecretPinLaw", "u", "([BI)I"⟩ method_4_code 2 (some .int) 2 := ⟨(wd hw 234 rfl), (wd hw 4 rfl), (wd hw 235 rfl), by decide, _, _, pd_51, rfl⟩
theorem pd_52 : parseMethodDescriptor "(Ljava/lang/String;IIII)Z" = some ⟨[(.object "java/lang/String"), .int, .int, .int, .int], some .boolean⟩ := by decide +kernel
theorem sw_65 {Z : State} {a0 : Array Value} (hw : HW a0 Z) : Own.SW Z a0 ⟨"com/example/hookwright/hookwright/signing/StandardWebhooksSignatureSecretPinLaw", "full", "(Ljava/lang/String;IIII)Z"⟩ method_6_code 6 (some .boolean) 5 := ⟨(wd hw 237 rfl), (wd hw 4 rfl), (wd hw 238 rfl), by decide, _, _, pd_52, rfl⟩
theorem sw_66 {Z : State} {a0 : Array Value} (hw : HW a0 Z) : Own.SX Z a0 ⟨"com/example/hookwright/hookwright/signing/StandardWebhooksSignature", "key", "(Ljava/lang/String;)[B"⟩ prog_38_method_3_code 4 (some (.array .byte)) [(36, 44, 47, 70)] 1 := ⟨(wd hw 243 rfl), (wd hw 8 rfl), (wd hw 244 rfl), by decide, _, _, pd_48, rfl⟩
theorem pn_0 : plainFor x = true := by first | exact plainFor_of_name (by first | (simp [plainName, overriddenIn]; done) | decide +kernel) | decide +kernel
def QrmLaw (Z : State) (x0 : Int32) (x1 : Int64) (x2 : Int64) (x3 : Int64) (ee : Addr) (tt : Addr) (kt : ClassId) (dd : Addr) (ft : Addr) (ci : Addr) (cu : Addr) (kf : ClassId) (zc : Int32) (fm : Value) (h0 : Heap) (n0 : Nat) (v : Option Value) (h : Heap) (L : List Loc) : Prop := v = some (.int 1) ∧ Fr n0 L
theorem rmLaw (l : Launch) (Z : State) (a0 : Array Value) (hw : HW a0 Z) (ws : List Jvm.Cond) (x0 : Int32) (x1 : Int64) (x2 : Int64) (x3 : Int64) (ee : Addr) (tt : Addr) (kt : ClassId) (dd : Addr) (ft : Addr) (ci : Addr) (cu : Addr) (kf : ClassId) (zc : Int32) (fm : Value) (h0 : Heap) (n0 : Nat) (Z0 : n0 ≤ h0.size) (en : Own.EN Z h0 ee tt kt) (de : Own.DE Z h0 dd ft ci cu kf) (SC : Own.Cst Z h0 zc) (hzc : ¬ zc = 0) (SF : Own.Fst Z h0 fm) (hfm : fm.isRef = true) :
    Own.MFH l Z EL x code maxLocals ret ws room_1 #[(.int x0), (.long x1), (.long x2), (.long x3)] [] h0 (QrmLaw Z x0 x1 x2 x3 ee tt kt dd ft ci cu kf zc fm h0 n0) := by
  refine Own.MFH.of (own := "com/example/hookwright/hookwright/signing/StandardWebhooksSignatureSecretPinLaw") (n := 17) rfl rfl pn_0 (fun p e s m below meth c s₁ hml hlk hret hnm hh H0 hSf P0 => ?_)
  rw [show entryFrame m #[(.int x0), (.long x1), (.long x2), (.long x3)] maxLocals = mkF m 0 #[.val (.int x0), .val (.long x1), .second, .val (.long x2), .second, .val (.long x3), .second, .unset, .unset, .unset, .unset, .unset, .unset, .unset, .unset, .unset, .unset] [] from by first | (simp [entryFrame, mkF, argsToLocals, Value.category, maxLocals]; done) | rfl]
  refine Own.bipush (q := 2) (v := (24 : Int32)) P0 at_0 rfl rfl ?_
  refine Own.iloadN (q := 3) P0 at_2 rfl rfl ?_
  refine Own.ldcI (q := 5) (v := (2147483647 : Int32)) P0 at_3 (wd hw 0 rfl) rfl ?_
  refine Own.iand (q := 6) P0 at_5  rfl ?_
  refine Own.bipush (q := 8) (v := (41 : Int32)) P0 at_6 rfl rfl ?_
  refine Own.irem (q := 9) P0 at_8 (by decide) rfl ?_
  refine Own.iadd (q := 10) P0 at_9  rfl ?_
  obtain ⟨n, hn, eN⟩ := Own.lenN x0
  rw [eN]
  refine Own.istore (q := 12) (L2 := #[.val (.int x0), .val (.long x1), .second, .val (.long x2), .second, .val (.long x3), .second, .val (.int (Int32.ofNat n)), .unset, .unset, .unset, .unset, .unset, .unset, .unset, .unset, .unset]) P0 at_10 rfl rfl ?_
  refine Own.iload (q := 14) P0 at_12 rfl rfl ?_
  refine Own.newarrE (q := 16) (cap := 64) P0 at_14 (wd hw 1 rfl) (Own.nneg (by omega)) (by rw [Own.clamp (by omega)]; exact (by omega)) (by decide) (by decide) (by decide) rfl ?_
  intro T21 h21 a21 k21 ha21 P21 E21 A21 X21
  have V21 : Arv Z h21 a21 k21 .byte (Int32.ofNat n) (List.replicate n (.int 0)) (.int 0) := Arv.pad A21 (pad_rep [] _ _)
  have U22 : Arv Z h21 a21 k21 .byte (Int32.ofNat (List.replicate n (0 : Int32)).length) (((List.replicate n (0 : Int32)).map fun c : Int32 => c.toInt8.toInt32).map Value.int) (.int 0) := by
    rw [List.length_replicate, List.map_replicate, List.map_replicate]
    exact V21
  refine Own.astore (q := 18) (L2 := #[.val (.int x0), .val (.long x1), .second, .val (.long x2), .second, .val (.long x3), .second, .val (.int (Int32.ofNat n)), .val (.ref a21), .unset, .unset, .unset, .unset, .unset, .unset, .unset, .unset]) P21 at_16 rfl rfl rfl ?_
  refine Own.aload (q := 20) P21 at_18 rfl rfl rfl ?_
  refine Own.iconst (q := 21) (v := (0 : Int32)) P21 at_20 rfl rfl ?_
  refine Own.lloadN (q := 22) P21 at_21 rfl rfl ?_
  have q23 : (List.replicate n (0 : Int32)).length = n := (List.length_replicate ..)
  have E0_1_24 : Ext h0 h21 := E21
  refine Own.cS (q := 25) (W := 0) (rest := []) P21 at_22 (wd hw 2 rfl) (sw_62 hw) (rmPutL l Z a0 hw [] a21 k21 (List.replicate n (0 : Int32)) 0 x1 h21 n0 (Nat.le_trans Z0 E0_1_24.1) U22 (fun c hc => by rw [List.eq_of_mem_replicate hc]; decide) (by omega) (by omega) (Nat.le_trans Z0 (Nat.le_of_eq ha21.symm))) (by decide) (by decide) rfl (hml rfl) rfl rfl (by decide) (by decide) rfl ?_
  rintro v25 T25 h25 L25 ⟨rfl, N25q, K25, u25, hl25, hp25, A25⟩ P25
  have N25 := Fr.app (Fr.nil n0) N25q
  rw [← hl25] at A25
  rw [q23] at hl25
  refine Own.aload (q := 27) P25 at_25 rfl rfl rfl ?_
  refine Own.bipush (q := 29) (v := (8 : Int32)) P25 at_27 rfl rfl ?_
  refine Own.lloadN (q := 30) P25 at_29 rfl rfl ?_
  have q26 : u25.length = n := hl25
  have E0_2_27 : Ext h0 h25 := (Own.Ext.kp E0_1_24 K25 (allS (Nat.le_of_eq ha21.symm) all0))
  refine Own.cS (q := 33) (W := 0) (rest := []) P25 at_30 (wd hw 2 rfl) (sw_62 hw) (rmPutL l Z a0 hw [] a21 k21 u25 8 x2 h25 n0 (Nat.le_trans Z0 E0_2_27.1) A25 hp25 (by omega) (by omega) (Nat.le_trans Z0 (Nat.le_of_eq ha21.symm))) (by decide) (by decide) rfl (hml rfl) rfl rfl (by decide) (by decide) rfl ?_
  rintro v28 T28 h28 L28 ⟨rfl, N28q, K28, u28, hl28, hp28, A28⟩ P28
  have N28 := Fr.app N25 N28q
  rw [← hl28] at A28
  rw [q26] at hl28
  refine Own.aload (q := 35) P28 at_33 rfl rfl rfl ?_
  refine Own.iload (q := 37) P28 at_35 rfl rfl ?_
  refine Own.bipush (q := 39) (v := (8 : Int32)) P28 at_37 rfl rfl ?_
  refine Own.isub (q := 40) P28 at_39  rfl ?_
  rw [show ((Int32.ofNat n) - (8 : Int32)) = (Int32.ofNat (n - 8)) from Own.subE (f := 8) (by omega)]
  refine Own.lload (q := 42) P28 at_40 rfl rfl ?_
  have q29 : u28.length = n := hl28
  have E0_3_30 : Ext h0 h28 := (Own.Ext.kp E0_2_27 K28 (allS (Nat.le_of_eq ha21.symm) all0))
  refine Own.cS (q := 45) (W := 0) (rest := []) P28 at_42 (wd hw 2 rfl) (sw_62 hw) (rmPutL l Z a0 hw [] a21 k21 u28 (n - 8) x3 h28 n0 (Nat.le_trans Z0 E0_3_30.1) A28 hp28 (by omega) (by omega) (Nat.le_trans Z0 (Nat.le_of_eq ha21.symm))) (by decide) (by decide) rfl (hml rfl) rfl rfl (by decide) (by decide) rfl ?_
  rintro v31 T31 h31 L31 ⟨rfl, N31q, K31, u31, hl31, hp31, A31⟩ P31
  have N31 := Fr.app N28 N31q
  rw [← hl31] at A31
  rw [q29] at hl31
  have hn2 := Own.encL_len u31
  have hS : ([(119 : Int32), (104 : Int32), (115 : Int32), (101 : Int32), (99 : Int32), (95 : Int32)] ++ Own.encL u31).length = 6 + 4 * ((n + 2) / 3) := by rw [List.length_append, hn2, hl31]; rfl
  obtain ⟨mm, hmm⟩ : ∃ mm, mm = u31.length / 3 := ⟨_, rfl⟩
  refine Own.aload (q := 47) P31 at_45 rfl rfl rfl ?_
  have E0_4_32 : Ext h0 h31 := (Own.Ext.kp E0_3_30 K31 (allS (Nat.le_of_eq ha21.symm) all0))
  have Hd33 := (H0.ext E0_4_32)
  refine Own.cSH (q := 50) (W := 0) (rest := []) P31 Hd33 at_47 (wd hw 6 rfl) (sw_63 hw) (rmSec l Z a0 hw [] ee tt kt a21 k21 u31 zc fm h31 n0 (Nat.le_trans Z0 E0_4_32.1) (en.ext E0_4_32) (SC.ext E0_4_32) hzc (SF.ext E0_4_32) hfm A31 hp31 (by omega)) (ew hw) all0 (by decide) (by decide) rfl (hml rfl) rfl rfl (by decide) (by decide) rfl ?_
  rintro v34 T34 vm34 h34 L34 ⟨r34, rfl, N34q, E34, gr34, St34⟩ P34 H34 hr34
  have N34 := Fr.app N31 N34q
  refine Own.astore (q := 52) (L2 := #[.val (.int x0), .val (.long x1), .second, .val (.long x2), .second, .val (.long x3), .second, .val (.int (Int32.ofNat n)), .val (.ref a21), .val (.ref r34), .unset, .unset, .unset, .unset, .unset, .unset, .unset]) P34 at_50 rfl rfl rfl ?_
  refine Own.iload (q := 54) P34 at_52 rfl rfl ?_
  refine Own.iconst (q := 55) (v := (2 : Int32)) P34 at_54 rfl rfl ?_
  refine Own.iadd (q := 56) P34 at_55  rfl ?_
  rw [show ((Int32.ofNat n) + (2 : Int32)) = (Int32.ofNat (n + 2)) from (Int32.ofNat_add n 2).symm]
  refine Own.iconst (q := 57) (v := (3 : Int32)) P34 at_56 rfl rfl ?_
  refine Own.idiv (q := 58) P34 at_57 (by decide) rfl ?_
  rw [show ((Int32.ofNat (n + 2)) / (3 : Int32)) = (Int32.ofNat ((n + 2) / 3)) from Own.divN (d := 3) (by omega) (by decide) (by decide)]
  refine Own.istore (q := 60) (L2 := #[.val (.int x0), .val (.long x1), .second, .val (.long x2), .second, .val (.long x3), .second, .val (.int (Int32.ofNat n)), .val (.ref a21), .val (.ref r34), .val (.int (Int32.ofNat ((n + 2) / 3))), .unset, .unset, .unset, .unset, .unset, .unset]) P34 at_58 rfl rfl ?_
  refine Own.aload (q := 62) P34 at_60 rfl rfl rfl ?_
  have E0_5_35 : Ext h0 h34 := (Own.Ext.tr E0_4_32 E34)
  refine Own.cV (q := 65) (W := 0) (rest := []) P34 at_62 (wd hw 211 rfl) (vw_26 hw) (Own.nfs P34 (wd hw 50 rfl)) St34.exa (rmLn0 l Z a0 hw [] r34 ([(119 : Int32), (104 : Int32), (115 : Int32), (101 : Int32), (99 : Int32), (95 : Int32)] ++ Own.encL u31) zc h34 n0 (Nat.le_trans Z0 E0_5_35.1) (SC.ext E0_5_35) hzc St34) (by decide) (by decide) rfl (hml rfl) rfl rfl (by decide) (by decide) rfl ?_
  rintro v36 T36 h36 L36 ⟨rfl, N36q, e36⟩ P36
  rw [e36] at P36
  have N36 := Fr.app N34 N36q
  refine Own.bipush (q := 67) (v := (6 : Int32)) P36 at_65 rfl rfl ?_
  refine Own.iconst (q := 68) (v := (4 : Int32)) P36 at_67 rfl rfl ?_
  refine Own.iload (q := 70) P36 at_68 rfl rfl ?_
  refine Own.imul (q := 71) P36 at_70  rfl ?_
  rw [show ((4 : Int32) * (Int32.ofNat ((n + 2) / 3))) = (Int32.ofNat (4 * ((n + 2) / 3))) from (Int32.ofNat_mul 4 _).symm]
  refine Own.iadd (q := 72) P36 at_71  rfl ?_
  rw [show ((6 : Int32) + (Int32.ofNat (4 * ((n + 2) / 3)))) = (Int32.ofNat (6 + 4 * ((n + 2) / 3))) from (Int32.ofNat_add 6 _).symm]
  refine Own.icmp_eq (q := 75) (qy := 77) P36 at_72 (by decide) rfl (fun _ => ?_) (fun q => absurd (by rw [hS]) q)
  refine Own.ldcStr (q := 79) (n := 24) (cs := [(119 : Int32), (104 : Int32), (115 : Int32), (101 : Int32), (99 : Int32), (95 : Int32)]) P36 H34 at_77 (wd hw 212 rfl) (fun a ha => hw a (sub_str a ha)) (ew hw) (by decide) (by decide) (Own.chS (by decide) (Own.chS (by decide) (Own.chS (by decide) (Own.chS (by decide) (Own.chS (by decide) (Own.chS (by decide) Own.ch0)))))) (by decide) (by decide) (by decide) (by decide) (by decide) (by decide) (by decide) rfl ?_
  intro T37 vm37 h37 a37 P37 H37 hr37 E37 St37
  refine Own.astore (q := 81) (L2 := #[.val (.int x0), .val (.long x1), .second, .val (.long x2), .second, .val (.long x3), .second, .val (.int (Int32.ofNat n)), .val (.ref a21), .val (.ref r34), .val (.int (Int32.ofNat ((n + 2) / 3))), .val (.ref a37), .unset, .unset, .unset, .unset, .unset]) P37 at_79 rfl rfl rfl ?_
  refine Own.aload (q := 83) P37 at_81 rfl rfl rfl ?_
  refine Own.iconst (q := 84) (v := (0 : Int32)) P37 at_83 rfl rfl ?_
  have E0_6_38 : Ext h0 h37 := (Own.Ext.tr E0_5_35 E37)
  have E5_6_39 : Ext h34 h37 := E37
  refine Own.cV (q := 87) (W := 0) (rest := []) P37 at_84 (wd hw 213 rfl) (vw_6 hw) (Own.nfs P37 (wd hw 216 rfl)) (St34.ext E5_6_39).exa (rmSca l Z a0 hw [] r34 ([(119 : Int32), (104 : Int32), (115 : Int32), (101 : Int32), (99 : Int32), (95 : Int32)] ++ Own.encL u31) 0 zc fm h37 n0 (Nat.le_trans Z0 E0_6_38.1) (SC.ext E0_6_38) hzc (SF.ext E0_6_38) hfm (St34.ext E5_6_39) (by rw [hS]; omega)) (by decide) (by decide) rfl (hml rfl) rfl rfl (by decide) (by decide) rfl ?_
  rintro v40 T40 h40 L40 ⟨rfl, N40q, e40⟩ P40
  rw [e40] at P40
  have N40 := Fr.app N36 N40q
  refine Own.aload (q := 89) P40 at_87 rfl rfl rfl ?_
  refine Own.iconst (q := 90) (v := (0 : Int32)) P40 at_89 rfl rfl ?_
  refine Own.cV (q := 93) (W := 1) (rest := [(.int (([(119 : Int32), (104 : Int32), (115 : Int32), (101 : Int32), (99 : Int32), (95 : Int32)] ++ Own.encL u31).getD 0 0))]) P40 at_90 (wd hw 213 rfl) (vw_6 hw) (Own.nfs P40 (wd hw 216 rfl)) St37.exa (rmSca l Z a0 hw [] a37 [(119 : Int32), (104 : Int32), (115 : Int32), (101 : Int32), (99 : Int32), (95 : Int32)] 0 zc fm h37 n0 (Nat.le_trans Z0 E0_6_38.1) (SC.ext E0_6_38) hzc (SF.ext E0_6_38) hfm St37 (by decide)) (by decide) (by decide) rfl (hml rfl) rfl rfl (by decide) (by decide) rfl ?_
  rintro v41 T41 h41 L41 ⟨rfl, N41q, e41⟩ P41
  rw [e41] at P41
  have N41 := Fr.app N40 N41q
  refine Own.icmp_ne (q := 96) (qy := 171) P41 at_93 (by decide) rfl (fun q => absurd rfl q) (fun _ => ?_)
  refine Own.aload (q := 98) P41 at_96 rfl rfl rfl ?_
  refine Own.iconst (q := 99) (v := (1 : Int32)) P41 at_98 rfl rfl ?_
  refine Own.cV (q := 102) (W := 0) (rest := []) P41 at_99 (wd hw 213 rfl) (vw_6 hw) (Own.nfs P41 (wd hw 216 rfl)) (St34.ext E5_6_39).exa (rmSca l Z a0 hw [] r34 ([(119 : Int32), (104 : Int32), (115 : Int32), (101 : Int32), (99 : Int32), (95 : Int32)] ++ Own.encL u31) 1 zc fm h37 n0 (Nat.le_trans Z0 E0_6_38.1) (SC.ext E0_6_38) hzc (SF.ext E0_6_38) hfm (St34.ext E5_6_39) (by rw [hS]; omega)) (by decide) (by decide) rfl (hml rfl) rfl rfl (by decide) (by decide) rfl ?_
  rintro v42 T42 h42 L42 ⟨rfl, N42q, e42⟩ P42
  rw [e42] at P42
  have N42 := Fr.app N41 N42q
  refine Own.aload (q := 104) P42 at_102 rfl rfl rfl ?_
  refine Own.iconst (q := 105) (v := (1 : Int32)) P42 at_104 rfl rfl ?_
  refine Own.cV (q := 108) (W := 1) (rest := [(.int (([(119 : Int32), (104 : Int32), (115 : Int32), (101 : Int32), (99 : Int32), (95 : Int32)] ++ Own.encL u31).getD 1 0))]) P42 at_105 (wd hw 213 rfl) (vw_6 hw) (Own.nfs P42 (wd hw 216 rfl)) St37.exa (rmSca l Z a0 hw [] a37 [(119 : Int32), (104 : Int32), (115 : Int32), (101 : Int32), (99 : Int32), (95 : Int32)] 1 zc fm h37 n0 (Nat.le_trans Z0 E0_6_38.1) (SC.ext E0_6_38) hzc (SF.ext E0_6_38) hfm St37 (by decide)) (by decide) (by decide) rfl (hml rfl) rfl rfl (by decide) (by decide) rfl ?_
  rintro v43 T43 h43 L43 ⟨rfl, N43q, e43⟩ P43
  rw [e43] at P43
  have N43 := Fr.app N42 N43q
  refine Own.icmp_ne (q := 111) (qy := 171) P43 at_108 (by decide) rfl (fun q => absurd rfl q) (fun _ => ?_)
  refine Own.aload (q := 113) P43 at_111 rfl rfl rfl ?_
  refine Own.iconst (q := 114) (v := (2 : Int32)) P43 at_113 rfl rfl ?_
  refine Own.cV (q := 117) (W := 0) (rest := []) P43 at_114 (wd hw 213 rfl) (vw_6 hw) (Own.nfs P43 (wd hw 216 rfl)) (St34.ext E5_6_39).exa (rmSca l Z a0 hw [] r34 ([(119 : Int32), (104 : Int32), (115 : Int32), (101 : Int32), (99 : Int32), (95 : Int32)] ++ Own.encL u31) 2 zc fm h37 n0 (Nat.le_trans Z0 E0_6_38.1) (SC.ext E0_6_38) hzc (SF.ext E0_6_38) hfm (St34.ext E5_6_39) (by rw [hS]; omega)) (by decide) (by decide) rfl (hml rfl) rfl rfl (by decide) (by decide) rfl ?_
  rintro v44 T44 h44 L44 ⟨rfl, N44q, e44⟩ P44
  rw [e44] at P44
  have N44 := Fr.app N43 N44q
  refine Own.aload (q := 119) P44 at_117 rfl rfl rfl ?_
  refine Own.iconst (q := 120) (v := (2 : Int32)) P44 at_119 rfl rfl ?_
  refine Own.cV (q := 123) (W := 1) (rest := [(.int (([(119 : Int32), (104 : Int32), (115 : Int32), (101 : Int32), (99 : Int32), (95 : Int32)] ++ Own.encL u31).getD 2 0))]) P44 at_120 (wd hw 213 rfl) (vw_6 hw) (Own.nfs P44 (wd hw 216 rfl)) St37.exa (rmSca l Z a0 hw [] a37 [(119 : Int32), (104 : Int32), (115 : Int32), (101 : Int32), (99 : Int32), (95 : Int32)] 2 zc fm h37 n0 (Nat.le_trans Z0 E0_6_38.1) (SC.ext E0_6_38) hzc (SF.ext E0_6_38) hfm St37 (by decide)) (by decide) (by decide) rfl (hml rfl) rfl rfl (by decide) (by decide) rfl ?_
  rintro v45 T45 h45 L45 ⟨rfl, N45q, e45⟩ P45
  rw [e45] at P45
  have N45 := Fr.app N44 N45q
  refine Own.icmp_ne (q := 126) (qy := 171) P45 at_123 (by decide) rfl (fun q => absurd rfl q) (fun _ => ?_)
  refine Own.aload (q := 128) P45 at_126 rfl rfl rfl ?_
  refine Own.iconst (q := 129) (v := (3 : Int32)) P45 at_128 rfl rfl ?_
  refine Own.cV (q := 132) (W := 0) (rest := []) P45 at_129 (wd hw 213 rfl) (vw_6 hw) (Own.nfs P45 (wd hw 216 rfl)) (St34.ext E5_6_39).exa (rmSca l Z a0 hw [] r34 ([(119 : Int32), (104 : Int32), (115 : Int32), (101 : Int32), (99 : Int32), (95 : Int32)] ++ Own.encL u31) 3 zc fm h37 n0 (Nat.le_trans Z0 E0_6_38.1) (SC.ext E0_6_38) hzc (SF.ext E0_6_38) hfm (St34.ext E5_6_39) (by rw [hS]; omega)) (by decide) (by decide) rfl (hml rfl) rfl rfl (by decide) (by decide) rfl ?_
  rintro v46 T46 h46 L46 ⟨rfl, N46q, e46⟩ P46
  rw [e46] at P46
  have N46 := Fr.app N45 N46q
  refine Own.aload (q := 134) P46 at_132 rfl rfl rfl ?_
  refine Own.iconst (q := 135) (v := (3 : Int32)) P46 at_134 rfl rfl ?_
  refine Own.cV (q := 138) (W := 1) (rest := [(.int (([(119 : Int32), (104 : Int32), (115 : Int32), (101 : Int32), (99 : Int32), (95 : Int32)] ++ Own.encL u31).getD 3 0))]) P46 at_135 (wd hw 213 rfl) (vw_6 hw) (Own.nfs P46 (wd hw 216 rfl)) St37.exa (rmSca l Z a0 hw [] a37 [(119 : Int32), (104 : Int32), (115 : Int32), (101 : Int32), (99 : Int32), (95 : Int32)] 3 zc fm h37 n0 (Nat.le_trans Z0 E0_6_38.1) (SC.ext E0_6_38) hzc (SF.ext E0_6_38) hfm St37 (by decide)) (by decide) (by decide) rfl (hml rfl) rfl rfl (by decide) (by decide) rfl ?_
  rintro v47 T47 h47 L47 ⟨rfl, N47q, e47⟩ P47
  rw [e47] at P47
  have N47 := Fr.app N46 N47q
  refine Own.icmp_ne (q := 141) (qy := 171) P47 at_138 (by decide) rfl (fun q => absurd rfl q) (fun _ => ?_)
  refine Own.aload (q := 143) P47 at_141 rfl rfl rfl ?_
  refine Own.iconst (q := 144) (v := (4 : Int32)) P47 at_143 rfl rfl ?_
  refine Own.cV (q := 147) (W := 0) (rest := []) P47 at_144 (wd hw 213 rfl) (vw_6 hw) (Own.nfs P47 (wd hw 216 rfl)) (St34.ext E5_6_39).exa (rmSca l Z a0 hw [] r34 ([(119 : Int32), (104 : Int32), (115 : Int32), (101 : Int32), (99 : Int32), (95 : Int32)] ++ Own.encL u31) 4 zc fm h37 n0 (Nat.le_trans Z0 E0_6_38.1) (SC.ext E0_6_38) hzc (SF.ext E0_6_38) hfm (St34.ext E5_6_39) (by rw [hS]; omega)) (by decide) (by decide) rfl (hml rfl) rfl rfl (by decide) (by decide) rfl ?_
  rintro v48 T48 h48 L48 ⟨rfl, N48q, e48⟩ P48
  rw [e48] at P48
  have N48 := Fr.app N47 N48q
  refine Own.aload (q := 149) P48 at_147 rfl rfl rfl ?_
  refine Own.iconst (q := 150) (v := (4 : Int32)) P48 at_149 rfl rfl ?_
  refine Own.cV (q := 153) (W := 1) (rest := [(.int (([(119 : Int32), (104 : Int32), (115 : Int32), (101 : Int32), (99 : Int32), (95 : Int32)] ++ Own.encL u31).getD 4 0))]) P48 at_150 (wd hw 213 rfl) (vw_6 hw) (Own.nfs P48 (wd hw 216 rfl)) St37.exa (rmSca l Z a0 hw [] a37 [(119 : Int32), (104 : Int32), (115 : Int32), (101 : Int32), (99 : Int32), (95 : Int32)] 4 zc fm h37 n0 (Nat.le_trans Z0 E0_6_38.1) (SC.ext E0_6_38) hzc (SF.ext E0_6_38) hfm St37 (by decide)) (by decide) (by decide) rfl (hml rfl) rfl rfl (by decide) (by decide) rfl ?_
  rintro v49 T49 h49 L49 ⟨rfl, N49q, e49⟩ P49
  rw [e49] at P49
  have N49 := Fr.app N48 N49q
  refine Own.icmp_ne (q := 156) (qy := 171) P49 at_153 (by decide) rfl (fun q => absurd rfl q) (fun _ => ?_)
  refine Own.aload (q := 158) P49 at_156 rfl rfl rfl ?_
  refine Own.iconst (q := 159) (v := (5 : Int32)) P49 at_158 rfl rfl ?_
  refine Own.cV (q := 162) (W := 0) (rest := []) P49 at_159 (wd hw 213 rfl) (vw_6 hw) (Own.nfs P49 (wd hw 216 rfl)) (St34.ext E5_6_39).exa (rmSca l Z a0 hw [] r34 ([(119 : Int32), (104 : Int32), (115 : Int32), (101 : Int32), (99 : Int32), (95 : Int32)] ++ Own.encL u31) 5 zc fm h37 n0 (Nat.le_trans Z0 E0_6_38.1) (SC.ext E0_6_38) hzc (SF.ext E0_6_38) hfm (St34.ext E5_6_39) (by rw [hS]; omega)) (by decide) (by decide) rfl (hml rfl) rfl rfl (by decide) (by decide) rfl ?_
  rintro v50 T50 h50 L50 ⟨rfl, N50q, e50⟩ P50
  rw [e50] at P50
  have N50 := Fr.app N49 N50q
  refine Own.aload (q := 164) P50 at_162 rfl rfl rfl ?_
  refine Own.iconst (q := 165) (v := (5 : Int32)) P50 at_164 rfl rfl ?_
  refine Own.cV (q := 168) (W := 1) (rest := [(.int (([(119 : Int32), (104 : Int32), (115 : Int32), (101 : Int32), (99 : Int32), (95 : Int32)] ++ Own.encL u31).getD 5 0))]) P50 at_165 (wd hw 213 rfl) (vw_6 hw) (Own.nfs P50 (wd hw 216 rfl)) St37.exa (rmSca l Z a0 hw [] a37 [(119 : Int32), (104 : Int32), (115 : Int32), (101 : Int32), (99 : Int32), (95 : Int32)] 5 zc fm h37 n0 (Nat.le_trans Z0 E0_6_38.1) (SC.ext E0_6_38) hzc (SF.ext E0_6_38) hfm St37 (by decide)) (by decide) (by decide) rfl (hml rfl) rfl rfl (by decide) (by decide) rfl ?_
  rintro v51 T51 h51 L51 ⟨rfl, N51q, e51⟩ P51
  rw [e51] at P51
  have N51 := Fr.app N50 N51q
  refine Own.icmp_eq (q := 171) (qy := 173) P51 at_168 (by decide) rfl (fun _ => ?_) (fun q => absurd rfl q)
  refine Own.aload (q := 175) P51 at_173 rfl rfl rfl ?_
  refine Own.bipush (q := 177) (v := (6 : Int32)) P51 at_175 rfl rfl ?_
  refine Own.aload (q := 179) P51 at_177 rfl rfl rfl ?_
  refine Own.iconst (q := 180) (v := (0 : Int32)) P51 at_179 rfl rfl ?_
  have E4_5_52 : Ext h31 h34 := E34
  have E4_6_53 : Ext h31 h37 := (Own.Ext.tr E4_5_52 E37)
  refine Own.cS (q := 183) (W := 2) (rest := [(.int (6 : Int32)), (.ref r34)]) P51 at_180 (wd hw 233 rfl) (sw_64 hw) (rmUL l Z a0 hw [] a21 k21 u31 0 h37 n0 (Nat.le_trans Z0 E0_6_38.1) (A31.ext E4_6_53) hp31 (by omega) (by omega)) (by decide) (by decide) rfl (hml rfl) rfl rfl (by decide) (by decide) rfl ?_
  rintro v54 T54 h54 L54 ⟨rfl, N54q, e54⟩ P54
  rw [e54] at P54
  have N54 := Fr.app N51 N54q
  refine Own.aload (q := 185) P54 at_183 rfl rfl rfl ?_
  refine Own.iconst (q := 186) (v := (1 : Int32)) P54 at_185 rfl rfl ?_
  refine Own.cS (q := 189) (W := 3) (rest := [(.int (u31.getD 0 0)), (.int (6 : Int32)), (.ref r34)]) P54 at_186 (wd hw 233 rfl) (sw_64 hw) (rmUL l Z a0 hw [] a21 k21 u31 1 h37 n0 (Nat.le_trans Z0 E0_6_38.1) (A31.ext E4_6_53) hp31 (by omega) (by omega)) (by decide) (by decide) rfl (hml rfl) rfl rfl (by decide) (by decide) rfl ?_
  rintro v55 T55 h55 L55 ⟨rfl, N55q, e55⟩ P55
  rw [e55] at P55
  have N55 := Fr.app N54 N55q
  refine Own.aload (q := 191) P55 at_189 rfl rfl rfl ?_
  refine Own.iconst (q := 192) (v := (2 : Int32)) P55 at_191 rfl rfl ?_
  refine Own.cS (q := 195) (W := 4) (rest := [(.int (u31.getD 1 0)), (.int (u31.getD 0 0)), (.int (6 : Int32)), (.ref r34)]) P55 at_192 (wd hw 233 rfl) (sw_64 hw) (rmUL l Z a0 hw [] a21 k21 u31 2 h37 n0 (Nat.le_trans Z0 E0_6_38.1) (A31.ext E4_6_53) hp31 (by omega) (by omega)) (by decide) (by decide) rfl (hml rfl) rfl rfl (by decide) (by decide) rfl ?_
  rintro v56 T56 h56 L56 ⟨rfl, N56q, e56⟩ P56
  rw [e56] at P56
  have N56 := Fr.app N55 N56q
  refine Own.cS (q := 198) (W := 0) (rest := []) P56 at_195 (wd hw 236 rfl) (sw_65 hw) (rmFull l Z a0 hw [] r34 ([(119 : Int32), (104 : Int32), (115 : Int32), (101 : Int32), (99 : Int32), (95 : Int32)] ++ Own.encL u31) 6 (u31.getD 0 0) (u31.getD 1 0) (u31.getD 2 0) zc fm h37 n0 (Nat.le_trans Z0 E0_6_38.1) (SC.ext E0_6_38) hzc (SF.ext E0_6_38) hfm (St34.ext E5_6_39) (Own.rng_getD hp31 _) (Own.rng_getD hp31 _) (Own.rng_getD hp31 _) (by rw [hS]; omega) (by rw [Own.S6]; exact Own.encL_head (i := 0) (j := 0) (by omega) (by decide)) (by rw [Own.S6]; exact Own.encL_head (i := 0) (j := 1) (by omega) (by decide)) (by rw [Own.S6]; exact Own.encL_head (i := 0) (j := 2) (by omega) (by decide)) (by rw [Own.S6]; exact Own.encL_head (i := 0) (j := 3) (by omega) (by decide))) (by decide) (by decide) rfl (hml rfl) rfl rfl (by decide) (by decide) rfl ?_
  rintro v57 T57 h57 L57 ⟨rfl, N57q, e57⟩ P57
  rw [e57] at P57
  have N57 := Fr.app N56 N57q
  refine Own.if_ne (q := 201) (qy := 203) P57 at_198 (by decide) rfl (fun _ => ?_) (fun q => absurd q (by decide))
  refine Own.aload (q := 205) P57 at_203 rfl rfl rfl ?_
  refine Own.bipush (q := 207) (v := (18 : Int32)) P57 at_205 rfl rfl ?_
  refine Own.aload (q := 209) P57 at_207 rfl rfl rfl ?_
  refine Own.bipush (q := 211) (v := (9 : Int32)) P57 at_209 rfl rfl ?_
  refine Own.cS (q := 214) (W := 2) (rest := [(.int (18 : Int32)), (.ref r34)]) P57 at_211 (wd hw 233 rfl) (sw_64 hw) (rmUL l Z a0 hw [] a21 k21 u31 9 h37 n0 (Nat.le_trans Z0 E0_6_38.1) (A31.ext E4_6_53) hp31 (by omega) (by omega)) (by decide) (by decide) rfl (hml rfl) rfl rfl (by decide) (by decide) rfl ?_
  rintro v58 T58 h58 L58 ⟨rfl, N58q, e58⟩ P58
  rw [e58] at P58
  have N58 := Fr.app N57 N58q
  refine Own.aload (q := 216) P58 at_214 rfl rfl rfl ?_
  refine Own.bipush (q := 218) (v := (10 : Int32)) P58 at_216 rfl rfl ?_
  refine Own.cS (q := 221) (W := 3) (rest := [(.int (u31.getD 9 0)), (.int (18 : Int32)), (.ref r34)]) P58 at_218 (wd hw 233 rfl) (sw_64 hw) (rmUL l Z a0 hw [] a21 k21 u31 10 h37 n0 (Nat.le_trans Z0 E0_6_38.1) (A31.ext E4_6_53) hp31 (by omega) (by omega)) (by decide) (by decide) rfl (hml rfl) rfl rfl (by decide) (by decide) rfl ?_
  rintro v59 T59 h59 L59 ⟨rfl, N59q, e59⟩ P59
  rw [e59] at P59
  have N59 := Fr.app N58 N59q
  refine Own.aload (q := 223) P59 at_221 rfl rfl rfl ?_
  refine Own.bipush (q := 225) (v := (11 : Int32)) P59 at_223 rfl rfl ?_
  refine Own.cS (q := 228) (W := 4) (rest := [(.int (u31.getD 10 0)), (.int (u31.getD 9 0)), (.int (18 : Int32)), (.ref r34)]) P59 at_225 (wd hw 233 rfl) (sw_64 hw) (rmUL l Z a0 hw [] a21 k21 u31 11 h37 n0 (Nat.le_trans Z0 E0_6_38.1) (A31.ext E4_6_53) hp31 (by omega) (by omega)) (by decide) (by decide) rfl (hml rfl) rfl rfl (by decide) (by decide) rfl ?_
  rintro v60 T60 h60 L60 ⟨rfl, N60q, e60⟩ P60
  rw [e60] at P60
  have N60 := Fr.app N59 N60q
  refine Own.cS (q := 231) (W := 0) (rest := []) P60 at_228 (wd hw 236 rfl) (sw_65 hw) (rmFull l Z a0 hw [] r34 ([(119 : Int32), (104 : Int32), (115 : Int32), (101 : Int32), (99 : Int32), (95 : Int32)] ++ Own.encL u31) 18 (u31.getD 9 0) (u31.getD 10 0) (u31.getD 11 0) zc fm h37 n0 (Nat.le_trans Z0 E0_6_38.1) (SC.ext E0_6_38) hzc (SF.ext E0_6_38) hfm (St34.ext E5_6_39) (Own.rng_getD hp31 _) (Own.rng_getD hp31 _) (Own.rng_getD hp31 _) (by rw [hS]; omega) (by rw [show 18 + 0 = 6 + (4 * 3 + 0) from rfl, Own.S6]; exact Own.encL_head (i := 3) (j := 0) (by omega) (by decide)) (by rw [show 18 + 1 = 6 + (4 * 3 + 1) from rfl, Own.S6]; exact Own.encL_head (i := 3) (j := 1) (by omega) (by decide)) (by rw [show 18 + 2 = 6 + (4 * 3 + 2) from rfl, Own.S6]; exact Own.encL_head (i := 3) (j := 2) (by omega) (by decide)) (by rw [show 18 + 3 = 6 + (4 * 3 + 3) from rfl, Own.S6]; exact Own.encL_head (i := 3) (j := 3) (by omega) (by decide))) (by decide) (by decide) rfl (hml rfl) rfl rfl (by decide) (by decide) rfl ?_
  rintro v61 T61 h61 L61 ⟨rfl, N61q, e61⟩ P61
  rw [e61] at P61
  have N61 := Fr.app N60 N61q
  refine Own.if_ne (q := 234) (qy := 236) P61 at_231 (by decide) rfl (fun _ => ?_) (fun q => absurd q (by decide))
  refine Own.bipush (q := 238) (v := (6 : Int32)) P61 at_236 rfl rfl ?_
  refine Own.iconst (q := 239) (v := (4 : Int32)) P61 at_238 rfl rfl ?_
  refine Own.iload (q := 241) P61 at_239 rfl rfl ?_
  refine Own.iconst (q := 242) (v := (1 : Int32)) P61 at_241 rfl rfl ?_
  refine Own.isub (q := 243) P61 at_242  rfl ?_
  rw [show ((Int32.ofNat ((n + 2) / 3)) - (1 : Int32)) = (Int32.ofNat (((n + 2) / 3) - 1)) from Own.subE (f := 1) (by omega)]
  refine Own.imul (q := 244) P61 at_243  rfl ?_
  rw [show ((4 : Int32) * (Int32.ofNat (((n + 2) / 3) - 1))) = (Int32.ofNat (4 * (((n + 2) / 3) - 1))) from (Int32.ofNat_mul 4 _).symm]
  refine Own.iadd (q := 245) P61 at_244  rfl ?_
  rw [show ((6 : Int32) + (Int32.ofNat (4 * (((n + 2) / 3) - 1)))) = (Int32.ofNat (6 + 4 * (((n + 2) / 3) - 1))) from (Int32.ofNat_add 6 _).symm]
  refine Own.istore (q := 247) (L2 := #[.val (.int x0), .val (.long x1), .second, .val (.long x2), .second, .val (.long x3), .second, .val (.int (Int32.ofNat n)), .val (.ref a21), .val (.ref r34), .val (.int (Int32.ofNat ((n + 2) / 3))), .val (.ref a37), .val (.int (Int32.ofNat (6 + 4 * (((n + 2) / 3) - 1)))), .unset, .unset, .unset, .unset]) P61 at_245 rfl rfl ?_
  refine Own.iload (q := 249) P61 at_247 rfl rfl ?_
  refine Own.iconst (q := 250) (v := (3 : Int32)) P61 at_249 rfl rfl ?_
  refine Own.irem (q := 251) P61 at_250 (by decide) rfl ?_
  rw [show ((Int32.ofNat n) % (3 : Int32)) = (Int32.ofNat (n % 3)) from Own.modN (d := 3) (by omega) (by decide) (by decide)]
  refine Own.istore (q := 253) (L2 := #[.val (.int x0), .val (.long x1), .second, .val (.long x2), .second, .val (.long x3), .second, .val (.int (Int32.ofNat n)), .val (.ref a21), .val (.ref r34), .val (.int (Int32.ofNat ((n + 2) / 3))), .val (.ref a37), .val (.int (Int32.ofNat (6 + 4 * (((n + 2) / 3) - 1)))), .val (.int (Int32.ofNat (n % 3))), .unset, .unset, .unset]) P61 at_251 rfl rfl ?_
  have hr3 : u31.length = 3 * mm ∨ u31.length = 3 * mm + 1 ∨ u31.length = 3 * mm + 2 := by omega
  rcases hr3 with hr | hr | hr
  · have hX := Own.encT0 hr
    have hn3 : n % 3 = 0 := by omega
    refine Own.iload (q := 255) P61 at_253 rfl rfl ?_
    refine Own.if_ne (q := 258) (qy := 297) P61 at_255 (by decide) rfl (fun q => absurd (by rw [hn3]; rfl) q) (fun _ => ?_)
    refine Own.aload (q := 260) P61 at_258 rfl rfl rfl ?_
    refine Own.iload (q := 262) P61 at_260 rfl rfl ?_
    refine Own.aload (q := 264) P61 at_262 rfl rfl rfl ?_
    refine Own.iload (q := 266) P61 at_264 rfl rfl ?_
    refine Own.iconst (q := 267) (v := (3 : Int32)) P61 at_266 rfl rfl ?_
    refine Own.isub (q := 268) P61 at_267  rfl ?_
    rw [show ((Int32.ofNat n) - (3 : Int32)) = (Int32.ofNat (n - 3)) from Own.subE (f := 3) (by omega)]
    refine Own.cS (q := 271) (W := 2) (rest := [(.int (Int32.ofNat (6 + 4 * (((n + 2) / 3) - 1)))), (.ref r34)]) P61 at_268 (wd hw 233 rfl) (sw_64 hw) (rmUL l Z a0 hw [] a21 k21 u31 (n - 3) h37 n0 (Nat.le_trans Z0 E0_6_38.1) (A31.ext E4_6_53) hp31 (by omega) (by omega)) (by decide) (by decide) rfl (hml rfl) rfl rfl (by decide) (by decide) rfl ?_
    rintro v62 T62 h62 L62 ⟨rfl, N62q, e62⟩ P62
    rw [e62] at P62
    have N62 := Fr.app N61 N62q
    refine Own.aload (q := 273) P62 at_271 rfl rfl rfl ?_
    refine Own.iload (q := 275) P62 at_273 rfl rfl ?_
    refine Own.iconst (q := 276) (v := (2 : Int32)) P62 at_275 rfl rfl ?_
    refine Own.isub (q := 277) P62 at_276  rfl ?_
    rw [show ((Int32.ofNat n) - (2 : Int32)) = (Int32.ofNat (n - 2)) from Own.subE (f := 2) (by omega)]
    refine Own.cS (q := 280) (W := 3) (rest := [(.int (u31.getD (n - 3) 0)), (.int (Int32.ofNat (6 + 4 * (((n + 2) / 3) - 1)))), (.ref r34)]) P62 at_277 (wd hw 233 rfl) (sw_64 hw) (rmUL l Z a0 hw [] a21 k21 u31 (n - 2) h37 n0 (Nat.le_trans Z0 E0_6_38.1) (A31.ext E4_6_53) hp31 (by omega) (by omega)) (by decide) (by decide) rfl (hml rfl) rfl rfl (by decide) (by decide) rfl ?_
    rintro v63 T63 h63 L63 ⟨rfl, N63q, e63⟩ P63
    rw [e63] at P63
    have N63 := Fr.app N62 N63q
    refine Own.aload (q := 282) P63 at_280 rfl rfl rfl ?_
    refine Own.iload (q := 284) P63 at_282 rfl rfl ?_
    refine Own.iconst (q := 285) (v := (1 : Int32)) P63 at_284 rfl rfl ?_
    refine Own.isub (q := 286) P63 at_285  rfl ?_
    rw [show ((Int32.ofNat n) - (1 : Int32)) = (Int32.ofNat (n - 1)) from Own.subE (f := 1) (by omega)]
    refine Own.cS (q := 289) (W := 4) (rest := [(.int (u31.getD (n - 2) 0)), (.int (u31.getD (n - 3) 0)), (.int (Int32.ofNat (6 + 4 * (((n + 2) / 3) - 1)))), (.ref r34)]) P63 at_286 (wd hw 233 rfl) (sw_64 hw) (rmUL l Z a0 hw [] a21 k21 u31 (n - 1) h37 n0 (Nat.le_trans Z0 E0_6_38.1) (A31.ext E4_6_53) hp31 (by omega) (by omega)) (by decide) (by decide) rfl (hml rfl) rfl rfl (by decide) (by decide) rfl ?_
    rintro v64 T64 h64 L64 ⟨rfl, N64q, e64⟩ P64
    rw [e64] at P64
    have N64 := Fr.app N63 N64q
    refine Own.cS (q := 292) (W := 0) (rest := []) P64 at_289 (wd hw 236 rfl) (sw_65 hw) (rmFull l Z a0 hw [] r34 ([(119 : Int32), (104 : Int32), (115 : Int32), (101 : Int32), (99 : Int32), (95 : Int32)] ++ Own.encL u31) (6 + 4 * (((n + 2) / 3) - 1)) (u31.getD (n - 3) 0) (u31.getD (n - 2) 0) (u31.getD (n - 1) 0) zc fm h37 n0 (Nat.le_trans Z0 E0_6_38.1) (SC.ext E0_6_38) hzc (SF.ext E0_6_38) hfm (St34.ext E5_6_39) (Own.rng_getD hp31 _) (Own.rng_getD hp31 _) (Own.rng_getD hp31 _) (by rw [hS]; omega) (by rw [show 6 + 4 * (((n + 2) / 3) - 1) + 0 = 6 + (4 * (mm - 1) + 0) by omega, Own.S6, Own.encL_head (by omega) (by decide), show 3 * (mm - 1) = n - 3 by omega, show n - 3 + 1 = n - 2 by omega, show n - 3 + 2 = n - 1 by omega]; rfl) (by rw [show 6 + 4 * (((n + 2) / 3) - 1) + 1 = 6 + (4 * (mm - 1) + 1) by omega, Own.S6, Own.encL_head (by omega) (by decide), show 3 * (mm - 1) = n - 3 by omega, show n - 3 + 1 = n - 2 by omega, show n - 3 + 2 = n - 1 by omega]; rfl) (by rw [show 6 + 4 * (((n + 2) / 3) - 1) + 2 = 6 + (4 * (mm - 1) + 2) by omega, Own.S6, Own.encL_head (by omega) (by decide), show 3 * (mm - 1) = n - 3 by omega, show n - 3 + 1 = n - 2 by omega, show n - 3 + 2 = n - 1 by omega]; rfl) (by rw [show 6 + 4 * (((n + 2) / 3) - 1) + 3 = 6 + (4 * (mm - 1) + 3) by omega, Own.S6, Own.encL_head (by omega) (by decide), show 3 * (mm - 1) = n - 3 by omega, show n - 3 + 1 = n - 2 by omega, show n - 3 + 2 = n - 1 by omega]; rfl)) (by decide) (by decide) rfl (hml rfl) rfl rfl (by decide) (by decide) rfl ?_
    rintro v65 T65 h65 L65 ⟨rfl, N65q, e65⟩ P65
    rw [e65] at P65
    have N65 := Fr.app N64 N65q
    refine Own.istore (q := 294) (L2 := #[.val (.int x0), .val (.long x1), .second, .val (.long x2), .second, .val (.long x3), .second, .val (.int (Int32.ofNat n)), .val (.ref a21), .val (.ref r34), .val (.int (Int32.ofNat ((n + 2) / 3))), .val (.ref a37), .val (.int (Int32.ofNat (6 + 4 * (((n + 2) / 3) - 1)))), .val (.int (Int32.ofNat (n % 3))), .val (.int (1 : Int32)), .unset, .unset]) P65 at_292 rfl rfl ?_
    refine Own.goto (q := 498) P65 at_294 (by decide) ?_
    refine Own.iload (q := 500) P65 at_498 rfl rfl ?_
    refine Own.if_ne (q := 503) (qy := 505) P65 at_500 (by decide) rfl (fun _ => ?_) (fun q => absurd q (by decide))
    refine Own.aload (q := 507) P65 at_505 rfl rfl rfl ?_
    refine Own.cSHX (q := 510) (W := 0) (rest := []) P65 H37 at_507 (wd hw 242 rfl) (sw_66 hw) (rmKey l Z a0 hw [] ee tt kt dd ft ci cu kf r34 u31 mm zc fm h37 n0 (Nat.le_trans Z0 E0_6_38.1) (en.ext E0_6_38) (de.ext E0_6_38) (SC.ext E0_6_38) hzc (SF.ext E0_6_38) hfm (St34.ext E5_6_39) hp31 (by omega) hmm) (ew hw) all0 (by decide) (by decide) rfl (hml rfl) rfl rfl (by decide) (by decide) rfl ?_
    rintro v66 T66 vm66 h66 L66 ⟨r66, k66, rfl, N66q, E66, gr66, B66⟩ P66 H66 hr66
    have N66 := Fr.app N65 N66q
    refine Own.astore (q := 512) (L2 := #[.val (.int x0), .val (.long x1), .second, .val (.long x2), .second, .val (.long x3), .second, .val (.int (Int32.ofNat n)), .val (.ref a21), .val (.ref r34), .val (.int (Int32.ofNat ((n + 2) / 3))), .val (.ref a37), .val (.int (Int32.ofNat (6 + 4 * (((n + 2) / 3) - 1)))), .val (.int (Int32.ofNat (n % 3))), .val (.int (1 : Int32)), .val (.ref r66), .unset]) P66 at_510 rfl rfl rfl ?_
    refine Own.aload (q := 514) P66 at_512 rfl rfl rfl ?_
    refine Own.arraylength (q := 515) P66 at_514 B66 rfl ?_
    refine Own.iload (q := 517) P66 at_515 rfl rfl ?_
    refine Own.icmp_ne (q := 520) (qy := 565) P66 at_517 (by decide) rfl (fun q => absurd (by rw [hl31]) q) (fun _ => ?_)
    refine Own.aload (q := 522) P66 at_520 rfl rfl rfl ?_
    refine Own.iconst (q := 523) (v := (0 : Int32)) P66 at_522 rfl rfl ?_
    refine Own.bget (q := 524) (i := 0) P66 at_523 B66 (by omega) (by omega) rfl ?_
    refine Own.aload (q := 526) P66 at_524 rfl rfl rfl ?_
    refine Own.iconst (q := 527) (v := (0 : Int32)) P66 at_526 rfl rfl ?_
    have E4_7_67 : Ext h31 h66 := (Own.Ext.tr E4_6_53 E66)
    refine Own.bget (q := 528) (i := 0) P66 at_527 (A31.ext E4_7_67) (by omega) (by omega) rfl ?_
    refine Own.icmp_ne (q := 531) (qy := 565) P66 at_528 (by decide) rfl (fun q => absurd rfl q) (fun _ => ?_)
    refine Own.aload (q := 533) P66 at_531 rfl rfl rfl ?_
    refine Own.bipush (q := 535) (v := (10 : Int32)) P66 at_533 rfl rfl ?_
    refine Own.bget (q := 536) (i := 10) P66 at_535 B66 (by omega) (by omega) rfl ?_
    refine Own.aload (q := 538) P66 at_536 rfl rfl rfl ?_
    refine Own.bipush (q := 540) (v := (10 : Int32)) P66 at_538 rfl rfl ?_
    refine Own.bget (q := 541) (i := 10) P66 at_540 (A31.ext E4_7_67) (by omega) (by omega) rfl ?_
    refine Own.icmp_ne (q := 544) (qy := 565) P66 at_541 (by decide) rfl (fun q => absurd rfl q) (fun _ => ?_)
    refine Own.aload (q := 546) P66 at_544 rfl rfl rfl ?_
    refine Own.iload (q := 548) P66 at_546 rfl rfl ?_
    refine Own.iconst (q := 549) (v := (1 : Int32)) P66 at_548 rfl rfl ?_
    refine Own.isub (q := 550) P66 at_549  rfl ?_
    rw [show ((Int32.ofNat n) - (1 : Int32)) = (Int32.ofNat (n - 1)) from Own.subE (f := 1) (by omega)]
    refine Own.bget (q := 551) (i := (n - 1)) P66 at_550 B66 (by omega) (by omega) rfl ?_
    refine Own.aload (q := 553) P66 at_551 rfl rfl rfl ?_
    refine Own.iload (q := 555) P66 at_553 rfl rfl ?_
    refine Own.iconst (q := 556) (v := (1 : Int32)) P66 at_555 rfl rfl ?_
    refine Own.isub (q := 557) P66 at_556  rfl ?_
    rw [show ((Int32.ofNat n) - (1 : Int32)) = (Int32.ofNat (n - 1)) from Own.subE (f := 1) (by omega)]
    refine Own.bget (q := 558) (i := (n - 1)) P66 at_557 (A31.ext E4_7_67) (by omega) (by omega) rfl ?_
    refine Own.icmp_ne (q := 561) (qy := 565) P66 at_558 (by decide) rfl (fun q => absurd rfl q) (fun _ => ?_)
    refine Own.iconst (q := 562) (v := (1 : Int32)) P66 at_561 rfl rfl ?_
    refine Own.goto (q := 566) P66 at_562 (by decide) ?_
    refine Own.retZH P66 hh (ew hw) H66 at_566 hret (by simp) hlk (by decide) (by decide) ?_
    exact ⟨rfl, N66⟩
  · have hX := Own.encT1 hr
    have hn3 : n % 3 = 1 := by omega
    refine Own.iload (q := 255) P61 at_253 rfl rfl ?_
    refine Own.if_ne (q := 258) (qy := 297) P61 at_255 (by decide) rfl (fun _ => ?_) (fun q => absurd q (Own.n0_of (by omega) (by omega)))
    refine Own.iload (q := 299) P61 at_297 rfl rfl ?_
    refine Own.iconst (q := 300) (v := (1 : Int32)) P61 at_299 rfl rfl ?_
    refine Own.icmp_ne (q := 303) (qy := 390) P61 at_300 (by decide) rfl (fun q => absurd (by rw [hn3]; rfl) q) (fun _ => ?_)
    refine Own.aload (q := 305) P61 at_303 rfl rfl rfl ?_
    refine Own.iload (q := 307) P61 at_305 rfl rfl ?_
    refine Own.iconst (q := 308) (v := (1 : Int32)) P61 at_307 rfl rfl ?_
    refine Own.isub (q := 309) P61 at_308  rfl ?_
    rw [show ((Int32.ofNat n) - (1 : Int32)) = (Int32.ofNat (n - 1)) from Own.subE (f := 1) (by omega)]
    refine Own.cS (q := 312) (W := 0) (rest := []) P61 at_309 (wd hw 233 rfl) (sw_64 hw) (rmUL l Z a0 hw [] a21 k21 u31 (n - 1) h37 n0 (Nat.le_trans Z0 E0_6_38.1) (A31.ext E4_6_53) hp31 (by omega) (by omega)) (by decide) (by decide) rfl (hml rfl) rfl rfl (by decide) (by decide) rfl ?_
    rintro v68 T68 h68 L68 ⟨rfl, N68q, e68⟩ P68
    rw [e68] at P68
    have N68 := Fr.app N61 N68q
    refine Own.istore (q := 314) (L2 := #[.val (.int x0), .val (.long x1), .second, .val (.long x2), .second, .val (.long x3), .second, .val (.int (Int32.ofNat n)), .val (.ref a21), .val (.ref r34), .val (.int (Int32.ofNat ((n + 2) / 3))), .val (.ref a37), .val (.int (Int32.ofNat (6 + 4 * (((n + 2) / 3) - 1)))), .val (.int (Int32.ofNat (n % 3))), .unset, .val (.int (u31.getD (n - 1) 0)), .unset]) P68 at_312 rfl rfl ?_
    refine Own.aload (q := 316) P68 at_314 rfl rfl rfl ?_
    refine Own.iload (q := 318) P68 at_316 rfl rfl ?_
    refine Own.cV (q := 321) (W := 0) (rest := []) P68 at_318 (wd hw 213 rfl) (vw_6 hw) (Own.nfs P68 (wd hw 216 rfl)) (St34.ext E5_6_39).exa (rmSca l Z a0 hw [] r34 ([(119 : Int32), (104 : Int32), (115 : Int32), (101 : Int32), (99 : Int32), (95 : Int32)] ++ Own.encL u31) (6 + 4 * (((n + 2) / 3) - 1) + 0) zc fm h37 n0 (Nat.le_trans Z0 E0_6_38.1) (SC.ext E0_6_38) hzc (SF.ext E0_6_38) hfm (St34.ext E5_6_39) (by rw [hS]; omega)) (by decide) (by decide) rfl (hml rfl) rfl rfl (by decide) (by decide) rfl ?_
    rintro v69 T69 h69 L69 ⟨rfl, N69q, e69⟩ P69
    rw [e69] at P69
    have N69 := Fr.app N68 N69q
    refine Own.iload (q := 323) P69 at_321 rfl rfl ?_
    refine Own.iconst (q := 324) (v := (2 : Int32)) P69 at_323 rfl rfl ?_
    refine Own.ishr (q := 325) P69 at_324  rfl ?_
    refine Own.cS (q := 328) (W := 1) (rest := [(.int (([(119 : Int32), (104 : Int32), (115 : Int32), (101 : Int32), (99 : Int32), (95 : Int32)] ++ Own.encL u31).getD (6 + 4 * (((n + 2) / 3) - 1) + 0) 0))]) P69 at_325 (wd hw 239 rfl) (sw_7 hw) (rmEncL l Z a0 hw [] ((u31.getD (n - 1) 0) >>> ((2 : Int32) &&& 31)) h37 n0 (Nat.le_trans Z0 E0_6_38.1) (Own.b6s (Own.rng_getD hp31 _))) (by decide) (by decide) rfl (hml rfl) rfl rfl (by decide) (by decide) rfl ?_
    rintro v70 T70 h70 L70 ⟨rfl, N70q, e70⟩ P70
    rw [e70] at P70
    have N70 := Fr.app N69 N70q
    refine Own.icmp_ne (q := 331) (qy := 384) P70 at_328 (by decide) rfl (fun q => absurd (by rw [show 6 + 4 * (((n + 2) / 3) - 1) + 0 = 6 + (4 * mm + 0) by omega, Own.S6, Own.encL_tail hmm, hX, show 3 * mm = n - 1 by omega]; rfl) q) (fun _ => ?_)
    refine Own.aload (q := 333) P70 at_331 rfl rfl rfl ?_
    refine Own.iload (q := 335) P70 at_333 rfl rfl ?_
    refine Own.iconst (q := 336) (v := (1 : Int32)) P70 at_335 rfl rfl ?_
    refine Own.iadd (q := 337) P70 at_336  rfl ?_
    rw [show ((Int32.ofNat (6 + 4 * (((n + 2) / 3) - 1))) + (1 : Int32)) = (Int32.ofNat (6 + 4 * (((n + 2) / 3) - 1) + 1)) from (Int32.ofNat_add _ 1).symm]
    refine Own.cV (q := 340) (W := 0) (rest := []) P70 at_337 (wd hw 213 rfl) (vw_6 hw) (Own.nfs P70 (wd hw 216 rfl)) (St34.ext E5_6_39).exa (rmSca l Z a0 hw [] r34 ([(119 : Int32), (104 : Int32), (115 : Int32), (101 : Int32), (99 : Int32), (95 : Int32)] ++ Own.encL u31) (6 + 4 * (((n + 2) / 3) - 1) + 1) zc fm h37 n0 (Nat.le_trans Z0 E0_6_38.1) (SC.ext E0_6_38) hzc (SF.ext E0_6_38) hfm (St34.ext E5_6_39) (by rw [hS]; omega)) (by decide) (by decide) rfl (hml rfl) rfl rfl (by decide) (by decide) rfl ?_
    rintro v71 T71 h71 L71 ⟨rfl, N71q, e71⟩ P71
    rw [e71] at P71
    have N71 := Fr.app N70 N71q
    refine Own.iload (q := 342) P71 at_340 rfl rfl ?_
    refine Own.iconst (q := 343) (v := (3 : Int32)) P71 at_342 rfl rfl ?_
    refine Own.iand (q := 344) P71 at_343  rfl ?_
    refine Own.iconst (q := 345) (v := (4 : Int32)) P71 at_344 rfl rfl ?_
    refine Own.ishl (q := 346) P71 at_345  rfl ?_
    rw [show (((u31.getD (n - 1) 0) &&& (3 : Int32)) <<< ((4 : Int32) &&& 31)) = (((u31.getD (n - 1) 0) <<< ((4 : Int32) &&& 31)) &&& 63) from Own.m34 (Own.rng_getD hp31 _)]
    refine Own.cS (q := 349) (W := 1) (rest := [(.int (([(119 : Int32), (104 : Int32), (115 : Int32), (101 : Int32), (99 : Int32), (95 : Int32)] ++ Own.encL u31).getD (6 + 4 * (((n + 2) / 3) - 1) + 1) 0))]) P71 at_346 (wd hw 239 rfl) (sw_7 hw) (rmEncL l Z a0 hw [] (((u31.getD (n - 1) 0) <<< ((4 : Int32) &&& 31)) &&& 63) h37 n0 (Nat.le_trans Z0 E0_6_38.1) (Own.b6m _)) (by decide) (by decide) rfl (hml rfl) rfl rfl (by decide) (by decide) rfl ?_
    rintro v72 T72 h72 L72 ⟨rfl, N72q, e72⟩ P72
    rw [e72] at P72
    have N72 := Fr.app N71 N72q
    refine Own.icmp_ne (q := 352) (qy := 384) P72 at_349 (by decide) rfl (fun q => absurd (by rw [show 6 + 4 * (((n + 2) / 3) - 1) + 1 = 6 + (4 * mm + 1) by omega, Own.S6, Own.encL_tail hmm, hX, show 3 * mm = n - 1 by omega]; rfl) q) (fun _ => ?_)
    refine Own.aload (q := 354) P72 at_352 rfl rfl rfl ?_
    refine Own.iload (q := 356) P72 at_354 rfl rfl ?_
    refine Own.iconst (q := 357) (v := (2 : Int32)) P72 at_356 rfl rfl ?_
    refine Own.iadd (q := 358) P72 at_357  rfl ?_
    rw [show ((Int32.ofNat (6 + 4 * (((n + 2) / 3) - 1))) + (2 : Int32)) = (Int32.ofNat (6 + 4 * (((n + 2) / 3) - 1) + 2)) from (Int32.ofNat_add _ 2).symm]
    refine Own.cV (q := 361) (W := 0) (rest := []) P72 at_358 (wd hw 213 rfl) (vw_6 hw) (Own.nfs P72 (wd hw 216 rfl)) (St34.ext E5_6_39).exa (rmSca l Z a0 hw [] r34 ([(119 : Int32), (104 : Int32), (115 : Int32), (101 : Int32), (99 : Int32), (95 : Int32)] ++ Own.encL u31) (6 + 4 * (((n + 2) / 3) - 1) + 2) zc fm h37 n0 (Nat.le_trans Z0 E0_6_38.1) (SC.ext E0_6_38) hzc (SF.ext E0_6_38) hfm (St34.ext E5_6_39) (by rw [hS]; omega)) (by decide) (by decide) rfl (hml rfl) rfl rfl (by decide) (by decide) rfl ?_
    rintro v73 T73 h73 L73 ⟨rfl, N73q, e73⟩ P73
    rw [e73] at P73
    have N73 := Fr.app N72 N73q
    refine Own.bipush (q := 363) (v := (61 : Int32)) P73 at_361 rfl rfl ?_
    refine Own.icmp_ne (q := 366) (qy := 384) P73 at_363 (by decide) rfl (fun q => absurd (by rw [show 6 + 4 * (((n + 2) / 3) - 1) + 2 = 6 + (4 * mm + 2) by omega, Own.S6, Own.encL_tail hmm, hX, show 3 * mm = n - 1 by omega]; rfl) q) (fun _ => ?_)
    refine Own.aload (q := 368) P73 at_366 rfl rfl rfl ?_
    refine Own.iload (q := 370) P73 at_368 rfl rfl ?_
    refine Own.iconst (q := 371) (v := (3 : Int32)) P73 at_370 rfl rfl ?_
    refine Own.iadd (q := 372) P73 at_371  rfl ?_
    rw [show ((Int32.ofNat (6 + 4 * (((n + 2) / 3) - 1))) + (3 : Int32)) = (Int32.ofNat (6 + 4 * (((n + 2) / 3) - 1) + 3)) from (Int32.ofNat_add _ 3).symm]
    refine Own.cV (q := 375) (W := 0) (rest := []) P73 at_372 (wd hw 213 rfl) (vw_6 hw) (Own.nfs P73 (wd hw 216 rfl)) (St34.ext E5_6_39).exa (rmSca l Z a0 hw [] r34 ([(119 : Int32), (104 : Int32), (115 : Int32), (101 : Int32), (99 : Int32), (95 : Int32)] ++ Own.encL u31) (6 + 4 * (((n + 2) / 3) - 1) + 3) zc fm h37 n0 (Nat.le_trans Z0 E0_6_38.1) (SC.ext E0_6_38) hzc (SF.ext E0_6_38) hfm (St34.ext E5_6_39) (by rw [hS]; omega)) (by decide) (by decide) rfl (hml rfl) rfl rfl (by decide) (by decide) rfl ?_
    rintro v74 T74 h74 L74 ⟨rfl, N74q, e74⟩ P74
    rw [e74] at P74
    have N74 := Fr.app N73 N74q
    refine Own.bipush (q := 377) (v := (61 : Int32)) P74 at_375 rfl rfl ?_
    refine Own.icmp_ne (q := 380) (qy := 384) P74 at_377 (by decide) rfl (fun q => absurd (by rw [show 6 + 4 * (((n + 2) / 3) - 1) + 3 = 6 + (4 * mm + 3) by omega, Own.S6, Own.encL_tail hmm, hX, show 3 * mm = n - 1 by omega]; rfl) q) (fun _ => ?_)
    refine Own.iconst (q := 381) (v := (1 : Int32)) P74 at_380 rfl rfl ?_
    refine Own.goto (q := 385) P74 at_381 (by decide) ?_
    refine Own.istore (q := 387) (L2 := #[.val (.int x0), .val (.long x1), .second, .val (.long x2), .second, .val (.long x3), .second, .val (.int (Int32.ofNat n)), .val (.ref a21), .val (.ref r34), .val (.int (Int32.ofNat ((n + 2) / 3))), .val (.ref a37), .val (.int (Int32.ofNat (6 + 4 * (((n + 2) / 3) - 1)))), .val (.int (Int32.ofNat (n % 3))), .val (.int (1 : Int32)), .val (.int (u31.getD (n - 1) 0)), .unset]) P74 at_385 rfl rfl ?_
    refine Own.goto (q := 498) P74 at_387 (by decide) ?_
    refine Own.iload (q := 500) P74 at_498 rfl rfl ?_
    refine Own.if_ne (q := 503) (qy := 505) P74 at_500 (by decide) rfl (fun _ => ?_) (fun q => absurd q (by decide))
    refine Own.aload (q := 507) P74 at_505 rfl rfl rfl ?_
    refine Own.cSHX (q := 510) (W := 0) (rest := []) P74 H37 at_507 (wd hw 242 rfl) (sw_66 hw) (rmKey l Z a0 hw [] ee tt kt dd ft ci cu kf r34 u31 mm zc fm h37 n0 (Nat.le_trans Z0 E0_6_38.1) (en.ext E0_6_38) (de.ext E0_6_38) (SC.ext E0_6_38) hzc (SF.ext E0_6_38) hfm (St34.ext E5_6_39) hp31 (by omega) hmm) (ew hw) all0 (by decide) (by decide) rfl (hml rfl) rfl rfl (by decide) (by decide) rfl ?_
    rintro v75 T75 vm75 h75 L75 ⟨r75, k75, rfl, N75q, E75, gr75, B75⟩ P75 H75 hr75
    have N75 := Fr.app N74 N75q
    refine Own.astore (q := 512) (L2 := #[.val (.int x0), .val (.long x1), .second, .val (.long x2), .second, .val (.long x3), .second, .val (.int (Int32.ofNat n)), .val (.ref a21), .val (.ref r34), .val (.int (Int32.ofNat ((n + 2) / 3))), .val (.ref a37), .val (.int (Int32.ofNat (6 + 4 * (((n + 2) / 3) - 1)))), .val (.int (Int32.ofNat (n % 3))), .val (.int (1 : Int32)), .val (.ref r75), .unset]) P75 at_510 rfl rfl rfl ?_
    refine Own.aload (q := 514) P75 at_512 rfl rfl rfl ?_
    refine Own.arraylength (q := 515) P75 at_514 B75 rfl ?_
    refine Own.iload (q := 517) P75 at_515 rfl rfl ?_
    refine Own.icmp_ne (q := 520) (qy := 565) P75 at_517 (by decide) rfl (fun q => absurd (by rw [hl31]) q) (fun _ => ?_)
    refine Own.aload (q := 522) P75 at_520 rfl rfl rfl ?_
    refine Own.iconst (q := 523) (v := (0 : Int32)) P75 at_522 rfl rfl ?_
    refine Own.bget (q := 524) (i := 0) P75 at_523 B75 (by omega) (by omega) rfl ?_
    refine Own.aload (q := 526) P75 at_524 rfl rfl rfl ?_
    refine Own.iconst (q := 527) (v := (0 : Int32)) P75 at_526 rfl rfl ?_
    have E4_7_76 : Ext h31 h75 := (Own.Ext.tr E4_6_53 E75)
    refine Own.bget (q := 528) (i := 0) P75 at_527 (A31.ext E4_7_76) (by omega) (by omega) rfl ?_
    refine Own.icmp_ne (q := 531) (qy := 565) P75 at_528 (by decide) rfl (fun q => absurd rfl q) (fun _ => ?_)
    refine Own.aload (q := 533) P75 at_531 rfl rfl rfl ?_
    refine Own.bipush (q := 535) (v := (10 : Int32)) P75 at_533 rfl rfl ?_
    refine Own.bget (q := 536) (i := 10) P75 at_535 B75 (by omega) (by omega) rfl ?_
    refine Own.aload (q := 538) P75 at_536 rfl rfl rfl ?_
    refine Own.bipush (q := 540) (v := (10 : Int32)) P75 at_538 rfl rfl ?_
    refine Own.bget (q := 541) (i := 10) P75 at_540 (A31.ext E4_7_76) (by omega) (by omega) rfl ?_
    refine Own.icmp_ne (q := 544) (qy := 565) P75 at_541 (by decide) rfl (fun q => absurd rfl q) (fun _ => ?_)
    refine Own.aload (q := 546) P75 at_544 rfl rfl rfl ?_
    refine Own.iload (q := 548) P75 at_546 rfl rfl ?_
    refine Own.iconst (q := 549) (v := (1 : Int32)) P75 at_548 rfl rfl ?_
    refine Own.isub (q := 550) P75 at_549  rfl ?_
    rw [show ((Int32.ofNat n) - (1 : Int32)) = (Int32.ofNat (n - 1)) from Own.subE (f := 1) (by omega)]
    refine Own.bget (q := 551) (i := (n - 1)) P75 at_550 B75 (by omega) (by omega) rfl ?_
    refine Own.aload (q := 553) P75 at_551 rfl rfl rfl ?_
    refine Own.iload (q := 555) P75 at_553 rfl rfl ?_
    refine Own.iconst (q := 556) (v := (1 : Int32)) P75 at_555 rfl rfl ?_
    refine Own.isub (q := 557) P75 at_556  rfl ?_
    rw [show ((Int32.ofNat n) - (1 : Int32)) = (Int32.ofNat (n - 1)) from Own.subE (f := 1) (by omega)]
    refine Own.bget (q := 558) (i := (n - 1)) P75 at_557 (A31.ext E4_7_76) (by omega) (by omega) rfl ?_
    refine Own.icmp_ne (q := 561) (qy := 565) P75 at_558 (by decide) rfl (fun q => absurd rfl q) (fun _ => ?_)
    refine Own.iconst (q := 562) (v := (1 : Int32)) P75 at_561 rfl rfl ?_
    refine Own.goto (q := 566) P75 at_562 (by decide) ?_
    refine Own.retZH P75 hh (ew hw) H75 at_566 hret (by simp) hlk (by decide) (by decide) ?_
    exact ⟨rfl, N75⟩
  · have hX := Own.encT2 hr
    have hn3 : n % 3 = 2 := by omega
    refine Own.iload (q := 255) P61 at_253 rfl rfl ?_
    refine Own.if_ne (q := 258) (qy := 297) P61 at_255 (by decide) rfl (fun _ => ?_) (fun q => absurd q (Own.n0_of (by omega) (by omega)))
    refine Own.iload (q := 299) P61 at_297 rfl rfl ?_
    refine Own.iconst (q := 300) (v := (1 : Int32)) P61 at_299 rfl rfl ?_
    refine Own.icmp_ne (q := 303) (qy := 390) P61 at_300 (by decide) rfl (fun _ => ?_) (fun q => absurd q (by rw [hn3]; decide))
    refine Own.aload (q := 392) P61 at_390 rfl rfl rfl ?_
    refine Own.iload (q := 394) P61 at_392 rfl rfl ?_
    refine Own.iconst (q := 395) (v := (2 : Int32)) P61 at_394 rfl rfl ?_
    refine Own.isub (q := 396) P61 at_395  rfl ?_
    rw [show ((Int32.ofNat n) - (2 : Int32)) = (Int32.ofNat (n - 2)) from Own.subE (f := 2) (by omega)]
    refine Own.cS (q := 399) (W := 0) (rest := []) P61 at_396 (wd hw 233 rfl) (sw_64 hw) (rmUL l Z a0 hw [] a21 k21 u31 (n - 2) h37 n0 (Nat.le_trans Z0 E0_6_38.1) (A31.ext E4_6_53) hp31 (by omega) (by omega)) (by decide) (by decide) rfl (hml rfl) rfl rfl (by decide) (by decide) rfl ?_
    rintro v77 T77 h77 L77 ⟨rfl, N77q, e77⟩ P77
    rw [e77] at P77
    have N77 := Fr.app N61 N77q
    refine Own.istore (q := 401) (L2 := #[.val (.int x0), .val (.long x1), .second, .val (.long x2), .second, .val (.long x3), .second, .val (.int (Int32.ofNat n)), .val (.ref a21), .val (.ref r34), .val (.int (Int32.ofNat ((n + 2) / 3))), .val (.ref a37), .val (.int (Int32.ofNat (6 + 4 * (((n + 2) / 3) - 1)))), .val (.int (Int32.ofNat (n % 3))), .unset, .val (.int (u31.getD (n - 2) 0)), .unset]) P77 at_399 rfl rfl ?_
    refine Own.aload (q := 403) P77 at_401 rfl rfl rfl ?_
    refine Own.iload (q := 405) P77 at_403 rfl rfl ?_
    refine Own.iconst (q := 406) (v := (1 : Int32)) P77 at_405 rfl rfl ?_
    refine Own.isub (q := 407) P77 at_406  rfl ?_
    rw [show ((Int32.ofNat n) - (1 : Int32)) = (Int32.ofNat (n - 1)) from Own.subE (f := 1) (by omega)]
    refine Own.cS (q := 410) (W := 0) (rest := []) P77 at_407 (wd hw 233 rfl) (sw_64 hw) (rmUL l Z a0 hw [] a21 k21 u31 (n - 1) h37 n0 (Nat.le_trans Z0 E0_6_38.1) (A31.ext E4_6_53) hp31 (by omega) (by omega)) (by decide) (by decide) rfl (hml rfl) rfl rfl (by decide) (by decide) rfl ?_
    rintro v78 T78 h78 L78 ⟨rfl, N78q, e78⟩ P78
    rw [e78] at P78
    have N78 := Fr.app N77 N78q
    refine Own.istore (q := 412) (L2 := #[.val (.int x0), .val (.long x1), .second, .val (.long x2), .second, .val (.long x3), .second, .val (.int (Int32.ofNat n)), .val (.ref a21), .val (.ref r34), .val (.int (Int32.ofNat ((n + 2) / 3))), .val (.ref a37), .val (.int (Int32.ofNat (6 + 4 * (((n + 2) / 3) - 1)))), .val (.int (Int32.ofNat (n % 3))), .unset, .val (.int (u31.getD (n - 2) 0)), .val (.int (u31.getD (n - 1) 0))]) P78 at_410 rfl rfl ?_
    refine Own.aload (q := 414) P78 at_412 rfl rfl rfl ?_
    refine Own.iload (q := 416) P78 at_414 rfl rfl ?_
    refine Own.cV (q := 419) (W := 0) (rest := []) P78 at_416 (wd hw 213 rfl) (vw_6 hw) (Own.nfs P78 (wd hw 216 rfl)) (St34.ext E5_6_39).exa (rmSca l Z a0 hw [] r34 ([(119 : Int32), (104 : Int32), (115 : Int32), (101 : Int32), (99 : Int32), (95 : Int32)] ++ Own.encL u31) (6 + 4 * (((n + 2) / 3) - 1) + 0) zc fm h37 n0 (Nat.le_trans Z0 E0_6_38.1) (SC.ext E0_6_38) hzc (SF.ext E0_6_38) hfm (St34.ext E5_6_39) (by rw [hS]; omega)) (by decide) (by decide) rfl (hml rfl) rfl rfl (by decide) (by decide) rfl ?_
    rintro v79 T79 h79 L79 ⟨rfl, N79q, e79⟩ P79
    rw [e79] at P79
    have N79 := Fr.app N78 N79q
    refine Own.iload (q := 421) P79 at_419 rfl rfl ?_
    refine Own.iconst (q := 422) (v := (2 : Int32)) P79 at_421 rfl rfl ?_
    refine Own.ishr (q := 423) P79 at_422  rfl ?_
    refine Own.cS (q := 426) (W := 1) (rest := [(.int (([(119 : Int32), (104 : Int32), (115 : Int32), (101 : Int32), (99 : Int32), (95 : Int32)] ++ Own.encL u31).getD (6 + 4 * (((n + 2) / 3) - 1) + 0) 0))]) P79 at_423 (wd hw 239 rfl) (sw_7 hw) (rmEncL l Z a0 hw [] ((u31.getD (n - 2) 0) >>> ((2 : Int32) &&& 31)) h37 n0 (Nat.le_trans Z0 E0_6_38.1) (Own.b6s (Own.rng_getD hp31 _))) (by decide) (by decide) rfl (hml rfl) rfl rfl (by decide) (by decide) rfl ?_
    rintro v80 T80 h80 L80 ⟨rfl, N80q, e80⟩ P80
    rw [e80] at P80
    have N80 := Fr.app N79 N80q
    refine Own.icmp_ne (q := 429) (qy := 495) P80 at_426 (by decide) rfl (fun q => absurd (by rw [show 6 + 4 * (((n + 2) / 3) - 1) + 0 = 6 + (4 * mm + 0) by omega, Own.S6, Own.encL_tail hmm, hX, show 3 * mm = n - 2 by omega, show n - 2 + 1 = n - 1 by omega]; rfl) q) (fun _ => ?_)
    refine Own.aload (q := 431) P80 at_429 rfl rfl rfl ?_
    refine Own.iload (q := 433) P80 at_431 rfl rfl ?_
    refine Own.iconst (q := 434) (v := (1 : Int32)) P80 at_433 rfl rfl ?_
    refine Own.iadd (q := 435) P80 at_434  rfl ?_
    rw [show ((Int32.ofNat (6 + 4 * (((n + 2) / 3) - 1))) + (1 : Int32)) = (Int32.ofNat (6 + 4 * (((n + 2) / 3) - 1) + 1)) from (Int32.ofNat_add _ 1).symm]
    refine Own.cV (q := 438) (W := 0) (rest := []) P80 at_435 (wd hw 213 rfl) (vw_6 hw) (Own.nfs P80 (wd hw 216 rfl)) (St34.ext E5_6_39).exa (rmSca l Z a0 hw [] r34 ([(119 : Int32), (104 : Int32), (115 : Int32), (101 : Int32), (99 : Int32), (95 : Int32)] ++ Own.encL u31) (6 + 4 * (((n + 2) / 3) - 1) + 1) zc fm h37 n0 (Nat.le_trans Z0 E0_6_38.1) (SC.ext E0_6_38) hzc (SF.ext E0_6_38) hfm (St34.ext E5_6_39) (by rw [hS]; omega)) (by decide) (by decide) rfl (hml rfl) rfl rfl (by decide) (by decide) rfl ?_
    rintro v81 T81 h81 L81 ⟨rfl, N81q, e81⟩ P81
    rw [e81] at P81
    have N81 := Fr.app N80 N81q
    refine Own.iload (q := 440) P81 at_438 rfl rfl ?_
    refine Own.iconst (q := 441) (v := (3 : Int32)) P81 at_440 rfl rfl ?_
    refine Own.iand (q := 442) P81 at_441  rfl ?_
    refine Own.iconst (q := 443) (v := (4 : Int32)) P81 at_442 rfl rfl ?_
    refine Own.ishl (q := 444) P81 at_443  rfl ?_
    refine Own.iload (q := 446) P81 at_444 rfl rfl ?_
    refine Own.iconst (q := 447) (v := (4 : Int32)) P81 at_446 rfl rfl ?_
    refine Own.ishr (q := 448) P81 at_447  rfl ?_
    refine Own.ior (q := 449) P81 at_448  rfl ?_
    rw [show ((((u31.getD (n - 2) 0) &&& (3 : Int32)) <<< ((4 : Int32) &&& 31)) ||| ((u31.getD (n - 1) 0) >>> ((4 : Int32) &&& 31))) = ((((u31.getD (n - 2) 0) <<< ((4 : Int32) &&& 31)) &&& 63) ||| ((u31.getD (n - 1) 0) >>> ((4 : Int32) &&& 31))) from (by rw [Own.m34 (Own.rng_getD hp31 _)])]
    refine Own.cS (q := 452) (W := 1) (rest := [(.int (([(119 : Int32), (104 : Int32), (115 : Int32), (101 : Int32), (99 : Int32), (95 : Int32)] ++ Own.encL u31).getD (6 + 4 * (((n + 2) / 3) - 1) + 1) 0))]) P81 at_449 (wd hw 239 rfl) (sw_7 hw) (rmEncL l Z a0 hw [] ((((u31.getD (n - 2) 0) <<< ((4 : Int32) &&& 31)) &&& 63) ||| ((u31.getD (n - 1) 0) >>> ((4 : Int32) &&& 31))) h37 n0 (Nat.le_trans Z0 E0_6_38.1) (Own.b6t (Own.rng_getD hp31 _) (Own.rng_getD hp31 _))) (by decide) (by decide) rfl (hml rfl) rfl rfl (by decide) (by decide) rfl ?_
    rintro v82 T82 h82 L82 ⟨rfl, N82q, e82⟩ P82
    rw [e82] at P82
    have N82 := Fr.app N81 N82q
    refine Own.icmp_ne (q := 455) (qy := 495) P82 at_452 (by decide) rfl (fun q => absurd (by rw [show 6 + 4 * (((n + 2) / 3) - 1) + 1 = 6 + (4 * mm + 1) by omega, Own.S6, Own.encL_tail hmm, hX, show 3 * mm = n - 2 by omega, show n - 2 + 1 = n - 1 by omega]; rfl) q) (fun _ => ?_)
    refine Own.aload (q := 457) P82 at_455 rfl rfl rfl ?_
    refine Own.iload (q := 459) P82 at_457 rfl rfl ?_
    refine Own.iconst (q := 460) (v := (2 : Int32)) P82 at_459 rfl rfl ?_
    refine Own.iadd (q := 461) P82 at_460  rfl ?_
    rw [show ((Int32.ofNat (6 + 4 * (((n + 2) / 3) - 1))) + (2 : Int32)) = (Int32.ofNat (6 + 4 * (((n + 2) / 3) - 1) + 2)) from (Int32.ofNat_add _ 2).symm]
    refine Own.cV (q := 464) (W := 0) (rest := []) P82 at_461 (wd hw 213 rfl) (vw_6 hw) (Own.nfs P82 (wd hw 216 rfl)) (St34.ext E5_6_39).exa (rmSca l Z a0 hw [] r34 ([(119 : Int32), (104 : Int32), (115 : Int32), (101 : Int32), (99 : Int32), (95 : Int32)] ++ Own.encL u31) (6 + 4 * (((n + 2) / 3) - 1) + 2) zc fm h37 n0 (Nat.le_trans Z0 E0_6_38.1) (SC.ext E0_6_38) hzc (SF.ext E0_6_38) hfm (St34.ext E5_6_39) (by rw [hS]; omega)) (by decide) (by decide) rfl (hml rfl) rfl rfl (by decide) (by decide) rfl ?_
    rintro v83 T83 h83 L83 ⟨rfl, N83q, e83⟩ P83
    rw [e83] at P83
    have N83 := Fr.app N82 N83q
    refine Own.iload (q := 466) P83 at_464 rfl rfl ?_
    refine Own.bipush (q := 468) (v := (15 : Int32)) P83 at_466 rfl rfl ?_
    refine Own.iand (q := 469) P83 at_468  rfl ?_
    refine Own.iconst (q := 470) (v := (2 : Int32)) P83 at_469 rfl rfl ?_
    refine Own.ishl (q := 471) P83 at_470  rfl ?_
    rw [show (((u31.getD (n - 1) 0) &&& (15 : Int32)) <<< ((2 : Int32) &&& 31)) = (((u31.getD (n - 1) 0) <<< ((2 : Int32) &&& 31)) &&& 63) from Own.m15 (Own.rng_getD hp31 _)]
    refine Own.cS (q := 474) (W := 1) (rest := [(.int (([(119 : Int32), (104 : Int32), (115 : Int32), (101 : Int32), (99 : Int32), (95 : Int32)] ++ Own.encL u31).getD (6 + 4 * (((n + 2) / 3) - 1) + 2) 0))]) P83 at_471 (wd hw 239 rfl) (sw_7 hw) (rmEncL l Z a0 hw [] (((u31.getD (n - 1) 0) <<< ((2 : Int32) &&& 31)) &&& 63) h37 n0 (Nat.le_trans Z0 E0_6_38.1) (Own.b6m _)) (by decide) (by decide) rfl (hml rfl) rfl rfl (by decide) (by decide) rfl ?_
    rintro v84 T84 h84 L84 ⟨rfl, N84q, e84⟩ P84
    rw [e84] at P84
    have N84 := Fr.app N83 N84q
    refine Own.icmp_ne (q := 477) (qy := 495) P84 at_474 (by decide) rfl (fun q => absurd (by rw [show 6 + 4 * (((n + 2) / 3) - 1) + 2 = 6 + (4 * mm + 2) by omega, Own.S6, Own.encL_tail hmm, hX, show 3 * mm = n - 2 by omega, show n - 2 + 1 = n - 1 by omega]; rfl) q) (fun _ => ?_)
    refine Own.aload (q := 479) P84 at_477 rfl rfl rfl ?_
    refine Own.iload (q := 481) P84 at_479 rfl rfl ?_
    refine Own.iconst (q := 482) (v := (3 : Int32)) P84 at_481 rfl rfl ?_
    refine Own.iadd (q := 483) P84 at_482  rfl ?_
    rw [show ((Int32.ofNat (6 + 4 * (((n + 2) / 3) - 1))) + (3 : Int32)) = (Int32.ofNat (6 + 4 * (((n + 2) / 3) - 1) + 3)) from (Int32.ofNat_add _ 3).symm]
    refine Own.cV (q := 486) (W := 0) (rest := []) P84 at_483 (wd hw 213 rfl) (vw_6 hw) (Own.nfs P84 (wd hw 216 rfl)) (St34.ext E5_6_39).exa (rmSca l Z a0 hw [] r34 ([(119 : Int32), (104 : Int32), (115 : Int32), (101 : Int32), (99 : Int32), (95 : Int32)] ++ Own.encL u31) (6 + 4 * (((n + 2) / 3) - 1) + 3) zc fm h37 n0 (Nat.le_trans Z0 E0_6_38.1) (SC.ext E0_6_38) hzc (SF.ext E0_6_38) hfm (St34.ext E5_6_39) (by rw [hS]; omega)) (by decide) (by decide) rfl (hml rfl) rfl rfl (by decide) (by decide) rfl ?_
    rintro v85 T85 h85 L85 ⟨rfl, N85q, e85⟩ P85
    rw [e85] at P85
    have N85 := Fr.app N84 N85q
    refine Own.bipush (q := 488) (v := (61 : Int32)) P85 at_486 rfl rfl ?_
    refine Own.icmp_ne (q := 491) (qy := 495) P85 at_488 (by decide) rfl (fun q => absurd (by rw [show 6 + 4 * (((n + 2) / 3) - 1) + 3 = 6 + (4 * mm + 3) by omega, Own.S6, Own.encL_tail hmm, hX, show 3 * mm = n - 2 by omega, show n - 2 + 1 = n - 1 by omega]; rfl) q) (fun _ => ?_)
    refine Own.iconst (q := 492) (v := (1 : Int32)) P85 at_491 rfl rfl ?_
    refine Own.goto (q := 496) P85 at_492 (by decide) ?_
    refine Own.istore (q := 498) (L2 := #[.val (.int x0), .val (.long x1), .second, .val (.long x2), .second, .val (.long x3), .second, .val (.int (Int32.ofNat n)), .val (.ref a21), .val (.ref r34), .val (.int (Int32.ofNat ((n + 2) / 3))), .val (.ref a37), .val (.int (Int32.ofNat (6 + 4 * (((n + 2) / 3) - 1)))), .val (.int (Int32.ofNat (n % 3))), .val (.int (1 : Int32)), .val (.int (u31.getD (n - 2) 0)), .val (.int (u31.getD (n - 1) 0))]) P85 at_496 rfl rfl ?_
    refine Own.iload (q := 500) P85 at_498 rfl rfl ?_
    refine Own.if_ne (q := 503) (qy := 505) P85 at_500 (by decide) rfl (fun _ => ?_) (fun q => absurd q (by decide))
    refine Own.aload (q := 507) P85 at_505 rfl rfl rfl ?_
    refine Own.cSHX (q := 510) (W := 0) (rest := []) P85 H37 at_507 (wd hw 242 rfl) (sw_66 hw) (rmKey l Z a0 hw [] ee tt kt dd ft ci cu kf r34 u31 mm zc fm h37 n0 (Nat.le_trans Z0 E0_6_38.1) (en.ext E0_6_38) (de.ext E0_6_38) (SC.ext E0_6_38) hzc (SF.ext E0_6_38) hfm (St34.ext E5_6_39) hp31 (by omega) hmm) (ew hw) all0 (by decide) (by decide) rfl (hml rfl) rfl rfl (by decide) (by decide) rfl ?_
    rintro v86 T86 vm86 h86 L86 ⟨r86, k86, rfl, N86q, E86, gr86, B86⟩ P86 H86 hr86
    have N86 := Fr.app N85 N86q
    refine Own.astore (q := 512) (L2 := #[.val (.int x0), .val (.long x1), .second, .val (.long x2), .second, .val (.long x3), .second, .val (.int (Int32.ofNat n)), .val (.ref a21), .val (.ref r34), .val (.int (Int32.ofNat ((n + 2) / 3))), .val (.ref a37), .val (.int (Int32.ofNat (6 + 4 * (((n + 2) / 3) - 1)))), .val (.int (Int32.ofNat (n % 3))), .val (.int (1 : Int32)), .val (.ref r86), .val (.int (u31.getD (n - 1) 0))]) P86 at_510 rfl rfl rfl ?_
    refine Own.aload (q := 514) P86 at_512 rfl rfl rfl ?_
    refine Own.arraylength (q := 515) P86 at_514 B86 rfl ?_
    refine Own.iload (q := 517) P86 at_515 rfl rfl ?_
    refine Own.icmp_ne (q := 520) (qy := 565) P86 at_517 (by decide) rfl (fun q => absurd (by rw [hl31]) q) (fun _ => ?_)
    refine Own.aload (q := 522) P86 at_520 rfl rfl rfl ?_
    refine Own.iconst (q := 523) (v := (0 : Int32)) P86 at_522 rfl rfl ?_
    refine Own.bget (q := 524) (i := 0) P86 at_523 B86 (by omega) (by omega) rfl ?_
    refine Own.aload (q := 526) P86 at_524 rfl rfl rfl ?_
    refine Own.iconst (q := 527) (v := (0 : Int32)) P86 at_526 rfl rfl ?_
    have E4_7_87 : Ext h31 h86 := (Own.Ext.tr E4_6_53 E86)
    refine Own.bget (q := 528) (i := 0) P86 at_527 (A31.ext E4_7_87) (by omega) (by omega) rfl ?_
    refine Own.icmp_ne (q := 531) (qy := 565) P86 at_528 (by decide) rfl (fun q => absurd rfl q) (fun _ => ?_)
    refine Own.aload (q := 533) P86 at_531 rfl rfl rfl ?_
    refine Own.bipush (q := 535) (v := (10 : Int32)) P86 at_533 rfl rfl ?_
    refine Own.bget (q := 536) (i := 10) P86 at_535 B86 (by omega) (by omega) rfl ?_
    refine Own.aload (q := 538) P86 at_536 rfl rfl rfl ?_
    refine Own.bipush (q := 540) (v := (10 : Int32)) P86 at_538 rfl rfl ?_
    refine Own.bget (q := 541) (i := 10) P86 at_540 (A31.ext E4_7_87) (by omega) (by omega) rfl ?_
    refine Own.icmp_ne (q := 544) (qy := 565) P86 at_541 (by decide) rfl (fun q => absurd rfl q) (fun _ => ?_)
    refine Own.aload (q := 546) P86 at_544 rfl rfl rfl ?_
    refine Own.iload (q := 548) P86 at_546 rfl rfl ?_
    refine Own.iconst (q := 549) (v := (1 : Int32)) P86 at_548 rfl rfl ?_
    refine Own.isub (q := 550) P86 at_549  rfl ?_
    rw [show ((Int32.ofNat n) - (1 : Int32)) = (Int32.ofNat (n - 1)) from Own.subE (f := 1) (by omega)]
    refine Own.bget (q := 551) (i := (n - 1)) P86 at_550 B86 (by omega) (by omega) rfl ?_
    refine Own.aload (q := 553) P86 at_551 rfl rfl rfl ?_
    refine Own.iload (q := 555) P86 at_553 rfl rfl ?_
    refine Own.iconst (q := 556) (v := (1 : Int32)) P86 at_555 rfl rfl ?_
    refine Own.isub (q := 557) P86 at_556  rfl ?_
    rw [show ((Int32.ofNat n) - (1 : Int32)) = (Int32.ofNat (n - 1)) from Own.subE (f := 1) (by omega)]
    refine Own.bget (q := 558) (i := (n - 1)) P86 at_557 (A31.ext E4_7_87) (by omega) (by omega) rfl ?_
    refine Own.icmp_ne (q := 561) (qy := 565) P86 at_558 (by decide) rfl (fun q => absurd rfl q) (fun _ => ?_)
    refine Own.iconst (q := 562) (v := (1 : Int32)) P86 at_561 rfl rfl ?_
    refine Own.goto (q := 566) P86 at_562 (by decide) ?_
    refine Own.retZH P86 hh (ew hw) H86 at_566 hret (by simp) hlk (by decide) (by decide) ?_
    exact ⟨rfl, N86⟩
theorem tabW : ∀ j, j < 64 → jdkStatics_1[21 + j]? = some (Jvm.Cond.eq (.elem (.static "java/util/Base64$Encoder" "toBase64" "[C") (.int (Int32.ofNat j))) (.int (Own.tab.getD j 0))) := by decide +kernel
theorem ftabW : ∀ j, j < 256 → jdkStatics_1[101 + j]? = some (Jvm.Cond.eq (.elem (.static "java/util/Base64$Decoder" "fromBase64" "[I") (.int (Int32.ofNat j))) (.int (Own.ftab.getD j 0))) := by decide +kernel
theorem comes_1 {Post : Tables → Env → Array Value → State → Outcome → State → Prop} (hpost : ∀ tb e args s v u, (limb_1_1.after args s (.returned v) u = true ∧ limb_1_2.after args s (.returned v) u = true ∧ True) → ReturnedEndW s (.returned v) u (Jvm.fieldLocs frame_1_writes args s ++ Jvm.arrayLocs frame_1_arrays args s ++ Jvm.staticLocs frame_1_statics s) 48 4928 → Post tb e args s (.returned v) u) :
    ArmFor flags0 classFile x code maxLocals ret World_1 tables_1 room_1 Calls_1 rest_1 Pre_1 Post := by
  intro l hfl _ _ p e ha hc hk s m args below hf hA hF happ hP
  obtain ⟨hcalls, hrest, hpre⟩ := hP
  obtain ⟨-, -, -, hnamed, -, -, -, hat⟩ := (Spec.applies_iff hf).mp happ
  obtain ⟨hg, hn⟩ := and_e (Cond.before_iff.mp (show (Jvm.Cond.and given_1 narrow_1).before args s = true from hpre))
  obtain ⟨hg0, hg1⟩ := and_e hg
  obtain ⟨hi1, hg2⟩ := and_e hg1
  obtain ⟨hi2, hg3⟩ := and_e hg2
  obtain ⟨hi3, hg4⟩ := and_e hg3
  obtain ⟨w0, w1, w2, w3, rfl⟩ : ∃ w0 w1 w2 w3 : Value, args = #[w0, w1, w2, w3] := by
    have hs : args.size = 4 := by simpa [Cond.value, given_1] using hg0
    obtain ⟨L⟩ := args
    match L, hs with
    | [w0, w1, w2, w3], _ => exact ⟨w0, w1, w2, w3, rfl⟩
  have hw := fun d (hd : d ∈ tables_1) => atoms_spec (ws := Jvm.Cond.code x code maxLocals ret :: tables_1) hat d (List.mem_cons_of_mem _ hd)
  obtain ⟨hsets, hown0⟩ := atoms_of _ (rest_1_c_eq ▸ (show rest_1_c.before _ s = true from hrest))
  have hfit : Fit s := fun {y c} hc i hi => by
    obtain ⟨ha, rfl⟩ := Array.getElem?_eq_some_iff.mp hc
    have q := List.all_eq_true.mp ((Array.all_eq_true_iff_forall_mem.mp hF) _ (Array.getElem_mem ha)) i (List.mem_range.mpr hi)
    simpa [Array.getElem?_eq_getElem hi] using q
  obtain ⟨i0, ei0⟩ := is_v hi1
  obtain rfl : w0 = (.int i0) := Option.some.inj ei0
  obtain ⟨i1, ei1⟩ := isL_v hi2
  obtain rfl : w1 = (.long i1) := Option.some.inj ei1
  obtain ⟨i2, ei2⟩ := isL_v hi3
  obtain rfl : w2 = (.long i2) := Option.some.inj ei2
  obtain ⟨i3, ei3⟩ := isL_v hg4
  obtain rfl : w3 = (.long i3) := Option.some.inj ei3
  have n5 := not_v (Cond.before_iff.mp (hsets _ (List.mem_of_getElem? (i := 2) rfl)))
  obtain ⟨zc, ezc⟩ := is_v (Cond.before_iff.mp (hsets _ (List.mem_of_getElem? (i := 1) rfl)))
  have SC : Sta s s.heap "java/lang/String" "COMPACT_STRINGS" "Z" (.int zc) := Sta.start ezc (Or.inl (hsets _ (List.mem_of_getElem? (i := 0) rfl)))
  have hzc : ¬ (zc = (0 : Int32)) := gotF (Cond.eq_ints ezc (Term.int_eval (0))) n5
  obtain ⟨fm, efm, rfm⟩ := isR_v (Cond.before_iff.mp (hsets _ (List.mem_of_getElem? (i := 8) rfl)))
  have SF : Sta s s.heap "jdk/internal/util/Preconditions" "SIOOBE_FORMATTER" "Ljava/util/function/BiFunction;" fm := Sta.start efm (Or.inl (hsets _ (List.mem_of_getElem? (i := 7) rfl)))
  obtain ⟨ee, eE⟩ := exa_v (Cond.before_iff.mp (hsets _ (List.mem_of_getElem? (i := 11) rfl)))
  have XE := Exa.start eE (Cond.before_iff.mp (hsets _ (List.mem_of_getElem? (i := 11) rfl)))
  have SE : Sta s s.heap "java/util/Base64$Encoder" "RFC4648" "Ljava/util/Base64$Encoder;" (.ref ee) := Sta.start eE (Or.inl (hsets _ (List.mem_of_getElem? (i := 10) rfl)))
  have FE10 := Own.eq_int (Cond.before_iff.mp (hsets _ (List.mem_of_getElem? (i := 12) rfl)))
  rw [fld_at eE] at FE10
  have FE1 := Fld.start FE10
  have FE20 := Own.eq_int (Cond.before_iff.mp (hsets _ (List.mem_of_getElem? (i := 14) rfl)))
  rw [fld_at eE] at FE20
  have FE2 := Fld.start FE20
  have FE30 := Own.eq_int (Cond.before_iff.mp (hsets _ (List.mem_of_getElem? (i := 15) rfl)))
  rw [fld_at eE] at FE30
  have FE3 := Fld.start FE30
  obtain ⟨tt, eT⟩ := arr_v (Cond.before_iff.mp (hsets _ (List.mem_of_getElem? (i := 18) rfl)))
  obtain ⟨ct, ctr⟩ := Arr.start eT (Cond.before_iff.mp (hsets _ (List.mem_of_getElem? (i := 18) rfl)))
  obtain ⟨ct1, ct2⟩ := Own.small (Own.eq_int (Cond.before_iff.mp (hsets _ (List.mem_of_getElem? (i := 20) rfl)))) eT ctr.1
  have AT : Arv s s.heap tt ct.cls .char 64 (Own.tab.map Value.int) (.int 0) := Arv.start hfit ctr ct1 ct2 (by decide) (by decide) (Own.hasL_of (.int 0) _ 0 (fun j hj => by
    have h64 : j < 64 := hj
    have w := Own.elem_is (Cond.before_iff.mp (hsets _ (List.mem_of_getElem? (tabW j h64)))) eT ctr.1
    rw [Own.clamp (by omega)] at w
    rw [Nat.zero_add, Own.getD_int]
    exact w))
  have ST : Sta s s.heap "java/util/Base64$Encoder" "toBase64" "[C" (.ref tt) := Sta.start eT (Or.inl (hsets _ (List.mem_of_getElem? (i := 17) rfl)))
  obtain ⟨dd, eD⟩ := exa_v (Cond.before_iff.mp (hsets _ (List.mem_of_getElem? (i := 87) rfl)))
  have XD := Exa.start eD (Cond.before_iff.mp (hsets _ (List.mem_of_getElem? (i := 87) rfl)))
  have SD : Sta s s.heap "java/util/Base64$Decoder" "RFC4648" "Ljava/util/Base64$Decoder;" (.ref dd) := Sta.start eD (Or.inl (hsets _ (List.mem_of_getElem? (i := 86) rfl)))
  have FD10 := Own.eq_int (Cond.before_iff.mp (hsets _ (List.mem_of_getElem? (i := 88) rfl)))
  rw [fld_at eD] at FD10
  have FD1 := Fld.start FD10
  have FD20 := Own.eq_int (Cond.before_iff.mp (hsets _ (List.mem_of_getElem? (i := 89) rfl)))
  rw [fld_at eD] at FD20
  have FD2 := Fld.start FD20
  obtain ⟨ft, eF⟩ := arr_v (Cond.before_iff.mp (hsets _ (List.mem_of_getElem? (i := 98) rfl)))
  obtain ⟨cf, cfr⟩ := Arr.start eF (Cond.before_iff.mp (hsets _ (List.mem_of_getElem? (i := 98) rfl)))
  obtain ⟨cf1, cf2⟩ := Own.small (Own.eq_int (Cond.before_iff.mp (hsets _ (List.mem_of_getElem? (i := 100) rfl)))) eF cfr.1
  have AF : Arv s s.heap ft cf.cls .int 256 (Own.ftab.map Value.int) (.int 0) := Arv.start hfit cfr cf1 cf2 (by decide) (by decide) (Own.hasL_of (.int 0) _ 0 (fun j hj => by
    have h64 : j < 256 := hj
    have w := Own.elem_is (Cond.before_iff.mp (hsets _ (List.mem_of_getElem? (ftabW j h64)))) eF cfr.1
    rw [Own.clamp (by omega)] at w
    rw [Nat.zero_add, Own.getD_int]
    exact w))
  have SFT : Sta s s.heap "java/util/Base64$Decoder" "fromBase64" "[I" (.ref ft) := Sta.start eF (Or.inl (hsets _ (List.mem_of_getElem? (i := 97) rfl)))
  obtain ⟨ci, eI⟩ := exa_v (Cond.before_iff.mp (hsets _ (List.mem_of_getElem? (i := 92) rfl)))
  have XI := Exa.start eI (Cond.before_iff.mp (hsets _ (List.mem_of_getElem? (i := 92) rfl)))
  have SI : Sta s s.heap "sun/nio/cs/ISO_8859_1" "INSTANCE" "Lsun/nio/cs/ISO_8859_1;" (.ref ci) := Sta.start eI (Or.inl (hsets _ (List.mem_of_getElem? (i := 91) rfl)))
  obtain ⟨cu, eU⟩ := exa_v (Cond.before_iff.mp (hsets _ (List.mem_of_getElem? (i := 95) rfl)))
  have XU := Exa.start eU (Cond.before_iff.mp (hsets _ (List.mem_of_getElem? (i := 95) rfl)))
  have SU : Sta s s.heap "sun/nio/cs/UTF_8" "INSTANCE" "Lsun/nio/cs/UTF_8;" (.ref cu) := Sta.start eU (Or.inl (hsets _ (List.mem_of_getElem? (i := 94) rfl)))
  have en : Own.EN s s.heap ee tt ct.cls := ⟨SE, XE, FE1, FE2, FE3, ST, AT⟩
  have de : Own.DE s s.heap dd ft ci cu cf.cls := ⟨SD, XD, FD1, FD2, SFT, AF, SI, SU, Exa.ne XI XU (by decide)⟩
  have hCH : CHv s EL s.vm s.heap := CHv.start (ew hw) (fun p hp => hcalls.1 p hp) (a0 := #[.int i0, .long i1, .long i2, .long i3]) (hsets _ (List.mem_of_getElem? (i := 2) rfl)) (wd hw 1 rfl) (wd hw 32 rfl)
  obtain ⟨n, o, h1, h2, h3, _, L, rfl, ⟨rfl, N⟩, -, hq⟩ := rmLaw l s _ hw tables_1 i0 i1 i2 i3 ee tt ct.cls dd ft ci cu cf.cls zc fm s.heap s.heap.size (Nat.le_refl _) en de SC hzc SF rfm p e ha hc hk s m _ below hf ((Spec.applies_iff_loose hf).mp happ).1 ⟨rfl, State.Warmed39.refl s, rfl, hCH, fun _ q => nomatch q⟩ trivial
  refine ⟨n, _, h1, h2, h3, hpost _ _ _ _ _ _ ⟨Cond.after_iff.mpr rfl, Cond.after_iff.mpr (eq_i res_at (Term.int_eval (1)) rfl), trivial⟩ ⟨hq.1, hq.2.1, hq.2.2.1, (hq.2.2.2.sift fun y hy => Or.inr (N y hy)).mono (by decide) (by decide)⟩⟩
theorem main_1_1 : Claimed_1_1 := comes_1 fun _ _ _ _ _ _ h hF => ⟨h.1, hF⟩
theorem main_1_2 : Claimed_1_2 := comes_1 fun _ _ _ _ _ _ h hF => ⟨h.2.1, hF⟩

end Jvm.Pilot.@@N@@
namespace Jvm.Pilot.@@N@@
open Jvm Jvm.ClassFile Sem Op Lib Jvm.Free Jvm.Stand Jvm.Pilot.@@N@@.Jvm.D
/-! MADE BY PROGRAM (witnessworld.py) out of the Statement's table words and the real class files: 34 classes; the members and pool entries that the words name. The judged class is class 1, her method 1. -/
namespace start1
open Jvm.ClassFile
def u (s : String) : CpInfo := .utf8 (stringToUtf16 s)
/-- a pool by its gaps: so many unusable entries, then the entry; so many at the end -/
def gap : Nat → List CpInfo → List CpInfo
  | 0, r => r
  | n + 1, r => .unusable :: gap n r
def poolList (es : List (Nat × CpInfo)) (last : Nat) : List CpInfo := es.foldr (fun e r => gap e.1 (e.2 :: r)) (gap last [])
def pool (es : List (Nat × CpInfo)) (last : Nat) : Array CpInfo := ⟨poolList es last⟩
def fileOf (pool : Array CpInfo) (this : Nat) (attrs : Array Attribute := #[]) (ms : Array MethodInfo := #[]) (fl : Nat := 33) (sup : Nat := 0) (ifs : Array Nat := #[]) (fds : Array FieldInfo := #[]) : ClassFile where
  minorVersion := 0
  majorVersion := 65
  constantPool := pool
  accessFlags := fl
  thisClass := this
  superClass := sup
  interfaces := ifs
  fields := fds
  methods := ms
  attributes := attrs
def plain (name : String) (sup : Option ClassId) : Class where
  name := name
  kind := .ordinary
  loader := none
  accessFlags := 33
  super := sup
  interfaces := #[]
  cf := none
  fields := #[]
  methods := #[]
  instanceTypes := #[]
  staticTypes := #[]
  resolved := #[]
  callSites := []
  init := .initialized
  statics := none
  mirror := none

def pool0 : Array CpInfo := pool [(5, u "<init>"), (0, u "()V"), (1, .class_ 10), (1, u "java/lang/Object"), (85, u "clone"), (0, u "()Ljava/lang/Object;")] 26

def k0c0 : Code := { maxStack := 0, maxLocals := 1, code := object_method_1_code, exceptionTable := #[], attributes := #[] }
def k0m0 : Method := { name := "<init>", desc := "()V", sig := { parameters := [], returnType := none }, accessFlags := 1, code := some k0c0 }
def k0m1 : Method := { name := "clone", desc := "()Ljava/lang/Object;", sig := { parameters := [], returnType := some (.object "java/lang/Object") }, accessFlags := 260, code := none }
/-- java/lang/Object -/
def k0 : Class := { plain "java/lang/Object" none with
  accessFlags := 33
  interfaces := #[]
  cf := some (fileOf pool0 8 #[] #[{ accessFlags := 1, nameIndex := 5, descriptorIndex := 6, attributes := #[] }, { accessFlags := 260, nameIndex := 96, descriptorIndex := 97, attributes := #[] }] 33 0 #[] #[])
  fields := #[]
  methods := #[k0m0, k0m1]
  instanceTypes := #[]
  staticTypes := #[]
  resolved := Array.replicate 124 none
  statics := none }

def pool1 : Array CpInfo := pool [(2, .class_ 4), (1, u "java/lang/Object"), (0, u "<init>"), (0, u "()V"), (0, .integer 2147483647), (0, .methodref 9 10), (0, .class_ 11), (0, .nameAndType 12 13), (0, u "com/example/hookwright/hookwright/signing/StandardWebhooksSignatureSecretPinLaw"), (0, u "put"), (0, u "([BIJ)V"), (0, .methodref 15 16), (0, .class_ 17), (0, .nameAndType 18 19), (0, u "com/example/hookwright/hookwright/signing/StandardWebhooksSignature"), (0, u "secret"), (0, u "([B)Ljava/lang/String;"), (0, .methodref 21 22), (0, .class_ 23), (0, .nameAndType 24 25), (0, u "java/lang/String"), (0, u "length"), (0, u "()I"), (0, .string 27), (0, u "whsec_"), (0, .methodref 21 29), (0, .nameAndType 30 31), (0, u "charAt"), (0, u "(I)C"), (0, .methodref 9 33), (0, .nameAndType 34 35), (0, u "u"), (0, u "([BI)I"), (0, .methodref 9 37), (0, .nameAndType 38 39), (0, u "full"), (0, u "(Ljava/lang/String;IIII)Z"), (0, .methodref 9 41), (0, .nameAndType 42 31), (0, u "enc"), (0, .methodref 15 44), (0, .nameAndType 45 46), (0, u "key"), (0, u "(Ljava/lang/String;)[B"), (2, u "law"), (0, u "(IJJJ)Z")] 5

def k1m0 : Method := { name := "<init>", desc := "()V", sig := { parameters := [], returnType := none }, accessFlags := 2, code := none }
def k1c1 : Code := { maxStack := 7, maxLocals := 17, code := code, exceptionTable := #[], attributes := #[] }
def k1m1 : Method := { name := "law", desc := "(IJJJ)Z", sig := { parameters := [.int, .long, .long, .long], returnType := some .boolean }, accessFlags := 9, code := some k1c1 }
def k1c2 : Code := { maxStack := 5, maxLocals := 4, code := method_3_code, exceptionTable := #[], attributes := #[] }
def k1m2 : Method := { name := "put", desc := "([BIJ)V", sig := { parameters := [(.array .byte), .int, .long], returnType := none }, accessFlags := 10, code := some k1c2 }
def k1c3 : Code := { maxStack := 2, maxLocals := 2, code := method_4_code, exceptionTable := #[], attributes := #[] }
def k1m3 : Method := { name := "u", desc := "([BI)I", sig := { parameters := [(.array .byte), .int], returnType := some .int }, accessFlags := 10, code := some k1c3 }
def k1c4 : Code := { maxStack := 3, maxLocals := 1, code := method_5_code, exceptionTable := #[], attributes := #[] }
def k1m4 : Method := { name := "enc", desc := "(I)C", sig := { parameters := [.int], returnType := some .char }, accessFlags := 10, code := some k1c4 }
def k1c5 : Code := { maxStack := 3, maxLocals := 6, code := method_6_code, exceptionTable := #[], attributes := #[] }
def k1m5 : Method := { name := "full", desc := "(Ljava/lang/String;IIII)Z", sig := { parameters := [(.object "java/lang/String"), .int, .int, .int, .int], returnType := some .boolean }, accessFlags := 10, code := some k1c5 }
/-- com/example/hookwright/hookwright/signing/StandardWebhooksSignatureSecretPinLaw -/
def k1 : Class := { plain "com/example/hookwright/hookwright/signing/StandardWebhooksSignatureSecretPinLaw" (some 0) with
  accessFlags := 49
  interfaces := #[]
  cf := some (fileOf pool1 9 #[] #[{ accessFlags := 2, nameIndex := 5, descriptorIndex := 6, attributes := #[] }, { accessFlags := 9, nameIndex := 49, descriptorIndex := 50, attributes := #[] }, { accessFlags := 10, nameIndex := 12, descriptorIndex := 13, attributes := #[] }, { accessFlags := 10, nameIndex := 34, descriptorIndex := 35, attributes := #[] }, { accessFlags := 10, nameIndex := 42, descriptorIndex := 31, attributes := #[] }, { accessFlags := 10, nameIndex := 38, descriptorIndex := 39, attributes := #[] }] 49 2 #[] #[])
  fields := #[]
  methods := #[k1m0, k1m1, k1m2, k1m3, k1m4, k1m5]
  instanceTypes := #[]
  staticTypes := #[]
  resolved := Array.replicate 56 none
  statics := none }

def pool2 : Array CpInfo := pool [(1, .class_ 2), (0, u "com/example/hookwright/hookwright/signing/StandardWebhooksSignature"), (1, .class_ 6), (0, .nameAndType 7 8), (0, u "java/lang/Object"), (0, u "<init>"), (0, u "()V"), (2, .methodref 12 13), (0, .class_ 14), (0, .nameAndType 15 16), (0, u "java/util/Objects"), (0, u "requireNonNull"), (0, u "(Ljava/lang/Object;Ljava/lang/String;)Ljava/lang/Object;"), (4, u "key"), (0, u "(Ljava/lang/String;)[B"), (12, .class_ 36), (0, u "java/lang/StringBuilder"), (0, .methodref 35 5), (2, .methodref 35 41), (0, .nameAndType 42 43), (0, u "append"), (0, u "(Ljava/lang/String;)Ljava/lang/StringBuilder;"), (0, .methodref 45 46), (0, .class_ 47), (0, .nameAndType 48 49), (0, u "java/util/Base64"), (0, u "getEncoder"), (0, u "()Ljava/util/Base64$Encoder;"), (0, .methodref 51 52), (0, .class_ 53), (0, .nameAndType 54 55), (0, u "java/util/Base64$Encoder"), (0, u "encodeToString"), (0, u "([B)Ljava/lang/String;"), (0, .methodref 35 57), (0, .nameAndType 58 59), (0, u "toString"), (0, u "()Ljava/lang/String;"), (0, .string 61), (0, u "secret"), (0, .string 63), (0, u "whsec_"), (0, .methodref 65 66), (0, .class_ 67), (0, .nameAndType 68 69), (0, u "java/lang/String"), (0, u "startsWith"), (0, u "(Ljava/lang/String;)Z"), (7, .methodref 65 78), (0, .nameAndType 79 80), (0, u "length"), (0, u "()I"), (0, .methodref 65 82), (0, .nameAndType 83 84), (0, u "substring"), (0, u "(I)Ljava/lang/String;"), (0, .methodref 45 86), (0, .nameAndType 87 88), (0, u "getDecoder"), (0, u "()Ljava/util/Base64$Decoder;"), (0, .methodref 90 91), (0, .class_ 92), (0, .nameAndType 93 22), (0, u "java/util/Base64$Decoder"), (0, u "decode"), (0, .methodref 65 95), (0, .nameAndType 96 97), (0, u "equals"), (0, u "(Ljava/lang/Object;)Z"), (5, u "SECRET_PREFIX"), (0, u "Ljava/lang/String;"), (1, u "MIN_KEY_BYTES"), (0, u "I"), (1, u "MAX_KEY_BYTES"), (1, u "SECRET_RULE"), (0, u "VERSION")] 12

def k2m0 : Method := { name := "<init>", desc := "()V", sig := { parameters := [], returnType := none }, accessFlags := 2, code := none }
def k2c1 : Code := { maxStack := 3, maxLocals := 4, code := prog_38_method_3_code, exceptionTable := #[{ startPc := 36, endPc := 44, handlerPc := 47, catchType := 70 }], attributes := #[] }
def k2m1 : Method := { name := "key", desc := "(Ljava/lang/String;)[B", sig := { parameters := [(.object "java/lang/String")], returnType := some (.array .byte) }, accessFlags := 8, code := some k2c1 }
def k2c2 : Code := { maxStack := 4, maxLocals := 1, code := prog_38_method_4_code, exceptionTable := #[], attributes := #[] }
def k2m2 : Method := { name := "secret", desc := "([B)Ljava/lang/String;", sig := { parameters := [(.array .byte)], returnType := some (.object "java/lang/String") }, accessFlags := 8, code := some k2c2 }
/-- com/example/hookwright/hookwright/signing/StandardWebhooksSignature -/
def k2 : Class := { plain "com/example/hookwright/hookwright/signing/StandardWebhooksSignature" (some 0) with
  accessFlags := 49
  interfaces := #[]
  cf := some (fileOf pool2 1 #[] #[{ accessFlags := 2, nameIndex := 7, descriptorIndex := 8, attributes := #[] }, { accessFlags := 8, nameIndex := 21, descriptorIndex := 22, attributes := #[] }, { accessFlags := 8, nameIndex := 61, descriptorIndex := 55, attributes := #[] }] 49 4 #[] #[{ accessFlags := 25, nameIndex := 103, descriptorIndex := 104, attributes := #[] }, { accessFlags := 24, nameIndex := 106, descriptorIndex := 107, attributes := #[] }, { accessFlags := 24, nameIndex := 109, descriptorIndex := 107, attributes := #[] }, { accessFlags := 26, nameIndex := 111, descriptorIndex := 104, attributes := #[] }, { accessFlags := 26, nameIndex := 112, descriptorIndex := 104, attributes := #[] }])
  fields := #[{ name := "SECRET_PREFIX", type := (.object "java/lang/String"), accessFlags := 25, slot := 0, constantValue := 0 }, { name := "MIN_KEY_BYTES", type := .int, accessFlags := 24, slot := 1, constantValue := 0 }, { name := "MAX_KEY_BYTES", type := .int, accessFlags := 24, slot := 2, constantValue := 0 }, { name := "SECRET_RULE", type := (.object "java/lang/String"), accessFlags := 26, slot := 3, constantValue := 0 }, { name := "VERSION", type := (.object "java/lang/String"), accessFlags := 26, slot := 4, constantValue := 0 }]
  methods := #[k2m0, k2m1, k2m2]
  instanceTypes := #[]
  staticTypes := #[(.object "java/lang/String"), .int, .int, (.object "java/lang/String"), (.object "java/lang/String")]
  resolved := Array.replicate 125 none
  statics := none }

def pool3 : Array CpInfo := pool [(1, .class_ 2), (0, u "java/lang/Appendable"), (0, .class_ 4), (0, u "java/lang/Object")] 9

/-- java/lang/Appendable -/
def k3 : Class := { plain "java/lang/Appendable" (some 0) with
  accessFlags := 1537
  interfaces := #[]
  cf := some (fileOf pool3 1 #[] #[] 1537 3 #[] #[])
  fields := #[]
  methods := #[]
  instanceTypes := #[]
  staticTypes := #[]
  resolved := Array.replicate 14 none
  statics := none }

def pool4 : Array CpInfo := pool [(2, .class_ 4), (1, u "java/lang/CharSequence"), (42, .class_ 48), (0, u "java/lang/CharSequence$1CodePointIterator"), (10, .class_ 60), (0, u "java/lang/CharSequence$1CharIterator"), (5, .class_ 67), (0, u "java/lang/Object")] 63

/-- java/lang/CharSequence -/
def k4 : Class := { plain "java/lang/CharSequence" (some 0) with
  accessFlags := 1537
  interfaces := #[]
  cf := some (fileOf pool4 2 #[.nestMembers #[47, 59]] #[] 1537 66 #[] #[])
  fields := #[]
  methods := #[]
  instanceTypes := #[]
  staticTypes := #[]
  resolved := Array.replicate 131 none
  statics := none }

def pool5 : Array CpInfo := pool [(1, .class_ 2), (0, u "java/lang/String"), (0, .methodref 4 5), (0, .class_ 6), (0, .nameAndType 7 8), (0, u "java/lang/Object"), (0, u "<init>"), (0, u "()V"), (1, .class_ 12), (1, u "java/lang/AbstractStringBuilder"), (0, u "EMPTYVALUE"), (0, u "[B"), (0, .fieldref 10 16), (0, .nameAndType 17 14), (0, u "value"), (0, .fieldref 1 19), (0, .nameAndType 20 21), (0, u "COMPACT_STRINGS"), (0, u "Z"), (0, .fieldref 10 23), (0, .nameAndType 24 25), (0, u "coder"), (0, u "B"), (6, .methodref 1 33), (0, .nameAndType 34 35), (0, u "length"), (0, u "()I"), (3, .integer 2147483647), (0, .methodref 1 41), (0, .nameAndType 24 42), (0, u "()B"), (2, u "append"), (0, u "(Ljava/lang/String;)Ljava/lang/AbstractStringBuilder;"), (1, .class_ 49), (0, u "java/lang/CharSequence"), (19, u "(Ljava/lang/String;)V"), (5, u "maybeLatin1"), (3, .fieldref 10 80), (0, .nameAndType 81 82), (0, u "count"), (0, u "I"), (2, u "isLatin1"), (0, u "()Z"), (13, .methodref 10 101), (0, .nameAndType 102 103), (0, u "ensureCapacityInternal"), (0, u "(I)V"), (0, .methodref 10 105), (0, .nameAndType 106 107), (0, u "newCapacity"), (0, u "(I)I"), (0, .methodref 109 110), (0, .class_ 111), (0, .nameAndType 112 113), (0, u "java/util/Arrays"), (0, u "copyOf"), (0, u "([BI)[B"), (0, .methodref 115 116), (0, .class_ 117), (0, .nameAndType 118 119), (0, u "jdk/internal/util/ArraysSupport"), (0, u "newLength"), (0, u "(III)I"), (88, .methodref 10 209), (0, .nameAndType 210 211), (0, u "putStringAt"), (0, u "(ILjava/lang/String;)V"), (5, u "inflateIfNeededFor"), (2, .nameAndType 221 222), (0, u "getBytes"), (0, u "([BIB)V"), (174, .methodref 10 398), (0, .nameAndType 217 69), (0, .methodref 1 220), (3, u "()[B"), (40, .class_ 445), (0, u "java/lang/Appendable"), (106, u "getValue")] 56

def k5m0 : Method := { name := "<init>", desc := "()V", sig := { parameters := [], returnType := none }, accessFlags := 0, code := none }
def k5c1 : Code := { maxStack := 2, maxLocals := 2, code := jdk_68_method_2_code, exceptionTable := #[], attributes := #[] }
def k5m1 : Method := { name := "<init>", desc := "(I)V", sig := { parameters := [.int], returnType := none }, accessFlags := 0, code := some k5c1 }
def k5c2 : Code := { maxStack := 1, maxLocals := 1, code := jdk_68_method_6_code, exceptionTable := #[], attributes := #[] }
def k5m2 : Method := { name := "length", desc := "()I", sig := { parameters := [], returnType := some .int }, accessFlags := 1, code := some k5c2 }
def k5c3 : Code := { maxStack := 4, maxLocals := 3, code := jdk_68_method_9_code, exceptionTable := #[], attributes := #[] }
def k5m3 : Method := { name := "ensureCapacityInternal", desc := "(I)V", sig := { parameters := [.int], returnType := none }, accessFlags := 2, code := some k5c3 }
def k5c4 : Code := { maxStack := 5, maxLocals := 6, code := jdk_68_method_10_code, exceptionTable := #[], attributes := #[] }
def k5m4 : Method := { name := "newCapacity", desc := "(I)I", sig := { parameters := [.int], returnType := some .int }, accessFlags := 2, code := some k5c4 }
def k5c5 : Code := { maxStack := 3, maxLocals := 3, code := jdk_68_method_22_code, exceptionTable := #[], attributes := #[] }
def k5m5 : Method := { name := "append", desc := "(Ljava/lang/String;)Ljava/lang/AbstractStringBuilder;", sig := { parameters := [(.object "java/lang/String")], returnType := some (.object "java/lang/AbstractStringBuilder") }, accessFlags := 1, code := some k5c5 }
def k5c6 : Code := { maxStack := 1, maxLocals := 1, code := jdk_68_method_64_code, exceptionTable := #[], attributes := #[] }
def k5m6 : Method := { name := "getValue", desc := "()[B", sig := { parameters := [], returnType := some (.array .byte) }, accessFlags := 16, code := some k5c6 }
def k5c7 : Code := { maxStack := 1, maxLocals := 1, code := jdk_68_method_68_code, exceptionTable := #[], attributes := #[] }
def k5m7 : Method := { name := "isLatin1", desc := "()Z", sig := { parameters := [], returnType := some .boolean }, accessFlags := 16, code := some k5c7 }
def k5c8 : Code := { maxStack := 2, maxLocals := 2, code := jdk_68_method_71_code, exceptionTable := #[], attributes := #[] }
def k5m8 : Method := { name := "inflateIfNeededFor", desc := "(Ljava/lang/String;)V", sig := { parameters := [(.object "java/lang/String")], returnType := none }, accessFlags := 2, code := some k5c8 }
def k5c9 : Code := { maxStack := 4, maxLocals := 3, code := jdk_68_method_73_code, exceptionTable := #[], attributes := #[] }
def k5m9 : Method := { name := "putStringAt", desc := "(ILjava/lang/String;)V", sig := { parameters := [.int, (.object "java/lang/String")], returnType := none }, accessFlags := 2, code := some k5c9 }
/-- java/lang/AbstractStringBuilder -/
def k5 : Class := { plain "java/lang/AbstractStringBuilder" (some 0) with
  accessFlags := 1056
  interfaces := #[3, 4]
  cf := some (fileOf pool5 10 #[] #[{ accessFlags := 0, nameIndex := 7, descriptorIndex := 8, attributes := #[] }, { accessFlags := 0, nameIndex := 7, descriptorIndex := 103, attributes := #[] }, { accessFlags := 1, nameIndex := 34, descriptorIndex := 35, attributes := #[] }, { accessFlags := 2, nameIndex := 102, descriptorIndex := 103, attributes := #[] }, { accessFlags := 2, nameIndex := 106, descriptorIndex := 107, attributes := #[] }, { accessFlags := 1, nameIndex := 45, descriptorIndex := 46, attributes := #[] }, { accessFlags := 16, nameIndex := 552, descriptorIndex := 403, attributes := #[] }, { accessFlags := 16, nameIndex := 85, descriptorIndex := 86, attributes := #[] }, { accessFlags := 2, nameIndex := 217, descriptorIndex := 69, attributes := #[] }, { accessFlags := 2, nameIndex := 210, descriptorIndex := 211, attributes := #[] }] 1056 4 #[444, 48] #[{ accessFlags := 0, nameIndex := 17, descriptorIndex := 14, attributes := #[] }, { accessFlags := 0, nameIndex := 24, descriptorIndex := 25, attributes := #[] }, { accessFlags := 0, nameIndex := 75, descriptorIndex := 21, attributes := #[] }, { accessFlags := 0, nameIndex := 81, descriptorIndex := 82, attributes := #[] }, { accessFlags := 26, nameIndex := 13, descriptorIndex := 14, attributes := #[] }])
  fields := #[{ name := "value", type := (.array .byte), accessFlags := 0, slot := 0, constantValue := 0 }, { name := "coder", type := .byte, accessFlags := 0, slot := 1, constantValue := 0 }, { name := "maybeLatin1", type := .boolean, accessFlags := 0, slot := 2, constantValue := 0 }, { name := "count", type := .int, accessFlags := 0, slot := 3, constantValue := 0 }, { name := "EMPTYVALUE", type := (.array .byte), accessFlags := 26, slot := 0, constantValue := 0 }]
  methods := #[k5m0, k5m1, k5m2, k5m3, k5m4, k5m5, k5m6, k5m7, k5m8, k5m9]
  instanceTypes := #[(.array .byte), .byte, .boolean, .int]
  staticTypes := #[(.array .byte)]
  resolved := Array.replicate 609 none
  statics := none }

def pool6 : Array CpInfo := pool [(1, .class_ 2), (0, u "java/io/Serializable"), (0, .class_ 4), (0, u "java/lang/Object")] 2

/-- java/io/Serializable -/
def k6 : Class := { plain "java/io/Serializable" (some 0) with
  accessFlags := 1537
  interfaces := #[]
  cf := some (fileOf pool6 1 #[] #[] 1537 3 #[] #[])
  fields := #[]
  methods := #[]
  instanceTypes := #[]
  staticTypes := #[]
  resolved := Array.replicate 7 none
  statics := none }

def pool7 : Array CpInfo := pool [(1, .class_ 2), (0, u "java/lang/Comparable"), (0, .class_ 4), (0, u "java/lang/Object")] 7

/-- java/lang/Comparable -/
def k7 : Class := { plain "java/lang/Comparable" (some 0) with
  accessFlags := 1537
  interfaces := #[]
  cf := some (fileOf pool7 1 #[] #[] 1537 3 #[] #[])
  fields := #[]
  methods := #[]
  instanceTypes := #[]
  staticTypes := #[]
  resolved := Array.replicate 12 none
  statics := none }

def pool8 : Array CpInfo := pool [(1, .methodref 2 3), (0, .class_ 4), (0, .nameAndType 5 6), (0, u "java/lang/AbstractStringBuilder"), (0, u "<init>"), (0, u "(I)V"), (11, .class_ 20), (1, u "java/lang/String"), (3, .class_ 26), (1, u "java/lang/StringBuilder"), (0, u "append"), (0, u "(Ljava/lang/String;)Ljava/lang/StringBuilder;"), (0, .methodref 2 30), (0, .nameAndType 27 31), (0, u "(Ljava/lang/String;)Ljava/lang/AbstractStringBuilder;"), (105, .methodref 18 138), (0, .nameAndType 5 139), (0, u "(Ljava/lang/StringBuilder;)V"), (5, u "()V"), (10, u "()I"), (186, .methodref 2 344), (0, .nameAndType 345 156), (0, u "length"), (3, .class_ 350), (0, u "java/lang/Appendable"), (0, .class_ 352), (0, u "java/io/Serializable"), (0, .class_ 354), (0, u "java/lang/Comparable"), (0, .class_ 356), (0, u "java/lang/CharSequence"), (0, u "serialVersionUID"), (0, u "J"), (40, u "toString"), (0, u "()Ljava/lang/String;")] 21

def k8c0 : Code := { maxStack := 2, maxLocals := 1, code := jdk_67_method_1_code, exceptionTable := #[], attributes := #[] }
def k8m0 : Method := { name := "<init>", desc := "()V", sig := { parameters := [], returnType := none }, accessFlags := 1, code := some k8c0 }
def k8c1 : Code := { maxStack := 2, maxLocals := 2, code := jdk_67_method_7_code, exceptionTable := #[], attributes := #[] }
def k8m1 : Method := { name := "append", desc := "(Ljava/lang/String;)Ljava/lang/StringBuilder;", sig := { parameters := [(.object "java/lang/String")], returnType := some (.object "java/lang/StringBuilder") }, accessFlags := 1, code := some k8c1 }
def k8c2 : Code := { maxStack := 3, maxLocals := 1, code := jdk_67_method_42_code, exceptionTable := #[], attributes := #[] }
def k8m2 : Method := { name := "toString", desc := "()Ljava/lang/String;", sig := { parameters := [], returnType := some (.object "java/lang/String") }, accessFlags := 1, code := some k8c2 }
def k8c3 : Code := { maxStack := 1, maxLocals := 1, code := jdk_67_method_93_code, exceptionTable := #[], attributes := #[] }
def k8m3 : Method := { name := "length", desc := "()I", sig := { parameters := [], returnType := some .int }, accessFlags := 4161, code := some k8c3 }
/-- java/lang/StringBuilder -/
def k8 : Class := { plain "java/lang/StringBuilder" (some 5) with
  accessFlags := 49
  interfaces := #[3, 6, 7, 4]
  cf := some (fileOf pool8 24 #[] #[{ accessFlags := 1, nameIndex := 5, descriptorIndex := 145, attributes := #[] }, { accessFlags := 1, nameIndex := 27, descriptorIndex := 28, attributes := #[] }, { accessFlags := 1, nameIndex := 399, descriptorIndex := 400, attributes := #[] }, { accessFlags := 4161, nameIndex := 345, descriptorIndex := 156, attributes := #[] }] 49 2 #[349, 351, 353, 355] #[{ accessFlags := 24, nameIndex := 357, descriptorIndex := 358, attributes := #[] }])
  fields := #[{ name := "serialVersionUID", type := .long, accessFlags := 24, slot := 0, constantValue := 0 }]
  methods := #[k8m0, k8m1, k8m2, k8m3]
  instanceTypes := #[(.array .byte), .byte, .boolean, .int]
  staticTypes := #[.long]
  resolved := Array.replicate 422 none
  statics := none }

def pool9 : Array CpInfo := pool [(1, .class_ 2), (0, u "java/lang/constant/Constable"), (0, .class_ 4), (0, u "java/lang/Object")] 6

/-- java/lang/constant/Constable -/
def k9 : Class := { plain "java/lang/constant/Constable" (some 0) with
  accessFlags := 1537
  interfaces := #[]
  cf := some (fileOf pool9 1 #[] #[] 1537 3 #[] #[])
  fields := #[]
  methods := #[]
  instanceTypes := #[]
  staticTypes := #[]
  resolved := Array.replicate 11 none
  statics := none }

def pool10 : Array CpInfo := pool [(1, .class_ 2), (0, u "java/lang/constant/ConstantDesc"), (0, .class_ 4), (0, u "java/lang/Object")] 32

/-- java/lang/constant/ConstantDesc -/
def k10 : Class := { plain "java/lang/constant/ConstantDesc" (some 0) with
  accessFlags := 1537
  interfaces := #[]
  cf := some (fileOf pool10 1 #[] #[] 1537 3 #[] #[])
  fields := #[]
  methods := #[]
  instanceTypes := #[]
  staticTypes := #[]
  resolved := Array.replicate 37 none
  statics := none }

def pool11 : Array CpInfo := pool [(1, .methodref 2 3), (0, .class_ 4), (0, .nameAndType 5 6), (0, u "java/lang/Object"), (0, u "<init>"), (0, u "()V"), (2, .fieldref 10 11), (0, .class_ 12), (0, .nameAndType 13 14), (0, u "java/lang/String"), (0, u "value"), (0, u "[B"), (0, .fieldref 10 16), (0, .nameAndType 17 18), (0, u "coder"), (0, u "B"), (2, u "hash"), (0, u "I"), (2, u "hashIsZero"), (0, u "Z"), (7, .methodref 10 35), (0, .nameAndType 36 37), (0, u "checkBoundsOffCount"), (0, u "(III)I"), (0, .fieldref 10 39), (0, .nameAndType 40 26), (0, u "COMPACT_STRINGS"), (13, .methodref 55 56), (0, .class_ 57), (0, .nameAndType 58 59), (0, u "java/util/Arrays"), (0, u "copyOfRange"), (0, u "([BII)[B"), (10, u "([BIII)V"), (15, .fieldref 87 88), (0, .class_ 89), (0, .nameAndType 90 91), (0, u "sun/nio/cs/UTF_8"), (0, u "INSTANCE"), (0, u "Lsun/nio/cs/UTF_8;"), (15, .class_ 109), (1, u "java/lang/StringLatin1"), (6, .fieldref 117 118), (0, .class_ 119), (0, .nameAndType 90 120), (0, u "sun/nio/cs/ISO_8859_1"), (0, u "Lsun/nio/cs/ISO_8859_1;"), (21, u "()Z"), (50, .class_ 195), (1, u "java/lang/System"), (15, u "([BB)V"), (0, .methodref 193 213), (0, .nameAndType 214 215), (0, u "arraycopy"), (0, u "(Ljava/lang/Object;ILjava/lang/Object;II)V"), (39, u "(B[BZ)[B"), (0, .methodref 10 257), (0, .nameAndType 258 259), (0, u "encode8859_1"), (0, u "(B[B)[B"), (19, .methodref 280 281), (0, .class_ 14), (0, .nameAndType 282 283), (0, u "clone"), (0, u "()Ljava/lang/Object;"), (33, u "encode"), (16, u "()I"), (0, .methodref 10 336), (0, .nameAndType 17 337), (0, u "()B"), (2, u "()[B"), (10, .methodref 10 352), (0, .nameAndType 258 255), (10, u "([BI)C"), (12, u "([BI[BII)I"), (14, u "(II)V"), (35, u "(I)C"), (61, .methodref 10 490), (0, .nameAndType 5 491), (0, u "(Ljava/lang/AbstractStringBuilder;Ljava/lang/Void;)V"), (0, .methodref 10 493), (0, .nameAndType 494 142), (0, u "isLatin1"), (0, .methodref 107 496), (0, .nameAndType 497 363), (0, u "charAt"), (3, u "checkIndex"), (3, .methodref 10 506), (0, .nameAndType 507 334), (0, u "length"), (5, u "checkFromToIndex"), (7, .methodref 10 522), (0, .nameAndType 523 524), (0, u "checkBoundsBeginEnd"), (0, u "(III)V"), (7, u "getBytes"), (2, .methodref 10 536), (0, .nameAndType 317 537), (0, u "(Ljava/nio/charset/Charset;B[B)[B"), (3, .methodref 107 542), (0, .nameAndType 543 544), (0, u "equals"), (0, u "([B[B)Z"), (4, .methodref 550 506), (0, .class_ 551), (0, u "java/lang/AbstractStringBuilder"), (0, .methodref 550 553), (0, .nameAndType 554 340), (0, u "getValue"), (4, .class_ 561), (1, u "jdk/internal/util/ArraysSupport"), (0, u "mismatch"), (10, u "(Ljava/lang/Object;)Z"), (1, .class_ 576), (0, u "java/lang/CharSequence"), (22, u "CASE_INSENSITIVE_ORDER"), (0, u "Ljava/util/Comparator;"), (6, .methodref 559 608), (0, .nameAndType 562 376), (15, .methodref 10 625), (0, .nameAndType 626 627), (0, u "startsWith"), (0, u "(Ljava/lang/String;I)Z"), (53, .methodref 10 682), (0, .nameAndType 683 684), (0, u "substring"), (0, u "(II)Ljava/lang/String;"), (0, .methodref 107 686), (0, .nameAndType 687 688), (0, u "newString"), (0, u "([BII)Ljava/lang/String;"), (132, u "([BIB)V"), (70, u "(I)Ljava/lang/String;"), (154, .methodref 550 493), (5, .fieldref 1054 1055), (0, .class_ 1056), (0, .nameAndType 1057 1058), (0, u "jdk/internal/util/Preconditions"), (0, u "SIOOBE_FORMATTER"), (0, u "Ljava/util/function/BiFunction;"), (0, .methodref 1054 1060), (0, .nameAndType 501 1061), (0, u "(IILjava/util/function/BiFunction;)I"), (0, .methodref 1054 1063), (0, .nameAndType 513 1064), (0, u "(IIILjava/util/function/BiFunction;)I"), (0, .methodref 1054 1066), (0, .nameAndType 1067 1064), (0, u "checkFromIndexSize"), (33, u "serialPersistentFields"), (0, u "[Ljava/io/ObjectStreamField;"), (0, .class_ 1104), (0, u "java/lang/String$CaseInsensitiveComparator"), (1, .class_ 1107), (0, u "java/io/Serializable"), (0, .class_ 1109), (0, u "java/lang/Comparable"), (0, .class_ 1111), (0, u "java/lang/constant/Constable"), (0, .class_ 1113), (0, u "java/lang/constant/ConstantDesc"), (2, u "serialVersionUID"), (0, u "J"), (3, u "REPL"), (0, u "C"), (2, u "LATIN1"), (1, u "UTF16"), (105, u "(Ljava/lang/StringBuilder;)V"), (11, u "(Ljava/nio/charset/Charset;)[B"), (11, u "(Ljava/lang/String;)Z")] 193

def k11m0 : Method := { name := "<init>", desc := "()V", sig := { parameters := [], returnType := none }, accessFlags := 1, code := none }
def k11c1 : Code := { maxStack := 5, maxLocals := 7, code := jdk_42_method_7_code, exceptionTable := #[], attributes := #[] }
def k11m1 : Method := { name := "<init>", desc := "([BIII)V", sig := { parameters := [(.array .byte), .int, .int, .int], returnType := none }, accessFlags := 1, code := some k11c1 }
def k11c2 : Code := { maxStack := 4, maxLocals := 3, code := jdk_42_method_18_code, exceptionTable := #[], attributes := #[] }
def k11m2 : Method := { name := "encode", desc := "(Ljava/nio/charset/Charset;B[B)[B", sig := { parameters := [(.object "java/nio/charset/Charset"), .byte, (.array .byte)], returnType := some (.array .byte) }, accessFlags := 10, code := some k11c2 }
def k11c3 : Code := { maxStack := 3, maxLocals := 2, code := jdk_42_method_26_code, exceptionTable := #[], attributes := #[] }
def k11m3 : Method := { name := "encode8859_1", desc := "(B[B)[B", sig := { parameters := [.byte, (.array .byte)], returnType := some (.array .byte) }, accessFlags := 10, code := some k11c3 }
def k11c4 : Code := { maxStack := 5, maxLocals := 10, code := jdk_42_method_27_code, exceptionTable := #[], attributes := #[] }
def k11m4 : Method := { name := "encode8859_1", desc := "(B[BZ)[B", sig := { parameters := [.byte, (.array .byte), .boolean], returnType := some (.array .byte) }, accessFlags := 10, code := some k11c4 }
def k11c5 : Code := { maxStack := 3, maxLocals := 2, code := jdk_42_method_53_code, exceptionTable := #[], attributes := #[] }
def k11m5 : Method := { name := "<init>", desc := "(Ljava/lang/StringBuilder;)V", sig := { parameters := [(.object "java/lang/StringBuilder")], returnType := none }, accessFlags := 1, code := some k11c5 }
def k11c6 : Code := { maxStack := 2, maxLocals := 1, code := jdk_42_method_54_code, exceptionTable := #[], attributes := #[] }
def k11m6 : Method := { name := "length", desc := "()I", sig := { parameters := [], returnType := some .int }, accessFlags := 1, code := some k11c6 }
def k11c7 : Code := { maxStack := 2, maxLocals := 2, code := jdk_42_method_56_code, exceptionTable := #[], attributes := #[] }
def k11m7 : Method := { name := "charAt", desc := "(I)C", sig := { parameters := [.int], returnType := some .char }, accessFlags := 1, code := some k11c7 }
def k11c8 : Code := { maxStack := 3, maxLocals := 2, code := jdk_42_method_64_code, exceptionTable := #[], attributes := #[] }
def k11m8 : Method := { name := "getBytes", desc := "(Ljava/nio/charset/Charset;)[B", sig := { parameters := [(.object "java/nio/charset/Charset")], returnType := some (.array .byte) }, accessFlags := 1, code := some k11c8 }
def k11c9 : Code := { maxStack := 2, maxLocals := 3, code := jdk_42_method_66_code, exceptionTable := #[], attributes := #[] }
def k11m9 : Method := { name := "equals", desc := "(Ljava/lang/Object;)Z", sig := { parameters := [(.object "java/lang/Object")], returnType := some .boolean }, accessFlags := 1, code := some k11c9 }
def k11c10 : Code := { maxStack := 5, maxLocals := 8, code := jdk_42_method_75_code, exceptionTable := #[], attributes := #[] }
def k11m10 : Method := { name := "startsWith", desc := "(Ljava/lang/String;I)Z", sig := { parameters := [(.object "java/lang/String"), .int], returnType := some .boolean }, accessFlags := 1, code := some k11c10 }
def k11c11 : Code := { maxStack := 3, maxLocals := 2, code := jdk_42_method_76_code, exceptionTable := #[], attributes := #[] }
def k11m11 : Method := { name := "startsWith", desc := "(Ljava/lang/String;)Z", sig := { parameters := [(.object "java/lang/String")], returnType := some .boolean }, accessFlags := 1, code := some k11c11 }
def k11c12 : Code := { maxStack := 3, maxLocals := 2, code := jdk_42_method_91_code, exceptionTable := #[], attributes := #[] }
def k11m12 : Method := { name := "substring", desc := "(I)Ljava/lang/String;", sig := { parameters := [.int], returnType := some (.object "java/lang/String") }, accessFlags := 1, code := some k11c12 }
def k11c13 : Code := { maxStack := 3, maxLocals := 5, code := jdk_42_method_92_code, exceptionTable := #[], attributes := #[] }
def k11m13 : Method := { name := "substring", desc := "(II)Ljava/lang/String;", sig := { parameters := [.int, .int], returnType := some (.object "java/lang/String") }, accessFlags := 1, code := some k11c13 }
def k11c14 : Code := { maxStack := 5, maxLocals := 4, code := jdk_42_method_147_code, exceptionTable := #[], attributes := #[] }
def k11m14 : Method := { name := "getBytes", desc := "([BIB)V", sig := { parameters := [(.array .byte), .int, .byte], returnType := none }, accessFlags := 0, code := some k11c14 }
def k11c15 : Code := { maxStack := 5, maxLocals := 5, code := jdk_42_method_150_code, exceptionTable := #[], attributes := #[] }
def k11m15 : Method := { name := "<init>", desc := "(Ljava/lang/AbstractStringBuilder;Ljava/lang/Void;)V", sig := { parameters := [(.object "java/lang/AbstractStringBuilder"), (.object "java/lang/Void")], returnType := none }, accessFlags := 0, code := some k11c15 }
def k11c16 : Code := { maxStack := 2, maxLocals := 3, code := jdk_42_method_151_code, exceptionTable := #[], attributes := #[] }
def k11m16 : Method := { name := "<init>", desc := "([BB)V", sig := { parameters := [(.array .byte), .byte], returnType := none }, accessFlags := 0, code := some k11c16 }
def k11c17 : Code := { maxStack := 1, maxLocals := 1, code := jdk_42_method_152_code, exceptionTable := #[], attributes := #[] }
def k11m17 : Method := { name := "coder", desc := "()B", sig := { parameters := [], returnType := some .byte }, accessFlags := 0, code := some k11c17 }
def k11c18 : Code := { maxStack := 1, maxLocals := 1, code := jdk_42_method_154_code, exceptionTable := #[], attributes := #[] }
def k11m18 : Method := { name := "isLatin1", desc := "()Z", sig := { parameters := [], returnType := some .boolean }, accessFlags := 0, code := some k11c18 }
def k11c19 : Code := { maxStack := 3, maxLocals := 2, code := jdk_42_method_155_code, exceptionTable := #[], attributes := #[] }
def k11m19 : Method := { name := "checkIndex", desc := "(II)V", sig := { parameters := [.int, .int], returnType := none }, accessFlags := 8, code := some k11c19 }
def k11c20 : Code := { maxStack := 4, maxLocals := 3, code := jdk_42_method_157_code, exceptionTable := #[], attributes := #[] }
def k11m20 : Method := { name := "checkBoundsOffCount", desc := "(III)I", sig := { parameters := [.int, .int, .int], returnType := some .int }, accessFlags := 8, code := some k11c20 }
def k11c21 : Code := { maxStack := 4, maxLocals := 3, code := jdk_42_method_158_code, exceptionTable := #[], attributes := #[] }
def k11m21 : Method := { name := "checkBoundsBeginEnd", desc := "(III)V", sig := { parameters := [.int, .int, .int], returnType := none }, accessFlags := 8, code := some k11c21 }
/-- java/lang/String -/
def k11 : Class := { plain "java/lang/String" (some 0) with
  accessFlags := 49
  interfaces := #[6, 7, 4, 9, 10]
  cf := some (fileOf pool11 10 #[.nestMembers #[1103]] #[{ accessFlags := 1, nameIndex := 5, descriptorIndex := 6, attributes := #[] }, { accessFlags := 1, nameIndex := 5, descriptorIndex := 70, attributes := #[] }, { accessFlags := 10, nameIndex := 317, descriptorIndex := 537, attributes := #[] }, { accessFlags := 10, nameIndex := 258, descriptorIndex := 259, attributes := #[] }, { accessFlags := 10, nameIndex := 258, descriptorIndex := 255, attributes := #[] }, { accessFlags := 1, nameIndex := 5, descriptorIndex := 1233, attributes := #[] }, { accessFlags := 1, nameIndex := 507, descriptorIndex := 334, attributes := #[] }, { accessFlags := 1, nameIndex := 497, descriptorIndex := 427, attributes := #[] }, { accessFlags := 1, nameIndex := 532, descriptorIndex := 1245, attributes := #[] }, { accessFlags := 1, nameIndex := 543, descriptorIndex := 573, attributes := #[] }, { accessFlags := 1, nameIndex := 626, descriptorIndex := 627, attributes := #[] }, { accessFlags := 1, nameIndex := 626, descriptorIndex := 1257, attributes := #[] }, { accessFlags := 1, nameIndex := 683, descriptorIndex := 892, attributes := #[] }, { accessFlags := 1, nameIndex := 683, descriptorIndex := 684, attributes := #[] }, { accessFlags := 0, nameIndex := 532, descriptorIndex := 821, attributes := #[] }, { accessFlags := 0, nameIndex := 5, descriptorIndex := 491, attributes := #[] }, { accessFlags := 0, nameIndex := 5, descriptorIndex := 211, attributes := #[] }, { accessFlags := 0, nameIndex := 17, descriptorIndex := 337, attributes := #[] }, { accessFlags := 0, nameIndex := 494, descriptorIndex := 142, attributes := #[] }, { accessFlags := 8, nameIndex := 501, descriptorIndex := 391, attributes := #[] }, { accessFlags := 8, nameIndex := 36, descriptorIndex := 37, attributes := #[] }, { accessFlags := 8, nameIndex := 523, descriptorIndex := 524, attributes := #[] }] 49 2 #[1106, 1108, 575, 1110, 1112] #[{ accessFlags := 18, nameIndex := 13, descriptorIndex := 14, attributes := #[] }, { accessFlags := 18, nameIndex := 17, descriptorIndex := 18, attributes := #[] }, { accessFlags := 2, nameIndex := 21, descriptorIndex := 22, attributes := #[] }, { accessFlags := 2, nameIndex := 25, descriptorIndex := 26, attributes := #[] }, { accessFlags := 26, nameIndex := 1116, descriptorIndex := 1117, attributes := #[] }, { accessFlags := 24, nameIndex := 40, descriptorIndex := 26, attributes := #[] }, { accessFlags := 26, nameIndex := 1101, descriptorIndex := 1102, attributes := #[] }, { accessFlags := 26, nameIndex := 1121, descriptorIndex := 1122, attributes := #[] }, { accessFlags := 25, nameIndex := 599, descriptorIndex := 600, attributes := #[] }, { accessFlags := 24, nameIndex := 1125, descriptorIndex := 18, attributes := #[] }, { accessFlags := 24, nameIndex := 1127, descriptorIndex := 18, attributes := #[] }])
  fields := #[{ name := "value", type := (.array .byte), accessFlags := 18, slot := 0, constantValue := 0 }, { name := "coder", type := .byte, accessFlags := 18, slot := 1, constantValue := 0 }, { name := "hash", type := .int, accessFlags := 2, slot := 2, constantValue := 0 }, { name := "hashIsZero", type := .boolean, accessFlags := 2, slot := 3, constantValue := 0 }, { name := "serialVersionUID", type := .long, accessFlags := 26, slot := 0, constantValue := 0 }, { name := "COMPACT_STRINGS", type := .boolean, accessFlags := 24, slot := 1, constantValue := 0 }, { name := "serialPersistentFields", type := (.array (.object "java/io/ObjectStreamField")), accessFlags := 26, slot := 2, constantValue := 0 }, { name := "REPL", type := .char, accessFlags := 26, slot := 3, constantValue := 0 }, { name := "CASE_INSENSITIVE_ORDER", type := (.object "java/util/Comparator"), accessFlags := 25, slot := 4, constantValue := 0 }, { name := "LATIN1", type := .byte, accessFlags := 24, slot := 5, constantValue := 0 }, { name := "UTF16", type := .byte, accessFlags := 24, slot := 6, constantValue := 0 }]
  methods := #[k11m0, k11m1, k11m2, k11m3, k11m4, k11m5, k11m6, k11m7, k11m8, k11m9, k11m10, k11m11, k11m12, k11m13, k11m14, k11m15, k11m16, k11m17, k11m18, k11m19, k11m20, k11m21]
  instanceTypes := #[(.array .byte), .byte, .int, .boolean]
  staticTypes := #[.long, .boolean, (.array (.object "java/io/ObjectStreamField")), .char, (.object "java/util/Comparator"), .byte, .byte]
  resolved := Array.replicate 1451 none
  statics := some 0 }

def pool12 : Array CpInfo := pool [(2, .class_ 4), (1, u "java/lang/Object"), (0, u "<init>"), (0, u "()V"), (1, .class_ 10), (1, u "java/lang/System"), (0, u "allowSecurityManager"), (0, u "I"), (16, u "cons"), (0, u "Ljava/io/Console;"), (77, .class_ 110), (1, u "java/lang/System$CallersHolder"), (43, u "initialErrStream"), (0, u "Ljava/io/PrintStream;"), (19, u "security"), (0, u "Ljava/lang/SecurityManager;"), (31, .class_ 209), (0, u "java/lang/System$1"), (7, u "props"), (0, u "Ljava/util/Properties;"), (2, u "lineSeparator"), (0, u "Ljava/lang/String;"), (96, .class_ 321), (1, u "java/lang/System$LoggerFinder"), (5, .class_ 328), (0, u "java/lang/System$Logger"), (67, u "err"), (2, u "out"), (91, u "notSupportedJnuEncoding"), (15, u "in"), (17, u "initialIn"), (0, u "Ljava/io/InputStream;"), (35, u "bootLayer"), (0, u "Ljava/lang/ModuleLayer;"), (99, .class_ 664), (0, u "java/lang/System$2"), (9, u "NEVER"), (2, u "MAYBE"), (49, u "arraycopy"), (0, u "(Ljava/lang/Object;ILjava/lang/Object;II)V"), (72, .class_ 802), (0, u "java/lang/System$Logger$Level")] 31

def k12m0 : Method := { name := "<init>", desc := "()V", sig := { parameters := [], returnType := none }, accessFlags := 2, code := none }
def k12m1 : Method := { name := "arraycopy", desc := "(Ljava/lang/Object;ILjava/lang/Object;II)V", sig := { parameters := [(.object "java/lang/Object"), .int, (.object "java/lang/Object"), .int, .int], returnType := none }, accessFlags := 265, code := none }
/-- java/lang/System -/
def k12 : Class := { plain "java/lang/System" (some 0) with
  accessFlags := 49
  interfaces := #[]
  cf := some (fileOf pool12 8 #[.nestMembers #[319, 327, 801, 108, 663, 208]] #[{ accessFlags := 2, nameIndex := 5, descriptorIndex := 6, attributes := #[] }, { accessFlags := 265, nameIndex := 727, descriptorIndex := 728, attributes := #[] }] 49 2 #[] #[{ accessFlags := 25, nameIndex := 507, descriptorIndex := 526, attributes := #[] }, { accessFlags := 25, nameIndex := 399, descriptorIndex := 155, attributes := #[] }, { accessFlags := 25, nameIndex := 396, descriptorIndex := 155, attributes := #[] }, { accessFlags := 10, nameIndex := 525, descriptorIndex := 526, attributes := #[] }, { accessFlags := 26, nameIndex := 674, descriptorIndex := 12, attributes := #[] }, { accessFlags := 26, nameIndex := 677, descriptorIndex := 12, attributes := #[] }, { accessFlags := 10, nameIndex := 11, descriptorIndex := 12, attributes := #[] }, { accessFlags := 74, nameIndex := 175, descriptorIndex := 176, attributes := #[] }, { accessFlags := 10, nameIndex := 491, descriptorIndex := 222, attributes := #[] }, { accessFlags := 74, nameIndex := 29, descriptorIndex := 30, attributes := #[] }, { accessFlags := 74, nameIndex := 154, descriptorIndex := 155, attributes := #[] }, { accessFlags := 10, nameIndex := 217, descriptorIndex := 218, attributes := #[] }, { accessFlags := 10, nameIndex := 221, descriptorIndex := 222, attributes := #[] }, { accessFlags := 8, nameIndex := 562, descriptorIndex := 563, attributes := #[] }])
  fields := #[{ name := "in", type := (.object "java/io/InputStream"), accessFlags := 25, slot := 0, constantValue := 0 }, { name := "out", type := (.object "java/io/PrintStream"), accessFlags := 25, slot := 1, constantValue := 0 }, { name := "err", type := (.object "java/io/PrintStream"), accessFlags := 25, slot := 2, constantValue := 0 }, { name := "initialIn", type := (.object "java/io/InputStream"), accessFlags := 10, slot := 3, constantValue := 0 }, { name := "NEVER", type := .int, accessFlags := 26, slot := 4, constantValue := 0 }, { name := "MAYBE", type := .int, accessFlags := 26, slot := 5, constantValue := 0 }, { name := "allowSecurityManager", type := .int, accessFlags := 10, slot := 6, constantValue := 0 }, { name := "security", type := (.object "java/lang/SecurityManager"), accessFlags := 74, slot := 7, constantValue := 0 }, { name := "notSupportedJnuEncoding", type := (.object "java/lang/String"), accessFlags := 10, slot := 8, constantValue := 0 }, { name := "cons", type := (.object "java/io/Console"), accessFlags := 74, slot := 9, constantValue := 0 }, { name := "initialErrStream", type := (.object "java/io/PrintStream"), accessFlags := 74, slot := 10, constantValue := 0 }, { name := "props", type := (.object "java/util/Properties"), accessFlags := 10, slot := 11, constantValue := 0 }, { name := "lineSeparator", type := (.object "java/lang/String"), accessFlags := 10, slot := 12, constantValue := 0 }, { name := "bootLayer", type := (.object "java/lang/ModuleLayer"), accessFlags := 8, slot := 13, constantValue := 0 }]
  methods := #[k12m0, k12m1]
  instanceTypes := #[]
  staticTypes := #[(.object "java/io/InputStream"), (.object "java/io/PrintStream"), (.object "java/io/PrintStream"), (.object "java/io/InputStream"), .int, .int, .int, (.object "java/lang/SecurityManager"), (.object "java/lang/String"), (.object "java/io/Console"), (.object "java/io/PrintStream"), (.object "java/util/Properties"), (.object "java/lang/String"), (.object "java/lang/ModuleLayer")]
  resolved := Array.replicate 834 none
  statics := none }

def pool13 : Array CpInfo := pool [(2, .class_ 4), (1, u "java/lang/Object"), (0, u "<init>"), (0, u "()V"), (0, .fieldref 8 9), (0, .class_ 10), (0, .nameAndType 11 12), (0, u "java/util/Base64$Encoder"), (0, u "RFC4648"), (0, u "Ljava/util/Base64$Encoder;"), (13, .class_ 28), (1, u "java/util/Base64$Decoder"), (28, .fieldref 26 58), (0, .nameAndType 11 59), (0, u "Ljava/util/Base64$Decoder;"), (4, .class_ 65), (0, u "java/util/Base64"), (5, u "getEncoder"), (0, u "()Ljava/util/Base64$Encoder;"), (13, u "getDecoder"), (0, u "()Ljava/util/Base64$Decoder;"), (5, .class_ 94), (0, u "java/util/Base64$DecInputStream"), (0, .class_ 96), (0, u "java/util/Base64$EncOutputStream")] 5

def k13m0 : Method := { name := "<init>", desc := "()V", sig := { parameters := [], returnType := none }, accessFlags := 2, code := none }
def k13c1 : Code := { maxStack := 1, maxLocals := 0, code := jdk_2448_method_2_code, exceptionTable := #[], attributes := #[] }
def k13m1 : Method := { name := "getEncoder", desc := "()Ljava/util/Base64$Encoder;", sig := { parameters := [], returnType := some (.object "java/util/Base64$Encoder") }, accessFlags := 9, code := some k13c1 }
def k13c2 : Code := { maxStack := 1, maxLocals := 0, code := jdk_2448_method_6_code, exceptionTable := #[], attributes := #[] }
def k13m2 : Method := { name := "getDecoder", desc := "()Ljava/util/Base64$Decoder;", sig := { parameters := [], returnType := some (.object "java/util/Base64$Decoder") }, accessFlags := 9, code := some k13c2 }
/-- java/util/Base64 -/
def k13 : Class := { plain "java/util/Base64" (some 0) with
  accessFlags := 33
  interfaces := #[]
  cf := some (fileOf pool13 64 #[.nestMembers #[93, 95, 26, 8]] #[{ accessFlags := 2, nameIndex := 5, descriptorIndex := 6, attributes := #[] }, { accessFlags := 9, nameIndex := 71, descriptorIndex := 72, attributes := #[] }, { accessFlags := 9, nameIndex := 86, descriptorIndex := 87, attributes := #[] }] 33 2 #[] #[])
  fields := #[]
  methods := #[k13m0, k13m1, k13m2]
  instanceTypes := #[]
  staticTypes := #[]
  resolved := Array.replicate 102 none
  statics := none }

def pool14 : Array CpInfo := pool [(2, .class_ 4), (1, u "java/lang/Object"), (0, u "<init>"), (1, .fieldref 8 9), (0, .class_ 10), (0, .nameAndType 11 12), (0, u "java/util/Base64$Encoder"), (0, u "isURL"), (0, u "Z"), (2, u "newline"), (0, u "[B"), (0, .fieldref 8 18), (0, .nameAndType 19 20), (0, u "linemax"), (0, u "I"), (0, .fieldref 8 22), (0, .nameAndType 23 12), (0, u "doPadding"), (0, .methodref 25 26), (0, .class_ 27), (0, .nameAndType 28 29), (0, u "java/lang/Math"), (0, u "addExact"), (0, u "(II)I"), (0, .methodref 25 31), (0, .nameAndType 32 29), (0, u "multiplyExact"), (9, .methodref 8 43), (0, .nameAndType 44 45), (0, u "encodedOutLength"), (0, u "(IZ)I"), (0, .methodref 8 47), (0, .nameAndType 48 49), (0, u "encode0"), (0, u "([BII[B)I"), (11, .methodref 8 62), (0, .nameAndType 63 64), (0, u "encode"), (0, u "([B)[B"), (0, .class_ 66), (0, u "java/lang/String"), (0, .methodref 65 68), (0, .nameAndType 5 69), (0, u "([BIII)V"), (43, u "toBase64URL"), (0, u "[C"), (0, .fieldref 8 116), (0, .nameAndType 117 114), (0, u "toBase64"), (6, .methodref 25 125), (0, .nameAndType 126 29), (0, u "min"), (0, .methodref 8 128), (0, .nameAndType 129 130), (0, u "encodeBlock"), (0, u "([BII[BIZ)V"), (2, u "CRLF"), (2, u "RFC4648"), (0, u "Ljava/util/Base64$Encoder;"), (2, u "RFC4648_URLSAFE"), (2, u "RFC2045"), (0, u "MIMELINEMAX"), (18, u "encodeToString"), (0, u "([B)Ljava/lang/String;"), (34, .class_ 200), (0, u "java/util/Base64")] 3

def k14c0 : Code := { maxStack := 3, maxLocals := 5, code := jdk_2452_method_2_code, exceptionTable := #[{ startPc := 2, endPc := 79, handlerPc := 82, catchType := 33 }], attributes := #[] }
def k14m0 : Method := { name := "encodedOutLength", desc := "(IZ)I", sig := { parameters := [.int, .boolean], returnType := some .int }, accessFlags := 18, code := some k14c0 }
def k14c1 : Code := { maxStack := 5, maxLocals := 5, code := jdk_2452_method_3_code, exceptionTable := #[], attributes := #[] }
def k14m1 : Method := { name := "encode", desc := "([B)[B", sig := { parameters := [(.array .byte)], returnType := some (.array .byte) }, accessFlags := 1, code := some k14c1 }
def k14c2 : Code := { maxStack := 6, maxLocals := 3, code := jdk_2452_method_5_code, exceptionTable := #[], attributes := #[] }
def k14m2 : Method := { name := "encodeToString", desc := "([B)Ljava/lang/String;", sig := { parameters := [(.array .byte)], returnType := some (.object "java/lang/String") }, accessFlags := 1, code := some k14c2 }
def k14c3 : Code := { maxStack := 5, maxLocals := 11, code := jdk_2452_method_9_code, exceptionTable := #[], attributes := #[] }
def k14m3 : Method := { name := "encodeBlock", desc := "([BII[BIZ)V", sig := { parameters := [(.array .byte), .int, .int, (.array .byte), .int, .boolean], returnType := none }, accessFlags := 2, code := some k14c3 }
def k14c4 : Code := { maxStack := 7, maxLocals := 16, code := jdk_2452_method_10_code, exceptionTable := #[], attributes := #[] }
def k14m4 : Method := { name := "encode0", desc := "([BII[B)I", sig := { parameters := [(.array .byte), .int, .int, (.array .byte)], returnType := some .int }, accessFlags := 2, code := some k14c4 }
/-- java/util/Base64$Encoder -/
def k14 : Class := { plain "java/util/Base64$Encoder" (some 0) with
  accessFlags := 33
  interfaces := #[]
  cf := some (fileOf pool14 8 #[.nestHost 199] #[{ accessFlags := 18, nameIndex := 44, descriptorIndex := 45, attributes := #[] }, { accessFlags := 1, nameIndex := 63, descriptorIndex := 64, attributes := #[] }, { accessFlags := 1, nameIndex := 163, descriptorIndex := 164, attributes := #[] }, { accessFlags := 2, nameIndex := 129, descriptorIndex := 130, attributes := #[] }, { accessFlags := 2, nameIndex := 48, descriptorIndex := 49, attributes := #[] }] 33 2 #[] #[{ accessFlags := 18, nameIndex := 15, descriptorIndex := 16, attributes := #[] }, { accessFlags := 18, nameIndex := 19, descriptorIndex := 20, attributes := #[] }, { accessFlags := 18, nameIndex := 11, descriptorIndex := 12, attributes := #[] }, { accessFlags := 18, nameIndex := 23, descriptorIndex := 12, attributes := #[] }, { accessFlags := 26, nameIndex := 117, descriptorIndex := 114, attributes := #[] }, { accessFlags := 26, nameIndex := 113, descriptorIndex := 114, attributes := #[] }, { accessFlags := 26, nameIndex := 144, descriptorIndex := 20, attributes := #[] }, { accessFlags := 26, nameIndex := 133, descriptorIndex := 16, attributes := #[] }, { accessFlags := 24, nameIndex := 136, descriptorIndex := 137, attributes := #[] }, { accessFlags := 24, nameIndex := 140, descriptorIndex := 137, attributes := #[] }, { accessFlags := 24, nameIndex := 143, descriptorIndex := 137, attributes := #[] }])
  fields := #[{ name := "newline", type := (.array .byte), accessFlags := 18, slot := 0, constantValue := 0 }, { name := "linemax", type := .int, accessFlags := 18, slot := 1, constantValue := 0 }, { name := "isURL", type := .boolean, accessFlags := 18, slot := 2, constantValue := 0 }, { name := "doPadding", type := .boolean, accessFlags := 18, slot := 3, constantValue := 0 }, { name := "toBase64", type := (.array .char), accessFlags := 26, slot := 0, constantValue := 0 }, { name := "toBase64URL", type := (.array .char), accessFlags := 26, slot := 1, constantValue := 0 }, { name := "MIMELINEMAX", type := .int, accessFlags := 26, slot := 2, constantValue := 0 }, { name := "CRLF", type := (.array .byte), accessFlags := 26, slot := 3, constantValue := 0 }, { name := "RFC4648", type := (.object "java/util/Base64$Encoder"), accessFlags := 24, slot := 4, constantValue := 0 }, { name := "RFC4648_URLSAFE", type := (.object "java/util/Base64$Encoder"), accessFlags := 24, slot := 5, constantValue := 0 }, { name := "RFC2045", type := (.object "java/util/Base64$Encoder"), accessFlags := 24, slot := 6, constantValue := 0 }]
  methods := #[k14m0, k14m1, k14m2, k14m3, k14m4]
  instanceTypes := #[(.array .byte), .int, .boolean, .boolean]
  staticTypes := #[(.array .char), (.array .char), .int, (.array .byte), (.object "java/util/Base64$Encoder"), (.object "java/util/Base64$Encoder"), (.object "java/util/Base64$Encoder")]
  resolved := Array.replicate 204 none
  statics := some 1 }

def pool15 : Array CpInfo := pool [(1, .class_ 2), (0, u "java/lang/Math"), (1, .class_ 6), (1, u "java/lang/Object"), (0, u "<init>"), (0, u "()V"), (89, .class_ 100), (1, u "java/lang/Math$RandomNumberGeneratorHolder"), (19, u "multiplyExact"), (51, u "negativeZeroFloatBits"), (0, u "J"), (2, u "negativeZeroDoubleBits"), (21, u "max"), (2, u "min"), (43, u "$assertionsDisabled"), (0, u "Z"), (88, u "(II)I"), (2, u "twoToTheDoubleScaleDown"), (0, u "D"), (4, u "twoToTheDoubleScaleUp"), (9, u "E"), (3, u "PI"), (2, u "TAU"), (2, u "DEGREES_TO_RADIANS"), (0, u "RADIANS_TO_DEGREES"), (27, u "addExact")] 66

def k15m0 : Method := { name := "<init>", desc := "()V", sig := { parameters := [], returnType := none }, accessFlags := 2, code := none }
def k15c1 : Code := { maxStack := 3, maxLocals := 3, code := jdk_29_method_24_code, exceptionTable := #[], attributes := #[] }
def k15m1 : Method := { name := "addExact", desc := "(II)I", sig := { parameters := [.int, .int], returnType := some .int }, accessFlags := 9, code := some k15c1 }
def k15c2 : Code := { maxStack := 4, maxLocals := 4, code := jdk_29_method_28_code, exceptionTable := #[], attributes := #[] }
def k15m2 : Method := { name := "multiplyExact", desc := "(II)I", sig := { parameters := [.int, .int], returnType := some .int }, accessFlags := 9, code := some k15c2 }
def k15c3 : Code := { maxStack := 2, maxLocals := 2, code := jdk_29_method_65_code, exceptionTable := #[], attributes := #[] }
def k15m3 : Method := { name := "max", desc := "(II)I", sig := { parameters := [.int, .int], returnType := some .int }, accessFlags := 9, code := some k15c3 }
def k15c4 : Code := { maxStack := 2, maxLocals := 2, code := jdk_29_method_69_code, exceptionTable := #[], attributes := #[] }
def k15m4 : Method := { name := "min", desc := "(II)I", sig := { parameters := [.int, .int], returnType := some .int }, accessFlags := 9, code := some k15c4 }
/-- java/lang/Math -/
def k15 : Class := { plain "java/lang/Math" (some 0) with
  accessFlags := 49
  interfaces := #[]
  cf := some (fileOf pool15 1 #[.nestMembers #[98]] #[{ accessFlags := 2, nameIndex := 7, descriptorIndex := 8, attributes := #[] }, { accessFlags := 9, nameIndex := 393, descriptorIndex := 335, attributes := #[] }, { accessFlags := 9, nameIndex := 120, descriptorIndex := 335, attributes := #[] }, { accessFlags := 9, nameIndex := 198, descriptorIndex := 335, attributes := #[] }, { accessFlags := 9, nameIndex := 201, descriptorIndex := 335, attributes := #[] }] 49 4 #[] #[{ accessFlags := 25, nameIndex := 354, descriptorIndex := 339, attributes := #[] }, { accessFlags := 25, nameIndex := 358, descriptorIndex := 339, attributes := #[] }, { accessFlags := 25, nameIndex := 361, descriptorIndex := 339, attributes := #[] }, { accessFlags := 26, nameIndex := 364, descriptorIndex := 339, attributes := #[] }, { accessFlags := 26, nameIndex := 365, descriptorIndex := 339, attributes := #[] }, { accessFlags := 26, nameIndex := 172, descriptorIndex := 173, attributes := #[] }, { accessFlags := 26, nameIndex := 176, descriptorIndex := 173, attributes := #[] }, { accessFlags := 8, nameIndex := 344, descriptorIndex := 339, attributes := #[] }, { accessFlags := 8, nameIndex := 338, descriptorIndex := 339, attributes := #[] }, { accessFlags := 4120, nameIndex := 245, descriptorIndex := 246, attributes := #[] }])
  fields := #[{ name := "E", type := .double, accessFlags := 25, slot := 0, constantValue := 0 }, { name := "PI", type := .double, accessFlags := 25, slot := 1, constantValue := 0 }, { name := "TAU", type := .double, accessFlags := 25, slot := 2, constantValue := 0 }, { name := "DEGREES_TO_RADIANS", type := .double, accessFlags := 26, slot := 3, constantValue := 0 }, { name := "RADIANS_TO_DEGREES", type := .double, accessFlags := 26, slot := 4, constantValue := 0 }, { name := "negativeZeroFloatBits", type := .long, accessFlags := 26, slot := 5, constantValue := 0 }, { name := "negativeZeroDoubleBits", type := .long, accessFlags := 26, slot := 6, constantValue := 0 }, { name := "twoToTheDoubleScaleUp", type := .double, accessFlags := 8, slot := 7, constantValue := 0 }, { name := "twoToTheDoubleScaleDown", type := .double, accessFlags := 8, slot := 8, constantValue := 0 }, { name := "$assertionsDisabled", type := .boolean, accessFlags := 4120, slot := 9, constantValue := 0 }]
  methods := #[k15m0, k15m1, k15m2, k15m3, k15m4]
  instanceTypes := #[]
  staticTypes := #[.double, .double, .double, .double, .double, .long, .long, .double, .double, .boolean]
  resolved := Array.replicate 460 none
  statics := none }

def pool16 : Array CpInfo := pool [(2, .class_ 4), (1, u "java/lang/Object"), (0, u "<init>"), (0, u "()V"), (17, .class_ 26), (1, u "jdk/internal/util/Preconditions"), (6, u "checkIndex"), (13, u "checkFromToIndex"), (1, u "checkFromIndexSize"), (5, .class_ 56), (0, u "jdk/internal/util/Preconditions$4"), (57, .class_ 115), (0, u "jdk/internal/util/Preconditions$1"), (7, u "SIOOBE_FORMATTER"), (0, u "Ljava/util/function/BiFunction;"), (0, .class_ 126), (0, u "jdk/internal/util/Preconditions$2"), (3, u "AIOOBE_FORMATTER"), (0, .class_ 132), (0, u "jdk/internal/util/Preconditions$3"), (3, u "IOOBE_FORMATTER"), (41, u "(IILjava/util/function/BiFunction;)I"), (4, u "(IIILjava/util/function/BiFunction;)I")] 10

def k16m0 : Method := { name := "<init>", desc := "()V", sig := { parameters := [], returnType := none }, accessFlags := 1, code := none }
def k16c1 : Code := { maxStack := 3, maxLocals := 3, code := jdk_41_method_11_code, exceptionTable := #[], attributes := #[] }
def k16m1 : Method := { name := "checkIndex", desc := "(IILjava/util/function/BiFunction;)I", sig := { parameters := [.int, .int, (.object "java/util/function/BiFunction")], returnType := some .int }, accessFlags := 9, code := some k16c1 }
def k16c2 : Code := { maxStack := 4, maxLocals := 4, code := jdk_41_method_12_code, exceptionTable := #[], attributes := #[] }
def k16m2 : Method := { name := "checkFromToIndex", desc := "(IIILjava/util/function/BiFunction;)I", sig := { parameters := [.int, .int, .int, (.object "java/util/function/BiFunction")], returnType := some .int }, accessFlags := 9, code := some k16c2 }
def k16c3 : Code := { maxStack := 4, maxLocals := 4, code := jdk_41_method_13_code, exceptionTable := #[], attributes := #[] }
def k16m3 : Method := { name := "checkFromIndexSize", desc := "(IIILjava/util/function/BiFunction;)I", sig := { parameters := [.int, .int, .int, (.object "java/util/function/BiFunction")], returnType := some .int }, accessFlags := 9, code := some k16c3 }
/-- jdk/internal/util/Preconditions -/
def k16 : Class := { plain "jdk/internal/util/Preconditions" (some 0) with
  accessFlags := 33
  interfaces := #[]
  cf := some (fileOf pool16 24 #[.nestMembers #[55, 131, 125, 114]] #[{ accessFlags := 1, nameIndex := 5, descriptorIndex := 6, attributes := #[] }, { accessFlags := 9, nameIndex := 33, descriptorIndex := 178, attributes := #[] }, { accessFlags := 9, nameIndex := 47, descriptorIndex := 183, attributes := #[] }, { accessFlags := 9, nameIndex := 49, descriptorIndex := 183, attributes := #[] }] 33 2 #[] #[{ accessFlags := 25, nameIndex := 123, descriptorIndex := 124, attributes := #[] }, { accessFlags := 25, nameIndex := 130, descriptorIndex := 124, attributes := #[] }, { accessFlags := 25, nameIndex := 136, descriptorIndex := 124, attributes := #[] }])
  fields := #[{ name := "SIOOBE_FORMATTER", type := (.object "java/util/function/BiFunction"), accessFlags := 25, slot := 0, constantValue := 0 }, { name := "AIOOBE_FORMATTER", type := (.object "java/util/function/BiFunction"), accessFlags := 25, slot := 1, constantValue := 0 }, { name := "IOOBE_FORMATTER", type := (.object "java/util/function/BiFunction"), accessFlags := 25, slot := 2, constantValue := 0 }]
  methods := #[k16m0, k16m1, k16m2, k16m3]
  instanceTypes := #[]
  staticTypes := #[(.object "java/util/function/BiFunction"), (.object "java/util/function/BiFunction"), (.object "java/util/function/BiFunction")]
  resolved := Array.replicate 194 none
  statics := some 2 }

def pool17 : Array CpInfo := pool [(2, .class_ 4), (1, u "java/lang/Object"), (0, u "<init>"), (0, u "()V"), (7, .class_ 16), (1, u "java/util/Arrays"), (57, .class_ 76), (1, u "java/util/Arrays$NaturalOrder"), (32, u "()Ljava/lang/Object;"), (3, .class_ 115), (1, u "java/util/Arrays$LegacyMergeSort"), (1, u "Z"), (10, .nameAndType 129 109), (0, u "clone"), (9, u "copyOfRange"), (10, .methodref 151 152), (0, .class_ 153), (0, .nameAndType 154 155), (0, u "java/lang/System"), (0, u "arraycopy"), (0, u "(Ljava/lang/Object;ILjava/lang/Object;II)V"), (146, u "copyOf"), (1, .methodref 305 306), (0, .class_ 307), (0, .nameAndType 308 309), (0, u "java/lang/Math"), (0, u "min"), (0, u "(II)I"), (0, .methodref 311 128), (0, .class_ 312), (0, u "[B"), (26, .methodref 14 340), (0, .nameAndType 341 342), (0, u "copyOfRangeByte"), (0, u "([BII)[B"), (0, .methodref 14 344), (0, .nameAndType 345 346), (0, u "checkLength"), (0, u "(II)V"), (28, .class_ 376), (0, u "java/util/Arrays$ArrayList"), (68, u "$assertionsDisabled"), (269, u "MIN_ARRAY_SORT_GRAN"), (0, u "I"), (2, u "INSERTIONSORT_THRESHOLD"), (149, u "([BI)[B"), (105, .class_ 976), (0, u "java/util/Arrays$ArrayItr")] 52

def k17m0 : Method := { name := "<init>", desc := "()V", sig := { parameters := [], returnType := none }, accessFlags := 2, code := none }
def k17c1 : Code := { maxStack := 6, maxLocals := 3, code := jdk_65_method_121_code, exceptionTable := #[], attributes := #[] }
def k17m1 : Method := { name := "copyOf", desc := "([BI)[B", sig := { parameters := [(.array .byte), .int], returnType := some (.array .byte) }, accessFlags := 9, code := some k17c1 }
def k17c2 : Code := { maxStack := 4, maxLocals := 2, code := jdk_65_method_131_code, exceptionTable := #[], attributes := #[] }
def k17m2 : Method := { name := "checkLength", desc := "(II)V", sig := { parameters := [.int, .int], returnType := none }, accessFlags := 10, code := some k17c2 }
def k17c3 : Code := { maxStack := 3, maxLocals := 3, code := jdk_65_method_132_code, exceptionTable := #[], attributes := #[] }
def k17m3 : Method := { name := "copyOfRange", desc := "([BII)[B", sig := { parameters := [(.array .byte), .int, .int], returnType := some (.array .byte) }, accessFlags := 9, code := some k17c3 }
def k17c4 : Code := { maxStack := 6, maxLocals := 5, code := jdk_65_method_133_code, exceptionTable := #[], attributes := #[] }
def k17m4 : Method := { name := "copyOfRangeByte", desc := "([BII)[B", sig := { parameters := [(.array .byte), .int, .int], returnType := some (.array .byte) }, accessFlags := 10, code := some k17c4 }
/-- java/util/Arrays -/
def k17 : Class := { plain "java/util/Arrays" (some 0) with
  accessFlags := 49
  interfaces := #[]
  cf := some (fileOf pool17 14 #[.nestMembers #[975, 375, 113, 74]] #[{ accessFlags := 2, nameIndex := 5, descriptorIndex := 6, attributes := #[] }, { accessFlags := 9, nameIndex := 302, descriptorIndex := 869, attributes := #[] }, { accessFlags := 10, nameIndex := 345, descriptorIndex := 346, attributes := #[] }, { accessFlags := 9, nameIndex := 139, descriptorIndex := 342, attributes := #[] }, { accessFlags := 10, nameIndex := 341, descriptorIndex := 342, attributes := #[] }] 49 2 #[] #[{ accessFlags := 26, nameIndex := 715, descriptorIndex := 716, attributes := #[] }, { accessFlags := 26, nameIndex := 719, descriptorIndex := 716, attributes := #[] }, { accessFlags := 4120, nameIndex := 445, descriptorIndex := 117, attributes := #[] }])
  fields := #[{ name := "MIN_ARRAY_SORT_GRAN", type := .int, accessFlags := 26, slot := 0, constantValue := 0 }, { name := "INSERTIONSORT_THRESHOLD", type := .int, accessFlags := 26, slot := 1, constantValue := 0 }, { name := "$assertionsDisabled", type := .boolean, accessFlags := 4120, slot := 2, constantValue := 0 }]
  methods := #[k17m0, k17m1, k17m2, k17m3, k17m4]
  instanceTypes := #[]
  staticTypes := #[.int, .int, .boolean]
  resolved := Array.replicate 1029 none
  statics := none }

def pool18 : Array CpInfo := pool [(1, .class_ 2), (0, u "java/lang/Cloneable"), (0, .class_ 4), (0, u "java/lang/Object")] 2

/-- java/lang/Cloneable -/
def k18 : Class := { plain "java/lang/Cloneable" (some 0) with
  accessFlags := 1537
  interfaces := #[]
  cf := some (fileOf pool18 1 #[] #[] 1537 3 #[] #[])
  fields := #[]
  methods := #[]
  instanceTypes := #[]
  staticTypes := #[]
  resolved := Array.replicate 7 none
  statics := none }

def pool19 : Array CpInfo := pool [(9, u "<init>"), (6, .class_ 18), (1, u "java/lang/Object"), (0, u "()V"), (1, .class_ 23), (1, u "jdk/internal/util/ArraysSupport"), (0, u "LOG2_ARRAY_LONG_INDEX_SCALE"), (0, u "I"), (2, u "U"), (0, u "Ljdk/internal/misc/Unsafe;"), (8, u "BIG_ENDIAN"), (0, u "Z"), (8, u "LOG2_BYTE_BIT_SIZE"), (4, u "LOG2_ARRAY_INT_INDEX_SCALE"), (54, u "JLA"), (0, u "Ljdk/internal/access/JavaLangAccess;"), (11, u "LOG2_ARRAY_BOOLEAN_INDEX_SCALE"), (9, u "LOG2_ARRAY_BYTE_INDEX_SCALE"), (5, u "LOG2_ARRAY_CHAR_INDEX_SCALE"), (5, u "LOG2_ARRAY_SHORT_INDEX_SCALE"), (5, u "mismatch"), (12, u "LOG2_ARRAY_FLOAT_INDEX_SCALE"), (24, u "LOG2_ARRAY_DOUBLE_INDEX_SCALE"), (6, .methodref 195 196), (0, .class_ 197), (0, .nameAndType 198 199), (0, u "java/lang/Math"), (0, u "max"), (0, u "(II)I"), (0, .integer 2147483639), (76, u "T_BOOLEAN"), (2, u "T_CHAR"), (1, u "T_FLOAT"), (1, u "T_DOUBLE"), (1, u "T_BYTE"), (1, u "T_SHORT"), (1, u "T_INT"), (1, u "T_LONG"), (1, u "SOFT_MAX_ARRAY_LENGTH"), (42, u "([BI[BII)I"), (13, u "newLength"), (0, u "(III)I")] 25

def k19m0 : Method := { name := "<init>", desc := "()V", sig := { parameters := [], returnType := none }, accessFlags := 2, code := none }
def k19c1 : Code := { maxStack := 8, maxLocals := 8, code := jdk_48_method_14_code, exceptionTable := #[], attributes := #[] }
def k19m1 : Method := { name := "mismatch", desc := "([BI[BII)I", sig := { parameters := [(.array .byte), .int, (.array .byte), .int, .int], returnType := some .int }, accessFlags := 9, code := some k19c1 }
def k19c2 : Code := { maxStack := 3, maxLocals := 4, code := jdk_48_method_27_code, exceptionTable := #[], attributes := #[] }
def k19m2 : Method := { name := "newLength", desc := "(III)I", sig := { parameters := [.int, .int, .int], returnType := some .int }, accessFlags := 9, code := some k19c2 }
/-- jdk/internal/util/ArraysSupport -/
def k19 : Class := { plain "jdk/internal/util/ArraysSupport" (some 0) with
  accessFlags := 33
  interfaces := #[]
  cf := some (fileOf pool19 21 #[] #[{ accessFlags := 2, nameIndex := 9, descriptorIndex := 19, attributes := #[] }, { accessFlags := 9, nameIndex := 149, descriptorIndex := 337, attributes := #[] }, { accessFlags := 9, nameIndex := 351, descriptorIndex := 352, attributes := #[] }] 33 16 #[] #[{ accessFlags := 24, nameIndex := 28, descriptorIndex := 29, attributes := #[] }, { accessFlags := 26, nameIndex := 38, descriptorIndex := 39, attributes := #[] }, { accessFlags := 25, nameIndex := 121, descriptorIndex := 25, attributes := #[] }, { accessFlags := 25, nameIndex := 131, descriptorIndex := 25, attributes := #[] }, { accessFlags := 25, nameIndex := 137, descriptorIndex := 25, attributes := #[] }, { accessFlags := 25, nameIndex := 143, descriptorIndex := 25, attributes := #[] }, { accessFlags := 25, nameIndex := 53, descriptorIndex := 25, attributes := #[] }, { accessFlags := 25, nameIndex := 24, descriptorIndex := 25, attributes := #[] }, { accessFlags := 25, nameIndex := 162, descriptorIndex := 25, attributes := #[] }, { accessFlags := 25, nameIndex := 187, descriptorIndex := 25, attributes := #[] }, { accessFlags := 26, nameIndex := 48, descriptorIndex := 25, attributes := #[] }, { accessFlags := 25, nameIndex := 277, descriptorIndex := 25, attributes := #[] }, { accessFlags := 25, nameIndex := 280, descriptorIndex := 25, attributes := #[] }, { accessFlags := 25, nameIndex := 282, descriptorIndex := 25, attributes := #[] }, { accessFlags := 25, nameIndex := 284, descriptorIndex := 25, attributes := #[] }, { accessFlags := 25, nameIndex := 286, descriptorIndex := 25, attributes := #[] }, { accessFlags := 25, nameIndex := 288, descriptorIndex := 25, attributes := #[] }, { accessFlags := 25, nameIndex := 290, descriptorIndex := 25, attributes := #[] }, { accessFlags := 25, nameIndex := 292, descriptorIndex := 25, attributes := #[] }, { accessFlags := 26, nameIndex := 108, descriptorIndex := 109, attributes := #[] }, { accessFlags := 25, nameIndex := 294, descriptorIndex := 25, attributes := #[] }])
  fields := #[{ name := "U", type := (.object "jdk/internal/misc/Unsafe"), accessFlags := 24, slot := 0, constantValue := 0 }, { name := "BIG_ENDIAN", type := .boolean, accessFlags := 26, slot := 1, constantValue := 0 }, { name := "LOG2_ARRAY_BOOLEAN_INDEX_SCALE", type := .int, accessFlags := 25, slot := 2, constantValue := 0 }, { name := "LOG2_ARRAY_BYTE_INDEX_SCALE", type := .int, accessFlags := 25, slot := 3, constantValue := 0 }, { name := "LOG2_ARRAY_CHAR_INDEX_SCALE", type := .int, accessFlags := 25, slot := 4, constantValue := 0 }, { name := "LOG2_ARRAY_SHORT_INDEX_SCALE", type := .int, accessFlags := 25, slot := 5, constantValue := 0 }, { name := "LOG2_ARRAY_INT_INDEX_SCALE", type := .int, accessFlags := 25, slot := 6, constantValue := 0 }, { name := "LOG2_ARRAY_LONG_INDEX_SCALE", type := .int, accessFlags := 25, slot := 7, constantValue := 0 }, { name := "LOG2_ARRAY_FLOAT_INDEX_SCALE", type := .int, accessFlags := 25, slot := 8, constantValue := 0 }, { name := "LOG2_ARRAY_DOUBLE_INDEX_SCALE", type := .int, accessFlags := 25, slot := 9, constantValue := 0 }, { name := "LOG2_BYTE_BIT_SIZE", type := .int, accessFlags := 26, slot := 10, constantValue := 0 }, { name := "T_BOOLEAN", type := .int, accessFlags := 25, slot := 11, constantValue := 0 }, { name := "T_CHAR", type := .int, accessFlags := 25, slot := 12, constantValue := 0 }, { name := "T_FLOAT", type := .int, accessFlags := 25, slot := 13, constantValue := 0 }, { name := "T_DOUBLE", type := .int, accessFlags := 25, slot := 14, constantValue := 0 }, { name := "T_BYTE", type := .int, accessFlags := 25, slot := 15, constantValue := 0 }, { name := "T_SHORT", type := .int, accessFlags := 25, slot := 16, constantValue := 0 }, { name := "T_INT", type := .int, accessFlags := 25, slot := 17, constantValue := 0 }, { name := "T_LONG", type := .int, accessFlags := 25, slot := 18, constantValue := 0 }, { name := "JLA", type := (.object "jdk/internal/access/JavaLangAccess"), accessFlags := 26, slot := 19, constantValue := 0 }, { name := "SOFT_MAX_ARRAY_LENGTH", type := .int, accessFlags := 25, slot := 20, constantValue := 0 }]
  methods := #[k19m0, k19m1, k19m2]
  instanceTypes := #[]
  staticTypes := #[(.object "jdk/internal/misc/Unsafe"), .boolean, .int, .int, .int, .int, .int, .int, .int, .int, .int, .int, .int, .int, .int, .int, .int, .int, .int, (.object "jdk/internal/access/JavaLangAccess"), .int]
  resolved := Array.replicate 378 none
  statics := none }

def pool20 : Array CpInfo := pool [(1, .class_ 2), (0, u "java/lang/String"), (1, .class_ 6), (1, u "java/lang/Object"), (0, u "<init>"), (0, u "()V"), (0, .methodref 1 10), (0, .nameAndType 11 12), (0, u "checkIndex"), (0, u "(II)V"), (1, .class_ 16), (1, u "java/lang/StringLatin1"), (36, u "([BI)C"), (58, .methodref 1 113), (0, .nameAndType 7 114), (0, u "([BB)V"), (6, u "$assertionsDisabled"), (0, u "Z"), (8, .class_ 133), (1, u "java/util/Arrays"), (62, u "newString"), (0, u "([BII)Ljava/lang/String;"), (23, .class_ 223), (1, u "java/lang/StringLatin1$LinesSpliterator"), (8, .methodref 131 233), (0, .nameAndType 234 235), (0, u "copyOfRange"), (0, u "([BII)[B"), (16, u "charAt"), (28, u "equals"), (0, u "([B[B)Z"), (107, .class_ 391), (0, u "java/lang/StringLatin1$CharsSpliterator")] 3

def k20m0 : Method := { name := "<init>", desc := "()V", sig := { parameters := [], returnType := none }, accessFlags := 0, code := none }
def k20c1 : Code := { maxStack := 2, maxLocals := 2, code := jdk_43_method_2_code, exceptionTable := #[], attributes := #[] }
def k20m1 : Method := { name := "charAt", desc := "([BI)C", sig := { parameters := [(.array .byte), .int], returnType := some .char }, accessFlags := 9, code := some k20c1 }
def k20c2 : Code := { maxStack := 3, maxLocals := 3, code := jdk_43_method_13_code, exceptionTable := #[], attributes := #[] }
def k20m2 : Method := { name := "equals", desc := "([B[B)Z", sig := { parameters := [(.array .byte), (.array .byte)], returnType := some .boolean }, accessFlags := 9, code := some k20c2 }
def k20c3 : Code := { maxStack := 6, maxLocals := 3, code := jdk_43_method_47_code, exceptionTable := #[], attributes := #[] }
def k20m3 : Method := { name := "newString", desc := "([BII)Ljava/lang/String;", sig := { parameters := [(.array .byte), .int, .int], returnType := some (.object "java/lang/String") }, accessFlags := 9, code := some k20c3 }
/-- java/lang/StringLatin1 -/
def k20 : Class := { plain "java/lang/StringLatin1" (some 0) with
  accessFlags := 48
  interfaces := #[]
  cf := some (fileOf pool20 14 #[.nestMembers #[390, 221]] #[{ accessFlags := 0, nameIndex := 7, descriptorIndex := 8, attributes := #[] }, { accessFlags := 9, nameIndex := 252, descriptorIndex := 53, attributes := #[] }, { accessFlags := 9, nameIndex := 281, descriptorIndex := 282, attributes := #[] }, { accessFlags := 9, nameIndex := 196, descriptorIndex := 197, attributes := #[] }] 48 4 #[] #[{ accessFlags := 4120, nameIndex := 121, descriptorIndex := 122, attributes := #[] }])
  fields := #[{ name := "$assertionsDisabled", type := .boolean, accessFlags := 4120, slot := 0, constantValue := 0 }]
  methods := #[k20m0, k20m1, k20m2, k20m3]
  instanceTypes := #[]
  staticTypes := #[.boolean]
  resolved := Array.replicate 395 none
  statics := none }

def pool21 : Array CpInfo := pool [(2, .class_ 4), (1, u "java/lang/Object"), (0, u "<init>"), (0, u "()V"), (35, .class_ 44), (1, u "java/util/Objects"), (0, u "requireNonNull"), (48, u "(Ljava/lang/Object;Ljava/lang/String;)Ljava/lang/Object;")] 89

def k21m0 : Method := { name := "<init>", desc := "()V", sig := { parameters := [], returnType := none }, accessFlags := 2, code := none }
def k21c1 : Code := { maxStack := 3, maxLocals := 2, code := jdk_31_method_11_code, exceptionTable := #[], attributes := #[] }
def k21m1 : Method := { name := "requireNonNull", desc := "(Ljava/lang/Object;Ljava/lang/String;)Ljava/lang/Object;", sig := { parameters := [(.object "java/lang/Object"), (.object "java/lang/String")], returnType := some (.object "java/lang/Object") }, accessFlags := 9, code := some k21c1 }
/-- java/util/Objects -/
def k21 : Class := { plain "java/util/Objects" (some 0) with
  accessFlags := 49
  interfaces := #[]
  cf := some (fileOf pool21 42 #[] #[{ accessFlags := 2, nameIndex := 5, descriptorIndex := 6, attributes := #[] }, { accessFlags := 9, nameIndex := 45, descriptorIndex := 94, attributes := #[] }] 49 2 #[] #[])
  fields := #[]
  methods := #[k21m0, k21m1]
  instanceTypes := #[]
  staticTypes := #[]
  resolved := Array.replicate 184 none
  statics := none }

def pool22 : Array CpInfo := pool [(2, .class_ 4), (1, u "java/lang/Object"), (2, .fieldref 8 9), (0, .class_ 10), (0, .nameAndType 11 12), (0, u "java/util/Base64$Decoder"), (0, u "isURL"), (0, u "Z"), (0, .fieldref 8 14), (0, .nameAndType 15 12), (0, u "isMIME"), (0, .methodref 8 17), (0, .nameAndType 18 19), (0, u "decodedOutLength"), (0, u "([BII)I"), (0, .methodref 8 21), (0, .nameAndType 22 23), (0, u "decode0"), (0, u "([BII[B)I"), (6, .fieldref 31 32), (0, .class_ 33), (0, .nameAndType 34 35), (0, u "sun/nio/cs/ISO_8859_1"), (0, u "INSTANCE"), (0, u "Lsun/nio/cs/ISO_8859_1;"), (0, .methodref 37 38), (0, .class_ 39), (0, .nameAndType 40 41), (0, u "java/lang/String"), (0, u "getBytes"), (0, u "(Ljava/nio/charset/Charset;)[B"), (0, .methodref 8 43), (0, .nameAndType 44 45), (0, u "decode"), (0, u "([B)[B"), (51, u "fromBase64URL"), (0, u "[I"), (0, .fieldref 8 100), (0, .nameAndType 101 98), (0, u "fromBase64"), (5, .long 3), (1, .long 4), (1, .methodref 8 112), (0, .nameAndType 113 114), (0, u "decodeBlock"), (0, u "([BII[BIZZ)I"), (45, u "RFC4648"), (0, u "Ljava/util/Base64$Decoder;"), (2, u "RFC4648_URLSAFE"), (2, u "RFC2045"), (11, u "(Ljava/lang/String;)[B"), (40, .class_ 221), (0, u "java/util/Base64")] 4

def k22c0 : Code := { maxStack := 5, maxLocals := 4, code := jdk_2450_method_2_code, exceptionTable := #[], attributes := #[] }
def k22m0 : Method := { name := "decode", desc := "([B)[B", sig := { parameters := [(.array .byte)], returnType := some (.array .byte) }, accessFlags := 1, code := some k22c0 }
def k22c1 : Code := { maxStack := 3, maxLocals := 2, code := jdk_2450_method_3_code, exceptionTable := #[], attributes := #[] }
def k22m1 : Method := { name := "decode", desc := "(Ljava/lang/String;)[B", sig := { parameters := [(.object "java/lang/String")], returnType := some (.array .byte) }, accessFlags := 1, code := some k22c1 }
def k22c2 : Code := { maxStack := 5, maxLocals := 9, code := jdk_2450_method_7_code, exceptionTable := #[], attributes := #[] }
def k22m2 : Method := { name := "decodedOutLength", desc := "([BII)I", sig := { parameters := [(.array .byte), .int, .int], returnType := some .int }, accessFlags := 2, code := some k22c2 }
def k22c3 : Code := { maxStack := 4, maxLocals := 16, code := jdk_2450_method_8_code, exceptionTable := #[], attributes := #[] }
def k22m3 : Method := { name := "decodeBlock", desc := "([BII[BIZZ)I", sig := { parameters := [(.array .byte), .int, .int, (.array .byte), .int, .boolean, .boolean], returnType := some .int }, accessFlags := 2, code := some k22c3 }
def k22c4 : Code := { maxStack := 8, maxLocals := 11, code := jdk_2450_method_9_code, exceptionTable := #[], attributes := #[] }
def k22m4 : Method := { name := "decode0", desc := "([BII[B)I", sig := { parameters := [(.array .byte), .int, .int, (.array .byte)], returnType := some .int }, accessFlags := 2, code := some k22c4 }
/-- java/util/Base64$Decoder -/
def k22 : Class := { plain "java/util/Base64$Decoder" (some 0) with
  accessFlags := 33
  interfaces := #[]
  cf := some (fileOf pool22 8 #[.nestHost 220] #[{ accessFlags := 1, nameIndex := 44, descriptorIndex := 45, attributes := #[] }, { accessFlags := 1, nameIndex := 44, descriptorIndex := 179, attributes := #[] }, { accessFlags := 2, nameIndex := 18, descriptorIndex := 19, attributes := #[] }, { accessFlags := 2, nameIndex := 113, descriptorIndex := 114, attributes := #[] }, { accessFlags := 2, nameIndex := 22, descriptorIndex := 23, attributes := #[] }] 33 2 #[] #[{ accessFlags := 18, nameIndex := 11, descriptorIndex := 12, attributes := #[] }, { accessFlags := 18, nameIndex := 15, descriptorIndex := 12, attributes := #[] }, { accessFlags := 26, nameIndex := 101, descriptorIndex := 98, attributes := #[] }, { accessFlags := 26, nameIndex := 97, descriptorIndex := 98, attributes := #[] }, { accessFlags := 24, nameIndex := 160, descriptorIndex := 161, attributes := #[] }, { accessFlags := 24, nameIndex := 164, descriptorIndex := 161, attributes := #[] }, { accessFlags := 24, nameIndex := 167, descriptorIndex := 161, attributes := #[] }])
  fields := #[{ name := "isURL", type := .boolean, accessFlags := 18, slot := 0, constantValue := 0 }, { name := "isMIME", type := .boolean, accessFlags := 18, slot := 1, constantValue := 0 }, { name := "fromBase64", type := (.array .int), accessFlags := 26, slot := 0, constantValue := 0 }, { name := "fromBase64URL", type := (.array .int), accessFlags := 26, slot := 1, constantValue := 0 }, { name := "RFC4648", type := (.object "java/util/Base64$Decoder"), accessFlags := 24, slot := 2, constantValue := 0 }, { name := "RFC4648_URLSAFE", type := (.object "java/util/Base64$Decoder"), accessFlags := 24, slot := 3, constantValue := 0 }, { name := "RFC2045", type := (.object "java/util/Base64$Decoder"), accessFlags := 24, slot := 4, constantValue := 0 }]
  methods := #[k22m0, k22m1, k22m2, k22m3, k22m4]
  instanceTypes := #[.boolean, .boolean]
  staticTypes := #[(.array .int), (.array .int), (.object "java/util/Base64$Decoder"), (.object "java/util/Base64$Decoder"), (.object "java/util/Base64$Decoder")]
  resolved := Array.replicate 226 none
  statics := some 3 }

def pool23 : Array CpInfo := pool [(18, .class_ 20), (1, u "java/nio/charset/Charset"), (0, u "cache1"), (0, u "[Ljava/lang/Object;"), (2, u "cache2"), (0, .class_ 27), (0, u "java/lang/Object"), (0, .class_ 29), (0, u "java/nio/charset/Charset$1"), (4, .class_ 36), (1, u "java/nio/charset/Charset$ThreadTrackHolder"), (21, .class_ 59), (0, u "java/nio/charset/Charset$2"), (11, .class_ 73), (1, u "java/nio/charset/Charset$ExtendedProviderHolder"), (22, u "standardProvider"), (0, u "Ljava/nio/charset/spi/CharsetProvider;"), (29, u "name"), (7, .class_ 136), (0, u "java/nio/charset/Charset$3"), (5, u "defaultCharset"), (0, u "Ljava/nio/charset/Charset;"), (14, u "zeroAliases"), (0, u "[Ljava/lang/String;"), (29, u "Ljava/lang/String;"), (2, u "aliases"), (2, u "aliasSet"), (0, u "Ljava/util/Set;"), (82, .class_ 280), (0, u "java/lang/Comparable"), (84, .class_ 366), (0, u "java/nio/charset/Charset$ExtendedProviderHolder$1")] 3

/-- java/nio/charset/Charset -/
def k23 : Class := { plain "java/nio/charset/Charset" (some 0) with
  accessFlags := 1057
  interfaces := #[7]
  cf := some (fileOf pool23 18 #[.nestMembers #[71, 365, 34, 135, 58, 28]] #[] 1057 26 #[279] #[{ accessFlags := 26, nameIndex := 96, descriptorIndex := 97, attributes := #[] }, { accessFlags := 26, nameIndex := 158, descriptorIndex := 159, attributes := #[] }, { accessFlags := 74, nameIndex := 21, descriptorIndex := 22, attributes := #[] }, { accessFlags := 74, nameIndex := 25, descriptorIndex := 22, attributes := #[] }, { accessFlags := 10, nameIndex := 142, descriptorIndex := 143, attributes := #[] }, { accessFlags := 18, nameIndex := 127, descriptorIndex := 189, attributes := #[] }, { accessFlags := 18, nameIndex := 192, descriptorIndex := 159, attributes := #[] }, { accessFlags := 2, nameIndex := 195, descriptorIndex := 196, attributes := #[] }])
  fields := #[{ name := "standardProvider", type := (.object "java/nio/charset/spi/CharsetProvider"), accessFlags := 26, slot := 0, constantValue := 0 }, { name := "zeroAliases", type := (.array (.object "java/lang/String")), accessFlags := 26, slot := 1, constantValue := 0 }, { name := "cache1", type := (.array (.object "java/lang/Object")), accessFlags := 74, slot := 2, constantValue := 0 }, { name := "cache2", type := (.array (.object "java/lang/Object")), accessFlags := 74, slot := 3, constantValue := 0 }, { name := "defaultCharset", type := (.object "java/nio/charset/Charset"), accessFlags := 10, slot := 4, constantValue := 0 }, { name := "name", type := (.object "java/lang/String"), accessFlags := 18, slot := 0, constantValue := 0 }, { name := "aliases", type := (.array (.object "java/lang/String")), accessFlags := 18, slot := 1, constantValue := 0 }, { name := "aliasSet", type := (.object "java/util/Set"), accessFlags := 2, slot := 2, constantValue := 0 }]
  methods := #[]
  instanceTypes := #[(.object "java/lang/String"), (.array (.object "java/lang/String")), (.object "java/util/Set")]
  staticTypes := #[(.object "java/nio/charset/spi/CharsetProvider"), (.array (.object "java/lang/String")), (.array (.object "java/lang/Object")), (.array (.object "java/lang/Object")), (.object "java/nio/charset/Charset")]
  resolved := Array.replicate 370 none
  statics := none }

def pool24 : Array CpInfo := pool [(1, .class_ 2), (0, u "sun/nio/cs/HistoricallyNamedCharset"), (0, .class_ 4), (0, u "java/lang/Object")] 4

/-- sun/nio/cs/HistoricallyNamedCharset -/
def k24 : Class := { plain "sun/nio/cs/HistoricallyNamedCharset" (some 0) with
  accessFlags := 1537
  interfaces := #[]
  cf := some (fileOf pool24 1 #[] #[] 1537 3 #[] #[])
  fields := #[]
  methods := #[]
  instanceTypes := #[]
  staticTypes := #[]
  resolved := Array.replicate 9 none
  statics := none }

def pool25 : Array CpInfo := pool [(10, .class_ 12), (1, u "java/nio/charset/Charset"), (0, u "<init>"), (5, .class_ 20), (0, u "sun/nio/cs/ISO_8859_1"), (0, .class_ 22), (0, u "sun/nio/cs/ISO_8859_1$Decoder"), (3, .class_ 27), (0, u "sun/nio/cs/ISO_8859_1$Encoder"), (3, u "()V"), (2, u "INSTANCE"), (0, u "Lsun/nio/cs/ISO_8859_1;"), (0, .class_ 37), (0, u "sun/nio/cs/HistoricallyNamedCharset")] 22

def k25m0 : Method := { name := "<init>", desc := "()V", sig := { parameters := [], returnType := none }, accessFlags := 1, code := none }
/-- sun/nio/cs/ISO_8859_1 -/
def k25 : Class := { plain "sun/nio/cs/ISO_8859_1" (some 23) with
  accessFlags := 33
  interfaces := #[24]
  cf := some (fileOf pool25 19 #[.nestMembers #[26, 21]] #[{ accessFlags := 1, nameIndex := 13, descriptorIndex := 31, attributes := #[] }] 33 10 #[36] #[{ accessFlags := 25, nameIndex := 34, descriptorIndex := 35, attributes := #[] }])
  fields := #[{ name := "INSTANCE", type := (.object "sun/nio/cs/ISO_8859_1"), accessFlags := 25, slot := 0, constantValue := 0 }]
  methods := #[k25m0]
  instanceTypes := #[(.object "java/lang/String"), (.array (.object "java/lang/String")), (.object "java/util/Set")]
  staticTypes := #[(.object "sun/nio/cs/ISO_8859_1")]
  resolved := Array.replicate 60 none
  statics := some 4 }

def pool26 : Array CpInfo := pool [(2, .class_ 4), (1, u "java/nio/charset/Charset"), (130, .class_ 136), (0, u "sun/nio/cs/Unicode"), (0, .class_ 138), (0, u "sun/nio/cs/HistoricallyNamedCharset")] 15

/-- sun/nio/cs/Unicode -/
def k26 : Class := { plain "sun/nio/cs/Unicode" (some 23) with
  accessFlags := 1056
  interfaces := #[24]
  cf := some (fileOf pool26 135 #[] #[] 1056 2 #[137] #[])
  fields := #[]
  methods := #[]
  instanceTypes := #[(.object "java/lang/String"), (.array (.object "java/lang/String")), (.object "java/util/Set")]
  staticTypes := #[]
  resolved := Array.replicate 154 none
  statics := none }

def pool27 : Array CpInfo := pool [(10, .class_ 12), (1, u "sun/nio/cs/Unicode"), (0, u "<init>"), (3, .class_ 18), (0, u "sun/nio/cs/UTF_8$Decoder"), (3, .class_ 23), (0, u "sun/nio/cs/UTF_8$Encoder"), (15, .class_ 40), (0, u "sun/nio/cs/UTF_8"), (2, u "()V"), (2, u "INSTANCE"), (0, u "Lsun/nio/cs/UTF_8;"), (8, u "JLA"), (0, u "Ljdk/internal/access/JavaLangAccess;")] 26

def k27m0 : Method := { name := "<init>", desc := "()V", sig := { parameters := [], returnType := none }, accessFlags := 1, code := none }
/-- sun/nio/cs/UTF_8 -/
def k27 : Class := { plain "sun/nio/cs/UTF_8" (some 26) with
  accessFlags := 49
  interfaces := #[]
  cf := some (fileOf pool27 39 #[.nestMembers #[22, 17]] #[{ accessFlags := 1, nameIndex := 13, descriptorIndex := 43, attributes := #[] }] 49 10 #[] #[{ accessFlags := 25, nameIndex := 46, descriptorIndex := 47, attributes := #[] }, { accessFlags := 26, nameIndex := 56, descriptorIndex := 57, attributes := #[] }])
  fields := #[{ name := "INSTANCE", type := (.object "sun/nio/cs/UTF_8"), accessFlags := 25, slot := 0, constantValue := 0 }, { name := "JLA", type := (.object "jdk/internal/access/JavaLangAccess"), accessFlags := 26, slot := 1, constantValue := 0 }]
  methods := #[k27m0]
  instanceTypes := #[(.object "java/lang/String"), (.array (.object "java/lang/String")), (.object "java/util/Set")]
  staticTypes := #[(.object "sun/nio/cs/UTF_8"), (.object "jdk/internal/access/JavaLangAccess")]
  resolved := Array.replicate 84 none
  statics := some 5 }

/-- the primitive byte -/
def k28 : Class := { plain "byte" none with kind := .primitive 'B', accessFlags := 0x411 }
/-- [B -/
def k29 : Class := { plain "[B" (some 0) with kind := .array 28 .byte, interfaces := #[18, 6], accessFlags := 1041 }

/-- the primitive char -/
def k30 : Class := { plain "char" none with kind := .primitive 'C', accessFlags := 0x411 }
/-- [C -/
def k31 : Class := { plain "[C" (some 0) with kind := .array 30 .char, interfaces := #[18, 6], accessFlags := 1041 }

/-- the primitive int -/
def k32 : Class := { plain "int" none with kind := .primitive 'I', accessFlags := 0x411 }
/-- [I -/
def k33 : Class := { plain "[I" (some 0) with kind := .array 32 .int, interfaces := #[18, 6], accessFlags := 1041 }

def heap : Heap := #[{ cls := 11, slots := #[.long 0, .int 1, .null, .int 0, .null, .int 0, .int 0], vm := .statics 11 },
  { cls := 14, slots := #[.ref 7, .null, .int 0, .null, .ref 6, .null, .null], vm := .statics 14 },
  { cls := 16, slots := #[.null, .null, .null], vm := .statics 16 },
  { cls := 22, slots := #[.ref 11, .null, .ref 8, .null, .null], vm := .statics 22 },
  { cls := 25, slots := #[.ref 9], vm := .statics 25 },
  { cls := 27, slots := #[.ref 10, .null], vm := .statics 27 },
  { cls := 14, slots := #[.null, .int (-1), .int 0, .int 1], vm := .none },
  { cls := 31, slots := #[.int 65, .int 66, .int 67, .int 68, .int 69, .int 70, .int 71, .int 72, .int 73, .int 74, .int 75, .int 76, .int 77, .int 78, .int 79, .int 80, .int 81, .int 82, .int 83, .int 84, .int 85, .int 86, .int 87, .int 88, .int 89, .int 90, .int 97, .int 98, .int 99, .int 100, .int 101, .int 102, .int 103, .int 104, .int 105, .int 106, .int 107, .int 108, .int 109, .int 110, .int 111, .int 112, .int 113, .int 114, .int 115, .int 116, .int 117, .int 118, .int 119, .int 120, .int 121, .int 122, .int 48, .int 49, .int 50, .int 51, .int 52, .int 53, .int 54, .int 55, .int 56, .int 57, .int 43, .int 47], vm := .none },
  { cls := 22, slots := #[.int 0, .int 0], vm := .none },
  { cls := 25, slots := #[.null, .null, .null], vm := .none },
  { cls := 27, slots := #[.null, .null, .null], vm := .none },
  { cls := 33, slots := #[.int (-1), .int (-1), .int (-1), .int (-1), .int (-1), .int (-1), .int (-1), .int (-1), .int (-1), .int (-1), .int (-1), .int (-1), .int (-1), .int (-1), .int (-1), .int (-1), .int (-1), .int (-1), .int (-1), .int (-1), .int (-1), .int (-1), .int (-1), .int (-1), .int (-1), .int (-1), .int (-1), .int (-1), .int (-1), .int (-1), .int (-1), .int (-1), .int (-1), .int (-1), .int (-1), .int (-1), .int (-1), .int (-1), .int (-1), .int (-1), .int (-1), .int (-1), .int (-1), .int 62, .int (-1), .int (-1), .int (-1), .int 63, .int 52, .int 53, .int 54, .int 55, .int 56, .int 57, .int 58, .int 59, .int 60, .int 61, .int (-1), .int (-1), .int (-1), .int (-2), .int (-1), .int (-1), .int (-1), .int 0, .int 1, .int 2, .int 3, .int 4, .int 5, .int 6, .int 7, .int 8, .int 9, .int 10, .int 11, .int 12, .int 13, .int 14, .int 15, .int 16, .int 17, .int 18, .int 19, .int 20, .int 21, .int 22, .int 23, .int 24, .int 25, .int (-1), .int (-1), .int (-1), .int (-1), .int (-1), .int (-1), .int 26, .int 27, .int 28, .int 29, .int 30, .int 31, .int 32, .int 33, .int 34, .int 35, .int 36, .int 37, .int 38, .int 39, .int 40, .int 41, .int 42, .int 43, .int 44, .int 45, .int 46, .int 47, .int 48, .int 49, .int 50, .int 51, .int (-1), .int (-1), .int (-1), .int (-1), .int (-1), .int (-1), .int (-1), .int (-1), .int (-1), .int (-1), .int (-1), .int (-1), .int (-1), .int (-1), .int (-1), .int (-1), .int (-1), .int (-1), .int (-1), .int (-1), .int (-1), .int (-1), .int (-1), .int (-1), .int (-1), .int (-1), .int (-1), .int (-1), .int (-1), .int (-1), .int (-1), .int (-1), .int (-1), .int (-1), .int (-1), .int (-1), .int (-1), .int (-1), .int (-1), .int (-1), .int (-1), .int (-1), .int (-1), .int (-1), .int (-1), .int (-1), .int (-1), .int (-1), .int (-1), .int (-1), .int (-1), .int (-1), .int (-1), .int (-1), .int (-1), .int (-1), .int (-1), .int (-1), .int (-1), .int (-1), .int (-1), .int (-1), .int (-1), .int (-1), .int (-1), .int (-1), .int (-1), .int (-1), .int (-1), .int (-1), .int (-1), .int (-1), .int (-1), .int (-1), .int (-1), .int (-1), .int (-1), .int (-1), .int (-1), .int (-1), .int (-1), .int (-1), .int (-1), .int (-1), .int (-1), .int (-1), .int (-1), .int (-1), .int (-1), .int (-1), .int (-1), .int (-1), .int (-1), .int (-1), .int (-1), .int (-1), .int (-1), .int (-1), .int (-1), .int (-1), .int (-1), .int (-1), .int (-1), .int (-1), .int (-1), .int (-1), .int (-1), .int (-1), .int (-1), .int (-1), .int (-1), .int (-1), .int (-1), .int (-1), .int (-1), .int (-1), .int (-1), .int (-1), .int (-1), .int (-1), .int (-1), .int (-1), .int (-1), .int (-1), .int (-1), .int (-1), .int (-1), .int (-1), .int (-1), .int (-1), .int (-1), .int (-1), .int (-1)], vm := .none }]
def classes : Array Class := #[k0, k1, k2, k3, k4, k5, k6, k7, k8, k9, k10, k11, k12, k13, k14, k15, k16, k17, k18, k19, k20, k21, k22, k23, k24, k25, k26, k27, k28, k29, k30, k31, k32, k33]
def interned : List (Array UInt16 × Addr) := []
def slotsUsed : Nat := 357
def theMethod : MethodId := ⟨1, 1⟩
def args0 : Array Value := #[.int 5, .long 5, .long 6, .long 7]
def aboutOver (below : List Frame) : State where
  vm := { classes := classes, interned := interned.toArray }
  heap := heap
  slotsUsed := slotsUsed
  threads := #[{ frames := .invoking theMethod args0 :: below }]
def below0 : List Frame := [.native { method := ⟨0, 0⟩, args := #[] }]
def about1 : State := aboutOver below0
def p0 : Program := .bare "" "" ""
def e0 : Env := launch0.env 0 0 0
theorem w_frames : about1.frames = Frame.invoking theMethod args0 :: below0 := rfl
set_option maxRecDepth 65536 in
theorem w_args : argsFit about1.vm theMethod args0 = true := by decide +kernel
set_option maxRecDepth 65536 in
theorem w_heap : heapFits about1 = true := by decide +kernel
set_option maxRecDepth 65536 in
theorem w_runnable : about1.curStatus? = some .runnable := by decide +kernel
set_option maxRecDepth 65536 in
theorem w_alone : about1.alone = true := by decide +kernel
set_option maxRecDepth 65536 in
theorem w_named : about1.methodNamed? x = some theMethod := by decide +kernel
set_option maxRecDepth 65536 in
theorem w_hears : about1.hears theMethod below0 = true := by decide +kernel
set_option maxRecDepth 65536 in
theorem w_ripe : about1.ripe theMethod args0 below0 = true := by decide +kernel
theorem w_running : about1.status = .running := rfl
set_option maxRecDepth 65536 in
theorem w_room : about1.hasRoom e0.platform room_1 = true :=
  launch0.hasRoom_least _ room_1 (by decide +kernel) (by decide +kernel) (by decide +kernel) (by decide +kernel) (by decide +kernel) (by decide +kernel)
theorem allAtoms_all (ts : List Jvm.Cond) (a : Array Jvm.Value) (st : Jvm.State) : (allAtoms ts).before a st = ts.all (fun c => c.before a st) := by
  induction ts with
  | nil => rfl
  | cons c t ih =>
    show (Jvm.Cond.and c (allAtoms t)).before a st = _
    rw [Jvm.Cond.before_and, ih, List.all_cons]
def words1 : List Jvm.Cond := Jvm.Cond.code x code maxLocals ret :: tables_1
/-- a 'code' word, met by the world's own term for the bytes: nothing is compared byte by byte -/
theorem code_word {y : MethodName} {bytes : ByteArray} {mx : Nat} {rt : Option FieldType} {a : Array Value} {s : State} {m : MethodId} {meth : Method} {c : Code} (h1 : s.methodNamed? y = some m) (h2 : s.vm.method? m = some meth) (h3 : meth.code = some c) (h4 : c.code = bytes)
    (h5 : (c.maxLocals == mx && c.exceptionTable.isEmpty && decide (c.maxStack ≤ mostOperands) && decide (meth.sig.returnType = rt) && !meth.locks && decide (parseMethodDescriptor y.desc = some meth.sig)) = true) : (Jvm.Cond.code y bytes mx rt).before a s = true := by
  simp only [Bool.and_eq_true, beq_iff_eq, Bool.not_eq_true', decide_eq_true_eq] at h5
  obtain ⟨⟨⟨⟨⟨g1, g2⟩, g3⟩, g4⟩, g5⟩, g6⟩ := h5
  simp [Cond.before, Cond.holds, Cond.value, h1, h2, h3, h4, g1, g2, g3, g4, g5, g6]
def isCode : Jvm.Cond → Bool
  | .code _ _ _ _ => true
  | _ => false
theorem all_split {L : List Jvm.Cond} {P : Jvm.Cond → Bool} (h1 : L.all (fun c => isCode c || P c) = true) (h2 : ∀ c ∈ L.filter isCode, P c = true) : L.all P = true := by
  refine List.all_eq_true.mpr fun c hc => ?_
  have h := List.all_eq_true.mp h1 c hc
  rcases Bool.eq_false_or_eq_true (isCode c) with hi | hi
  · exact h2 c (List.mem_filter.mpr ⟨hc, hi⟩)
  · simpa [hi] using h
set_option maxRecDepth 65536 in
theorem w_c0 : (Jvm.Cond.code x code maxLocals ret).before args0 about1 = true := code_word (m := ⟨1, 1⟩) (meth := k1m1) (c := k1c1) (by decide +kernel) rfl rfl rfl (by decide +kernel)
set_option maxRecDepth 65536 in
theorem w_c1 : (Jvm.Cond.code ({ cls := "com/example/hookwright/hookwright/signing/StandardWebhooksSignatureSecretPinLaw", name := "put", desc := "([BIJ)V" } : Jvm.MethodName) method_3_code (4 : Nat) (Option.none : Option Jvm.ClassFile.FieldType)).before args0 about1 = true := code_word (m := ⟨1, 2⟩) (meth := k1m2) (c := k1c2) (by decide +kernel) rfl rfl rfl (by decide +kernel)
set_option maxRecDepth 65536 in
theorem w_c2 : (Jvm.Cond.code ({ cls := "com/example/hookwright/hookwright/signing/StandardWebhooksSignature", name := "secret", desc := "([B)Ljava/lang/String;" } : Jvm.MethodName) prog_38_method_4_code (1 : Nat) (Option.some (Jvm.ClassFile.FieldType.object "java/lang/String"))).before args0 about1 = true := code_word (m := ⟨2, 2⟩) (meth := k2m2) (c := k2c2) (by decide +kernel) rfl rfl rfl (by decide +kernel)
set_option maxRecDepth 65536 in
theorem w_c3 : (Jvm.Cond.code ({ cls := "java/lang/StringBuilder", name := "<init>", desc := "()V" } : Jvm.MethodName) jdk_67_method_1_code (1 : Nat) (Option.none : Option Jvm.ClassFile.FieldType)).before args0 about1 = true := code_word (m := ⟨8, 0⟩) (meth := k8m0) (c := k8c0) (by decide +kernel) rfl rfl rfl (by decide +kernel)
set_option maxRecDepth 65536 in
theorem w_c4 : (Jvm.Cond.code ({ cls := "java/lang/AbstractStringBuilder", name := "<init>", desc := "(I)V" } : Jvm.MethodName) jdk_68_method_2_code (2 : Nat) (Option.none : Option Jvm.ClassFile.FieldType)).before args0 about1 = true := code_word (m := ⟨5, 1⟩) (meth := k5m1) (c := k5c1) (by decide +kernel) rfl rfl rfl (by decide +kernel)
set_option maxRecDepth 65536 in
theorem w_c5 : (Jvm.Cond.code ({ cls := "java/lang/Object", name := "<init>", desc := "()V" } : Jvm.MethodName) object_method_1_code (1 : Nat) (Option.none : Option Jvm.ClassFile.FieldType)).before args0 about1 = true := code_word (m := ⟨0, 0⟩) (meth := k0m0) (c := k0c0) (by decide +kernel) rfl rfl rfl (by decide +kernel)
set_option maxRecDepth 65536 in
theorem w_c6 : (Jvm.Cond.code ({ cls := "java/lang/StringBuilder", name := "append", desc := "(Ljava/lang/String;)Ljava/lang/StringBuilder;" } : Jvm.MethodName) jdk_67_method_7_code (2 : Nat) (Option.some (Jvm.ClassFile.FieldType.object "java/lang/StringBuilder"))).before args0 about1 = true := code_word (m := ⟨8, 1⟩) (meth := k8m1) (c := k8c1) (by decide +kernel) rfl rfl rfl (by decide +kernel)
set_option maxRecDepth 65536 in
theorem w_c7 : (Jvm.Cond.code ({ cls := "java/lang/AbstractStringBuilder", name := "append", desc := "(Ljava/lang/String;)Ljava/lang/AbstractStringBuilder;" } : Jvm.MethodName) jdk_68_method_22_code (3 : Nat) (Option.some (Jvm.ClassFile.FieldType.object "java/lang/AbstractStringBuilder"))).before args0 about1 = true := code_word (m := ⟨5, 5⟩) (meth := k5m5) (c := k5c5) (by decide +kernel) rfl rfl rfl (by decide +kernel)
set_option maxRecDepth 65536 in
theorem w_c8 : (Jvm.Cond.code ({ cls := "java/lang/String", name := "length", desc := "()I" } : Jvm.MethodName) jdk_42_method_54_code (1 : Nat) (Option.some Jvm.ClassFile.FieldType.int)).before args0 about1 = true := code_word (m := ⟨11, 6⟩) (meth := k11m6) (c := k11c6) (by decide +kernel) rfl rfl rfl (by decide +kernel)
set_option maxRecDepth 65536 in
theorem w_c9 : (Jvm.Cond.code ({ cls := "java/lang/String", name := "coder", desc := "()B" } : Jvm.MethodName) jdk_42_method_152_code (1 : Nat) (Option.some Jvm.ClassFile.FieldType.byte)).before args0 about1 = true := code_word (m := ⟨11, 17⟩) (meth := k11m17) (c := k11c17) (by decide +kernel) rfl rfl rfl (by decide +kernel)
set_option maxRecDepth 65536 in
theorem w_c10 : (Jvm.Cond.code ({ cls := "java/lang/AbstractStringBuilder", name := "ensureCapacityInternal", desc := "(I)V" } : Jvm.MethodName) jdk_68_method_9_code (3 : Nat) (Option.none : Option Jvm.ClassFile.FieldType)).before args0 about1 = true := code_word (m := ⟨5, 3⟩) (meth := k5m3) (c := k5c3) (by decide +kernel) rfl rfl rfl (by decide +kernel)
set_option maxRecDepth 65536 in
theorem w_c11 : (Jvm.Cond.code ({ cls := "java/lang/AbstractStringBuilder", name := "putStringAt", desc := "(ILjava/lang/String;)V" } : Jvm.MethodName) jdk_68_method_73_code (3 : Nat) (Option.none : Option Jvm.ClassFile.FieldType)).before args0 about1 = true := code_word (m := ⟨5, 9⟩) (meth := k5m9) (c := k5c9) (by decide +kernel) rfl rfl rfl (by decide +kernel)
set_option maxRecDepth 65536 in
theorem w_c12 : (Jvm.Cond.code ({ cls := "java/lang/AbstractStringBuilder", name := "inflateIfNeededFor", desc := "(Ljava/lang/String;)V" } : Jvm.MethodName) jdk_68_method_71_code (2 : Nat) (Option.none : Option Jvm.ClassFile.FieldType)).before args0 about1 = true := code_word (m := ⟨5, 8⟩) (meth := k5m8) (c := k5c8) (by decide +kernel) rfl rfl rfl (by decide +kernel)
set_option maxRecDepth 65536 in
theorem w_c13 : (Jvm.Cond.code ({ cls := "java/lang/String", name := "getBytes", desc := "([BIB)V" } : Jvm.MethodName) jdk_42_method_147_code (4 : Nat) (Option.none : Option Jvm.ClassFile.FieldType)).before args0 about1 = true := code_word (m := ⟨11, 14⟩) (meth := k11m14) (c := k11c14) (by decide +kernel) rfl rfl rfl (by decide +kernel)
set_option maxRecDepth 65536 in
theorem w_c14 : (Jvm.Cond.code ({ cls := "java/util/Base64", name := "getEncoder", desc := "()Ljava/util/Base64$Encoder;" } : Jvm.MethodName) jdk_2448_method_2_code (0 : Nat) (Option.some (Jvm.ClassFile.FieldType.object "java/util/Base64$Encoder"))).before args0 about1 = true := code_word (m := ⟨13, 1⟩) (meth := k13m1) (c := k13c1) (by decide +kernel) rfl rfl rfl (by decide +kernel)
set_option maxRecDepth 65536 in
theorem w_c15 : (Jvm.Cond.code ({ cls := "java/util/Base64$Encoder", name := "encodeToString", desc := "([B)Ljava/lang/String;" } : Jvm.MethodName) jdk_2452_method_5_code (3 : Nat) (Option.some (Jvm.ClassFile.FieldType.object "java/lang/String"))).before args0 about1 = true := code_word (m := ⟨14, 2⟩) (meth := k14m2) (c := k14c2) (by decide +kernel) rfl rfl rfl (by decide +kernel)
set_option maxRecDepth 65536 in
theorem w_c16 : (Jvm.Cond.code ({ cls := "java/util/Base64$Encoder", name := "encode", desc := "([B)[B" } : Jvm.MethodName) jdk_2452_method_3_code (5 : Nat) (Option.some (Jvm.ClassFile.FieldType.array Jvm.ClassFile.FieldType.byte))).before args0 about1 = true := code_word (m := ⟨14, 1⟩) (meth := k14m1) (c := k14c1) (by decide +kernel) rfl rfl rfl (by decide +kernel)
set_option maxRecDepth 65536 in
theorem w_c17 : (Jvm.Cond.code ({ cls := "java/lang/Math", name := "addExact", desc := "(II)I" } : Jvm.MethodName) jdk_29_method_24_code (3 : Nat) (Option.some Jvm.ClassFile.FieldType.int)).before args0 about1 = true := code_word (m := ⟨15, 1⟩) (meth := k15m1) (c := k15c1) (by decide +kernel) rfl rfl rfl (by decide +kernel)
set_option maxRecDepth 65536 in
theorem w_c18 : (Jvm.Cond.code ({ cls := "java/lang/Math", name := "multiplyExact", desc := "(II)I" } : Jvm.MethodName) jdk_29_method_28_code (4 : Nat) (Option.some Jvm.ClassFile.FieldType.int)).before args0 about1 = true := code_word (m := ⟨15, 2⟩) (meth := k15m2) (c := k15c2) (by decide +kernel) rfl rfl rfl (by decide +kernel)
set_option maxRecDepth 65536 in
theorem w_c19 : (Jvm.Cond.code ({ cls := "java/util/Base64$Encoder", name := "encode0", desc := "([BII[B)I" } : Jvm.MethodName) jdk_2452_method_10_code (16 : Nat) (Option.some Jvm.ClassFile.FieldType.int)).before args0 about1 = true := code_word (m := ⟨14, 4⟩) (meth := k14m4) (c := k14c4) (by decide +kernel) rfl rfl rfl (by decide +kernel)
set_option maxRecDepth 65536 in
theorem w_c20 : (Jvm.Cond.code ({ cls := "java/lang/Math", name := "min", desc := "(II)I" } : Jvm.MethodName) jdk_29_method_69_code (2 : Nat) (Option.some Jvm.ClassFile.FieldType.int)).before args0 about1 = true := code_word (m := ⟨15, 4⟩) (meth := k15m4) (c := k15c4) (by decide +kernel) rfl rfl rfl (by decide +kernel)
set_option maxRecDepth 65536 in
theorem w_c21 : (Jvm.Cond.code ({ cls := "java/util/Base64$Encoder", name := "encodeBlock", desc := "([BII[BIZ)V" } : Jvm.MethodName) jdk_2452_method_9_code (11 : Nat) (Option.none : Option Jvm.ClassFile.FieldType)).before args0 about1 = true := code_word (m := ⟨14, 3⟩) (meth := k14m3) (c := k14c3) (by decide +kernel) rfl rfl rfl (by decide +kernel)
set_option maxRecDepth 65536 in
theorem w_c22 : (Jvm.Cond.code ({ cls := "java/lang/String", name := "<init>", desc := "([BIII)V" } : Jvm.MethodName) jdk_42_method_7_code (7 : Nat) (Option.none : Option Jvm.ClassFile.FieldType)).before args0 about1 = true := code_word (m := ⟨11, 1⟩) (meth := k11m1) (c := k11c1) (by decide +kernel) rfl rfl rfl (by decide +kernel)
set_option maxRecDepth 65536 in
theorem w_c23 : (Jvm.Cond.code ({ cls := "java/lang/String", name := "checkBoundsOffCount", desc := "(III)I" } : Jvm.MethodName) jdk_42_method_157_code (3 : Nat) (Option.some Jvm.ClassFile.FieldType.int)).before args0 about1 = true := code_word (m := ⟨11, 20⟩) (meth := k11m20) (c := k11c20) (by decide +kernel) rfl rfl rfl (by decide +kernel)
set_option maxRecDepth 65536 in
theorem w_c24 : (Jvm.Cond.code ({ cls := "jdk/internal/util/Preconditions", name := "checkFromIndexSize", desc := "(IIILjava/util/function/BiFunction;)I" } : Jvm.MethodName) jdk_41_method_13_code (4 : Nat) (Option.some Jvm.ClassFile.FieldType.int)).before args0 about1 = true := code_word (m := ⟨16, 3⟩) (meth := k16m3) (c := k16c3) (by decide +kernel) rfl rfl rfl (by decide +kernel)
set_option maxRecDepth 65536 in
theorem w_c25 : (Jvm.Cond.code ({ cls := "java/util/Arrays", name := "copyOfRange", desc := "([BII)[B" } : Jvm.MethodName) jdk_65_method_132_code (3 : Nat) (Option.some (Jvm.ClassFile.FieldType.array Jvm.ClassFile.FieldType.byte))).before args0 about1 = true := code_word (m := ⟨17, 3⟩) (meth := k17m3) (c := k17c3) (by decide +kernel) rfl rfl rfl (by decide +kernel)
set_option maxRecDepth 65536 in
theorem w_c26 : (Jvm.Cond.code ({ cls := "java/lang/AbstractStringBuilder", name := "newCapacity", desc := "(I)I" } : Jvm.MethodName) jdk_68_method_10_code (6 : Nat) (Option.some Jvm.ClassFile.FieldType.int)).before args0 about1 = true := code_word (m := ⟨5, 4⟩) (meth := k5m4) (c := k5c4) (by decide +kernel) rfl rfl rfl (by decide +kernel)
set_option maxRecDepth 65536 in
theorem w_c27 : (Jvm.Cond.code ({ cls := "jdk/internal/util/ArraysSupport", name := "newLength", desc := "(III)I" } : Jvm.MethodName) jdk_48_method_27_code (4 : Nat) (Option.some Jvm.ClassFile.FieldType.int)).before args0 about1 = true := code_word (m := ⟨19, 2⟩) (meth := k19m2) (c := k19c2) (by decide +kernel) rfl rfl rfl (by decide +kernel)
set_option maxRecDepth 65536 in
theorem w_c28 : (Jvm.Cond.code ({ cls := "java/lang/Math", name := "max", desc := "(II)I" } : Jvm.MethodName) jdk_29_method_65_code (2 : Nat) (Option.some Jvm.ClassFile.FieldType.int)).before args0 about1 = true := code_word (m := ⟨15, 3⟩) (meth := k15m3) (c := k15c3) (by decide +kernel) rfl rfl rfl (by decide +kernel)
set_option maxRecDepth 65536 in
theorem w_c29 : (Jvm.Cond.code ({ cls := "java/util/Arrays", name := "copyOf", desc := "([BI)[B" } : Jvm.MethodName) jdk_65_method_121_code (3 : Nat) (Option.some (Jvm.ClassFile.FieldType.array Jvm.ClassFile.FieldType.byte))).before args0 about1 = true := code_word (m := ⟨17, 1⟩) (meth := k17m1) (c := k17c1) (by decide +kernel) rfl rfl rfl (by decide +kernel)
set_option maxRecDepth 65536 in
theorem w_c30 : (Jvm.Cond.code ({ cls := "java/lang/StringBuilder", name := "toString", desc := "()Ljava/lang/String;" } : Jvm.MethodName) jdk_67_method_42_code (1 : Nat) (Option.some (Jvm.ClassFile.FieldType.object "java/lang/String"))).before args0 about1 = true := code_word (m := ⟨8, 2⟩) (meth := k8m2) (c := k8c2) (by decide +kernel) rfl rfl rfl (by decide +kernel)
set_option maxRecDepth 65536 in
theorem w_c31 : (Jvm.Cond.code ({ cls := "java/lang/String", name := "<init>", desc := "(Ljava/lang/StringBuilder;)V" } : Jvm.MethodName) jdk_42_method_53_code (2 : Nat) (Option.none : Option Jvm.ClassFile.FieldType)).before args0 about1 = true := code_word (m := ⟨11, 5⟩) (meth := k11m5) (c := k11c5) (by decide +kernel) rfl rfl rfl (by decide +kernel)
set_option maxRecDepth 65536 in
theorem w_c32 : (Jvm.Cond.code ({ cls := "java/lang/String", name := "<init>", desc := "(Ljava/lang/AbstractStringBuilder;Ljava/lang/Void;)V" } : Jvm.MethodName) jdk_42_method_150_code (5 : Nat) (Option.none : Option Jvm.ClassFile.FieldType)).before args0 about1 = true := code_word (m := ⟨11, 15⟩) (meth := k11m15) (c := k11c15) (by decide +kernel) rfl rfl rfl (by decide +kernel)
set_option maxRecDepth 65536 in
theorem w_c33 : (Jvm.Cond.code ({ cls := "java/lang/AbstractStringBuilder", name := "getValue", desc := "()[B" } : Jvm.MethodName) jdk_68_method_64_code (1 : Nat) (Option.some (Jvm.ClassFile.FieldType.array Jvm.ClassFile.FieldType.byte))).before args0 about1 = true := code_word (m := ⟨5, 6⟩) (meth := k5m6) (c := k5c6) (by decide +kernel) rfl rfl rfl (by decide +kernel)
set_option maxRecDepth 65536 in
theorem w_c34 : (Jvm.Cond.code ({ cls := "java/lang/StringBuilder", name := "length", desc := "()I" } : Jvm.MethodName) jdk_67_method_93_code (1 : Nat) (Option.some Jvm.ClassFile.FieldType.int)).before args0 about1 = true := code_word (m := ⟨8, 3⟩) (meth := k8m3) (c := k8c3) (by decide +kernel) rfl rfl rfl (by decide +kernel)
set_option maxRecDepth 65536 in
theorem w_c35 : (Jvm.Cond.code ({ cls := "java/lang/AbstractStringBuilder", name := "length", desc := "()I" } : Jvm.MethodName) jdk_68_method_6_code (1 : Nat) (Option.some Jvm.ClassFile.FieldType.int)).before args0 about1 = true := code_word (m := ⟨5, 2⟩) (meth := k5m2) (c := k5c2) (by decide +kernel) rfl rfl rfl (by decide +kernel)
set_option maxRecDepth 65536 in
theorem w_c36 : (Jvm.Cond.code ({ cls := "java/lang/AbstractStringBuilder", name := "isLatin1", desc := "()Z" } : Jvm.MethodName) jdk_68_method_68_code (1 : Nat) (Option.some Jvm.ClassFile.FieldType.boolean)).before args0 about1 = true := code_word (m := ⟨5, 7⟩) (meth := k5m7) (c := k5c7) (by decide +kernel) rfl rfl rfl (by decide +kernel)
set_option maxRecDepth 65536 in
theorem w_c37 : (Jvm.Cond.code ({ cls := "java/lang/String", name := "charAt", desc := "(I)C" } : Jvm.MethodName) jdk_42_method_56_code (2 : Nat) (Option.some Jvm.ClassFile.FieldType.char)).before args0 about1 = true := code_word (m := ⟨11, 7⟩) (meth := k11m7) (c := k11c7) (by decide +kernel) rfl rfl rfl (by decide +kernel)
set_option maxRecDepth 65536 in
theorem w_c38 : (Jvm.Cond.code ({ cls := "java/lang/String", name := "isLatin1", desc := "()Z" } : Jvm.MethodName) jdk_42_method_154_code (1 : Nat) (Option.some Jvm.ClassFile.FieldType.boolean)).before args0 about1 = true := code_word (m := ⟨11, 18⟩) (meth := k11m18) (c := k11c18) (by decide +kernel) rfl rfl rfl (by decide +kernel)
set_option maxRecDepth 65536 in
theorem w_c39 : (Jvm.Cond.code ({ cls := "java/lang/StringLatin1", name := "charAt", desc := "([BI)C" } : Jvm.MethodName) jdk_43_method_2_code (2 : Nat) (Option.some Jvm.ClassFile.FieldType.char)).before args0 about1 = true := code_word (m := ⟨20, 1⟩) (meth := k20m1) (c := k20c1) (by decide +kernel) rfl rfl rfl (by decide +kernel)
set_option maxRecDepth 65536 in
theorem w_c40 : (Jvm.Cond.code ({ cls := "java/lang/String", name := "checkIndex", desc := "(II)V" } : Jvm.MethodName) jdk_42_method_155_code (2 : Nat) (Option.none : Option Jvm.ClassFile.FieldType)).before args0 about1 = true := code_word (m := ⟨11, 19⟩) (meth := k11m19) (c := k11c19) (by decide +kernel) rfl rfl rfl (by decide +kernel)
set_option maxRecDepth 65536 in
theorem w_c41 : (Jvm.Cond.code ({ cls := "jdk/internal/util/Preconditions", name := "checkIndex", desc := "(IILjava/util/function/BiFunction;)I" } : Jvm.MethodName) jdk_41_method_11_code (3 : Nat) (Option.some Jvm.ClassFile.FieldType.int)).before args0 about1 = true := code_word (m := ⟨16, 1⟩) (meth := k16m1) (c := k16c1) (by decide +kernel) rfl rfl rfl (by decide +kernel)
set_option maxRecDepth 65536 in
theorem w_c42 : (Jvm.Cond.code ({ cls := "com/example/hookwright/hookwright/signing/StandardWebhooksSignatureSecretPinLaw", name := "u", desc := "([BI)I" } : Jvm.MethodName) method_4_code (2 : Nat) (Option.some Jvm.ClassFile.FieldType.int)).before args0 about1 = true := code_word (m := ⟨1, 3⟩) (meth := k1m3) (c := k1c3) (by decide +kernel) rfl rfl rfl (by decide +kernel)
set_option maxRecDepth 65536 in
theorem w_c43 : (Jvm.Cond.code ({ cls := "com/example/hookwright/hookwright/signing/StandardWebhooksSignatureSecretPinLaw", name := "full", desc := "(Ljava/lang/String;IIII)Z" } : Jvm.MethodName) method_6_code (6 : Nat) (Option.some Jvm.ClassFile.FieldType.boolean)).before args0 about1 = true := code_word (m := ⟨1, 5⟩) (meth := k1m5) (c := k1c5) (by decide +kernel) rfl rfl rfl (by decide +kernel)
set_option maxRecDepth 65536 in
theorem w_c44 : (Jvm.Cond.code ({ cls := "com/example/hookwright/hookwright/signing/StandardWebhooksSignatureSecretPinLaw", name := "enc", desc := "(I)C" } : Jvm.MethodName) method_5_code (1 : Nat) (Option.some Jvm.ClassFile.FieldType.char)).before args0 about1 = true := code_word (m := ⟨1, 4⟩) (meth := k1m4) (c := k1c4) (by decide +kernel) rfl rfl rfl (by decide +kernel)
set_option maxRecDepth 65536 in
theorem w_c45 : (Jvm.Cond.code ({ cls := "java/util/Objects", name := "requireNonNull", desc := "(Ljava/lang/Object;Ljava/lang/String;)Ljava/lang/Object;" } : Jvm.MethodName) jdk_31_method_11_code (2 : Nat) (Option.some (Jvm.ClassFile.FieldType.object "java/lang/Object"))).before args0 about1 = true := code_word (m := ⟨21, 1⟩) (meth := k21m1) (c := k21c1) (by decide +kernel) rfl rfl rfl (by decide +kernel)
set_option maxRecDepth 65536 in
theorem w_c46 : (Jvm.Cond.code ({ cls := "java/lang/String", name := "startsWith", desc := "(Ljava/lang/String;)Z" } : Jvm.MethodName) jdk_42_method_76_code (2 : Nat) (Option.some Jvm.ClassFile.FieldType.boolean)).before args0 about1 = true := code_word (m := ⟨11, 11⟩) (meth := k11m11) (c := k11c11) (by decide +kernel) rfl rfl rfl (by decide +kernel)
set_option maxRecDepth 65536 in
theorem w_c47 : (Jvm.Cond.code ({ cls := "java/lang/String", name := "startsWith", desc := "(Ljava/lang/String;I)Z" } : Jvm.MethodName) jdk_42_method_75_code (8 : Nat) (Option.some Jvm.ClassFile.FieldType.boolean)).before args0 about1 = true := code_word (m := ⟨11, 10⟩) (meth := k11m10) (c := k11c10) (by decide +kernel) rfl rfl rfl (by decide +kernel)
set_option maxRecDepth 65536 in
theorem w_c48 : (Jvm.Cond.code ({ cls := "jdk/internal/util/ArraysSupport", name := "mismatch", desc := "([BI[BII)I" } : Jvm.MethodName) jdk_48_method_14_code (8 : Nat) (Option.some Jvm.ClassFile.FieldType.int)).before args0 about1 = true := code_word (m := ⟨19, 1⟩) (meth := k19m1) (c := k19c1) (by decide +kernel) rfl rfl rfl (by decide +kernel)
set_option maxRecDepth 65536 in
theorem w_c49 : (Jvm.Cond.code ({ cls := "java/lang/String", name := "substring", desc := "(I)Ljava/lang/String;" } : Jvm.MethodName) jdk_42_method_91_code (2 : Nat) (Option.some (Jvm.ClassFile.FieldType.object "java/lang/String"))).before args0 about1 = true := code_word (m := ⟨11, 12⟩) (meth := k11m12) (c := k11c12) (by decide +kernel) rfl rfl rfl (by decide +kernel)
set_option maxRecDepth 65536 in
theorem w_c50 : (Jvm.Cond.code ({ cls := "java/lang/String", name := "substring", desc := "(II)Ljava/lang/String;" } : Jvm.MethodName) jdk_42_method_92_code (5 : Nat) (Option.some (Jvm.ClassFile.FieldType.object "java/lang/String"))).before args0 about1 = true := code_word (m := ⟨11, 13⟩) (meth := k11m13) (c := k11c13) (by decide +kernel) rfl rfl rfl (by decide +kernel)
set_option maxRecDepth 65536 in
theorem w_c51 : (Jvm.Cond.code ({ cls := "java/lang/String", name := "checkBoundsBeginEnd", desc := "(III)V" } : Jvm.MethodName) jdk_42_method_158_code (3 : Nat) (Option.none : Option Jvm.ClassFile.FieldType)).before args0 about1 = true := code_word (m := ⟨11, 21⟩) (meth := k11m21) (c := k11c21) (by decide +kernel) rfl rfl rfl (by decide +kernel)
set_option maxRecDepth 65536 in
theorem w_c52 : (Jvm.Cond.code ({ cls := "jdk/internal/util/Preconditions", name := "checkFromToIndex", desc := "(IIILjava/util/function/BiFunction;)I" } : Jvm.MethodName) jdk_41_method_12_code (4 : Nat) (Option.some Jvm.ClassFile.FieldType.int)).before args0 about1 = true := code_word (m := ⟨16, 2⟩) (meth := k16m2) (c := k16c2) (by decide +kernel) rfl rfl rfl (by decide +kernel)
set_option maxRecDepth 65536 in
theorem w_c53 : (Jvm.Cond.code ({ cls := "java/lang/StringLatin1", name := "newString", desc := "([BII)Ljava/lang/String;" } : Jvm.MethodName) jdk_43_method_47_code (3 : Nat) (Option.some (Jvm.ClassFile.FieldType.object "java/lang/String"))).before args0 about1 = true := code_word (m := ⟨20, 3⟩) (meth := k20m3) (c := k20c3) (by decide +kernel) rfl rfl rfl (by decide +kernel)
set_option maxRecDepth 65536 in
theorem w_c54 : (Jvm.Cond.code ({ cls := "java/util/Arrays", name := "copyOfRangeByte", desc := "([BII)[B" } : Jvm.MethodName) jdk_65_method_133_code (5 : Nat) (Option.some (Jvm.ClassFile.FieldType.array Jvm.ClassFile.FieldType.byte))).before args0 about1 = true := code_word (m := ⟨17, 4⟩) (meth := k17m4) (c := k17c4) (by decide +kernel) rfl rfl rfl (by decide +kernel)
set_option maxRecDepth 65536 in
theorem w_c55 : (Jvm.Cond.code ({ cls := "java/util/Arrays", name := "checkLength", desc := "(II)V" } : Jvm.MethodName) jdk_65_method_131_code (2 : Nat) (Option.none : Option Jvm.ClassFile.FieldType)).before args0 about1 = true := code_word (m := ⟨17, 2⟩) (meth := k17m2) (c := k17c2) (by decide +kernel) rfl rfl rfl (by decide +kernel)
set_option maxRecDepth 65536 in
theorem w_c56 : (Jvm.Cond.code ({ cls := "java/lang/String", name := "<init>", desc := "([BB)V" } : Jvm.MethodName) jdk_42_method_151_code (3 : Nat) (Option.none : Option Jvm.ClassFile.FieldType)).before args0 about1 = true := code_word (m := ⟨11, 16⟩) (meth := k11m16) (c := k11c16) (by decide +kernel) rfl rfl rfl (by decide +kernel)
set_option maxRecDepth 65536 in
theorem w_c57 : (Jvm.Cond.code ({ cls := "java/util/Base64", name := "getDecoder", desc := "()Ljava/util/Base64$Decoder;" } : Jvm.MethodName) jdk_2448_method_6_code (0 : Nat) (Option.some (Jvm.ClassFile.FieldType.object "java/util/Base64$Decoder"))).before args0 about1 = true := code_word (m := ⟨13, 2⟩) (meth := k13m2) (c := k13c2) (by decide +kernel) rfl rfl rfl (by decide +kernel)
set_option maxRecDepth 65536 in
theorem w_c58 : (Jvm.Cond.code ({ cls := "java/util/Base64$Decoder", name := "decode", desc := "(Ljava/lang/String;)[B" } : Jvm.MethodName) jdk_2450_method_3_code (2 : Nat) (Option.some (Jvm.ClassFile.FieldType.array Jvm.ClassFile.FieldType.byte))).before args0 about1 = true := code_word (m := ⟨22, 1⟩) (meth := k22m1) (c := k22c1) (by decide +kernel) rfl rfl rfl (by decide +kernel)
set_option maxRecDepth 65536 in
theorem w_c59 : (Jvm.Cond.code ({ cls := "java/lang/String", name := "getBytes", desc := "(Ljava/nio/charset/Charset;)[B" } : Jvm.MethodName) jdk_42_method_64_code (2 : Nat) (Option.some (Jvm.ClassFile.FieldType.array Jvm.ClassFile.FieldType.byte))).before args0 about1 = true := code_word (m := ⟨11, 8⟩) (meth := k11m8) (c := k11c8) (by decide +kernel) rfl rfl rfl (by decide +kernel)
set_option maxRecDepth 65536 in
theorem w_c60 : (Jvm.Cond.code ({ cls := "java/lang/String", name := "encode", desc := "(Ljava/nio/charset/Charset;B[B)[B" } : Jvm.MethodName) jdk_42_method_18_code (3 : Nat) (Option.some (Jvm.ClassFile.FieldType.array Jvm.ClassFile.FieldType.byte))).before args0 about1 = true := code_word (m := ⟨11, 2⟩) (meth := k11m2) (c := k11c2) (by decide +kernel) rfl rfl rfl (by decide +kernel)
set_option maxRecDepth 65536 in
theorem w_c61 : (Jvm.Cond.code ({ cls := "java/lang/String", name := "encode8859_1", desc := "(B[B)[B" } : Jvm.MethodName) jdk_42_method_26_code (2 : Nat) (Option.some (Jvm.ClassFile.FieldType.array Jvm.ClassFile.FieldType.byte))).before args0 about1 = true := code_word (m := ⟨11, 3⟩) (meth := k11m3) (c := k11c3) (by decide +kernel) rfl rfl rfl (by decide +kernel)
set_option maxRecDepth 65536 in
theorem w_c62 : (Jvm.Cond.code ({ cls := "java/lang/String", name := "encode8859_1", desc := "(B[BZ)[B" } : Jvm.MethodName) jdk_42_method_27_code (10 : Nat) (Option.some (Jvm.ClassFile.FieldType.array Jvm.ClassFile.FieldType.byte))).before args0 about1 = true := code_word (m := ⟨11, 4⟩) (meth := k11m4) (c := k11c4) (by decide +kernel) rfl rfl rfl (by decide +kernel)
set_option maxRecDepth 65536 in
theorem w_c63 : (Jvm.Cond.code ({ cls := "java/util/Base64$Decoder", name := "decode", desc := "([B)[B" } : Jvm.MethodName) jdk_2450_method_2_code (4 : Nat) (Option.some (Jvm.ClassFile.FieldType.array Jvm.ClassFile.FieldType.byte))).before args0 about1 = true := code_word (m := ⟨22, 0⟩) (meth := k22m0) (c := k22c0) (by decide +kernel) rfl rfl rfl (by decide +kernel)
set_option maxRecDepth 65536 in
theorem w_c64 : (Jvm.Cond.code ({ cls := "java/util/Base64$Decoder", name := "decodedOutLength", desc := "([BII)I" } : Jvm.MethodName) jdk_2450_method_7_code (9 : Nat) (Option.some Jvm.ClassFile.FieldType.int)).before args0 about1 = true := code_word (m := ⟨22, 2⟩) (meth := k22m2) (c := k22c2) (by decide +kernel) rfl rfl rfl (by decide +kernel)
set_option maxRecDepth 65536 in
theorem w_c65 : (Jvm.Cond.code ({ cls := "java/util/Base64$Decoder", name := "decode0", desc := "([BII[B)I" } : Jvm.MethodName) jdk_2450_method_9_code (11 : Nat) (Option.some Jvm.ClassFile.FieldType.int)).before args0 about1 = true := code_word (m := ⟨22, 4⟩) (meth := k22m4) (c := k22c4) (by decide +kernel) rfl rfl rfl (by decide +kernel)
set_option maxRecDepth 65536 in
theorem w_c66 : (Jvm.Cond.code ({ cls := "java/util/Base64$Decoder", name := "decodeBlock", desc := "([BII[BIZZ)I" } : Jvm.MethodName) jdk_2450_method_8_code (16 : Nat) (Option.some Jvm.ClassFile.FieldType.int)).before args0 about1 = true := code_word (m := ⟨22, 3⟩) (meth := k22m3) (c := k22c3) (by decide +kernel) rfl rfl rfl (by decide +kernel)
set_option maxRecDepth 65536 in
theorem w_c67 : (Jvm.Cond.code ({ cls := "java/lang/String", name := "equals", desc := "(Ljava/lang/Object;)Z" } : Jvm.MethodName) jdk_42_method_66_code (3 : Nat) (Option.some Jvm.ClassFile.FieldType.boolean)).before args0 about1 = true := code_word (m := ⟨11, 9⟩) (meth := k11m9) (c := k11c9) (by decide +kernel) rfl rfl rfl (by decide +kernel)
set_option maxRecDepth 65536 in
theorem w_c68 : (Jvm.Cond.code ({ cls := "java/lang/StringLatin1", name := "equals", desc := "([B[B)Z" } : Jvm.MethodName) jdk_43_method_13_code (3 : Nat) (Option.some Jvm.ClassFile.FieldType.boolean)).before args0 about1 = true := code_word (m := ⟨20, 2⟩) (meth := k20m2) (c := k20c2) (by decide +kernel) rfl rfl rfl (by decide +kernel)
def codes1 : List Jvm.Cond := [Jvm.Cond.code x code maxLocals ret, Jvm.Cond.code ({ cls := "com/example/hookwright/hookwright/signing/StandardWebhooksSignatureSecretPinLaw", name := "put", desc := "([BIJ)V" } : Jvm.MethodName) method_3_code (4 : Nat) (Option.none : Option Jvm.ClassFile.FieldType), Jvm.Cond.code ({ cls := "com/example/hookwright/hookwright/signing/StandardWebhooksSignature", name := "secret", desc := "([B)Ljava/lang/String;" } : Jvm.MethodName) prog_38_method_4_code (1 : Nat) (Option.some (Jvm.ClassFile.FieldType.object "java/lang/String")), Jvm.Cond.code ({ cls := "java/lang/StringBuilder", name := "<init>", desc := "()V" } : Jvm.MethodName) jdk_67_method_1_code (1 : Nat) (Option.none : Option Jvm.ClassFile.FieldType), Jvm.Cond.code ({ cls := "java/lang/AbstractStringBuilder", name := "<init>", desc := "(I)V" } : Jvm.MethodName) jdk_68_method_2_code (2 : Nat) (Option.none : Option Jvm.ClassFile.FieldType), Jvm.Cond.code ({ cls := "java/lang/Object", name := "<init>", desc := "()V" } : Jvm.MethodName) object_method_1_code (1 : Nat) (Option.none : Option Jvm.ClassFile.FieldType), Jvm.Cond.code ({ cls := "java/lang/StringBuilder", name := "append", desc := "(Ljava/lang/String;)Ljava/lang/StringBuilder;" } : Jvm.MethodName) jdk_67_method_7_code (2 : Nat) (Option.some (Jvm.ClassFile.FieldType.object "java/lang/StringBuilder")), Jvm.Cond.code ({ cls := "java/lang/AbstractStringBuilder", name := "append", desc := "(Ljava/lang/String;)Ljava/lang/AbstractStringBuilder;" } : Jvm.MethodName) jdk_68_method_22_code (3 : Nat) (Option.some (Jvm.ClassFile.FieldType.object "java/lang/AbstractStringBuilder")), Jvm.Cond.code ({ cls := "java/lang/String", name := "length", desc := "()I" } : Jvm.MethodName) jdk_42_method_54_code (1 : Nat) (Option.some Jvm.ClassFile.FieldType.int), Jvm.Cond.code ({ cls := "java/lang/String", name := "coder", desc := "()B" } : Jvm.MethodName) jdk_42_method_152_code (1 : Nat) (Option.some Jvm.ClassFile.FieldType.byte), Jvm.Cond.code ({ cls := "java/lang/AbstractStringBuilder", name := "ensureCapacityInternal", desc := "(I)V" } : Jvm.MethodName) jdk_68_method_9_code (3 : Nat) (Option.none : Option Jvm.ClassFile.FieldType), Jvm.Cond.code ({ cls := "java/lang/AbstractStringBuilder", name := "putStringAt", desc := "(ILjava/lang/String;)V" } : Jvm.MethodName) jdk_68_method_73_code (3 : Nat) (Option.none : Option Jvm.ClassFile.FieldType), Jvm.Cond.code ({ cls := "java/lang/AbstractStringBuilder", name := "inflateIfNeededFor", desc := "(Ljava/lang/String;)V" } : Jvm.MethodName) jdk_68_method_71_code (2 : Nat) (Option.none : Option Jvm.ClassFile.FieldType), Jvm.Cond.code ({ cls := "java/lang/String", name := "getBytes", desc := "([BIB)V" } : Jvm.MethodName) jdk_42_method_147_code (4 : Nat) (Option.none : Option Jvm.ClassFile.FieldType), Jvm.Cond.code ({ cls := "java/util/Base64", name := "getEncoder", desc := "()Ljava/util/Base64$Encoder;" } : Jvm.MethodName) jdk_2448_method_2_code (0 : Nat) (Option.some (Jvm.ClassFile.FieldType.object "java/util/Base64$Encoder")), Jvm.Cond.code ({ cls := "java/util/Base64$Encoder", name := "encodeToString", desc := "([B)Ljava/lang/String;" } : Jvm.MethodName) jdk_2452_method_5_code (3 : Nat) (Option.some (Jvm.ClassFile.FieldType.object "java/lang/String")), Jvm.Cond.code ({ cls := "java/util/Base64$Encoder", name := "encode", desc := "([B)[B" } : Jvm.MethodName) jdk_2452_method_3_code (5 : Nat) (Option.some (Jvm.ClassFile.FieldType.array Jvm.ClassFile.FieldType.byte)), Jvm.Cond.code ({ cls := "java/lang/Math", name := "addExact", desc := "(II)I" } : Jvm.MethodName) jdk_29_method_24_code (3 : Nat) (Option.some Jvm.ClassFile.FieldType.int), Jvm.Cond.code ({ cls := "java/lang/Math", name := "multiplyExact", desc := "(II)I" } : Jvm.MethodName) jdk_29_method_28_code (4 : Nat) (Option.some Jvm.ClassFile.FieldType.int), Jvm.Cond.code ({ cls := "java/util/Base64$Encoder", name := "encode0", desc := "([BII[B)I" } : Jvm.MethodName) jdk_2452_method_10_code (16 : Nat) (Option.some Jvm.ClassFile.FieldType.int), Jvm.Cond.code ({ cls := "java/lang/Math", name := "min", desc := "(II)I" } : Jvm.MethodName) jdk_29_method_69_code (2 : Nat) (Option.some Jvm.ClassFile.FieldType.int), Jvm.Cond.code ({ cls := "java/util/Base64$Encoder", name := "encodeBlock", desc := "([BII[BIZ)V" } : Jvm.MethodName) jdk_2452_method_9_code (11 : Nat) (Option.none : Option Jvm.ClassFile.FieldType), Jvm.Cond.code ({ cls := "java/lang/String", name := "<init>", desc := "([BIII)V" } : Jvm.MethodName) jdk_42_method_7_code (7 : Nat) (Option.none : Option Jvm.ClassFile.FieldType), Jvm.Cond.code ({ cls := "java/lang/String", name := "checkBoundsOffCount", desc := "(III)I" } : Jvm.MethodName) jdk_42_method_157_code (3 : Nat) (Option.some Jvm.ClassFile.FieldType.int), Jvm.Cond.code ({ cls := "jdk/internal/util/Preconditions", name := "checkFromIndexSize", desc := "(IIILjava/util/function/BiFunction;)I" } : Jvm.MethodName) jdk_41_method_13_code (4 : Nat) (Option.some Jvm.ClassFile.FieldType.int), Jvm.Cond.code ({ cls := "java/util/Arrays", name := "copyOfRange", desc := "([BII)[B" } : Jvm.MethodName) jdk_65_method_132_code (3 : Nat) (Option.some (Jvm.ClassFile.FieldType.array Jvm.ClassFile.FieldType.byte)), Jvm.Cond.code ({ cls := "java/lang/AbstractStringBuilder", name := "newCapacity", desc := "(I)I" } : Jvm.MethodName) jdk_68_method_10_code (6 : Nat) (Option.some Jvm.ClassFile.FieldType.int), Jvm.Cond.code ({ cls := "jdk/internal/util/ArraysSupport", name := "newLength", desc := "(III)I" } : Jvm.MethodName) jdk_48_method_27_code (4 : Nat) (Option.some Jvm.ClassFile.FieldType.int), Jvm.Cond.code ({ cls := "java/lang/Math", name := "max", desc := "(II)I" } : Jvm.MethodName) jdk_29_method_65_code (2 : Nat) (Option.some Jvm.ClassFile.FieldType.int), Jvm.Cond.code ({ cls := "java/util/Arrays", name := "copyOf", desc := "([BI)[B" } : Jvm.MethodName) jdk_65_method_121_code (3 : Nat) (Option.some (Jvm.ClassFile.FieldType.array Jvm.ClassFile.FieldType.byte)), Jvm.Cond.code ({ cls := "java/lang/StringBuilder", name := "toString", desc := "()Ljava/lang/String;" } : Jvm.MethodName) jdk_67_method_42_code (1 : Nat) (Option.some (Jvm.ClassFile.FieldType.object "java/lang/String")), Jvm.Cond.code ({ cls := "java/lang/String", name := "<init>", desc := "(Ljava/lang/StringBuilder;)V" } : Jvm.MethodName) jdk_42_method_53_code (2 : Nat) (Option.none : Option Jvm.ClassFile.FieldType), Jvm.Cond.code ({ cls := "java/lang/String", name := "<init>", desc := "(Ljava/lang/AbstractStringBuilder;Ljava/lang/Void;)V" } : Jvm.MethodName) jdk_42_method_150_code (5 : Nat) (Option.none : Option Jvm.ClassFile.FieldType), Jvm.Cond.code ({ cls := "java/lang/AbstractStringBuilder", name := "getValue", desc := "()[B" } : Jvm.MethodName) jdk_68_method_64_code (1 : Nat) (Option.some (Jvm.ClassFile.FieldType.array Jvm.ClassFile.FieldType.byte)), Jvm.Cond.code ({ cls := "java/lang/StringBuilder", name := "length", desc := "()I" } : Jvm.MethodName) jdk_67_method_93_code (1 : Nat) (Option.some Jvm.ClassFile.FieldType.int), Jvm.Cond.code ({ cls := "java/lang/AbstractStringBuilder", name := "length", desc := "()I" } : Jvm.MethodName) jdk_68_method_6_code (1 : Nat) (Option.some Jvm.ClassFile.FieldType.int), Jvm.Cond.code ({ cls := "java/lang/AbstractStringBuilder", name := "isLatin1", desc := "()Z" } : Jvm.MethodName) jdk_68_method_68_code (1 : Nat) (Option.some Jvm.ClassFile.FieldType.boolean), Jvm.Cond.code ({ cls := "java/lang/String", name := "charAt", desc := "(I)C" } : Jvm.MethodName) jdk_42_method_56_code (2 : Nat) (Option.some Jvm.ClassFile.FieldType.char), Jvm.Cond.code ({ cls := "java/lang/String", name := "isLatin1", desc := "()Z" } : Jvm.MethodName) jdk_42_method_154_code (1 : Nat) (Option.some Jvm.ClassFile.FieldType.boolean), Jvm.Cond.code ({ cls := "java/lang/StringLatin1", name := "charAt", desc := "([BI)C" } : Jvm.MethodName) jdk_43_method_2_code (2 : Nat) (Option.some Jvm.ClassFile.FieldType.char), Jvm.Cond.code ({ cls := "java/lang/String", name := "checkIndex", desc := "(II)V" } : Jvm.MethodName) jdk_42_method_155_code (2 : Nat) (Option.none : Option Jvm.ClassFile.FieldType), Jvm.Cond.code ({ cls := "jdk/internal/util/Preconditions", name := "checkIndex", desc := "(IILjava/util/function/BiFunction;)I" } : Jvm.MethodName) jdk_41_method_11_code (3 : Nat) (Option.some Jvm.ClassFile.FieldType.int), Jvm.Cond.code ({ cls := "com/example/hookwright/hookwright/signing/StandardWebhooksSignatureSecretPinLaw", name := "u", desc := "([BI)I" } : Jvm.MethodName) method_4_code (2 : Nat) (Option.some Jvm.ClassFile.FieldType.int), Jvm.Cond.code ({ cls := "com/example/hookwright/hookwright/signing/StandardWebhooksSignatureSecretPinLaw", name := "full", desc := "(Ljava/lang/String;IIII)Z" } : Jvm.MethodName) method_6_code (6 : Nat) (Option.some Jvm.ClassFile.FieldType.boolean), Jvm.Cond.code ({ cls := "com/example/hookwright/hookwright/signing/StandardWebhooksSignatureSecretPinLaw", name := "enc", desc := "(I)C" } : Jvm.MethodName) method_5_code (1 : Nat) (Option.some Jvm.ClassFile.FieldType.char), Jvm.Cond.code ({ cls := "java/util/Objects", name := "requireNonNull", desc := "(Ljava/lang/Object;Ljava/lang/String;)Ljava/lang/Object;" } : Jvm.MethodName) jdk_31_method_11_code (2 : Nat) (Option.some (Jvm.ClassFile.FieldType.object "java/lang/Object")), Jvm.Cond.code ({ cls := "java/lang/String", name := "startsWith", desc := "(Ljava/lang/String;)Z" } : Jvm.MethodName) jdk_42_method_76_code (2 : Nat) (Option.some Jvm.ClassFile.FieldType.boolean), Jvm.Cond.code ({ cls := "java/lang/String", name := "startsWith", desc := "(Ljava/lang/String;I)Z" } : Jvm.MethodName) jdk_42_method_75_code (8 : Nat) (Option.some Jvm.ClassFile.FieldType.boolean), Jvm.Cond.code ({ cls := "jdk/internal/util/ArraysSupport", name := "mismatch", desc := "([BI[BII)I" } : Jvm.MethodName) jdk_48_method_14_code (8 : Nat) (Option.some Jvm.ClassFile.FieldType.int), Jvm.Cond.code ({ cls := "java/lang/String", name := "substring", desc := "(I)Ljava/lang/String;" } : Jvm.MethodName) jdk_42_method_91_code (2 : Nat) (Option.some (Jvm.ClassFile.FieldType.object "java/lang/String")), Jvm.Cond.code ({ cls := "java/lang/String", name := "substring", desc := "(II)Ljava/lang/String;" } : Jvm.MethodName) jdk_42_method_92_code (5 : Nat) (Option.some (Jvm.ClassFile.FieldType.object "java/lang/String")), Jvm.Cond.code ({ cls := "java/lang/String", name := "checkBoundsBeginEnd", desc := "(III)V" } : Jvm.MethodName) jdk_42_method_158_code (3 : Nat) (Option.none : Option Jvm.ClassFile.FieldType), Jvm.Cond.code ({ cls := "jdk/internal/util/Preconditions", name := "checkFromToIndex", desc := "(IIILjava/util/function/BiFunction;)I" } : Jvm.MethodName) jdk_41_method_12_code (4 : Nat) (Option.some Jvm.ClassFile.FieldType.int), Jvm.Cond.code ({ cls := "java/lang/StringLatin1", name := "newString", desc := "([BII)Ljava/lang/String;" } : Jvm.MethodName) jdk_43_method_47_code (3 : Nat) (Option.some (Jvm.ClassFile.FieldType.object "java/lang/String")), Jvm.Cond.code ({ cls := "java/util/Arrays", name := "copyOfRangeByte", desc := "([BII)[B" } : Jvm.MethodName) jdk_65_method_133_code (5 : Nat) (Option.some (Jvm.ClassFile.FieldType.array Jvm.ClassFile.FieldType.byte)), Jvm.Cond.code ({ cls := "java/util/Arrays", name := "checkLength", desc := "(II)V" } : Jvm.MethodName) jdk_65_method_131_code (2 : Nat) (Option.none : Option Jvm.ClassFile.FieldType), Jvm.Cond.code ({ cls := "java/lang/String", name := "<init>", desc := "([BB)V" } : Jvm.MethodName) jdk_42_method_151_code (3 : Nat) (Option.none : Option Jvm.ClassFile.FieldType), Jvm.Cond.code ({ cls := "java/util/Base64", name := "getDecoder", desc := "()Ljava/util/Base64$Decoder;" } : Jvm.MethodName) jdk_2448_method_6_code (0 : Nat) (Option.some (Jvm.ClassFile.FieldType.object "java/util/Base64$Decoder")), Jvm.Cond.code ({ cls := "java/util/Base64$Decoder", name := "decode", desc := "(Ljava/lang/String;)[B" } : Jvm.MethodName) jdk_2450_method_3_code (2 : Nat) (Option.some (Jvm.ClassFile.FieldType.array Jvm.ClassFile.FieldType.byte)), Jvm.Cond.code ({ cls := "java/lang/String", name := "getBytes", desc := "(Ljava/nio/charset/Charset;)[B" } : Jvm.MethodName) jdk_42_method_64_code (2 : Nat) (Option.some (Jvm.ClassFile.FieldType.array Jvm.ClassFile.FieldType.byte)), Jvm.Cond.code ({ cls := "java/lang/String", name := "encode", desc := "(Ljava/nio/charset/Charset;B[B)[B" } : Jvm.MethodName) jdk_42_method_18_code (3 : Nat) (Option.some (Jvm.ClassFile.FieldType.array Jvm.ClassFile.FieldType.byte)), Jvm.Cond.code ({ cls := "java/lang/String", name := "encode8859_1", desc := "(B[B)[B" } : Jvm.MethodName) jdk_42_method_26_code (2 : Nat) (Option.some (Jvm.ClassFile.FieldType.array Jvm.ClassFile.FieldType.byte)), Jvm.Cond.code ({ cls := "java/lang/String", name := "encode8859_1", desc := "(B[BZ)[B" } : Jvm.MethodName) jdk_42_method_27_code (10 : Nat) (Option.some (Jvm.ClassFile.FieldType.array Jvm.ClassFile.FieldType.byte)), Jvm.Cond.code ({ cls := "java/util/Base64$Decoder", name := "decode", desc := "([B)[B" } : Jvm.MethodName) jdk_2450_method_2_code (4 : Nat) (Option.some (Jvm.ClassFile.FieldType.array Jvm.ClassFile.FieldType.byte)), Jvm.Cond.code ({ cls := "java/util/Base64$Decoder", name := "decodedOutLength", desc := "([BII)I" } : Jvm.MethodName) jdk_2450_method_7_code (9 : Nat) (Option.some Jvm.ClassFile.FieldType.int), Jvm.Cond.code ({ cls := "java/util/Base64$Decoder", name := "decode0", desc := "([BII[B)I" } : Jvm.MethodName) jdk_2450_method_9_code (11 : Nat) (Option.some Jvm.ClassFile.FieldType.int), Jvm.Cond.code ({ cls := "java/util/Base64$Decoder", name := "decodeBlock", desc := "([BII[BIZZ)I" } : Jvm.MethodName) jdk_2450_method_8_code (16 : Nat) (Option.some Jvm.ClassFile.FieldType.int), Jvm.Cond.code ({ cls := "java/lang/String", name := "equals", desc := "(Ljava/lang/Object;)Z" } : Jvm.MethodName) jdk_42_method_66_code (3 : Nat) (Option.some Jvm.ClassFile.FieldType.boolean), Jvm.Cond.code ({ cls := "java/lang/StringLatin1", name := "equals", desc := "([B[B)Z" } : Jvm.MethodName) jdk_43_method_13_code (3 : Nat) (Option.some Jvm.ClassFile.FieldType.boolean)]
set_option maxRecDepth 65536 in
theorem codes_eq : words1.filter isCode = codes1 := rfl
theorem w_codes : ∀ c ∈ words1.filter isCode, c.before args0 about1 = true := by
  rw [codes_eq]
  intro c hc
  simp only [codes1, List.mem_cons, List.not_mem_nil, or_false] at hc
  rcases hc with rfl | rfl | rfl | rfl | rfl | rfl | rfl | rfl | rfl | rfl | rfl | rfl | rfl | rfl | rfl | rfl | rfl | rfl | rfl | rfl | rfl | rfl | rfl | rfl | rfl | rfl | rfl | rfl | rfl | rfl | rfl | rfl | rfl | rfl | rfl | rfl | rfl | rfl | rfl | rfl | rfl | rfl | rfl | rfl | rfl | rfl | rfl | rfl | rfl | rfl | rfl | rfl | rfl | rfl | rfl | rfl | rfl | rfl | rfl | rfl | rfl | rfl | rfl | rfl | rfl | rfl | rfl | rfl | rfl
  · exact w_c0
  · exact w_c1
  · exact w_c2
  · exact w_c3
  · exact w_c4
  · exact w_c5
  · exact w_c6
  · exact w_c7
  · exact w_c8
  · exact w_c9
  · exact w_c10
  · exact w_c11
  · exact w_c12
  · exact w_c13
  · exact w_c14
  · exact w_c15
  · exact w_c16
  · exact w_c17
  · exact w_c18
  · exact w_c19
  · exact w_c20
  · exact w_c21
  · exact w_c22
  · exact w_c23
  · exact w_c24
  · exact w_c25
  · exact w_c26
  · exact w_c27
  · exact w_c28
  · exact w_c29
  · exact w_c30
  · exact w_c31
  · exact w_c32
  · exact w_c33
  · exact w_c34
  · exact w_c35
  · exact w_c36
  · exact w_c37
  · exact w_c38
  · exact w_c39
  · exact w_c40
  · exact w_c41
  · exact w_c42
  · exact w_c43
  · exact w_c44
  · exact w_c45
  · exact w_c46
  · exact w_c47
  · exact w_c48
  · exact w_c49
  · exact w_c50
  · exact w_c51
  · exact w_c52
  · exact w_c53
  · exact w_c54
  · exact w_c55
  · exact w_c56
  · exact w_c57
  · exact w_c58
  · exact w_c59
  · exact w_c60
  · exact w_c61
  · exact w_c62
  · exact w_c63
  · exact w_c64
  · exact w_c65
  · exact w_c66
  · exact w_c67
  · exact w_c68
set_option maxRecDepth 65536 in
theorem w_t1 : (words1.take 24).all (fun c => isCode c || c.before args0 about1) = true := by decide +kernel
set_option maxRecDepth 65536 in
theorem w_t2 : ((words1.drop 24).take 24).all (fun c => isCode c || c.before args0 about1) = true := by decide +kernel
set_option maxRecDepth 65536 in
theorem w_t3 : (((words1.drop 24).drop 24).take 24).all (fun c => isCode c || c.before args0 about1) = true := by decide +kernel
set_option maxRecDepth 65536 in
theorem w_t4 : ((((words1.drop 24).drop 24).drop 24).take 24).all (fun c => isCode c || c.before args0 about1) = true := by decide +kernel
set_option maxRecDepth 65536 in
theorem w_t5 : (((((words1.drop 24).drop 24).drop 24).drop 24).take 24).all (fun c => isCode c || c.before args0 about1) = true := by decide +kernel
set_option maxRecDepth 65536 in
theorem w_t6 : ((((((words1.drop 24).drop 24).drop 24).drop 24).drop 24).take 24).all (fun c => isCode c || c.before args0 about1) = true := by decide +kernel
set_option maxRecDepth 65536 in
theorem w_t7 : (((((((words1.drop 24).drop 24).drop 24).drop 24).drop 24).drop 24).take 24).all (fun c => isCode c || c.before args0 about1) = true := by decide +kernel
set_option maxRecDepth 65536 in
theorem w_t8 : ((((((((words1.drop 24).drop 24).drop 24).drop 24).drop 24).drop 24).drop 24).take 24).all (fun c => isCode c || c.before args0 about1) = true := by decide +kernel
set_option maxRecDepth 65536 in
theorem w_t9 : (((((((((words1.drop 24).drop 24).drop 24).drop 24).drop 24).drop 24).drop 24).drop 24).take 24).all (fun c => isCode c || c.before args0 about1) = true := by decide +kernel
set_option maxRecDepth 65536 in
theorem w_t10 : ((((((((((words1.drop 24).drop 24).drop 24).drop 24).drop 24).drop 24).drop 24).drop 24).drop 24).take 24).all (fun c => isCode c || c.before args0 about1) = true := by decide +kernel
set_option maxRecDepth 65536 in
theorem w_t11 : (((((((((((words1.drop 24).drop 24).drop 24).drop 24).drop 24).drop 24).drop 24).drop 24).drop 24).drop 24).take 24).all (fun c => isCode c || c.before args0 about1) = true := by decide +kernel
set_option maxRecDepth 65536 in
theorem w_t12 : ((((((((((((words1.drop 24).drop 24).drop 24).drop 24).drop 24).drop 24).drop 24).drop 24).drop 24).drop 24).drop 24).take 24).all (fun c => isCode c || c.before args0 about1) = true := by decide +kernel
set_option maxRecDepth 65536 in
theorem w_t13 : (((((((((((((words1.drop 24).drop 24).drop 24).drop 24).drop 24).drop 24).drop 24).drop 24).drop 24).drop 24).drop 24).drop 24).take 24).all (fun c => isCode c || c.before args0 about1) = true := by decide +kernel
set_option maxRecDepth 65536 in
theorem w_t14 : ((((((((((((((words1.drop 24).drop 24).drop 24).drop 24).drop 24).drop 24).drop 24).drop 24).drop 24).drop 24).drop 24).drop 24).drop 24).take 24).all (fun c => isCode c || c.before args0 about1) = true := by decide +kernel
set_option maxRecDepth 65536 in
theorem w_t15 : (((((((((((((((words1.drop 24).drop 24).drop 24).drop 24).drop 24).drop 24).drop 24).drop 24).drop 24).drop 24).drop 24).drop 24).drop 24).drop 24).take 24).all (fun c => isCode c || c.before args0 about1) = true := by decide +kernel
set_option maxRecDepth 65536 in
theorem w_t16 : (((((((((((((((words1.drop 24).drop 24).drop 24).drop 24).drop 24).drop 24).drop 24).drop 24).drop 24).drop 24).drop 24).drop 24).drop 24).drop 24).drop 24).all (fun c => isCode c || c.before args0 about1) = true := by decide +kernel
theorem w_tables : (allAtoms (Jvm.Cond.code x code maxLocals ret :: tables_1)).before args0 about1 = true := by
  rw [allAtoms_all]
  show words1.all (fun c => c.before args0 about1) = true
  refine all_split ?_ w_codes
  rw [← List.take_append_drop 24 words1, List.all_append, w_t1, ← List.take_append_drop 24 (words1.drop 24), List.all_append, w_t2, ← List.take_append_drop 24 ((words1.drop 24).drop 24), List.all_append, w_t3, ← List.take_append_drop 24 (((words1.drop 24).drop 24).drop 24), List.all_append, w_t4, ← List.take_append_drop 24 ((((words1.drop 24).drop 24).drop 24).drop 24), List.all_append, w_t5, ← List.take_append_drop 24 (((((words1.drop 24).drop 24).drop 24).drop 24).drop 24), List.all_append, w_t6, ← List.take_append_drop 24 ((((((words1.drop 24).drop 24).drop 24).drop 24).drop 24).drop 24), List.all_append, w_t7, ← List.take_append_drop 24 (((((((words1.drop 24).drop 24).drop 24).drop 24).drop 24).drop 24).drop 24), List.all_append, w_t8, ← List.take_append_drop 24 ((((((((words1.drop 24).drop 24).drop 24).drop 24).drop 24).drop 24).drop 24).drop 24), List.all_append, w_t9, ← List.take_append_drop 24 (((((((((words1.drop 24).drop 24).drop 24).drop 24).drop 24).drop 24).drop 24).drop 24).drop 24), List.all_append, w_t10, ← List.take_append_drop 24 ((((((((((words1.drop 24).drop 24).drop 24).drop 24).drop 24).drop 24).drop 24).drop 24).drop 24).drop 24), List.all_append, w_t11, ← List.take_append_drop 24 (((((((((((words1.drop 24).drop 24).drop 24).drop 24).drop 24).drop 24).drop 24).drop 24).drop 24).drop 24).drop 24), List.all_append, w_t12, ← List.take_append_drop 24 ((((((((((((words1.drop 24).drop 24).drop 24).drop 24).drop 24).drop 24).drop 24).drop 24).drop 24).drop 24).drop 24).drop 24), List.all_append, w_t13, ← List.take_append_drop 24 (((((((((((((words1.drop 24).drop 24).drop 24).drop 24).drop 24).drop 24).drop 24).drop 24).drop 24).drop 24).drop 24).drop 24).drop 24), List.all_append, w_t14, ← List.take_append_drop 24 ((((((((((((((words1.drop 24).drop 24).drop 24).drop 24).drop 24).drop 24).drop 24).drop 24).drop 24).drop 24).drop 24).drop 24).drop 24).drop 24), List.all_append, w_t15, w_t16]
  rfl
set_option maxRecDepth 65536 in
theorem w_rest : rest_1_c.before args0 about1 = true := by decide +kernel
set_option maxRecDepth 65536 in
theorem w_case : (Jvm.Cond.and given_1 narrow_1).before args0 about1 = true := by decide +kernel
set_option maxRecDepth 65536 in
theorem w_consts : constsHeld consts_1 about1 := Jvm.Lit.constsHeldB_iff.mp (by decide +kernel)
theorem w_applies : (headSpec (Jvm.Cond.code x code maxLocals ret :: tables_1) room_1).applies x e0.platform about1 = true :=
  (Spec.applies_iff w_frames).mpr ⟨w_running, w_runnable, w_alone, w_named, w_hears, w_ripe, w_room, w_tables⟩
theorem atStart : AtStart classFile x code maxLocals ret World_1 tables_1 room_1 Calls_1 rest_1 Pre_1 launch0 p0 e0 about1 theMethod args0 below0 :=
  ⟨lists_1, trivial, launch0.admits_env _ _ _, launch0.least_env, fairChoices_fair.cas, fairChoices_fair.clock, w_frames, w_args, w_heap, w_applies, ⟨w_consts, trivial⟩, w_rest, w_case⟩
end start1
theorem witness_1 : WitnessClaimed_1 := ⟨start1.p0, start1.e0, start1.about1, start1.theMethod, start1.args0, start1.below0, start1.atStart⟩
end Jvm.Pilot.@@N@@
