import JvmDerived
import JvmDerived.Pilot.@@N@@Statement
import JvmDerived.Pilot.@@N@@Code
set_option linter.unusedVariables false
set_option linter.unusedSimpArgs false
namespace Jvm.RoadKit
open Sem ClassFile Op Lib Jvm.Stand Jvm.Free Jvm.LawKit
section New
variable {p : Program} {l : Launch} {e : Env} {R : Room} {s : State} {m : MethodId} {args : Array Value} {below : List Frame} {meth : Method} {c : Code} {T : State} {locs : List Loc} {cells slots : Nat}
theorem retI (X : Stand p l e R s m args below meth c T locs cells slots) (hx : p.tables.exec = Jvm.exec) {pc : Nat} {Ls : Array Slot} {z : Int32} {rest : List Value} (hret : meth.sig.returnType = some .int) (hd : decode c.code pc = .ok (.ireturn, 1)) {fs : List Frame}
    (hl : ∀ (f : JFrame) (acts : List Action), f.method = m → f.locked = none → f.entered = [] → (doReturn e (T.setTop f) acts (some (.int z))).1 = T.setFrames fs) : Steps p.tables e below (T.setTop (mkF m pc Ls (.int z :: rest))) (T.setFrames fs) := by
  have hm' : T.vm.method? m = some meth := X.method'
  have hn : narrow .int (.int z) = .int z := rfl
  show Steps p.tables e below (T.setTop { method := m, pc := pc, locals := Ls, stack := _ :: rest, locked := none }) _
  jvm_step X.here [X.here.top, hx, hd, hm', hret, hn]
  first | (intro acts; rw [hl _ acts rfl rfl rfl]) | rw [hl _ _ rfl rfl rfl]
  exact Steps.refl _
end New
end Jvm.RoadKit
namespace Jvm.Pilot.@@N@@.OwnW
open Jvm Jvm.ClassFile Sem Op Lib Jvm.Free Jvm.Stand Jvm.LawKit Jvm.RoadKit
section OwnBase
variable {p : Program} {l : Launch} {e : Env} {R : Room} {s : State} {m : MethodId} {args : Array Value} {below : List Frame} {meth : Method} {c : Code} {Z : State} {own nm : String} {bs : ByteArray} {ml : Nat} {rt : Option FieldType} {n0 : Nat} {Q : Option Value → Heap → Prop} {h : Heap} {cells slots pc : Nat} {L : Array Slot} {st : List Value} {a0 : Array Value}
/-- what is known throughout a body's walk -/
def Ctx (p : Program) (l : Launch) (e : Env) (R : Room) (s : State) (m : MethodId) (args : Array Value) (below : List Frame) (meth : Method) (c : Code) (Z : State) (own nm : String) (bs : ByteArray) (ml : Nat) (rt : Option FieldType) : Prop :=
  p.tables.exec = Jvm.exec ∧ c.code = bs ∧ Z.Warmed39 s.vm ∧ s.vm.findClass own = some m.cls ∧ c.maxLocals = ml ∧ meth.sig.returnType = rt ∧ meth.locks = false ∧ meth.name = nm
/-- from here the body comes to its end, and Q holds there -/
def Go (p : Program) (l : Launch) (e : Env) (R : Room) (s : State) (m : MethodId) (args : Array Value) (below : List Frame) (meth : Method) (c : Code) (n0 : Nat) (Q : Option Value → Heap → Prop) (h : Heap) (cells slots pc : Nat) (L : Array Slot) (st : List Value) : Prop :=
  ∀ (T : State) (locs : List Loc), Stand p l e R s m args below meth c T locs cells slots → T.heap = h → Fr n0 locs →
    ∃ (s2 : State) (v : Option Value) (L' : List Loc), Steps p.tables e below (T.setTop (mkF m pc L st)) s2 ∧ s2.status = .running ∧ Ended s2 below (.returned v) ∧ Q v s2.heap ∧ Fr n0 L' ∧ s.WarmedH s2.vm ∧ s.sameButNew ({ s2 with vm := s.vm } : State) L' R.cells R.slots
/-- the contract of a body at given arguments and a given heap -/
def Met (l : Launch) (Z : State) (y : MethodName) (bs : ByteArray) (ml : Nat) (rt : Option FieldType) (rm : Room) (as : Array Value) (h0 : Heap) (n0 : Nat) (Q : Option Value → Heap → Prop) : Prop :=
  ∀ ws : List Jvm.Cond, MetFree l y (head1 (Jvm.Cond.code y bs ml rt :: ws) rm) (fun a U => a = as ∧ Z.Warmed39 U.vm ∧ U.heap = h0) (fun _ _ _ _ _ => True) (fun _ U o U' => ∃ v L, o = .returned v ∧ (Q v U'.heap ∧ Fr n0 L) ∧ FrameEnd U o U' L rm.cells rm.slots)
def qI (P : Int32 → Heap → Prop) : Option Value → Heap → Prop := fun v h => ∃ r, v = some (.int r) ∧ P r h
def qJ (P : Int64 → Heap → Prop) : Option Value → Heap → Prop := fun v h => ∃ r, v = some (.long r) ∧ P r h
def qA (P : Addr → Heap → Prop) : Option Value → Heap → Prop := fun v h => ∃ r, v = some (.ref r) ∧ P r h
def qV (P : Heap → Prop) : Option Value → Heap → Prop := fun v h => v = none ∧ P h
theorem met {y : MethodName} {rm : Room} {as : Array Value} {h0 : Heap} (hpf : plainFor y = true) (L0 : Array Slot) (hE : ∀ m, entryFrame m as ml = mkF m 0 L0 [])
    (body : ∀ (p : Program) (e : Env) (s : State) (m : MethodId) (below : List Frame) (meth : Method) (c : Code), Ctx p l e rm s m as below meth c Z y.cls y.name bs ml rt → Go p l e rm s m as below meth c n0 Q h0 0 0 0 L0 []) : Met l Z y bs ml rt rm as h0 n0 Q := by
  intro ws
  refine MetFree.of_bodySF hpf hisR ?_
  intro p e s m args below meth c s1 Bd hml0 hP hK
  obtain ⟨rfl, hZ, hh⟩ := hP
  have e0 : s1.heap = h0 := by rw [← hh, Bd.state]; rfl
  obtain ⟨s2, v, L', a, b, d, q, fr, w, sm⟩ := body p e s m below meth c ⟨Bd.exec, Bd.bytes, hZ, findClass_of_methodNamed Bd.named, hml0, Bd.returns, Bd.notSynchronized, (name_of_methodNamed Bd.named Bd.method).1⟩ s1 [] (Stand.of_body Bd) e0 (Fr.nil n0)
  exact ⟨s2, _, castTop (hE m) a, b, d, v, L', rfl, ⟨q, fr⟩, ⟨v, rfl⟩, w, sm⟩
theorem step {pc' : Nat} {L' : Array Slot} {st' : List Value}
    (k : ∀ (T : State) (locs : List Loc), Stand p l e R s m args below meth c T locs cells slots → T.heap = h → ∀ t, Steps p.tables e below (T.setTop (mkF m pc' L' st')) t → Steps p.tables e below (T.setTop (mkF m pc L st)) t)
    (g : Go p l e R s m args below meth c n0 Q h cells slots pc' L' st') : Go p l e R s m args below meth c n0 Q h cells slots pc L st := fun T locs X eh N => by
  obtain ⟨s2, v, L', a, b⟩ := g T locs X eh N
  exact ⟨s2, v, L', k T locs X eh _ a, b⟩
def ush (x y : Int32) : Int32 := (x.toUInt32 >>> (y &&& 31).toUInt32).toInt32
def ushL (x : Int64) (y : Int32) : Int64 := (x.toUInt64 >>> (y &&& 0x3f).toInt64.toUInt64).toInt64
def shlL (x : Int64) (y : Int32) : Int64 := x <<< (y &&& 0x3f).toInt64
theorem g_iadd (C : Ctx p l e R s m args below meth c Z own nm bs ml rt) {x y : Int32} (hd : decode bs pc = .ok (.iadd, 1)) (pc' : Nat) (hp : pc' = pc + 1) (g : Go p l e R s m args below meth c n0 Q h cells slots pc' L (.int (x + y) :: st)) : Go p l e R s m args below meth c n0 Q h cells slots pc L (.int y :: .int x :: st) := by
  subst hp
  exact step (fun T locs X _ t k => XS.iadd X.here C.1 rfl (hb C.2.1 hd) rfl k) g
theorem g_isub (C : Ctx p l e R s m args below meth c Z own nm bs ml rt) {x y : Int32} (hd : decode bs pc = .ok (.isub, 1)) (pc' : Nat) (hp : pc' = pc + 1) (g : Go p l e R s m args below meth c n0 Q h cells slots pc' L (.int (x - y) :: st)) : Go p l e R s m args below meth c n0 Q h cells slots pc L (.int y :: .int x :: st) := by
  subst hp
  exact step (fun T locs X _ t k => XS.isub X.here C.1 rfl (hb C.2.1 hd) rfl k) g
theorem g_imul (C : Ctx p l e R s m args below meth c Z own nm bs ml rt) {x y : Int32} (hd : decode bs pc = .ok (.imul, 1)) (pc' : Nat) (hp : pc' = pc + 1) (g : Go p l e R s m args below meth c n0 Q h cells slots pc' L (.int (x * y) :: st)) : Go p l e R s m args below meth c n0 Q h cells slots pc L (.int y :: .int x :: st) := by
  subst hp
  exact step (fun T locs X _ t k => XS.imul X.here C.1 rfl (hb C.2.1 hd) rfl k) g
theorem g_iand (C : Ctx p l e R s m args below meth c Z own nm bs ml rt) {x y : Int32} (hd : decode bs pc = .ok (.iand, 1)) (pc' : Nat) (hp : pc' = pc + 1) (g : Go p l e R s m args below meth c n0 Q h cells slots pc' L (.int (x &&& y) :: st)) : Go p l e R s m args below meth c n0 Q h cells slots pc L (.int y :: .int x :: st) := by
  subst hp
  exact step (fun T locs X _ t k => XS.iand X.here C.1 rfl (hb C.2.1 hd) rfl k) g
theorem g_ior (C : Ctx p l e R s m args below meth c Z own nm bs ml rt) {x y : Int32} (hd : decode bs pc = .ok (.ior, 1)) (pc' : Nat) (hp : pc' = pc + 1) (g : Go p l e R s m args below meth c n0 Q h cells slots pc' L (.int (x ||| y) :: st)) : Go p l e R s m args below meth c n0 Q h cells slots pc L (.int y :: .int x :: st) := by
  subst hp
  exact step (fun T locs X _ t k => XS.ior X.here C.1 rfl (hb C.2.1 hd) rfl k) g
theorem g_ixor (C : Ctx p l e R s m args below meth c Z own nm bs ml rt) {x y : Int32} (hd : decode bs pc = .ok (.ixor, 1)) (pc' : Nat) (hp : pc' = pc + 1) (g : Go p l e R s m args below meth c n0 Q h cells slots pc' L (.int (x ^^^ y) :: st)) : Go p l e R s m args below meth c n0 Q h cells slots pc L (.int y :: .int x :: st) := by
  subst hp
  exact step (fun T locs X _ t k => XS.ixor X.here C.1 rfl (hb C.2.1 hd) rfl k) g
theorem g_ishl (C : Ctx p l e R s m args below meth c Z own nm bs ml rt) {x y : Int32} (hd : decode bs pc = .ok (.ishl, 1)) (pc' : Nat) (hp : pc' = pc + 1) (g : Go p l e R s m args below meth c n0 Q h cells slots pc' L (.int (x <<< (y &&& 31)) :: st)) : Go p l e R s m args below meth c n0 Q h cells slots pc L (.int y :: .int x :: st) := by
  subst hp
  exact step (fun T locs X _ t k => XS.ishl X.here C.1 rfl (hb C.2.1 hd) rfl k) g
theorem g_ishr (C : Ctx p l e R s m args below meth c Z own nm bs ml rt) {x y : Int32} (hd : decode bs pc = .ok (.ishr, 1)) (pc' : Nat) (hp : pc' = pc + 1) (g : Go p l e R s m args below meth c n0 Q h cells slots pc' L (.int (x >>> (y &&& 31)) :: st)) : Go p l e R s m args below meth c n0 Q h cells slots pc L (.int y :: .int x :: st) := by
  subst hp
  exact step (fun T locs X _ t k => XS.ishr X.here C.1 rfl (hb C.2.1 hd) rfl k) g
theorem g_iushr (C : Ctx p l e R s m args below meth c Z own nm bs ml rt) {x y : Int32} (hd : decode bs pc = .ok (.iushr, 1)) (pc' : Nat) (hp : pc' = pc + 1) (g : Go p l e R s m args below meth c n0 Q h cells slots pc' L (.int (ush x y) :: st)) : Go p l e R s m args below meth c n0 Q h cells slots pc L (.int y :: .int x :: st) := by
  subst hp
  exact step (fun T locs X _ t k => XS.iushr X.here C.1 rfl (hb C.2.1 hd) rfl k) g
theorem g_ladd (C : Ctx p l e R s m args below meth c Z own nm bs ml rt) {x y : Int64} (hd : decode bs pc = .ok (.ladd, 1)) (pc' : Nat) (hp : pc' = pc + 1) (g : Go p l e R s m args below meth c n0 Q h cells slots pc' L (.long (x + y) :: st)) : Go p l e R s m args below meth c n0 Q h cells slots pc L (.long y :: .long x :: st) := by
  subst hp
  exact step (fun T locs X _ t k => XS.ladd X.here C.1 rfl (hb C.2.1 hd) rfl k) g
theorem g_lsub (C : Ctx p l e R s m args below meth c Z own nm bs ml rt) {x y : Int64} (hd : decode bs pc = .ok (.lsub, 1)) (pc' : Nat) (hp : pc' = pc + 1) (g : Go p l e R s m args below meth c n0 Q h cells slots pc' L (.long (x - y) :: st)) : Go p l e R s m args below meth c n0 Q h cells slots pc L (.long y :: .long x :: st) := by
  subst hp
  exact step (fun T locs X _ t k => XS.lsub X.here C.1 rfl (hb C.2.1 hd) rfl k) g
theorem g_lmul (C : Ctx p l e R s m args below meth c Z own nm bs ml rt) {x y : Int64} (hd : decode bs pc = .ok (.lmul, 1)) (pc' : Nat) (hp : pc' = pc + 1) (g : Go p l e R s m args below meth c n0 Q h cells slots pc' L (.long (x * y) :: st)) : Go p l e R s m args below meth c n0 Q h cells slots pc L (.long y :: .long x :: st) := by
  subst hp
  exact step (fun T locs X _ t k => XS.lmul X.here C.1 rfl (hb C.2.1 hd) rfl k) g
theorem g_land (C : Ctx p l e R s m args below meth c Z own nm bs ml rt) {x y : Int64} (hd : decode bs pc = .ok (.land, 1)) (pc' : Nat) (hp : pc' = pc + 1) (g : Go p l e R s m args below meth c n0 Q h cells slots pc' L (.long (x &&& y) :: st)) : Go p l e R s m args below meth c n0 Q h cells slots pc L (.long y :: .long x :: st) := by
  subst hp
  exact step (fun T locs X _ t k => XS.land X.here C.1 rfl (hb C.2.1 hd) rfl k) g
theorem g_lor (C : Ctx p l e R s m args below meth c Z own nm bs ml rt) {x y : Int64} (hd : decode bs pc = .ok (.lor, 1)) (pc' : Nat) (hp : pc' = pc + 1) (g : Go p l e R s m args below meth c n0 Q h cells slots pc' L (.long (x ||| y) :: st)) : Go p l e R s m args below meth c n0 Q h cells slots pc L (.long y :: .long x :: st) := by
  subst hp
  exact step (fun T locs X _ t k => XS.lor X.here C.1 rfl (hb C.2.1 hd) rfl k) g
theorem g_lxor (C : Ctx p l e R s m args below meth c Z own nm bs ml rt) {x y : Int64} (hd : decode bs pc = .ok (.lxor, 1)) (pc' : Nat) (hp : pc' = pc + 1) (g : Go p l e R s m args below meth c n0 Q h cells slots pc' L (.long (x ^^^ y) :: st)) : Go p l e R s m args below meth c n0 Q h cells slots pc L (.long y :: .long x :: st) := by
  subst hp
  exact step (fun T locs X _ t k => XS.lxor X.here C.1 rfl (hb C.2.1 hd) rfl k) g
theorem g_lshl (C : Ctx p l e R s m args below meth c Z own nm bs ml rt) {x : Int64} {y : Int32} (hd : decode bs pc = .ok (.lshl, 1)) (pc' : Nat) (hp : pc' = pc + 1) (g : Go p l e R s m args below meth c n0 Q h cells slots pc' L (.long (shlL x y) :: st)) : Go p l e R s m args below meth c n0 Q h cells slots pc L (.int y :: .long x :: st) := by
  subst hp
  exact step (fun T locs X _ t k => XS.lshl X.here C.1 rfl (hb C.2.1 hd) rfl k) g
theorem g_lushr (C : Ctx p l e R s m args below meth c Z own nm bs ml rt) {x : Int64} {y : Int32} (hd : decode bs pc = .ok (.lushr, 1)) (pc' : Nat) (hp : pc' = pc + 1) (g : Go p l e R s m args below meth c n0 Q h cells slots pc' L (.long (ushL x y) :: st)) : Go p l e R s m args below meth c n0 Q h cells slots pc L (.int y :: .long x :: st) := by
  subst hp
  exact step (fun T locs X _ t k => XS.lushr X.here C.1 rfl (hb C.2.1 hd) rfl k) g
theorem g_i2l (C : Ctx p l e R s m args below meth c Z own nm bs ml rt) {x : Int32} (hd : decode bs pc = .ok (.i2l, 1)) (pc' : Nat) (hp : pc' = pc + 1) (g : Go p l e R s m args below meth c n0 Q h cells slots pc' L (.long x.toInt64 :: st)) : Go p l e R s m args below meth c n0 Q h cells slots pc L (.int x :: st) := by
  subst hp
  exact step (fun T locs X _ t k => XS.i2l X.here C.1 rfl (hb C.2.1 hd) rfl k) g
theorem g_i2b (C : Ctx p l e R s m args below meth c Z own nm bs ml rt) {x : Int32} (hd : decode bs pc = .ok (.i2b, 1)) (pc' : Nat) (hp : pc' = pc + 1) (g : Go p l e R s m args below meth c n0 Q h cells slots pc' L (.int x.toInt8.toInt32 :: st)) : Go p l e R s m args below meth c n0 Q h cells slots pc L (.int x :: st) := by
  subst hp
  exact step (fun T locs X _ t k => XS.i2b X.here C.1 rfl (hb C.2.1 hd) rfl k) g
theorem g_i2c (C : Ctx p l e R s m args below meth c Z own nm bs ml rt) {x : Int32} (hd : decode bs pc = .ok (.i2c, 1)) (pc' : Nat) (hp : pc' = pc + 1) (g : Go p l e R s m args below meth c n0 Q h cells slots pc' L (.int x.toUInt32.toUInt16.toUInt32.toInt32 :: st)) : Go p l e R s m args below meth c n0 Q h cells slots pc L (.int x :: st) := by
  subst hp
  exact step (fun T locs X _ t k => XS.i2c X.here C.1 rfl (hb C.2.1 hd) rfl k) g
theorem g_l2i (C : Ctx p l e R s m args below meth c Z own nm bs ml rt) {x : Int64} (hd : decode bs pc = .ok (.l2i, 1)) (pc' : Nat) (hp : pc' = pc + 1) (g : Go p l e R s m args below meth c n0 Q h cells slots pc' L (.int x.toInt32 :: st)) : Go p l e R s m args below meth c n0 Q h cells slots pc L (.long x :: st) := by
  subst hp
  exact step (fun T locs X _ t k => XS.l2i X.here C.1 rfl (hb C.2.1 hd) rfl k) g
theorem g_lneg (C : Ctx p l e R s m args below meth c Z own nm bs ml rt) {x : Int64} (hd : decode bs pc = .ok (.lneg, 1)) (pc' : Nat) (hp : pc' = pc + 1) (g : Go p l e R s m args below meth c n0 Q h cells slots pc' L (.long (-x) :: st)) : Go p l e R s m args below meth c n0 Q h cells slots pc L (.long x :: st) := by
  subst hp
  exact step (fun T locs X _ t k => XS.lneg X.here C.1 rfl (hb C.2.1 hd) rfl k) g
theorem g_irem (C : Ctx p l e R s m args below meth c Z own nm bs ml rt) {x y : Int32} (hd : decode bs pc = .ok (.irem, 1)) (pc' : Nat) (hp : pc' = pc + 1) (hy : y ≠ 0) (g : Go p l e R s m args below meth c n0 Q h cells slots pc' L (.int (x % y) :: st)) : Go p l e R s m args below meth c n0 Q h cells slots pc L (.int y :: .int x :: st) := by
  subst hp
  exact step (fun T locs X _ t k => iremM X C.1 rfl (hb C.2.1 hd) rfl hy k) g
theorem g_iconst (C : Ctx p l e R s m args below meth c Z own nm bs ml rt) {i : Int} (hd : decode bs pc = .ok (.iconst i, 1)) (pc' : Nat) (hp : pc' = pc + 1) (z : Int32) (hz : Int32.ofInt i = z) (g : Go p l e R s m args below meth c n0 Q h cells slots pc' L (.int z :: st)) : Go p l e R s m args below meth c n0 Q h cells slots pc L st := by
  subst hp hz
  exact step (fun T locs X _ t k => XS.iconst X.here C.1 rfl (hb C.2.1 hd) k) g
theorem g_bipush (C : Ctx p l e R s m args below meth c Z own nm bs ml rt) {i : Int} (hd : decode bs pc = .ok (.bipush i, 2)) (pc' : Nat) (hp : pc' = pc + 2) (z : Int32) (hz : (Int8.ofInt i).toInt32 = z) (g : Go p l e R s m args below meth c n0 Q h cells slots pc' L (.int z :: st)) : Go p l e R s m args below meth c n0 Q h cells slots pc L st := by
  subst hp hz
  exact step (fun T locs X _ t k => XS.bipush X.here C.1 rfl (hb C.2.1 hd) k) g
theorem g_sipush (C : Ctx p l e R s m args below meth c Z own nm bs ml rt) {i : Int} (hd : decode bs pc = .ok (.sipush i, 3)) (pc' : Nat) (hp : pc' = pc + 3) (z : Int32) (hz : (Int16.ofInt i).toInt32 = z) (g : Go p l e R s m args below meth c n0 Q h cells slots pc' L (.int z :: st)) : Go p l e R s m args below meth c n0 Q h cells slots pc L st := by
  subst hp hz
  exact step (fun T locs X _ t k => XS.sipush X.here C.1 rfl (hb C.2.1 hd) k) g
theorem g_lconst (C : Ctx p l e R s m args below meth c Z own nm bs ml rt) {i : Fin 2} (hd : decode bs pc = .ok (.lconst i, 1)) (pc' : Nat) (hp : pc' = pc + 1) (z : Int64) (hz : Int64.ofNat i = z) (g : Go p l e R s m args below meth c n0 Q h cells slots pc' L (.long z :: st)) : Go p l e R s m args below meth c n0 Q h cells slots pc L st := by
  subst hp hz
  exact step (fun T locs X _ t k => XS.lconst X.here C.1 rfl (hb C.2.1 hd) k) g
theorem g_aconst_null (C : Ctx p l e R s m args below meth c Z own nm bs ml rt)  (hd : decode bs pc = .ok (.aconst_null, 1)) (pc' : Nat) (hp : pc' = pc + 1) (g : Go p l e R s m args below meth c n0 Q h cells slots pc' L (.null :: st)) : Go p l e R s m args below meth c n0 Q h cells slots pc L st := by
  subst hp
  exact step (fun T locs X _ t k => XS.aconstNull X.here C.1 rfl (hb C.2.1 hd)  k) g
theorem g_ldc (C : Ctx p l e R s m args below meth c Z own nm bs ml rt) {i : Nat} {z : Int32} (w : (Jvm.Cond.constant own i z).before a0 Z = true) (hd : decode bs pc = .ok (.ldc i, 2)) (pc' : Nat) (hp : pc' = pc + 2) (g : Go p l e R s m args below meth c n0 Q h cells slots pc' L (.int z :: st)) : Go p l e R s m args below meth c n0 Q h cells slots pc L st := by
  subst hp
  exact step (fun T locs X _ t k => X.ldcInt C.1 C.2.2.2.1 (mvT C.2.2.1 w) (g := mkF m pc L st) rfl (hb C.2.1 hd) _ k) g
theorem g_ldc2_w (C : Ctx p l e R s m args below meth c Z own nm bs ml rt) {i : Nat} {z : Int64} (w : (Jvm.Cond.constantLong own i z).before a0 Z = true) (hd : decode bs pc = .ok (.ldc2_w i, 3)) (pc' : Nat) (hp : pc' = pc + 3) (g : Go p l e R s m args below meth c n0 Q h cells slots pc' L (.long z :: st)) : Go p l e R s m args below meth c n0 Q h cells slots pc L st := by
  subst hp
  exact step (fun T locs X _ t k => X.ldc2Long C.1 C.2.2.2.1 (mvT C.2.2.1 w) (g := mkF m pc L st) rfl (hb C.2.1 hd) _ k) g
theorem g_iload (C : Ctx p l e R s m args below meth c Z own nm bs ml rt) {k : Nat} {v : Int32} (hd : decode bs pc = .ok (.iload k, 2)) (pc' : Nat) (hp : pc' = pc + 2) (hl : L[k]? = some (.val (.int v))) (g : Go p l e R s m args below meth c n0 Q h cells slots pc' L (.int v :: st)) : Go p l e R s m args below meth c n0 Q h cells slots pc L st := by
  subst hp
  exact step (fun T locs X _ t k => XS.iload X.here C.1 rfl (hb C.2.1 hd) hl k) g
theorem g_iloadN (C : Ctx p l e R s m args below meth c Z own nm bs ml rt) {k : Fin 4} {v : Int32} (hd : decode bs pc = .ok (.iload_n k, 1)) (pc' : Nat) (hp : pc' = pc + 1) (hl : L[k.val]? = some (.val (.int v))) (g : Go p l e R s m args below meth c n0 Q h cells slots pc' L (.int v :: st)) : Go p l e R s m args below meth c n0 Q h cells slots pc L st := by
  subst hp
  exact step (fun T locs X _ t k => XS.iloadN X.here C.1 rfl (hb C.2.1 hd) hl k) g
theorem g_lload (C : Ctx p l e R s m args below meth c Z own nm bs ml rt) {k : Nat} {v : Int64} (hd : decode bs pc = .ok (.lload k, 2)) (pc' : Nat) (hp : pc' = pc + 2) (hl : L[k]? = some (.val (.long v))) (g : Go p l e R s m args below meth c n0 Q h cells slots pc' L (.long v :: st)) : Go p l e R s m args below meth c n0 Q h cells slots pc L st := by
  subst hp
  exact step (fun T locs X _ t k => XS.lload X.here C.1 rfl (hb C.2.1 hd) hl k) g
theorem g_lloadN (C : Ctx p l e R s m args below meth c Z own nm bs ml rt) {k : Fin 4} {v : Int64} (hd : decode bs pc = .ok (.lload_n k, 1)) (pc' : Nat) (hp : pc' = pc + 1) (hl : L[k.val]? = some (.val (.long v))) (g : Go p l e R s m args below meth c n0 Q h cells slots pc' L (.long v :: st)) : Go p l e R s m args below meth c n0 Q h cells slots pc L st := by
  subst hp
  exact step (fun T locs X _ t k => XS.lloadN X.here C.1 rfl (hb C.2.1 hd) hl k) g
theorem g_aload (C : Ctx p l e R s m args below meth c Z own nm bs ml rt) {k : Nat} {v : Value} (hd : decode bs pc = .ok (.aload k, 2)) (pc' : Nat) (hp : pc' = pc + 2) (hl : L[k]? = some (.val (v))) (hv : v.isRef = true) (g : Go p l e R s m args below meth c n0 Q h cells slots pc' L (v :: st)) : Go p l e R s m args below meth c n0 Q h cells slots pc L st := by
  subst hp
  exact step (fun T locs X _ t k => XS.aload X.here C.1 rfl (hb C.2.1 hd) hl hv k) g
theorem g_aloadN (C : Ctx p l e R s m args below meth c Z own nm bs ml rt) {k : Fin 4} {v : Value} (hd : decode bs pc = .ok (.aload_n k, 1)) (pc' : Nat) (hp : pc' = pc + 1) (hl : L[k.val]? = some (.val (v))) (hv : v.isRef = true) (g : Go p l e R s m args below meth c n0 Q h cells slots pc' L (v :: st)) : Go p l e R s m args below meth c n0 Q h cells slots pc L st := by
  subst hp
  exact step (fun T locs X _ t k => XS.aloadN X.here C.1 rfl (hb C.2.1 hd) hl hv k) g
theorem g_istore (C : Ctx p l e R s m args below meth c Z own nm bs ml rt) {k : Nat} {x : Int32} (hd : decode bs pc = .ok (.istore k, 2)) (pc' : Nat) (hp : pc' = pc + 2) (l' : Int32 → Array Slot) (hl : ∀ z, storeLocals L k (.int z) = some (l' z)) (g : ∀ z, z = x → Go p l e R s m args below meth c n0 Q h cells slots pc' (l' z) st) : Go p l e R s m args below meth c n0 Q h cells slots pc L (.int x :: st) := by
  subst hp
  exact step (fun T locs X _ t k => XS.istore X.here C.1 rfl (hb C.2.1 hd) rfl (hl x) k) (g x rfl)
theorem g_istoreN (C : Ctx p l e R s m args below meth c Z own nm bs ml rt) {k : Fin 4} {x : Int32} (hd : decode bs pc = .ok (.istore_n k, 1)) (pc' : Nat) (hp : pc' = pc + 1) (l' : Int32 → Array Slot) (hl : ∀ z, storeLocals L k.val (.int z) = some (l' z)) (g : ∀ z, z = x → Go p l e R s m args below meth c n0 Q h cells slots pc' (l' z) st) : Go p l e R s m args below meth c n0 Q h cells slots pc L (.int x :: st) := by
  subst hp
  exact step (fun T locs X _ t k => XS.istoreN X.here C.1 rfl (hb C.2.1 hd) rfl (hl x) k) (g x rfl)
theorem g_lstore (C : Ctx p l e R s m args below meth c Z own nm bs ml rt) {k : Nat} {x : Int64} (hd : decode bs pc = .ok (.lstore k, 2)) (pc' : Nat) (hp : pc' = pc + 2) (l' : Int64 → Array Slot) (hl : ∀ z, storeLocals L k (.long z) = some (l' z)) (g : ∀ z, z = x → Go p l e R s m args below meth c n0 Q h cells slots pc' (l' z) st) : Go p l e R s m args below meth c n0 Q h cells slots pc L (.long x :: st) := by
  subst hp
  exact step (fun T locs X _ t k => XS.lstore X.here C.1 rfl (hb C.2.1 hd) rfl (hl x) k) (g x rfl)
theorem g_lstoreN (C : Ctx p l e R s m args below meth c Z own nm bs ml rt) {k : Fin 4} {x : Int64} (hd : decode bs pc = .ok (.lstore_n k, 1)) (pc' : Nat) (hp : pc' = pc + 1) (l' : Int64 → Array Slot) (hl : ∀ z, storeLocals L k.val (.long z) = some (l' z)) (g : ∀ z, z = x → Go p l e R s m args below meth c n0 Q h cells slots pc' (l' z) st) : Go p l e R s m args below meth c n0 Q h cells slots pc L (.long x :: st) := by
  subst hp
  exact step (fun T locs X _ t k => XS.lstoreN X.here C.1 rfl (hb C.2.1 hd) rfl (hl x) k) (g x rfl)
theorem g_astore (C : Ctx p l e R s m args below meth c Z own nm bs ml rt) {k : Nat} {x : Value} (hd : decode bs pc = .ok (.astore k, 2)) (pc' : Nat) (hp : pc' = pc + 2) (l' : Array Slot) (hl : storeLocals L k x = some l') (hv : x.isRef = true) (g : Go p l e R s m args below meth c n0 Q h cells slots pc' l' st) : Go p l e R s m args below meth c n0 Q h cells slots pc L (x :: st) := by
  subst hp
  exact step (fun T locs X _ t k => XS.astore X.here C.1 rfl (hb C.2.1 hd) rfl hv hl k) g
theorem g_astoreN (C : Ctx p l e R s m args below meth c Z own nm bs ml rt) {k : Fin 4} {x : Value} (hd : decode bs pc = .ok (.astore_n k, 1)) (pc' : Nat) (hp : pc' = pc + 1) (l' : Array Slot) (hl : storeLocals L k.val x = some l') (hv : x.isRef = true) (g : Go p l e R s m args below meth c n0 Q h cells slots pc' l' st) : Go p l e R s m args below meth c n0 Q h cells slots pc L (x :: st) := by
  subst hp
  exact step (fun T locs X _ t k => XS.astoreN X.here C.1 rfl (hb C.2.1 hd) rfl hv hl k) g
theorem g_iinc (C : Ctx p l e R s m args below meth c Z own nm bs ml rt) {k : Nat} {i : Int} {x : Int32} (hd : decode bs pc = .ok (.iinc k i, 3)) (pc' : Nat) (hp : pc' = pc + 3) (hl0 : L[k]? = some (.val (.int x))) (d : Int32) (hz : Int32.ofInt i = d) (l' : Int32 → Array Slot) (hl : ∀ z, storeLocals L k (.int z) = some (l' z)) (g : ∀ z, z = x + d → Go p l e R s m args below meth c n0 Q h cells slots pc' (l' z) st) : Go p l e R s m args below meth c n0 Q h cells slots pc L st := by
  subst hp hz
  exact step (fun T locs X _ t k => XS.iinc X.here C.1 rfl (hb C.2.1 hd) hl0 (hl _) k) (g _ rfl)
theorem g_dup (C : Ctx p l e R s m args below meth c Z own nm bs ml rt) {x : Value} (hd : decode bs pc = .ok (.dup, 1)) (pc' : Nat) (hp : pc' = pc + 1) (hc : x.category = 1) (g : Go p l e R s m args below meth c n0 Q h cells slots pc' L (x :: x :: st)) : Go p l e R s m args below meth c n0 Q h cells slots pc L (x :: st) := by
  subst hp
  exact step (fun T locs X _ t k => XS.dup X.here C.1 rfl (hb C.2.1 hd) rfl hc k) g
theorem g_pop (C : Ctx p l e R s m args below meth c Z own nm bs ml rt) {x : Value} (hd : decode bs pc = .ok (.pop, 1)) (pc' : Nat) (hp : pc' = pc + 1) (hc : x.category = 1) (g : Go p l e R s m args below meth c n0 Q h cells slots pc' L st) : Go p l e R s m args below meth c n0 Q h cells slots pc L (x :: st) := by
  subst hp
  exact step (fun T locs X _ t k => XS.pop X.here C.1 rfl (hb C.2.1 hd) rfl hc k) g
theorem g_dup2 (C : Ctx p l e R s m args below meth c Z own nm bs ml rt) {x y : Value} (hd : decode bs pc = .ok (.dup2, 1)) (pc' : Nat) (hp : pc' = pc + 1) (hc : x.category = 1) (hc2 : y.category = 1) (g : Go p l e R s m args below meth c n0 Q h cells slots pc' L (x :: y :: x :: y :: st)) : Go p l e R s m args below meth c n0 Q h cells slots pc L (x :: y :: st) := by
  subst hp
  exact step (fun T locs X _ t k => XT.dup2 X.here C.1 rfl (hb C.2.1 hd) rfl hc hc2 k) g
theorem g_goto (C : Ctx p l e R s m args below meth c Z own nm bs ml rt) {o : Int} (hd : decode bs pc = .ok (.goto o, 3)) (pc' : Nat) (hp : 0 ≤ (pc : Int) + o ∧ ((pc : Int) + o).toNat = pc') (g : Go p l e R s m args below meth c n0 Q h cells slots pc' L st) : Go p l e R s m args below meth c n0 Q h cells slots pc L st :=
  step (fun T locs X _ t k => XS.goto X.here C.1 rfl (pc0 := pc) (pc' := pc') rfl (hb C.2.1 hd) hp.1 hp.2 k) g
theorem g_if_icmpeq (C : Ctx p l e R s m args below meth c Z own nm bs ml rt) {x y : Int32} {o : Int} (hd : decode bs pc = .ok (.if_icmp .eq o, 3)) (pc1 : Nat) (h1 : 0 ≤ ((pc : Nat) : Int) + o ∧ (((pc : Nat) : Int) + o).toNat = pc1) (pc2 : Nat) (h2 : pc2 = pc + 3) (g1 : (x = y) → Go p l e R s m args below meth c n0 Q h cells slots pc1 L st) (g2 : (¬ x = y) → Go p l e R s m args below meth c n0 Q h cells slots pc2 L st) : Go p l e R s m args below meth c n0 Q h cells slots pc L (.int y :: .int x :: st) := by
  subst h2
  by_cases q : x = y
  · exact step (fun T locs X _ t k => XS.icmpYes X.here C.1 rfl (pc0 := pc) (pc' := pc1) rfl (hb C.2.1 hd) rfl (teq q).1 h1.1 h1.2 k) (g1 q)
  · exact step (fun T locs X _ t k => XS.icmpNo X.here C.1 rfl (hb C.2.1 hd) rfl (feq q).1 k) (g2 q)
theorem g_ifeq (C : Ctx p l e R s m args below meth c Z own nm bs ml rt) {x : Int32} {o : Int} (hd : decode bs pc = .ok (.ifCond .eq o, 3)) (pc1 : Nat) (h1 : 0 ≤ ((pc : Nat) : Int) + o ∧ (((pc : Nat) : Int) + o).toNat = pc1) (pc2 : Nat) (h2 : pc2 = pc + 3) (g1 : (x = (0 : Int32)) → Go p l e R s m args below meth c n0 Q h cells slots pc1 L st) (g2 : (¬ x = (0 : Int32)) → Go p l e R s m args below meth c n0 Q h cells slots pc2 L st) : Go p l e R s m args below meth c n0 Q h cells slots pc L (.int x :: st) := by
  subst h2
  by_cases q : x = (0 : Int32)
  · exact step (fun T locs X _ t k => XS.ifYes X.here C.1 rfl (pc0 := pc) (pc' := pc1) rfl (hb C.2.1 hd) rfl ((if0 _ _).trans (teq q).1) h1.1 h1.2 k) (g1 q)
  · exact step (fun T locs X _ t k => XS.ifNo X.here C.1 rfl (hb C.2.1 hd) rfl ((if0 _ _).trans (feq q).1) k) (g2 q)
theorem g_lcmpeq (C : Ctx p l e R s m args below meth c Z own nm bs ml rt) {x y : Int64} {o : Int} (hd0 : decode bs pc = .ok (.lcmp, 1)) (pcm : Nat) (hm : pcm = pc + 1) (hd : decode bs pcm = .ok (.ifCond .eq o, 3)) (pc1 : Nat) (h1 : 0 ≤ ((pcm : Nat) : Int) + o ∧ (((pcm : Nat) : Int) + o).toNat = pc1) (pc2 : Nat) (h2 : pc2 = pcm + 3) (g1 : (x = y) → Go p l e R s m args below meth c n0 Q h cells slots pc1 L st) (g2 : (¬ x = y) → Go p l e R s m args below meth c n0 Q h cells slots pc2 L st) : Go p l e R s m args below meth c n0 Q h cells slots pc L (.long y :: .long x :: st) := by
  subst hm
  have hw : ∀ (T : State) (locs : List Loc), Stand p l e R s m args below meth c T locs cells slots → ∀ t, Steps p.tables e below (T.setTop (mkF m (pc + 1) L (.int (lcmpW x y) :: st))) t → Steps p.tables e below (T.setTop (mkF m pc L (.long y :: .long x :: st))) t := fun T locs X t k => XS.lcmp X.here C.1 rfl (hb C.2.1 hd0) rfl k
  subst h2
  by_cases q : x = y
  · exact step (fun T locs X _ t k => hw T locs X t (XS.ifYes X.here C.1 rfl (pc0 := pc + 1) (pc' := pc1) rfl (hb C.2.1 hd) rfl ((if0 _ _).trans (teq ((lw_eq x y).mpr q)).1) h1.1 h1.2 k)) (g1 q)
  · exact step (fun T locs X _ t k => hw T locs X t (XS.ifNo X.here C.1 rfl (hb C.2.1 hd) rfl ((if0 _ _).trans (feq (fun z => q ((lw_eq x y).mp z))).1) k)) (g2 q)
theorem g_if_icmpne (C : Ctx p l e R s m args below meth c Z own nm bs ml rt) {x y : Int32} {o : Int} (hd : decode bs pc = .ok (.if_icmp .ne o, 3)) (pc1 : Nat) (h1 : 0 ≤ ((pc : Nat) : Int) + o ∧ (((pc : Nat) : Int) + o).toNat = pc1) (pc2 : Nat) (h2 : pc2 = pc + 3) (g1 : (¬ x = y) → Go p l e R s m args below meth c n0 Q h cells slots pc1 L st) (g2 : (x = y) → Go p l e R s m args below meth c n0 Q h cells slots pc2 L st) : Go p l e R s m args below meth c n0 Q h cells slots pc L (.int y :: .int x :: st) := by
  subst h2
  by_cases q : x = y
  · exact step (fun T locs X _ t k => XS.icmpNo X.here C.1 rfl (hb C.2.1 hd) rfl (teq q).2 k) (g2 q)
  · exact step (fun T locs X _ t k => XS.icmpYes X.here C.1 rfl (pc0 := pc) (pc' := pc1) rfl (hb C.2.1 hd) rfl (feq q).2 h1.1 h1.2 k) (g1 q)
theorem g_ifne (C : Ctx p l e R s m args below meth c Z own nm bs ml rt) {x : Int32} {o : Int} (hd : decode bs pc = .ok (.ifCond .ne o, 3)) (pc1 : Nat) (h1 : 0 ≤ ((pc : Nat) : Int) + o ∧ (((pc : Nat) : Int) + o).toNat = pc1) (pc2 : Nat) (h2 : pc2 = pc + 3) (g1 : (¬ x = (0 : Int32)) → Go p l e R s m args below meth c n0 Q h cells slots pc1 L st) (g2 : (x = (0 : Int32)) → Go p l e R s m args below meth c n0 Q h cells slots pc2 L st) : Go p l e R s m args below meth c n0 Q h cells slots pc L (.int x :: st) := by
  subst h2
  by_cases q : x = (0 : Int32)
  · exact step (fun T locs X _ t k => XS.ifNo X.here C.1 rfl (hb C.2.1 hd) rfl ((if0 _ _).trans (teq q).2) k) (g2 q)
  · exact step (fun T locs X _ t k => XS.ifYes X.here C.1 rfl (pc0 := pc) (pc' := pc1) rfl (hb C.2.1 hd) rfl ((if0 _ _).trans (feq q).2) h1.1 h1.2 k) (g1 q)
theorem g_lcmpne (C : Ctx p l e R s m args below meth c Z own nm bs ml rt) {x y : Int64} {o : Int} (hd0 : decode bs pc = .ok (.lcmp, 1)) (pcm : Nat) (hm : pcm = pc + 1) (hd : decode bs pcm = .ok (.ifCond .ne o, 3)) (pc1 : Nat) (h1 : 0 ≤ ((pcm : Nat) : Int) + o ∧ (((pcm : Nat) : Int) + o).toNat = pc1) (pc2 : Nat) (h2 : pc2 = pcm + 3) (g1 : (¬ x = y) → Go p l e R s m args below meth c n0 Q h cells slots pc1 L st) (g2 : (x = y) → Go p l e R s m args below meth c n0 Q h cells slots pc2 L st) : Go p l e R s m args below meth c n0 Q h cells slots pc L (.long y :: .long x :: st) := by
  subst hm
  have hw : ∀ (T : State) (locs : List Loc), Stand p l e R s m args below meth c T locs cells slots → ∀ t, Steps p.tables e below (T.setTop (mkF m (pc + 1) L (.int (lcmpW x y) :: st))) t → Steps p.tables e below (T.setTop (mkF m pc L (.long y :: .long x :: st))) t := fun T locs X t k => XS.lcmp X.here C.1 rfl (hb C.2.1 hd0) rfl k
  subst h2
  by_cases q : x = y
  · exact step (fun T locs X _ t k => hw T locs X t (XS.ifNo X.here C.1 rfl (hb C.2.1 hd) rfl ((if0 _ _).trans (teq ((lw_eq x y).mpr q)).2) k)) (g2 q)
  · exact step (fun T locs X _ t k => hw T locs X t (XS.ifYes X.here C.1 rfl (pc0 := pc + 1) (pc' := pc1) rfl (hb C.2.1 hd) rfl ((if0 _ _).trans (feq (fun z => q ((lw_eq x y).mp z))).2) h1.1 h1.2 k)) (g1 q)
theorem g_if_icmplt (C : Ctx p l e R s m args below meth c Z own nm bs ml rt) {x y : Int32} {o : Int} (hd : decode bs pc = .ok (.if_icmp .lt o, 3)) (pc1 : Nat) (h1 : 0 ≤ ((pc : Nat) : Int) + o ∧ (((pc : Nat) : Int) + o).toNat = pc1) (pc2 : Nat) (h2 : pc2 = pc + 3) (g1 : (x < y) → Go p l e R s m args below meth c n0 Q h cells slots pc1 L st) (g2 : (¬ x < y) → Go p l e R s m args below meth c n0 Q h cells slots pc2 L st) : Go p l e R s m args below meth c n0 Q h cells slots pc L (.int y :: .int x :: st) := by
  subst h2
  by_cases q : x < y
  · exact step (fun T locs X _ t k => XS.icmpYes X.here C.1 rfl (pc0 := pc) (pc' := pc1) rfl (hb C.2.1 hd) rfl (tlt q).1 h1.1 h1.2 k) (g1 q)
  · exact step (fun T locs X _ t k => XS.icmpNo X.here C.1 rfl (hb C.2.1 hd) rfl (flt q).1 k) (g2 q)
theorem g_iflt (C : Ctx p l e R s m args below meth c Z own nm bs ml rt) {x : Int32} {o : Int} (hd : decode bs pc = .ok (.ifCond .lt o, 3)) (pc1 : Nat) (h1 : 0 ≤ ((pc : Nat) : Int) + o ∧ (((pc : Nat) : Int) + o).toNat = pc1) (pc2 : Nat) (h2 : pc2 = pc + 3) (g1 : (x < (0 : Int32)) → Go p l e R s m args below meth c n0 Q h cells slots pc1 L st) (g2 : (¬ x < (0 : Int32)) → Go p l e R s m args below meth c n0 Q h cells slots pc2 L st) : Go p l e R s m args below meth c n0 Q h cells slots pc L (.int x :: st) := by
  subst h2
  by_cases q : x < (0 : Int32)
  · exact step (fun T locs X _ t k => XS.ifYes X.here C.1 rfl (pc0 := pc) (pc' := pc1) rfl (hb C.2.1 hd) rfl ((if0 _ _).trans (tlt q).1) h1.1 h1.2 k) (g1 q)
  · exact step (fun T locs X _ t k => XS.ifNo X.here C.1 rfl (hb C.2.1 hd) rfl ((if0 _ _).trans (flt q).1) k) (g2 q)
theorem g_lcmplt (C : Ctx p l e R s m args below meth c Z own nm bs ml rt) {x y : Int64} {o : Int} (hd0 : decode bs pc = .ok (.lcmp, 1)) (pcm : Nat) (hm : pcm = pc + 1) (hd : decode bs pcm = .ok (.ifCond .lt o, 3)) (pc1 : Nat) (h1 : 0 ≤ ((pcm : Nat) : Int) + o ∧ (((pcm : Nat) : Int) + o).toNat = pc1) (pc2 : Nat) (h2 : pc2 = pcm + 3) (g1 : (x < y) → Go p l e R s m args below meth c n0 Q h cells slots pc1 L st) (g2 : (¬ x < y) → Go p l e R s m args below meth c n0 Q h cells slots pc2 L st) : Go p l e R s m args below meth c n0 Q h cells slots pc L (.long y :: .long x :: st) := by
  subst hm
  have hw : ∀ (T : State) (locs : List Loc), Stand p l e R s m args below meth c T locs cells slots → ∀ t, Steps p.tables e below (T.setTop (mkF m (pc + 1) L (.int (lcmpW x y) :: st))) t → Steps p.tables e below (T.setTop (mkF m pc L (.long y :: .long x :: st))) t := fun T locs X t k => XS.lcmp X.here C.1 rfl (hb C.2.1 hd0) rfl k
  subst h2
  by_cases q : x < y
  · exact step (fun T locs X _ t k => hw T locs X t (XS.ifYes X.here C.1 rfl (pc0 := pc + 1) (pc' := pc1) rfl (hb C.2.1 hd) rfl ((if0 _ _).trans (tlt ((lw_lt x y).mpr q)).1) h1.1 h1.2 k)) (g1 q)
  · exact step (fun T locs X _ t k => hw T locs X t (XS.ifNo X.here C.1 rfl (hb C.2.1 hd) rfl ((if0 _ _).trans (flt (fun z => q ((lw_lt x y).mp z))).1) k)) (g2 q)
theorem g_if_icmpge (C : Ctx p l e R s m args below meth c Z own nm bs ml rt) {x y : Int32} {o : Int} (hd : decode bs pc = .ok (.if_icmp .ge o, 3)) (pc1 : Nat) (h1 : 0 ≤ ((pc : Nat) : Int) + o ∧ (((pc : Nat) : Int) + o).toNat = pc1) (pc2 : Nat) (h2 : pc2 = pc + 3) (g1 : (¬ x < y) → Go p l e R s m args below meth c n0 Q h cells slots pc1 L st) (g2 : (x < y) → Go p l e R s m args below meth c n0 Q h cells slots pc2 L st) : Go p l e R s m args below meth c n0 Q h cells slots pc L (.int y :: .int x :: st) := by
  subst h2
  by_cases q : x < y
  · exact step (fun T locs X _ t k => XS.icmpNo X.here C.1 rfl (hb C.2.1 hd) rfl (tlt q).2.1 k) (g2 q)
  · exact step (fun T locs X _ t k => XS.icmpYes X.here C.1 rfl (pc0 := pc) (pc' := pc1) rfl (hb C.2.1 hd) rfl (flt q).2.1 h1.1 h1.2 k) (g1 q)
theorem g_ifge (C : Ctx p l e R s m args below meth c Z own nm bs ml rt) {x : Int32} {o : Int} (hd : decode bs pc = .ok (.ifCond .ge o, 3)) (pc1 : Nat) (h1 : 0 ≤ ((pc : Nat) : Int) + o ∧ (((pc : Nat) : Int) + o).toNat = pc1) (pc2 : Nat) (h2 : pc2 = pc + 3) (g1 : (¬ x < (0 : Int32)) → Go p l e R s m args below meth c n0 Q h cells slots pc1 L st) (g2 : (x < (0 : Int32)) → Go p l e R s m args below meth c n0 Q h cells slots pc2 L st) : Go p l e R s m args below meth c n0 Q h cells slots pc L (.int x :: st) := by
  subst h2
  by_cases q : x < (0 : Int32)
  · exact step (fun T locs X _ t k => XS.ifNo X.here C.1 rfl (hb C.2.1 hd) rfl ((if0 _ _).trans (tlt q).2.1) k) (g2 q)
  · exact step (fun T locs X _ t k => XS.ifYes X.here C.1 rfl (pc0 := pc) (pc' := pc1) rfl (hb C.2.1 hd) rfl ((if0 _ _).trans (flt q).2.1) h1.1 h1.2 k) (g1 q)
theorem g_lcmpge (C : Ctx p l e R s m args below meth c Z own nm bs ml rt) {x y : Int64} {o : Int} (hd0 : decode bs pc = .ok (.lcmp, 1)) (pcm : Nat) (hm : pcm = pc + 1) (hd : decode bs pcm = .ok (.ifCond .ge o, 3)) (pc1 : Nat) (h1 : 0 ≤ ((pcm : Nat) : Int) + o ∧ (((pcm : Nat) : Int) + o).toNat = pc1) (pc2 : Nat) (h2 : pc2 = pcm + 3) (g1 : (¬ x < y) → Go p l e R s m args below meth c n0 Q h cells slots pc1 L st) (g2 : (x < y) → Go p l e R s m args below meth c n0 Q h cells slots pc2 L st) : Go p l e R s m args below meth c n0 Q h cells slots pc L (.long y :: .long x :: st) := by
  subst hm
  have hw : ∀ (T : State) (locs : List Loc), Stand p l e R s m args below meth c T locs cells slots → ∀ t, Steps p.tables e below (T.setTop (mkF m (pc + 1) L (.int (lcmpW x y) :: st))) t → Steps p.tables e below (T.setTop (mkF m pc L (.long y :: .long x :: st))) t := fun T locs X t k => XS.lcmp X.here C.1 rfl (hb C.2.1 hd0) rfl k
  subst h2
  by_cases q : x < y
  · exact step (fun T locs X _ t k => hw T locs X t (XS.ifNo X.here C.1 rfl (hb C.2.1 hd) rfl ((if0 _ _).trans (tlt ((lw_lt x y).mpr q)).2.1) k)) (g2 q)
  · exact step (fun T locs X _ t k => hw T locs X t (XS.ifYes X.here C.1 rfl (pc0 := pc + 1) (pc' := pc1) rfl (hb C.2.1 hd) rfl ((if0 _ _).trans (flt (fun z => q ((lw_lt x y).mp z))).2.1) h1.1 h1.2 k)) (g1 q)
theorem g_if_icmpgt (C : Ctx p l e R s m args below meth c Z own nm bs ml rt) {x y : Int32} {o : Int} (hd : decode bs pc = .ok (.if_icmp .gt o, 3)) (pc1 : Nat) (h1 : 0 ≤ ((pc : Nat) : Int) + o ∧ (((pc : Nat) : Int) + o).toNat = pc1) (pc2 : Nat) (h2 : pc2 = pc + 3) (g1 : (y < x) → Go p l e R s m args below meth c n0 Q h cells slots pc1 L st) (g2 : (¬ y < x) → Go p l e R s m args below meth c n0 Q h cells slots pc2 L st) : Go p l e R s m args below meth c n0 Q h cells slots pc L (.int y :: .int x :: st) := by
  subst h2
  by_cases q : y < x
  · exact step (fun T locs X _ t k => XS.icmpYes X.here C.1 rfl (pc0 := pc) (pc' := pc1) rfl (hb C.2.1 hd) rfl (tlt q).2.2.1 h1.1 h1.2 k) (g1 q)
  · exact step (fun T locs X _ t k => XS.icmpNo X.here C.1 rfl (hb C.2.1 hd) rfl (flt q).2.2.1 k) (g2 q)
theorem g_ifgt (C : Ctx p l e R s m args below meth c Z own nm bs ml rt) {x : Int32} {o : Int} (hd : decode bs pc = .ok (.ifCond .gt o, 3)) (pc1 : Nat) (h1 : 0 ≤ ((pc : Nat) : Int) + o ∧ (((pc : Nat) : Int) + o).toNat = pc1) (pc2 : Nat) (h2 : pc2 = pc + 3) (g1 : ((0 : Int32) < x) → Go p l e R s m args below meth c n0 Q h cells slots pc1 L st) (g2 : (¬ (0 : Int32) < x) → Go p l e R s m args below meth c n0 Q h cells slots pc2 L st) : Go p l e R s m args below meth c n0 Q h cells slots pc L (.int x :: st) := by
  subst h2
  by_cases q : (0 : Int32) < x
  · exact step (fun T locs X _ t k => XS.ifYes X.here C.1 rfl (pc0 := pc) (pc' := pc1) rfl (hb C.2.1 hd) rfl ((if0 _ _).trans (tlt q).2.2.1) h1.1 h1.2 k) (g1 q)
  · exact step (fun T locs X _ t k => XS.ifNo X.here C.1 rfl (hb C.2.1 hd) rfl ((if0 _ _).trans (flt q).2.2.1) k) (g2 q)
theorem g_lcmpgt (C : Ctx p l e R s m args below meth c Z own nm bs ml rt) {x y : Int64} {o : Int} (hd0 : decode bs pc = .ok (.lcmp, 1)) (pcm : Nat) (hm : pcm = pc + 1) (hd : decode bs pcm = .ok (.ifCond .gt o, 3)) (pc1 : Nat) (h1 : 0 ≤ ((pcm : Nat) : Int) + o ∧ (((pcm : Nat) : Int) + o).toNat = pc1) (pc2 : Nat) (h2 : pc2 = pcm + 3) (g1 : (y < x) → Go p l e R s m args below meth c n0 Q h cells slots pc1 L st) (g2 : (¬ y < x) → Go p l e R s m args below meth c n0 Q h cells slots pc2 L st) : Go p l e R s m args below meth c n0 Q h cells slots pc L (.long y :: .long x :: st) := by
  subst hm
  have hw : ∀ (T : State) (locs : List Loc), Stand p l e R s m args below meth c T locs cells slots → ∀ t, Steps p.tables e below (T.setTop (mkF m (pc + 1) L (.int (lcmpW x y) :: st))) t → Steps p.tables e below (T.setTop (mkF m pc L (.long y :: .long x :: st))) t := fun T locs X t k => XS.lcmp X.here C.1 rfl (hb C.2.1 hd0) rfl k
  subst h2
  by_cases q : y < x
  · exact step (fun T locs X _ t k => hw T locs X t (XS.ifYes X.here C.1 rfl (pc0 := pc + 1) (pc' := pc1) rfl (hb C.2.1 hd) rfl ((if0 _ _).trans (tlt ((lw_gt x y).mpr q)).2.2.1) h1.1 h1.2 k)) (g1 q)
  · exact step (fun T locs X _ t k => hw T locs X t (XS.ifNo X.here C.1 rfl (hb C.2.1 hd) rfl ((if0 _ _).trans (flt (fun z => q ((lw_gt x y).mp z))).2.2.1) k)) (g2 q)
theorem g_if_icmple (C : Ctx p l e R s m args below meth c Z own nm bs ml rt) {x y : Int32} {o : Int} (hd : decode bs pc = .ok (.if_icmp .le o, 3)) (pc1 : Nat) (h1 : 0 ≤ ((pc : Nat) : Int) + o ∧ (((pc : Nat) : Int) + o).toNat = pc1) (pc2 : Nat) (h2 : pc2 = pc + 3) (g1 : (¬ y < x) → Go p l e R s m args below meth c n0 Q h cells slots pc1 L st) (g2 : (y < x) → Go p l e R s m args below meth c n0 Q h cells slots pc2 L st) : Go p l e R s m args below meth c n0 Q h cells slots pc L (.int y :: .int x :: st) := by
  subst h2
  by_cases q : y < x
  · exact step (fun T locs X _ t k => XS.icmpNo X.here C.1 rfl (hb C.2.1 hd) rfl (tlt q).2.2.2 k) (g2 q)
  · exact step (fun T locs X _ t k => XS.icmpYes X.here C.1 rfl (pc0 := pc) (pc' := pc1) rfl (hb C.2.1 hd) rfl (flt q).2.2.2 h1.1 h1.2 k) (g1 q)
theorem g_ifle (C : Ctx p l e R s m args below meth c Z own nm bs ml rt) {x : Int32} {o : Int} (hd : decode bs pc = .ok (.ifCond .le o, 3)) (pc1 : Nat) (h1 : 0 ≤ ((pc : Nat) : Int) + o ∧ (((pc : Nat) : Int) + o).toNat = pc1) (pc2 : Nat) (h2 : pc2 = pc + 3) (g1 : (¬ (0 : Int32) < x) → Go p l e R s m args below meth c n0 Q h cells slots pc1 L st) (g2 : ((0 : Int32) < x) → Go p l e R s m args below meth c n0 Q h cells slots pc2 L st) : Go p l e R s m args below meth c n0 Q h cells slots pc L (.int x :: st) := by
  subst h2
  by_cases q : (0 : Int32) < x
  · exact step (fun T locs X _ t k => XS.ifNo X.here C.1 rfl (hb C.2.1 hd) rfl ((if0 _ _).trans (tlt q).2.2.2) k) (g2 q)
  · exact step (fun T locs X _ t k => XS.ifYes X.here C.1 rfl (pc0 := pc) (pc' := pc1) rfl (hb C.2.1 hd) rfl ((if0 _ _).trans (flt q).2.2.2) h1.1 h1.2 k) (g1 q)
theorem g_lcmple (C : Ctx p l e R s m args below meth c Z own nm bs ml rt) {x y : Int64} {o : Int} (hd0 : decode bs pc = .ok (.lcmp, 1)) (pcm : Nat) (hm : pcm = pc + 1) (hd : decode bs pcm = .ok (.ifCond .le o, 3)) (pc1 : Nat) (h1 : 0 ≤ ((pcm : Nat) : Int) + o ∧ (((pcm : Nat) : Int) + o).toNat = pc1) (pc2 : Nat) (h2 : pc2 = pcm + 3) (g1 : (¬ y < x) → Go p l e R s m args below meth c n0 Q h cells slots pc1 L st) (g2 : (y < x) → Go p l e R s m args below meth c n0 Q h cells slots pc2 L st) : Go p l e R s m args below meth c n0 Q h cells slots pc L (.long y :: .long x :: st) := by
  subst hm
  have hw : ∀ (T : State) (locs : List Loc), Stand p l e R s m args below meth c T locs cells slots → ∀ t, Steps p.tables e below (T.setTop (mkF m (pc + 1) L (.int (lcmpW x y) :: st))) t → Steps p.tables e below (T.setTop (mkF m pc L (.long y :: .long x :: st))) t := fun T locs X t k => XS.lcmp X.here C.1 rfl (hb C.2.1 hd0) rfl k
  subst h2
  by_cases q : y < x
  · exact step (fun T locs X _ t k => hw T locs X t (XS.ifNo X.here C.1 rfl (hb C.2.1 hd) rfl ((if0 _ _).trans (tlt ((lw_gt x y).mpr q)).2.2.2) k)) (g2 q)
  · exact step (fun T locs X _ t k => hw T locs X t (XS.ifYes X.here C.1 rfl (pc0 := pc + 1) (pc' := pc1) rfl (hb C.2.1 hd) rfl ((if0 _ _).trans (flt (fun z => q ((lw_gt x y).mp z))).2.2.2) h1.1 h1.2 k)) (g1 q)
theorem fin {v : Option Value} (C : Ctx p l e R s m args below meth c Z own nm bs ml rt) (hc : cells ≤ R.cells) (hs : slots ≤ R.slots) (hv : rt = none → v = none) (k : ∀ (T : State) (locs : List Loc), Stand p l e R s m args below meth c T locs cells slots → ∀ fs, (∀ (f : JFrame) (acts : List Action), f.method = m → f.locked = none → f.entered = [] → (doReturn e (T.setTop f) acts v).1 = T.setFrames fs) → Steps p.tables e below (T.setTop (mkF m pc L st)) (T.setFrames fs)) (q : Q v h) : Go p l e R s m args below meth c n0 Q h cells slots pc L st := fun T locs X eh N => by
  obtain ⟨fs, hr, hrun, hended, hW, hsame⟩ := X.leave (v := v) (fun h => hv (C.2.2.2.2.2.1.symm.trans h)) C.2.2.2.2.2.2.1
  refine ⟨_, v, locs, k T locs X fs hr, hrun, hended, ?_, N, hW, hsame.mono hc hs⟩
  show Q v T.heap
  rw [eh]; exact q
theorem r_int {P : Int32 → Heap → Prop} {z : Int32} (C : Ctx p l e R s m args below meth c Z own nm bs ml (some .int)) (hd : decode bs pc = .ok (.ireturn, 1)) (hc : cells ≤ R.cells) (hs : slots ≤ R.slots) (q : P z h) : Go p l e R s m args below meth c n0 (qI P) h cells slots pc L (.int z :: st) :=
  fin C hc hs (fun h => by cases h) (fun T locs X fs hr => retI X C.1 C.2.2.2.2.2.1 (hb C.2.1 hd) hr) ⟨z, rfl, q⟩
theorem r_nar {P : Int32 → Heap → Prop} {z : Int32} {t : FieldType} (C : Ctx p l e R s m args below meth c Z own nm bs ml (some t)) (ht : t = .boolean ∨ t = .byte ∨ t = .char ∨ t = .short) (hd : decode bs pc = .ok (.ireturn, 1)) (hc : cells ≤ R.cells) (hs : slots ≤ R.slots) (q : P (nar t z) h) : Go p l e R s m args below meth c n0 (qI P) h cells slots pc L (.int z :: st) :=
  fin C hc hs (fun h => by cases h) (fun T locs X fs hr => retN X C.1 C.2.2.2.2.2.1 ht (hb C.2.1 hd) hr) ⟨_, rfl, q⟩
theorem r_long {P : Int64 → Heap → Prop} {z : Int64} (C : Ctx p l e R s m args below meth c Z own nm bs ml (some .long)) (hd : decode bs pc = .ok (.lreturn, 1)) (hc : cells ≤ R.cells) (hs : slots ≤ R.slots) (q : P z h) : Go p l e R s m args below meth c n0 (qJ P) h cells slots pc L (.long z :: st) :=
  fin C hc hs (fun h => by cases h) (fun T locs X fs hr => retOut X C.1 C.2.2.2.2.2.1 rfl (Or.inr (Or.inl ⟨rfl, rfl, z, rfl⟩)) (hb C.2.1 hd) hr) ⟨z, rfl, q⟩
theorem r_ref {P : Addr → Heap → Prop} {z : Addr} {t : FieldType} (C : Ctx p l e R s m args below meth c Z own nm bs ml (some t)) (ht : t.isReference = true) (hn : narrow t (.ref z) = .ref z) (hd : decode bs pc = .ok (.areturn, 1)) (hc : cells ≤ R.cells) (hs : slots ≤ R.slots) (q : P z h) : Go p l e R s m args below meth c n0 (qA P) h cells slots pc L (.ref z :: st) :=
  fin C hc hs (fun h => by cases h) (fun T locs X fs hr => retOut X C.1 C.2.2.2.2.2.1 hn (Or.inr (Or.inr (Or.inr (Or.inr ⟨rfl, ht, rfl⟩)))) (hb C.2.1 hd) hr) ⟨z, rfl, q⟩
theorem r_void {P : Heap → Prop} (C : Ctx p l e R s m args below meth c Z own nm bs ml none) (hd : decode bs pc = .ok (.return_, 1)) (hc : cells ≤ R.cells) (hs : slots ≤ R.slots) (q : P h) : Go p l e R s m args below meth c n0 (qV P) h cells slots pc L [] :=
  fin C hc hs (fun _ => rfl) (fun T locs X fs hr => X.returnOut C.1 C.2.2.2.2.2.1 (hb C.2.1 hd) hr) ⟨rfl, q⟩
theorem g_getfield (C : Ctx p l e R s m args below meth c Z own nm bs ml rt) {O n d host : String} {i : Nat} {a : Addr} {v : Value} (w : (Jvm.Cond.fieldLink own i O n d).before a0 Z = true) (F : Fld Z h a O n d v) (hd : decode bs pc = .ok (.getfield i, 3)) (pc' : Nat) (hp : pc' = pc + 3) (g : Go p l e R s m args below meth c n0 Q h cells slots pc' L (v :: st)) : Go p l e R s m args below meth c n0 Q h cells slots pc L (.ref a :: st) := fun T locs X eh N => by
  subst hp
  obtain ⟨T1, X1, e1, st1⟩ := getF X C.1 C.2.2.1 C.2.2.2.1 (host := "") (Or.inl w) Via.refl eh F (g := mkF m pc L (.ref a :: st)) rfl rfl (hb C.2.1 hd)
  obtain ⟨s2, u, L', x1, x2⟩ := g T1 locs X1 e1 N
  exact ⟨s2, u, L', st1 _ x1, x2⟩
theorem g_putfield (C : Ctx p l e R s m args below meth c Z own nm bs ml rt) {O n d K : String} {i kk : Nat} {ty : FieldType} {a : Addr} {v old : Value} (w : (Jvm.Cond.fieldLink own i O n d).before a0 Z = true) (F : Fld Z h a O n d old) (E : Exa Z h a K) (hL : (Jvm.Cond.lays K O n d).before a0 Z = true ∨ ((Jvm.Cond.laysFinal K O n d).before a0 Z = true ∧ own = O ∧ nm = "<init>")) (wi : (Jvm.Cond.instantiable K kk).before a0 Z = true) (hty : parseFieldDescriptor d = some ty) (hn : narrow ty v = v) (hf : fits ty v = true) (hd : decode bs pc = .ok (.putfield i, 3)) (pc' : Nat) (hp : pc' = pc + 3) (hna : n0 ≤ a) (g : ∀ h', Wr h h' a (Jvm.RoadKit.slotOf Z O n d) v → Go p l e R s m args below meth c n0 Q h' cells slots pc' L st) : Go p l e R s m args below meth c n0 Q h cells slots pc L (v :: .ref a :: st) := fun T locs X eh N => by
  subst hp
  obtain ⟨T1, h1, X1, e1, W1, st1⟩ := putF X C.1 C.2.2.1 C.2.2.2.1 (host := "") (Or.inl w) Via.refl eh F E (hL.imp id fun q => ⟨q.1, q.2.1, C.2.2.2.2.2.2.2.trans q.2.2⟩) wi hty hn hf (g := mkF m pc L (v :: .ref a :: st)) rfl rfl (hb C.2.1 hd)
  obtain ⟨s2, u, L', x1, x2⟩ := g h1 W1 T1 _ X1 e1 (Fr.snoc X1 N hna)
  exact ⟨s2, u, L', st1 _ x1, x2⟩
theorem g_new (C : Ctx p l e R s m args below meth c Z own nm bs ml rt) {K : String} {i n : Nat} (w : (Jvm.Cond.classLink own i K).before a0 Z = true) (wi : (Jvm.Cond.instantiable K n).before a0 Z = true) (wz : (Jvm.Cond.initialized K).before a0 Z = true) (hd : decode bs pc = .ok (.new i, 3)) (pc' : Nat) (hp : pc' = pc + 3) (cells' slots' : Nat) (hc' : cells' = cells + 1) (hs' : slots' = slots + n) (hc : cells' ≤ R.cells) (hs : slots' ≤ R.slots) (g : ∀ h' a, a = h.size → Ext h h' → Exa Z h' a K → (∀ {O nm d : String} {ty : FieldType}, Laid Z a0 K O nm d → parseFieldDescriptor d = some ty → Fld Z h' a O nm d (defaultValue ty)) → Go p l e R s m args below meth c n0 Q h' cells' slots' pc' L (.ref a :: st)) : Go p l e R s m args below meth c n0 Q h cells slots pc L st := fun T locs X eh N => by
  subst hp hc' hs'
  obtain ⟨T1, h1, X1, e1, E1, A1, D1, -, st1⟩ := newO X C.1 C.2.2.1 C.2.2.2.1 w wi wz eh (g := mkF m pc L st) rfl (hb C.2.1 hd) hc hs
  obtain ⟨s2, u, L', x1, x2⟩ := g h1 _ rfl E1 A1 D1 T1 _ X1 e1 N
  exact ⟨s2, u, L', st1 _ x1, x2⟩
theorem g_objinit (C : Ctx p l e R s m args below meth c Z own nm bs ml rt) {i : Nat} {a : Addr} (w1 : (Jvm.Cond.methodLink own i Lib.objectInit).before a0 Z = true) (w2 : (Jvm.Cond.instanceMethod Lib.objectInit).before a0 Z = true) (w3 : (Jvm.Cond.code Lib.objectInit ⟨#[0xb1]⟩ 1 none).before a0 Z = true) (hd : decode bs pc = .ok (.invokespecial i, 3)) (pc' : Nat) (hp : pc' = pc + 3) (hL : L.size = ml) (hf : 1 ≤ R.frames) (W : Nat) (hW : 2 * 0 + (st.map fun v => v.category).sum ≤ W) (hl : W + 12 ≤ R.locals) (g : Go p l e R s m args below meth c n0 Q h cells slots pc' L st) : Go p l e R s m args below meth c n0 Q h cells slots pc L (.ref a :: st) := fun T locs X eh N => by
  subst hp
  obtain ⟨T1, X1, e1, st1⟩ := initO X C.1 C.2.2.1 C.2.2.2.1 w1 w2 w3 eh (g := mkF m pc L (.ref a :: st)) rfl (hL.trans C.2.2.2.2.1.symm) rfl (hb C.2.1 hd) hf (W := W) hW hl
  obtain ⟨s2, u, L', x1, x2⟩ := g T1 locs X1 e1 N
  exact ⟨s2, u, L', st1 _ x1, x2⟩
theorem g_instY (C : Ctx p l e R s m args below meth c Z own nm bs ml rt) {K : String} {i : Nat} {a : Addr} (w : (Jvm.Cond.classLink own i K).before a0 Z = true) (F : Ins Z h a K true) (hd : decode bs pc = .ok (.instanceof i, 3)) (pc' : Nat) (hp : pc' = pc + 3) (g : Go p l e R s m args below meth c n0 Q h cells slots pc' L (.int 1 :: st)) : Go p l e R s m args below meth c n0 Q h cells slots pc L (.ref a :: st) := fun T locs X eh N => by
  subst hp
  obtain ⟨T1, X1, e1, st1⟩ := instY X C.1 C.2.2.1 C.2.2.2.1 w eh F (g := mkF m pc L (.ref a :: st)) rfl rfl (hb C.2.1 hd)
  obtain ⟨s2, u, L', x1, x2⟩ := g T1 locs X1 e1 N
  exact ⟨s2, u, L', st1 _ x1, x2⟩
theorem g_instNo (C : Ctx p l e R s m args below meth c Z own nm bs ml rt) {K K0 : String} {i : Nat} {a : Addr} (w : (Jvm.Cond.classLink own i K).before a0 Z = true) (E : Exa Z h a K0) (F : ∃ c t, Z.vm.findClass K0 = some c ∧ Z.vm.findClass K = some t ∧ Z.vm.assignable c t = false) (hd : decode bs pc = .ok (.instanceof i, 3)) (pc' : Nat) (hp : pc' = pc + 3) (g : Go p l e R s m args below meth c n0 Q h cells slots pc' L (.int 0 :: st)) : Go p l e R s m args below meth c n0 Q h cells slots pc L (.ref a :: st) := fun T locs X eh N => by
  subst hp
  obtain ⟨T1, X1, e1, st1⟩ := instNo X C.1 C.2.2.1 C.2.2.2.1 w eh E F (g := mkF m pc L (.ref a :: st)) rfl rfl (hb C.2.1 hd)
  obtain ⟨s2, u, L', x1, x2⟩ := g T1 locs X1 e1 N
  exact ⟨s2, u, L', st1 _ x1, x2⟩
theorem g_instNull (C : Ctx p l e R s m args below meth c Z own nm bs ml rt) {i : Nat} (hd : decode bs pc = .ok (.instanceof i, 3)) (pc' : Nat) (hp : pc' = pc + 3) (g : Go p l e R s m args below meth c n0 Q h cells slots pc' L (.int 0 :: st)) : Go p l e R s m args below meth c n0 Q h cells slots pc L (.null :: st) := by
  subst hp
  exact step (fun T locs X _ t k => X.instanceofNull C.1 (g := mkF m pc L (.null :: st)) rfl rfl (hb C.2.1 hd) _ k) g
theorem g_checkcast (C : Ctx p l e R s m args below meth c Z own nm bs ml rt) {K : String} {i : Nat} {a : Addr} (w : (Jvm.Cond.classLink own i K).before a0 Z = true) (F : Ins Z h a K true) (hd : decode bs pc = .ok (.checkcast i, 3)) (pc' : Nat) (hp : pc' = pc + 3) (g : Go p l e R s m args below meth c n0 Q h cells slots pc' L (.ref a :: st)) : Go p l e R s m args below meth c n0 Q h cells slots pc L (.ref a :: st) := fun T locs X eh N => by
  subst hp
  obtain ⟨T1, X1, e1, st1⟩ := castY X C.1 C.2.2.1 C.2.2.2.1 w eh F (g := mkF m pc L (.ref a :: st)) rfl rfl (hb C.2.1 hd)
  obtain ⟨s2, u, L', x1, x2⟩ := g T1 locs X1 e1 N
  exact ⟨s2, u, L', st1 _ x1, x2⟩
/-- a local that holds nothing or an int; two that hold nothing or a long -/
def One (s : Slot) : Prop := s = .unset ∨ ∃ x : Int32, s = .val (.int x)
def Two (s t : Slot) : Prop := (s = .unset ∧ t = .unset) ∨ ∃ x : Int64, s = .val (.long x) ∧ t = .second
theorem One.u : One .unset := Or.inl rfl
theorem One.i {x : Int32} : One (.val (.int x)) := Or.inr ⟨x, rfl⟩
theorem Two.u : Two .unset .unset := Or.inl ⟨rfl, rfl⟩
theorem Two.j {x : Int64} : Two (.val (.long x)) .second := Or.inr ⟨x, rfl, rfl⟩
/-- the array at a: N places, place j holds f j -/
def Ary (Z : State) (h : Heap) (a : Addr) (ty : FieldType) (N : Nat) (f : Nat → Value) : Prop := N < 2 ^ 31 ∧ ∃ cl : Cell, Arr Z h a cl ty ∧ cl.slots.size = N ∧ ∀ j, j < N → cl.slots[j]? = some (f j)
def upd (f : Nat → Value) (i : Nat) (v : Value) : Nat → Value := fun j => if j = i then v else f j
theorem Ary.lt {a : Addr} {ty : FieldType} {N : Nat} {f : Nat → Value} (A : Ary Z h a ty N f) : a < h.size := by obtain ⟨-, cl, A1, -⟩ := A; exact A1.lt
theorem Ary.ext {h' : Heap} {a : Addr} {ty : FieldType} {N : Nat} {f : Nat → Value} (A : Ary Z h a ty N f) (E : Ext h h') : Ary Z h' a ty N f := by obtain ⟨q, cl, A1, A2⟩ := A; exact ⟨q, cl, A1.ext E, A2⟩
theorem Ary.other {h' : Heap} {a b : Addr} {sl : Nat} {v : Value} {ty : FieldType} {N : Nat} {f : Nat → Value} (A : Ary Z h a ty N f) (W : Wr h h' b sl v) (q : a ≠ b) : Ary Z h' a ty N f := by obtain ⟨q0, cl, A1, A2⟩ := A; exact ⟨q0, cl, A1.other W q, A2⟩
theorem Ary.keep {h' : Heap} {a : Addr} {ws : List Addr} {ty : FieldType} {N : Nat} {f : Nat → Value} (A : Ary Z h a ty N f) (K : Keep h h' ws) (q : a ∉ ws) : Ary Z h' a ty N f := by obtain ⟨q0, cl, A1, A2⟩ := A; exact ⟨q0, cl, ⟨K.2.1 _ _ A1.1 q, A1.2⟩, A2⟩
theorem Ary.congr {a : Addr} {ty : FieldType} {N : Nat} {f f' : Nat → Value} (A : Ary Z h a ty N f) (q : ∀ j, j < N → f j = f' j) : Ary Z h a ty N f' := by obtain ⟨q0, cl, A1, A2, A3⟩ := A; exact ⟨q0, cl, A1, A2, fun j hj => by rw [A3 j hj, q j hj]⟩
theorem Ary.set {h' : Heap} {a : Addr} {i : Nat} {v : Value} {ty : FieldType} {N : Nat} {f : Nat → Value} (A : Ary Z h a ty N f) (W : Wr h h' a i v) : Ary Z h' a ty N (upd f i v) := by
  obtain ⟨q0, cl, A1, A2, A3⟩ := A
  refine ⟨q0, _, A1.same W, by rw [sz_set]; exact A2, fun j hj => ?_⟩
  obtain ⟨cell, w1, -, w3, -⟩ := W
  cases A1.1.symm.trans w1
  by_cases q : j = i
  · subst q; simp [upd, Cell.setSlot, w3]
  · rw [upd, if_neg q, ← A3 j hj]; simp [Cell.setSlot, Ne.symm q]
theorem Ary.wrlt {h' : Heap} {a : Addr} {i : Nat} {v : Value} {ty : FieldType} {N : Nat} {f : Nat → Value} (A : Ary Z h a ty N f) (W : Wr h h' a i v) : h'.size = h.size := W.size
def upn (f : Nat → Int32) (i : Nat) (v : Int32) : Nat → Int32 := fun j => if j = i then v else f j
theorem Ary.asI {a : Addr} {ty : FieldType} {N i : Nat} {f : Nat → Int32} {v : Int32} (A : Ary Z h a ty N (upd (fun j => .int (f j)) i (.int v))) : Ary Z h a ty N (fun j => .int (upn f i v j)) := A.congr (fun j _ => by
  show (if j = i then Value.int v else Value.int (f j)) = Value.int (if j = i then v else f j)
  split <;> rfl)
/-- the int j is the place i -/
def Ix (j : Int32) (i : Nat) : Prop := ¬ j < 0 ∧ j.toNatClampNeg = i
theorem Ix.inb {j : Int32} {i N : Nat} {cl : Cell} (x : Ix j i) (hi : i < N) (S : cl.slots.size = N) : ¬ (j < 0 ∨ cl.slots.size ≤ j.toNatClampNeg) := by
  rintro (q | q)
  · exact x.1 q
  · rw [x.2] at q; omega
theorem Ix.toInt {j : Int32} {i : Nat} (x : Ix j i) : j.toInt = (i : Int) := by
  obtain ⟨h1, h2⟩ := x
  rw [Int32.lt_iff_toInt_lt] at h1
  have h3 : j.toInt.toNat = i := h2
  have h4 : (0 : Int32).toInt = 0 := rfl
  omega
theorem Ix.of {j : Int32} {i : Nat} (h : j.toInt = (i : Int)) : Ix j i := by
  refine ⟨?_, ?_⟩
  · rw [Int32.lt_iff_toInt_lt]
    have h4 : (0 : Int32).toInt = 0 := rfl
    omega
  · show j.toInt.toNat = i
    omega
theorem Ix.lt {a b : Int32} {i j : Nat} (x : Ix a i) (y : Ix b j) : a < b ↔ i < j := by
  rw [Int32.lt_iff_toInt_lt, x.toInt, y.toInt]; omega
theorem Ix.eq {a b : Int32} {i j : Nat} (x : Ix a i) (y : Ix b j) : a = b ↔ i = j := by
  rw [← Int32.toInt_inj, x.toInt, y.toInt]; omega
theorem Ix.add {a b : Int32} {i j : Nat} (x : Ix a i) (y : Ix b j) (h : i + j < 2147483648) : Ix (a + b) (i + j) := by
  apply Ix.of
  rw [Int32.toInt_add, x.toInt, y.toInt]
  have h2 : ((i : Int) + (j : Int)).bmod (2 ^ 32) = (i : Int) + (j : Int) := Int.bmod_eq_of_le (by omega) (by omega)
  rw [h2]; omega
theorem Ix.sub {a b : Int32} {i j : Nat} (x : Ix a i) (y : Ix b j) (h : j ≤ i) (hi : i < 2147483648) : Ix (a - b) (i - j) := by
  apply Ix.of
  rw [Int32.toInt_sub, x.toInt, y.toInt]
  have h2 : ((i : Int) - (j : Int)).bmod (2 ^ 32) = (i : Int) - (j : Int) := Int.bmod_eq_of_le (by omega) (by omega)
  rw [h2]; omega
theorem Ix.mul {a b : Int32} {i j : Nat} (x : Ix a i) (y : Ix b j) (h : i * j < 2147483648) : Ix (a * b) (i * j) := by
  apply Ix.of
  rw [Int32.toInt_mul, x.toInt, y.toInt, ← Int.natCast_mul]
  exact Int.bmod_eq_of_le (by omega) (by omega)
theorem Ix.nz {y : Int32} {n : Nat} (x : Ix y n) (h : 0 < n) : y ≠ 0 := fun q => by
  have := x.toInt
  rw [q] at this
  have h0 : (0 : Int32).toInt = 0 := rfl
  omega
theorem nn31 (x : Int32) : 0 ≤ (x &&& 2147483647).toInt := (c_andS x 2147483647).2.2 (by decide)
theorem Ix.rem {x y : Int32} {n : Nat} (hx : 0 ≤ x.toInt) (hy : Ix y n) (hn : 0 < n) : ∃ i, i < n ∧ Ix (x % y) i := by
  have h0 : (x % y).toInt = x.toInt % (n : Int) := by
    rw [Int32.toInt_mod, hy.toInt]; exact Int.tmod_eq_emod_of_nonneg hx
  have h1 : 0 ≤ x.toInt % (n : Int) := Int.emod_nonneg _ (by omega)
  have h2 : x.toInt % (n : Int) < n := Int.emod_lt_of_pos _ (by omega)
  exact ⟨(x.toInt % (n : Int)).toNat, by omega, Ix.of (by omega)⟩
theorem Ix.succ {a : Int32} {i : Nat} (x : Ix a i) (h : i + 1 < 2147483648) : Ix (a + 1) (i + 1) := x.add (b := 1) (j := 1) ⟨by decide, by decide⟩ h
theorem g_iaload (C : Ctx p l e R s m args below meth c Z own nm bs ml rt) {a : Addr} {N : Nat} {f : Nat → Value} {j : Int32} (A : Ary Z h a .int N f) (i : Nat) (hj : Ix j i) (hi : i < N) (v : Value) (hv : f i = v) (hd : decode bs pc = .ok (.iaload, 1)) (pc' : Nat) (hp : pc' = pc + 1) (g : Go p l e R s m args below meth c n0 Q h cells slots pc' L (v :: st)) : Go p l e R s m args below meth c n0 Q h cells slots pc L (.int j :: .ref a :: st) := by
  subst hp hv
  obtain ⟨q0, cl, A1, A2, A3⟩ := A
  exact step (fun T locs X eh t k => X.iaload C.1 (j := j) (v := f i) (by rw [eh]; exact A1.1) (State.isArrayOf_alike C.2.2.1.alike A1.2.1) A1.2.2 (hj.inb hi A2) (by rw [hj.2]; exact A3 i hi) (g := mkF m pc L (.int j :: .ref a :: st)) rfl rfl (hb C.2.1 hd) _ k) g
theorem g_laload (C : Ctx p l e R s m args below meth c Z own nm bs ml rt) {a : Addr} {N : Nat} {f : Nat → Value} {j : Int32} (A : Ary Z h a .long N f) (i : Nat) (hj : Ix j i) (hi : i < N) (v : Value) (hv : f i = v) (hd : decode bs pc = .ok (.laload, 1)) (pc' : Nat) (hp : pc' = pc + 1) (g : Go p l e R s m args below meth c n0 Q h cells slots pc' L (v :: st)) : Go p l e R s m args below meth c n0 Q h cells slots pc L (.int j :: .ref a :: st) := by
  subst hp hv
  obtain ⟨q0, cl, A1, A2, A3⟩ := A
  exact step (fun T locs X eh t k => X.laload C.1 (j := j) (v := f i) (by rw [eh]; exact A1.1) (State.isArrayOf_alike C.2.2.1.alike A1.2.1) A1.2.2 (hj.inb hi A2) (by rw [hj.2]; exact A3 i hi) (g := mkF m pc L (.int j :: .ref a :: st)) rfl rfl (hb C.2.1 hd) _ k) g
theorem g_caload (C : Ctx p l e R s m args below meth c Z own nm bs ml rt) {a : Addr} {N : Nat} {f : Nat → Value} {j : Int32} (A : Ary Z h a .char N f) (i : Nat) (hj : Ix j i) (hi : i < N) (v : Value) (hv : f i = v) (hd : decode bs pc = .ok (.caload, 1)) (pc' : Nat) (hp : pc' = pc + 1) (g : Go p l e R s m args below meth c n0 Q h cells slots pc' L (v :: st)) : Go p l e R s m args below meth c n0 Q h cells slots pc L (.int j :: .ref a :: st) := by
  subst hp hv
  obtain ⟨q0, cl, A1, A2, A3⟩ := A
  exact step (fun T locs X eh t k => X.caload C.1 (j := j) (v := f i) (by rw [eh]; exact A1.1) (State.isArrayOf_alike C.2.2.1.alike A1.2.1) A1.2.2 (hj.inb hi A2) (by rw [hj.2]; exact A3 i hi) (g := mkF m pc L (.int j :: .ref a :: st)) rfl rfl (hb C.2.1 hd) _ k) g
theorem g_baload (C : Ctx p l e R s m args below meth c Z own nm bs ml rt) {a : Addr} {N : Nat} {f : Nat → Value} {j : Int32} (A : Ary Z h a .byte N f) (i : Nat) (hj : Ix j i) (hi : i < N) (v : Value) (hv : f i = v) (hd : decode bs pc = .ok (.baload, 1)) (pc' : Nat) (hp : pc' = pc + 1) (g : Go p l e R s m args below meth c n0 Q h cells slots pc' L (v :: st)) : Go p l e R s m args below meth c n0 Q h cells slots pc L (.int j :: .ref a :: st) := by
  subst hp hv
  obtain ⟨q0, cl, A1, A2, A3⟩ := A
  exact step (fun T locs X eh t k => X.baloadBytes C.1 (j := j) (v := f i) (by rw [eh]; exact A1.1) (State.isArrayOf_alike C.2.2.1.alike A1.2.1) A1.2.2 (hj.inb hi A2) (by rw [hj.2]; exact A3 i hi) (g := mkF m pc L (.int j :: .ref a :: st)) rfl rfl (hb C.2.1 hd) _ k) g
theorem g_iastore (C : Ctx p l e R s m args below meth c Z own nm bs ml rt) {a : Addr} {N : Nat} {f : Nat → Value} {j : Int32} {x : Int32} (A : Ary Z h a .int N f) (i : Nat) (hj : Ix j i) (hi : i < N) (hd : decode bs pc = .ok (.iastore, 1)) (pc' : Nat) (hp : pc' = pc + 1) (hna : n0 ≤ a) (g : ∀ h', Wr h h' a i (.int x) → Ary Z h' a .int N (upd f i (.int x)) → Go p l e R s m args below meth c n0 Q h' cells slots pc' L st) : Go p l e R s m args below meth c n0 Q h cells slots pc L (.int x :: .int j :: .ref a :: st) := fun T locs X eh N' => by
  subst hp
  have A0 := A
  obtain ⟨q0, cl, A1, A2, A3⟩ := A
  obtain ⟨T1, h1, X1, e1, W1, st1⟩ := stI X C.1 C.2.2.1 eh A1 (hj.inb hi A2) (g := mkF m pc L (.int x :: .int j :: .ref a :: st)) rfl rfl (hb C.2.1 hd)
  have W2 : Wr h h1 a i (.int x) := by have := W1; rw [hj.2] at this; exact this
  obtain ⟨s2, u, L', x1, x2⟩ := g h1 W2 (A0.set W2) T1 _ X1 e1 (Fr.snoc X1 N' hna)
  exact ⟨s2, u, L', st1 _ x1, x2⟩
theorem g_lastore (C : Ctx p l e R s m args below meth c Z own nm bs ml rt) {a : Addr} {N : Nat} {f : Nat → Value} {j : Int32} {x : Int64} (A : Ary Z h a .long N f) (i : Nat) (hj : Ix j i) (hi : i < N) (hd : decode bs pc = .ok (.lastore, 1)) (pc' : Nat) (hp : pc' = pc + 1) (hna : n0 ≤ a) (g : ∀ h', Wr h h' a i (.long x) → Ary Z h' a .long N (upd f i (.long x)) → Go p l e R s m args below meth c n0 Q h' cells slots pc' L st) : Go p l e R s m args below meth c n0 Q h cells slots pc L (.long x :: .int j :: .ref a :: st) := fun T locs X eh N' => by
  subst hp
  have A0 := A
  obtain ⟨q0, cl, A1, A2, A3⟩ := A
  obtain ⟨T1, h1, X1, e1, W1, st1⟩ := stJ X C.1 C.2.2.1 eh A1 (hj.inb hi A2) (g := mkF m pc L (.long x :: .int j :: .ref a :: st)) rfl rfl (hb C.2.1 hd)
  have W2 : Wr h h1 a i (.long x) := by have := W1; rw [hj.2] at this; exact this
  obtain ⟨s2, u, L', x1, x2⟩ := g h1 W2 (A0.set W2) T1 _ X1 e1 (Fr.snoc X1 N' hna)
  exact ⟨s2, u, L', st1 _ x1, x2⟩
theorem g_castore (C : Ctx p l e R s m args below meth c Z own nm bs ml rt) {a : Addr} {N : Nat} {f : Nat → Value} {j : Int32} {x : Int32} (A : Ary Z h a .char N f) (i : Nat) (hj : Ix j i) (hi : i < N) (hd : decode bs pc = .ok (.castore, 1)) (pc' : Nat) (hp : pc' = pc + 1) (hna : n0 ≤ a) (g : ∀ h', Wr h h' a i (.int (nar .char x)) → Ary Z h' a .char N (upd f i (.int (nar .char x))) → Go p l e R s m args below meth c n0 Q h' cells slots pc' L st) : Go p l e R s m args below meth c n0 Q h cells slots pc L (.int x :: .int j :: .ref a :: st) := fun T locs X eh N' => by
  subst hp
  have A0 := A
  obtain ⟨q0, cl, A1, A2, A3⟩ := A
  obtain ⟨T1, h1, X1, e1, W1, st1⟩ := stC X C.1 C.2.2.1 eh A1 (hj.inb hi A2) (g := mkF m pc L (.int x :: .int j :: .ref a :: st)) rfl rfl (hb C.2.1 hd)
  have W2 : Wr h h1 a i (.int (nar .char x)) := by have := W1; rw [hj.2] at this; exact this
  obtain ⟨s2, u, L', x1, x2⟩ := g h1 W2 (A0.set W2) T1 _ X1 e1 (Fr.snoc X1 N' hna)
  exact ⟨s2, u, L', st1 _ x1, x2⟩
theorem g_bastore (C : Ctx p l e R s m args below meth c Z own nm bs ml rt) {a : Addr} {N : Nat} {f : Nat → Value} {j : Int32} {x : Int32} (A : Ary Z h a .byte N f) (i : Nat) (hj : Ix j i) (hi : i < N) (hd : decode bs pc = .ok (.bastore, 1)) (pc' : Nat) (hp : pc' = pc + 1) (hna : n0 ≤ a) (g : ∀ h', Wr h h' a i (.int (nar .byte x)) → Ary Z h' a .byte N (upd f i (.int (nar .byte x))) → Go p l e R s m args below meth c n0 Q h' cells slots pc' L st) : Go p l e R s m args below meth c n0 Q h cells slots pc L (.int x :: .int j :: .ref a :: st) := fun T locs X eh N' => by
  subst hp
  have A0 := A
  obtain ⟨q0, cl, A1, A2, A3⟩ := A
  obtain ⟨T1, h1, X1, e1, W1, st1⟩ := stB X C.1 C.2.2.1 eh A1 (hj.inb hi A2) (g := mkF m pc L (.int x :: .int j :: .ref a :: st)) rfl rfl (hb C.2.1 hd)
  have W2 : Wr h h1 a i (.int (nar .byte x)) := by have := W1; rw [hj.2] at this; exact this
  obtain ⟨s2, u, L', x1, x2⟩ := g h1 W2 (A0.set W2) T1 _ X1 e1 (Fr.snoc X1 N' hna)
  exact ⟨s2, u, L', st1 _ x1, x2⟩
theorem g_arraylength (C : Ctx p l e R s m args below meth c Z own nm bs ml rt) {a : Addr} {ty : FieldType} {N : Nat} {f : Nat → Value} (A : Ary Z h a ty N f) (z : Int32) (hz : Ix z N) (hd : decode bs pc = .ok (.arraylength, 1)) (pc' : Nat) (hp : pc' = pc + 1) (g : Go p l e R s m args below meth c n0 Q h cells slots pc' L (.int z :: st)) : Go p l e R s m args below meth c n0 Q h cells slots pc L (.ref a :: st) := by
  subst hp
  obtain ⟨q0, cl, A1, A2, A3⟩ := A
  have hl : cl.slots.size.toInt32 = z := len_of (A2.trans hz.2.symm) hz.1
  exact step (fun T locs X eh t k => X.arraylength C.1 (by rw [eh]; exact A1.1) (State.isArrayOf_alike C.2.2.1.alike A1.2.1) (g := mkF m pc L (.ref a :: st)) rfl rfl (hb C.2.1 hd) _ (by rw [hl]; exact k)) g
theorem g_newarray (C : Ctx p l e R s m args below meth c Z own nm bs ml rt) {aty : ArrayType} {n : Int32} (w : (Jvm.Cond.arrayClass (newarray.typeOf aty)).before a0 Z = true) (N cap : Nat) (hn : Ix n N) (hN : N ≤ cap) (hb8 : cap * 8 ≤ 536870912) (hd : decode bs pc = .ok (.newarray aty, 2)) (pc' : Nat) (hp : pc' = pc + 2) (cells' slots' : Nat) (hc' : cells' = cells + 1) (hs' : slots' = slots + cap) (hc : cells' ≤ R.cells) (hs : slots' ≤ R.slots) (g : ∀ h' a, a = h.size → Ext h h' → Ary Z h' a (newarray.typeOf aty) N (fun _ => defaultValue (newarray.typeOf aty)) → Go p l e R s m args below meth c n0 Q h' cells' slots' pc' L (.ref a :: st)) : Go p l e R s m args below meth c n0 Q h cells slots pc L (.int n :: st) := fun T locs X eh N' => by
  subst hp hc' hs'
  obtain ⟨T1, h1, cA, X1, e1, E1, A1, st1⟩ := newP X C.1 C.2.2.1 w eh (g := mkF m pc L (.int n :: st)) rfl (hb C.2.1 hd) rfl hn.1 (cap := cap) (by rw [hn.2]; exact hN) hb8 hc hs
  obtain ⟨s2, u, L', x1, x2⟩ := g h1 _ rfl E1 ⟨by omega, _, A1, by rw [sz_new, hn.2], fun j hj => by simp [newA, hn.2, hj]⟩ T1 _ X1 e1 N'
  exact ⟨s2, u, L', st1 _ x1, x2⟩
theorem c_static0 (C : Ctx p l e R s m args below meth c Z own nm bs ml rt) {i : Nat} {y : MethodName} {cb : ByteArray} {cm : Nat} {cr : Option FieldType} {rm : Room} {Q' : Option Value → Heap → Prop} (argsL rest : List Value) (w1 : (Jvm.Cond.methodLink own i y).before a0 Z = true) (w2 : (Jvm.Cond.static y).before a0 Z = true) (w3 : (Jvm.Cond.initialized y.cls).before a0 Z = true) (w4 : (Jvm.Cond.code y cb cm cr).before a0 Z = true) (hy : y.cls ≠ "java/lang/invoke/MethodHandle" ∧ y.cls ≠ "java/lang/invoke/VarHandle") (hM : Met l Z y cb cm cr rm argsL.toArray h n0 Q') (hd : decode bs pc = .ok (.invokestatic i, 3)) (pc' : Nat) (hp : pc' = pc + 3) (hlen : ∀ sig, parseMethodDescriptor y.desc = some sig → argsL.length = sig.parameters.length) (hL : L.size = ml) (W : Nat) (hW : 2 * 0 + (rest.map fun v => v.category).sum ≤ W) (hf : rm.frames + 1 ≤ R.frames) (hl : W + (cm + 11) + rm.locals ≤ R.locals) (cells' slots' : Nat) (hc' : cells' = cells + rm.cells) (hs' : slots' = slots + rm.slots) (hc : cells' ≤ R.cells) (hs : slots' ≤ R.slots) (g : ∀ v h', Q' v h' → Go p l e R s m args below meth c n0 Q h' cells' slots' pc' L (v.toList ++ rest)) : Go p l e R s m args below meth c n0 Q h cells slots pc L (argsL.reverse ++ rest) := fun T locs X eh N => by
  subst hp hc' hs'
  obtain ⟨v, _, ⟨U1, L1, k1, n1⟩, -, X1, ⟨Lc, hQ, l1, y1, z1⟩, st1⟩ := Jvm.LawKit.callS X C.1 (y := y) C.2.2.2.1 (mvT C.2.2.1 w1) (mvT C.2.2.1 w2) (mvT C.2.2.1 w3) (mvT C.2.2.1 w4) hy (backOf (W := W) (Q := fun v h L => Q' v h ∧ Fr n0 L) (hM []) C.2.2.1 w4 w3 hf hl) (g := mkF m pc L (argsL.reverse ++ rest)) rfl (hL.trans C.2.2.2.2.1.symm) (argsL := argsL) (rest := rest) hlen rfl hW (hb C.2.1 hd) (fun _ _ => ⟨rfl, eh, hc, hs⟩)
  dsimp only [Pt.U, Pt.locs, Pt.cells, Pt.slots] at X1 l1 y1 z1 st1 hQ
  subst l1 y1 z1
  obtain ⟨s2, u, L', x1, x2⟩ := g v U1.heap hQ.1 U1 _ X1 rfl (Fr.app N hQ.2)
  exact ⟨s2, u, L', st1 _ x1, x2⟩
theorem c_special0 (C : Ctx p l e R s m args below meth c Z own nm bs ml rt) {i : Nat} {y : MethodName} {cb : ByteArray} {cm : Nat} {rm : Room} {Q' : Option Value → Heap → Prop} (a : Addr) (argsL rest : List Value) (hin : y.name = "<init>") (w1 : (Jvm.Cond.methodLink own i y).before a0 Z = true) (w2 : (Jvm.Cond.instanceMethod y).before a0 Z = true) (w3 : (Jvm.Cond.initialized y.cls).before a0 Z = true) (w4 : (Jvm.Cond.code y cb cm none).before a0 Z = true) (hy : y.cls ≠ "java/lang/invoke/MethodHandle" ∧ y.cls ≠ "java/lang/invoke/VarHandle") (hM : Met l Z y cb cm none rm (.ref a :: argsL).toArray h n0 Q') (hd : decode bs pc = .ok (.invokespecial i, 3)) (pc' : Nat) (hp : pc' = pc + 3) (hlen : ∀ sig, parseMethodDescriptor y.desc = some sig → argsL.length = sig.parameters.length) (hL : L.size = ml) (W : Nat) (hW : 2 * 0 + (rest.map fun v => v.category).sum ≤ W) (hf : rm.frames + 1 ≤ R.frames) (hl : W + (cm + 11) + rm.locals ≤ R.locals) (cells' slots' : Nat) (hc' : cells' = cells + rm.cells) (hs' : slots' = slots + rm.slots) (hc : cells' ≤ R.cells) (hs : slots' ≤ R.slots) (g : ∀ v h', Q' v h' → Go p l e R s m args below meth c n0 Q h' cells' slots' pc' L (v.toList ++ rest)) : Go p l e R s m args below meth c n0 Q h cells slots pc L (argsL.reverse ++ .ref a :: rest) := fun T locs X eh N => by
  subst hp hc' hs'
  obtain ⟨v, _, ⟨U1, L1, k1, n1⟩, -, X1, ⟨Lc, hQ, l1, y1, z1⟩, st1⟩ := X.specialBack C.1 (y := y) hin C.2.2.2.1 (mvT C.2.2.1 w1) (mvT C.2.2.1 w2) (mvT C.2.2.1 w4) hy (backOf (W := W) (Q := fun v h L => Q' v h ∧ Fr n0 L) (hM []) C.2.2.1 w4 w3 hf hl) (g := mkF m pc L (argsL.reverse ++ .ref a :: rest)) rfl (hL.trans C.2.2.2.2.1.symm) (Steps.refl _) (a := a) (argsL := argsL) (rest := rest) hlen rfl hW (hb C.2.1 hd) (fun _ _ => ⟨rfl, eh, hc, hs⟩)
  dsimp only [Pt.U, Pt.locs, Pt.cells, Pt.slots] at X1 l1 y1 z1 st1 hQ
  subst l1 y1 z1
  obtain ⟨s2, u, L', x1, x2⟩ := g v U1.heap hQ.1 U1 _ X1 rfl (Fr.app N hQ.2)
  exact ⟨s2, u, L', st1.trans x1, x2⟩
theorem c_virtual0 (C : Ctx p l e R s m args below meth c Z own nm bs ml rt) {i : Nat} {K : String} {y : MethodName} {cb : ByteArray} {cm : Nat} {cr : Option FieldType} {rm : Room} {Q' : Option Value → Heap → Prop} (a : Addr) (argsL rest : List Value) (w1 : (Jvm.Cond.methodLink own i y).before a0 Z = true) (wd : (Jvm.Cond.declares y).before a0 Z = true) (ws : (Jvm.Cond.selects K y y).before a0 Z = true) (w2 : (Jvm.Cond.instanceMethod y).before a0 Z = true) (w3 : (Jvm.Cond.initialized y.cls).before a0 Z = true) (w4 : (Jvm.Cond.code y cb cm cr).before a0 Z = true) (hy : y.cls ≠ "java/lang/invoke/MethodHandle" ∧ y.cls ≠ "java/lang/invoke/VarHandle") (E : Exa Z h a K) (hM : Met l Z y cb cm cr rm (.ref a :: argsL).toArray h n0 Q') (hd : decode bs pc = .ok (.invokevirtual i, 3)) (pc' : Nat) (hp : pc' = pc + 3) (hlen : ∀ sig, parseMethodDescriptor y.desc = some sig → argsL.length = sig.parameters.length) (hL : L.size = ml) (W : Nat) (hW : 2 * 0 + (rest.map fun v => v.category).sum ≤ W) (hf : rm.frames + 1 ≤ R.frames) (hl : W + (cm + 11) + rm.locals ≤ R.locals) (cells' slots' : Nat) (hc' : cells' = cells + rm.cells) (hs' : slots' = slots + rm.slots) (hc : cells' ≤ R.cells) (hs : slots' ≤ R.slots) (g : ∀ v h', Q' v h' → Go p l e R s m args below meth c n0 Q h' cells' slots' pc' L (v.toList ++ rest)) : Go p l e R s m args below meth c n0 Q h cells slots pc L (argsL.reverse ++ .ref a :: rest) := fun T locs X eh N => by
  subst hp hc' hs'
  obtain ⟨cq, kq, qa, qb, qc⟩ := isOf C.2.2.1 eh E
  obtain ⟨v, _, ⟨U1, L1, k1, n1⟩, -, X1, ⟨Lc, hQ, l1, y1, z1⟩, st1⟩ := X.virtualBack C.1 (y := y) (z := y) C.2.2.2.1 (mvT C.2.2.1 w1) (mvT C.2.2.1 wd) (notFace_of_selects (args := #[]) (mvT C.2.2.1 ws)) (mvT C.2.2.1 ws) (mvT C.2.2.1 w2) hy (backOf (W := W) (Q := fun v h L => Q' v h ∧ Fr n0 L) (hM []) C.2.2.1 w4 w3 hf hl) qa qc (g := mkF m pc L (argsL.reverse ++ .ref a :: rest)) rfl (hL.trans C.2.2.2.2.1.symm) (Steps.refl _) (argsL := argsL) (rest := rest) hlen rfl hW (hb C.2.1 hd) (fun _ _ => ⟨rfl, eh, hc, hs⟩)
  dsimp only [Pt.U, Pt.locs, Pt.cells, Pt.slots] at X1 l1 y1 z1 st1 hQ
  subst l1 y1 z1
  obtain ⟨s2, u, L', x1, x2⟩ := g v U1.heap hQ.1 U1 _ X1 rfl (Fr.app N hQ.2)
  exact ⟨s2, u, L', st1.trans x1, x2⟩
theorem c_staticI (C : Ctx p l e R s m args below meth c Z own nm bs ml rt) {i : Nat} {y : MethodName} {cb : ByteArray} {cm : Nat} {cr : Option FieldType} {rm : Room} {P' : Int32 → Heap → Prop} (argsL rest : List Value) (w1 : (Jvm.Cond.methodLink own i y).before a0 Z = true) (w2 : (Jvm.Cond.static y).before a0 Z = true) (w3 : (Jvm.Cond.initialized y.cls).before a0 Z = true) (w4 : (Jvm.Cond.code y cb cm cr).before a0 Z = true) (hy : y.cls ≠ "java/lang/invoke/MethodHandle" ∧ y.cls ≠ "java/lang/invoke/VarHandle") (hM : Met l Z y cb cm cr rm argsL.toArray h n0 (qI P')) (hd : decode bs pc = .ok (.invokestatic i, 3)) (pc' : Nat) (hp : pc' = pc + 3) (hlen : ∀ sig, parseMethodDescriptor y.desc = some sig → argsL.length = sig.parameters.length) (hL : L.size = ml) (W : Nat) (hW : 2 * 0 + (rest.map fun v => v.category).sum ≤ W) (hf : rm.frames + 1 ≤ R.frames) (hl : W + (cm + 11) + rm.locals ≤ R.locals) (cells' slots' : Nat) (hc' : cells' = cells + rm.cells) (hs' : slots' = slots + rm.slots) (hc : cells' ≤ R.cells) (hs : slots' ≤ R.slots) (hst : st = argsL.reverse ++ rest) (g : ∀ r h', P' r h' → Go p l e R s m args below meth c n0 Q h' cells' slots' pc' L (.int r :: rest)) : Go p l e R s m args below meth c n0 Q h cells slots pc L st := by
  subst hst
  exact c_static0 C argsL rest w1 w2 w3 w4 hy hM hd pc' hp hlen hL W hW hf hl cells' slots' hc' hs' hc hs (fun v h' hq => by obtain ⟨r, rfl, q⟩ := hq; exact g r h' q)
theorem c_staticJ (C : Ctx p l e R s m args below meth c Z own nm bs ml rt) {i : Nat} {y : MethodName} {cb : ByteArray} {cm : Nat} {cr : Option FieldType} {rm : Room} {P' : Int64 → Heap → Prop} (argsL rest : List Value) (w1 : (Jvm.Cond.methodLink own i y).before a0 Z = true) (w2 : (Jvm.Cond.static y).before a0 Z = true) (w3 : (Jvm.Cond.initialized y.cls).before a0 Z = true) (w4 : (Jvm.Cond.code y cb cm cr).before a0 Z = true) (hy : y.cls ≠ "java/lang/invoke/MethodHandle" ∧ y.cls ≠ "java/lang/invoke/VarHandle") (hM : Met l Z y cb cm cr rm argsL.toArray h n0 (qJ P')) (hd : decode bs pc = .ok (.invokestatic i, 3)) (pc' : Nat) (hp : pc' = pc + 3) (hlen : ∀ sig, parseMethodDescriptor y.desc = some sig → argsL.length = sig.parameters.length) (hL : L.size = ml) (W : Nat) (hW : 2 * 0 + (rest.map fun v => v.category).sum ≤ W) (hf : rm.frames + 1 ≤ R.frames) (hl : W + (cm + 11) + rm.locals ≤ R.locals) (cells' slots' : Nat) (hc' : cells' = cells + rm.cells) (hs' : slots' = slots + rm.slots) (hc : cells' ≤ R.cells) (hs : slots' ≤ R.slots) (hst : st = argsL.reverse ++ rest) (g : ∀ r h', P' r h' → Go p l e R s m args below meth c n0 Q h' cells' slots' pc' L (.long r :: rest)) : Go p l e R s m args below meth c n0 Q h cells slots pc L st := by
  subst hst
  exact c_static0 C argsL rest w1 w2 w3 w4 hy hM hd pc' hp hlen hL W hW hf hl cells' slots' hc' hs' hc hs (fun v h' hq => by obtain ⟨r, rfl, q⟩ := hq; exact g r h' q)
theorem c_staticA (C : Ctx p l e R s m args below meth c Z own nm bs ml rt) {i : Nat} {y : MethodName} {cb : ByteArray} {cm : Nat} {cr : Option FieldType} {rm : Room} {P' : Addr → Heap → Prop} (argsL rest : List Value) (w1 : (Jvm.Cond.methodLink own i y).before a0 Z = true) (w2 : (Jvm.Cond.static y).before a0 Z = true) (w3 : (Jvm.Cond.initialized y.cls).before a0 Z = true) (w4 : (Jvm.Cond.code y cb cm cr).before a0 Z = true) (hy : y.cls ≠ "java/lang/invoke/MethodHandle" ∧ y.cls ≠ "java/lang/invoke/VarHandle") (hM : Met l Z y cb cm cr rm argsL.toArray h n0 (qA P')) (hd : decode bs pc = .ok (.invokestatic i, 3)) (pc' : Nat) (hp : pc' = pc + 3) (hlen : ∀ sig, parseMethodDescriptor y.desc = some sig → argsL.length = sig.parameters.length) (hL : L.size = ml) (W : Nat) (hW : 2 * 0 + (rest.map fun v => v.category).sum ≤ W) (hf : rm.frames + 1 ≤ R.frames) (hl : W + (cm + 11) + rm.locals ≤ R.locals) (cells' slots' : Nat) (hc' : cells' = cells + rm.cells) (hs' : slots' = slots + rm.slots) (hc : cells' ≤ R.cells) (hs : slots' ≤ R.slots) (hst : st = argsL.reverse ++ rest) (g : ∀ r h', P' r h' → Go p l e R s m args below meth c n0 Q h' cells' slots' pc' L (.ref r :: rest)) : Go p l e R s m args below meth c n0 Q h cells slots pc L st := by
  subst hst
  exact c_static0 C argsL rest w1 w2 w3 w4 hy hM hd pc' hp hlen hL W hW hf hl cells' slots' hc' hs' hc hs (fun v h' hq => by obtain ⟨r, rfl, q⟩ := hq; exact g r h' q)
theorem c_staticV (C : Ctx p l e R s m args below meth c Z own nm bs ml rt) {i : Nat} {y : MethodName} {cb : ByteArray} {cm : Nat} {cr : Option FieldType} {rm : Room} {P' : Heap → Prop} (argsL rest : List Value) (w1 : (Jvm.Cond.methodLink own i y).before a0 Z = true) (w2 : (Jvm.Cond.static y).before a0 Z = true) (w3 : (Jvm.Cond.initialized y.cls).before a0 Z = true) (w4 : (Jvm.Cond.code y cb cm cr).before a0 Z = true) (hy : y.cls ≠ "java/lang/invoke/MethodHandle" ∧ y.cls ≠ "java/lang/invoke/VarHandle") (hM : Met l Z y cb cm cr rm argsL.toArray h n0 (qV P')) (hd : decode bs pc = .ok (.invokestatic i, 3)) (pc' : Nat) (hp : pc' = pc + 3) (hlen : ∀ sig, parseMethodDescriptor y.desc = some sig → argsL.length = sig.parameters.length) (hL : L.size = ml) (W : Nat) (hW : 2 * 0 + (rest.map fun v => v.category).sum ≤ W) (hf : rm.frames + 1 ≤ R.frames) (hl : W + (cm + 11) + rm.locals ≤ R.locals) (cells' slots' : Nat) (hc' : cells' = cells + rm.cells) (hs' : slots' = slots + rm.slots) (hc : cells' ≤ R.cells) (hs : slots' ≤ R.slots) (hst : st = argsL.reverse ++ rest) (g : ∀ h', P' h' → Go p l e R s m args below meth c n0 Q h' cells' slots' pc' L rest) : Go p l e R s m args below meth c n0 Q h cells slots pc L st := by
  subst hst
  exact c_static0 C argsL rest w1 w2 w3 w4 hy hM hd pc' hp hlen hL W hW hf hl cells' slots' hc' hs' hc hs (fun v h' hq => by obtain ⟨rfl, q⟩ := hq; exact g h' q)
theorem c_specialV (C : Ctx p l e R s m args below meth c Z own nm bs ml rt) {i : Nat} {y : MethodName} {cb : ByteArray} {cm : Nat} {rm : Room} {P' : Heap → Prop} (a : Addr) (argsL rest : List Value) (hin : y.name = "<init>") (w1 : (Jvm.Cond.methodLink own i y).before a0 Z = true) (w2 : (Jvm.Cond.instanceMethod y).before a0 Z = true) (w3 : (Jvm.Cond.initialized y.cls).before a0 Z = true) (w4 : (Jvm.Cond.code y cb cm none).before a0 Z = true) (hy : y.cls ≠ "java/lang/invoke/MethodHandle" ∧ y.cls ≠ "java/lang/invoke/VarHandle") (hM : Met l Z y cb cm none rm (.ref a :: argsL).toArray h n0 (qV P')) (hd : decode bs pc = .ok (.invokespecial i, 3)) (pc' : Nat) (hp : pc' = pc + 3) (hlen : ∀ sig, parseMethodDescriptor y.desc = some sig → argsL.length = sig.parameters.length) (hL : L.size = ml) (W : Nat) (hW : 2 * 0 + (rest.map fun v => v.category).sum ≤ W) (hf : rm.frames + 1 ≤ R.frames) (hl : W + (cm + 11) + rm.locals ≤ R.locals) (cells' slots' : Nat) (hc' : cells' = cells + rm.cells) (hs' : slots' = slots + rm.slots) (hc : cells' ≤ R.cells) (hs : slots' ≤ R.slots) (hst : st = argsL.reverse ++ .ref a :: rest) (g : ∀ h', P' h' → Go p l e R s m args below meth c n0 Q h' cells' slots' pc' L rest) : Go p l e R s m args below meth c n0 Q h cells slots pc L st := by
  subst hst
  exact c_special0 C a argsL rest hin w1 w2 w3 w4 hy hM hd pc' hp hlen hL W hW hf hl cells' slots' hc' hs' hc hs (fun v h' hq => by obtain ⟨rfl, q⟩ := hq; exact g h' q)
theorem c_virtualI (C : Ctx p l e R s m args below meth c Z own nm bs ml rt) {i : Nat} {K : String} {y : MethodName} {cb : ByteArray} {cm : Nat} {cr : Option FieldType} {rm : Room} {P' : Int32 → Heap → Prop} (a : Addr) (argsL rest : List Value) (w1 : (Jvm.Cond.methodLink own i y).before a0 Z = true) (wd : (Jvm.Cond.declares y).before a0 Z = true) (ws : (Jvm.Cond.selects K y y).before a0 Z = true) (w2 : (Jvm.Cond.instanceMethod y).before a0 Z = true) (w3 : (Jvm.Cond.initialized y.cls).before a0 Z = true) (w4 : (Jvm.Cond.code y cb cm cr).before a0 Z = true) (hy : y.cls ≠ "java/lang/invoke/MethodHandle" ∧ y.cls ≠ "java/lang/invoke/VarHandle") (E : Exa Z h a K) (hM : Met l Z y cb cm cr rm (.ref a :: argsL).toArray h n0 (qI P')) (hd : decode bs pc = .ok (.invokevirtual i, 3)) (pc' : Nat) (hp : pc' = pc + 3) (hlen : ∀ sig, parseMethodDescriptor y.desc = some sig → argsL.length = sig.parameters.length) (hL : L.size = ml) (W : Nat) (hW : 2 * 0 + (rest.map fun v => v.category).sum ≤ W) (hf : rm.frames + 1 ≤ R.frames) (hl : W + (cm + 11) + rm.locals ≤ R.locals) (cells' slots' : Nat) (hc' : cells' = cells + rm.cells) (hs' : slots' = slots + rm.slots) (hc : cells' ≤ R.cells) (hs : slots' ≤ R.slots) (hst : st = argsL.reverse ++ .ref a :: rest) (g : ∀ r h', P' r h' → Go p l e R s m args below meth c n0 Q h' cells' slots' pc' L (.int r :: rest)) : Go p l e R s m args below meth c n0 Q h cells slots pc L st := by
  subst hst
  exact c_virtual0 C a argsL rest w1 wd ws w2 w3 w4 hy E hM hd pc' hp hlen hL W hW hf hl cells' slots' hc' hs' hc hs (fun v h' hq => by obtain ⟨r, rfl, q⟩ := hq; exact g r h' q)
theorem c_virtualJ (C : Ctx p l e R s m args below meth c Z own nm bs ml rt) {i : Nat} {K : String} {y : MethodName} {cb : ByteArray} {cm : Nat} {cr : Option FieldType} {rm : Room} {P' : Int64 → Heap → Prop} (a : Addr) (argsL rest : List Value) (w1 : (Jvm.Cond.methodLink own i y).before a0 Z = true) (wd : (Jvm.Cond.declares y).before a0 Z = true) (ws : (Jvm.Cond.selects K y y).before a0 Z = true) (w2 : (Jvm.Cond.instanceMethod y).before a0 Z = true) (w3 : (Jvm.Cond.initialized y.cls).before a0 Z = true) (w4 : (Jvm.Cond.code y cb cm cr).before a0 Z = true) (hy : y.cls ≠ "java/lang/invoke/MethodHandle" ∧ y.cls ≠ "java/lang/invoke/VarHandle") (E : Exa Z h a K) (hM : Met l Z y cb cm cr rm (.ref a :: argsL).toArray h n0 (qJ P')) (hd : decode bs pc = .ok (.invokevirtual i, 3)) (pc' : Nat) (hp : pc' = pc + 3) (hlen : ∀ sig, parseMethodDescriptor y.desc = some sig → argsL.length = sig.parameters.length) (hL : L.size = ml) (W : Nat) (hW : 2 * 0 + (rest.map fun v => v.category).sum ≤ W) (hf : rm.frames + 1 ≤ R.frames) (hl : W + (cm + 11) + rm.locals ≤ R.locals) (cells' slots' : Nat) (hc' : cells' = cells + rm.cells) (hs' : slots' = slots + rm.slots) (hc : cells' ≤ R.cells) (hs : slots' ≤ R.slots) (hst : st = argsL.reverse ++ .ref a :: rest) (g : ∀ r h', P' r h' → Go p l e R s m args below meth c n0 Q h' cells' slots' pc' L (.long r :: rest)) : Go p l e R s m args below meth c n0 Q h cells slots pc L st := by
  subst hst
  exact c_virtual0 C a argsL rest w1 wd ws w2 w3 w4 hy E hM hd pc' hp hlen hL W hW hf hl cells' slots' hc' hs' hc hs (fun v h' hq => by obtain ⟨r, rfl, q⟩ := hq; exact g r h' q)
theorem c_virtualA (C : Ctx p l e R s m args below meth c Z own nm bs ml rt) {i : Nat} {K : String} {y : MethodName} {cb : ByteArray} {cm : Nat} {cr : Option FieldType} {rm : Room} {P' : Addr → Heap → Prop} (a : Addr) (argsL rest : List Value) (w1 : (Jvm.Cond.methodLink own i y).before a0 Z = true) (wd : (Jvm.Cond.declares y).before a0 Z = true) (ws : (Jvm.Cond.selects K y y).before a0 Z = true) (w2 : (Jvm.Cond.instanceMethod y).before a0 Z = true) (w3 : (Jvm.Cond.initialized y.cls).before a0 Z = true) (w4 : (Jvm.Cond.code y cb cm cr).before a0 Z = true) (hy : y.cls ≠ "java/lang/invoke/MethodHandle" ∧ y.cls ≠ "java/lang/invoke/VarHandle") (E : Exa Z h a K) (hM : Met l Z y cb cm cr rm (.ref a :: argsL).toArray h n0 (qA P')) (hd : decode bs pc = .ok (.invokevirtual i, 3)) (pc' : Nat) (hp : pc' = pc + 3) (hlen : ∀ sig, parseMethodDescriptor y.desc = some sig → argsL.length = sig.parameters.length) (hL : L.size = ml) (W : Nat) (hW : 2 * 0 + (rest.map fun v => v.category).sum ≤ W) (hf : rm.frames + 1 ≤ R.frames) (hl : W + (cm + 11) + rm.locals ≤ R.locals) (cells' slots' : Nat) (hc' : cells' = cells + rm.cells) (hs' : slots' = slots + rm.slots) (hc : cells' ≤ R.cells) (hs : slots' ≤ R.slots) (hst : st = argsL.reverse ++ .ref a :: rest) (g : ∀ r h', P' r h' → Go p l e R s m args below meth c n0 Q h' cells' slots' pc' L (.ref r :: rest)) : Go p l e R s m args below meth c n0 Q h cells slots pc L st := by
  subst hst
  exact c_virtual0 C a argsL rest w1 wd ws w2 w3 w4 hy E hM hd pc' hp hlen hL W hW hf hl cells' slots' hc' hs' hc hs (fun v h' hq => by obtain ⟨r, rfl, q⟩ := hq; exact g r h' q)
theorem c_virtualV (C : Ctx p l e R s m args below meth c Z own nm bs ml rt) {i : Nat} {K : String} {y : MethodName} {cb : ByteArray} {cm : Nat} {cr : Option FieldType} {rm : Room} {P' : Heap → Prop} (a : Addr) (argsL rest : List Value) (w1 : (Jvm.Cond.methodLink own i y).before a0 Z = true) (wd : (Jvm.Cond.declares y).before a0 Z = true) (ws : (Jvm.Cond.selects K y y).before a0 Z = true) (w2 : (Jvm.Cond.instanceMethod y).before a0 Z = true) (w3 : (Jvm.Cond.initialized y.cls).before a0 Z = true) (w4 : (Jvm.Cond.code y cb cm cr).before a0 Z = true) (hy : y.cls ≠ "java/lang/invoke/MethodHandle" ∧ y.cls ≠ "java/lang/invoke/VarHandle") (E : Exa Z h a K) (hM : Met l Z y cb cm cr rm (.ref a :: argsL).toArray h n0 (qV P')) (hd : decode bs pc = .ok (.invokevirtual i, 3)) (pc' : Nat) (hp : pc' = pc + 3) (hlen : ∀ sig, parseMethodDescriptor y.desc = some sig → argsL.length = sig.parameters.length) (hL : L.size = ml) (W : Nat) (hW : 2 * 0 + (rest.map fun v => v.category).sum ≤ W) (hf : rm.frames + 1 ≤ R.frames) (hl : W + (cm + 11) + rm.locals ≤ R.locals) (cells' slots' : Nat) (hc' : cells' = cells + rm.cells) (hs' : slots' = slots + rm.slots) (hc : cells' ≤ R.cells) (hs : slots' ≤ R.slots) (hst : st = argsL.reverse ++ .ref a :: rest) (g : ∀ h', P' h' → Go p l e R s m args below meth c n0 Q h' cells' slots' pc' L rest) : Go p l e R s m args below meth c n0 Q h cells slots pc L st := by
  subst hst
  exact c_virtual0 C a argsL rest w1 wd ws w2 w3 w4 hy E hM hd pc' hp hlen hL W hW hf hl cells' slots' hc' hs' hc hs (fun v h' hq => by obtain ⟨rfl, q⟩ := hq; exact g h' q)
end OwnBase
end Jvm.Pilot.@@N@@.OwnW
namespace Jvm.Pilot.@@N@@
open Jvm Jvm.ClassFile Sem Op Lib Jvm.Free Jvm.Stand Jvm.LawKit Jvm.RoadKit Jvm.Pilot.@@N@@.OwnW Bundle Jvm.Pilot.@@N@@.Jvm.D
def isW (c : Int32) : Prop := c = 9 ∨ c = 10 ∨ c = 13 ∨ c = 32
def inI (i st ln : Int32) : Prop := ¬ i < st ∧ i < st + ln
def gF (c0 c1 c2 c3 : Int32) (j : Nat) : Int32 := if j = 0 then c0 else if j = 1 then c1 else if j = 2 then c2 else c3
theorem own_in {i st ln : Int32} {i' s0 e0 : Nat} (x : Ix i i') (y : Ix st s0) (z : Ix (st + ln) e0) : inI i st ln ↔ s0 ≤ i' ∧ i' < e0 := by
  unfold inI
  rw [x.lt y, x.lt z]; omega
theorem own_all {P : Nat → Prop} {s0 e0 : Nat} (he : e0 ≤ 4) (q0 : s0 ≤ 0 ∧ 0 < e0 → P 0) (q1 : s0 ≤ 1 ∧ 1 < e0 → P 1) (q2 : s0 ≤ 2 ∧ 2 < e0 → P 2) (q3 : s0 ≤ 3 ∧ 3 < e0 → P 3) : ∀ j, s0 ≤ j → j < e0 → P j := by
  intro j h1 h2
  have : j = 0 ∨ j = 1 ∨ j = 2 ∨ j = 3 := by omega
  rcases this with rfl | rfl | rfl | rfl
  · exact q0 ⟨h1, h2⟩
  · exact q1 ⟨h1, h2⟩
  · exact q2 ⟨h1, h2⟩
  · exact q3 ⟨h1, h2⟩
theorem d1_0 : decode method_2_code 0 = .ok (.iload_n 0, 1) := by decide +kernel
theorem d1_1 : decode method_2_code 1 = .ok (.bipush 16, 2) := by decide +kernel
theorem d1_3 : decode method_2_code 3 = .ok (.iushr, 1) := by decide +kernel
theorem d1_4 : decode method_2_code 4 = .ok (.iconst 1, 1) := by decide +kernel
theorem d1_5 : decode method_2_code 5 = .ok (.iand, 1) := by decide +kernel
theorem d1_6 : decode method_2_code 6 = .ok (.ifCond .eq 33, 3) := by decide +kernel
theorem d1_9 : decode method_2_code 9 = .ok (.iload_n 0, 1) := by decide +kernel
theorem d1_10 : decode method_2_code 10 = .ok (.iconst 3, 1) := by decide +kernel
theorem d1_11 : decode method_2_code 11 = .ok (.iand, 1) := by decide +kernel
theorem d1_12 : decode method_2_code 12 = .ok (.istore_n 1, 1) := by decide +kernel
theorem d1_13 : decode method_2_code 13 = .ok (.iload_n 1, 1) := by decide +kernel
theorem d1_14 : decode method_2_code 14 = .ok (.ifCond .ne 6, 3) := by decide +kernel
theorem d1_17 : decode method_2_code 17 = .ok (.bipush 32, 2) := by decide +kernel
theorem d1_19 : decode method_2_code 19 = .ok (.ireturn, 1) := by decide +kernel
theorem d1_20 : decode method_2_code 20 = .ok (.iload_n 1, 1) := by decide +kernel
theorem d1_21 : decode method_2_code 21 = .ok (.iconst 1, 1) := by decide +kernel
theorem d1_22 : decode method_2_code 22 = .ok (.if_icmp .ne 6, 3) := by decide +kernel
theorem d1_25 : decode method_2_code 25 = .ok (.bipush 9, 2) := by decide +kernel
theorem d1_27 : decode method_2_code 27 = .ok (.ireturn, 1) := by decide +kernel
theorem d1_28 : decode method_2_code 28 = .ok (.iload_n 1, 1) := by decide +kernel
theorem d1_29 : decode method_2_code 29 = .ok (.iconst 2, 1) := by decide +kernel
theorem d1_30 : decode method_2_code 30 = .ok (.if_icmp .ne 6, 3) := by decide +kernel
theorem d1_33 : decode method_2_code 33 = .ok (.bipush 13, 2) := by decide +kernel
theorem d1_35 : decode method_2_code 35 = .ok (.ireturn, 1) := by decide +kernel
theorem d1_36 : decode method_2_code 36 = .ok (.bipush 10, 2) := by decide +kernel
theorem d1_38 : decode method_2_code 38 = .ok (.ireturn, 1) := by decide +kernel
theorem d1_39 : decode method_2_code 39 = .ok (.iload_n 0, 1) := by decide +kernel
theorem d1_40 : decode method_2_code 40 = .ok (.ldc 7, 2) := by decide +kernel
theorem d1_42 : decode method_2_code 42 = .ok (.iand, 1) := by decide +kernel
theorem d1_43 : decode method_2_code 43 = .ok (.i2c, 1) := by decide +kernel
theorem d1_44 : decode method_2_code 44 = .ok (.ireturn, 1) := by decide +kernel
theorem pn_com_example_gauzy_branch_gauzybranch_model_NestingIsWhitespacePinLaw : plainName "com/example/gauzy_branch/gauzybranch/model/NestingIsWhitespacePinLaw" = true := by first | (simp [plainName, overriddenIn]; done) | decide +kernel
theorem ef_1 (m : MethodId) (x0 : Int32) : entryFrame m #[(.int x0)] 2 = mkF m 0 #[.val (.int x0), .unset] [] := by first | (simp [entryFrame, mkF, argsToLocals, Value.category, maxLocals]; done) | rfl
set_option maxRecDepth 65536 in
set_option maxHeartbeats 40000000 in
theorem m1 (l : Launch) (Z : State) (a0 : Array Value) (hw : ∀ d ∈ tables_1, d.before a0 Z = true) (p0 : Int32) (h0 : Heap) (n0 : Nat)  :
    Met l Z (⟨"com/example/gauzy_branch/gauzybranch/model/NestingIsWhitespacePinLaw", "pick", "(I)C"⟩ : MethodName) method_2_code 2 (some (.char)) ({ frames := 0, cells := 0, slots := 0, locals := 0 } : Room) #[(.int p0)] h0 n0 (qI fun r h => True ∧ h0 = h) := by
  refine met (plainFor_of_name pn_com_example_gauzy_branch_gauzybranch_model_NestingIsWhitespacePinLaw) #[.val (.int p0), .unset] (fun m => ef_1 m p0) ?_
  intro p e s m below meth c C
  refine g_iloadN C d1_0 1 rfl rfl ?_
  refine g_bipush C d1_1 3 rfl (16 : Int32) (by decide) ?_
  refine g_iushr C d1_3 4 rfl ?_
  refine g_iconst C d1_4 5 rfl (1 : Int32) (by decide) ?_
  refine g_iand C d1_5 6 rfl ?_
  refine g_ifeq C d1_6 39 (by decide) 9 rfl (fun k6 => ?_) (fun k6 => ?_)
  · refine g_iloadN C d1_39 40 rfl rfl ?_
    refine g_ldc C (hw _ (List.mem_of_getElem? (i := 5) rfl)) d1_40 42 rfl ?_
    refine g_iand C d1_42 43 rfl ?_
    refine g_i2c C d1_43 44 rfl ?_
    refine r_nar C (by simp) d1_44 (by decide) (by decide) ⟨trivial, rfl⟩
  · refine g_iloadN C d1_9 10 rfl rfl ?_
    refine g_iconst C d1_10 11 rfl (3 : Int32) (by decide) ?_
    refine g_iand C d1_11 12 rfl ?_
    refine g_istoreN C d1_12 13 rfl (fun z' => #[.val (.int p0), .val (.int z')]) (fun _ => rfl) (fun v12 ev12 => ?_)
    refine g_iloadN C d1_13 14 rfl rfl ?_
    refine g_ifne C d1_14 20 (by decide) 17 rfl (fun k14 => ?_) (fun k14 => ?_)
    · refine g_iloadN C d1_20 21 rfl rfl ?_
      refine g_iconst C d1_21 22 rfl (1 : Int32) (by decide) ?_
      refine g_if_icmpne C d1_22 28 (by decide) 25 rfl (fun k22 => ?_) (fun k22 => ?_)
      · refine g_iloadN C d1_28 29 rfl rfl ?_
        refine g_iconst C d1_29 30 rfl (2 : Int32) (by decide) ?_
        refine g_if_icmpne C d1_30 36 (by decide) 33 rfl (fun k30 => ?_) (fun k30 => ?_)
        · refine g_bipush C d1_36 38 rfl (10 : Int32) (by decide) ?_
          refine r_nar C (by simp) d1_38 (by decide) (by decide) ⟨trivial, rfl⟩
        · refine g_bipush C d1_33 35 rfl (13 : Int32) (by decide) ?_
          refine r_nar C (by simp) d1_35 (by decide) (by decide) ⟨trivial, rfl⟩
      · refine g_bipush C d1_25 27 rfl (9 : Int32) (by decide) ?_
        refine r_nar C (by simp) d1_27 (by decide) (by decide) ⟨trivial, rfl⟩
    · refine g_bipush C d1_17 19 rfl (32 : Int32) (by decide) ?_
      refine r_nar C (by simp) d1_19 (by decide) (by decide) ⟨trivial, rfl⟩
theorem d4_0 : decode method_3_code 0 = .ok (.iload_n 0, 1) := by decide +kernel
theorem d4_1 : decode method_3_code 1 = .ok (.bipush 9, 2) := by decide +kernel
theorem d4_3 : decode method_3_code 3 = .ok (.if_icmp .eq 21, 3) := by decide +kernel
theorem d4_6 : decode method_3_code 6 = .ok (.iload_n 0, 1) := by decide +kernel
theorem d4_7 : decode method_3_code 7 = .ok (.bipush 10, 2) := by decide +kernel
theorem d4_9 : decode method_3_code 9 = .ok (.if_icmp .eq 15, 3) := by decide +kernel
theorem d4_12 : decode method_3_code 12 = .ok (.iload_n 0, 1) := by decide +kernel
theorem d4_13 : decode method_3_code 13 = .ok (.bipush 13, 2) := by decide +kernel
theorem d4_15 : decode method_3_code 15 = .ok (.if_icmp .eq 9, 3) := by decide +kernel
theorem d4_18 : decode method_3_code 18 = .ok (.iload_n 0, 1) := by decide +kernel
theorem d4_19 : decode method_3_code 19 = .ok (.bipush 32, 2) := by decide +kernel
theorem d4_21 : decode method_3_code 21 = .ok (.if_icmp .ne 7, 3) := by decide +kernel
theorem d4_24 : decode method_3_code 24 = .ok (.iconst 1, 1) := by decide +kernel
theorem d4_25 : decode method_3_code 25 = .ok (.goto 4, 3) := by decide +kernel
theorem d4_28 : decode method_3_code 28 = .ok (.iconst 0, 1) := by decide +kernel
theorem d4_29 : decode method_3_code 29 = .ok (.ireturn, 1) := by decide +kernel
theorem ef_4 (m : MethodId) (x0 : Int32) : entryFrame m #[(.int x0)] 1 = mkF m 0 #[.val (.int x0)] [] := by first | (simp [entryFrame, mkF, argsToLocals, Value.category, maxLocals]; done) | rfl
set_option maxRecDepth 65536 in
set_option maxHeartbeats 40000000 in
theorem m4 (l : Launch) (Z : State) (a0 : Array Value) (hw : ∀ d ∈ tables_1, d.before a0 Z = true) (p0 : Int32) (h0 : Heap) (n0 : Nat)  :
    Met l Z (⟨"com/example/gauzy_branch/gauzybranch/model/NestingIsWhitespacePinLaw", "ws", "(C)Z"⟩ : MethodName) method_3_code 1 (some (.boolean)) ({ frames := 0, cells := 0, slots := 0, locals := 0 } : Room) #[(.int p0)] h0 n0 (qI fun r h => ((r = 1 ∧ isW p0) ∨ (r = 0 ∧ ¬ isW p0)) ∧ h0 = h) := by
  refine met (plainFor_of_name pn_com_example_gauzy_branch_gauzybranch_model_NestingIsWhitespacePinLaw) #[.val (.int p0)] (fun m => ef_4 m p0) ?_
  intro p e s m below meth c C
  refine g_iloadN C d4_0 1 rfl rfl ?_
  refine g_bipush C d4_1 3 rfl (9 : Int32) (by decide) ?_
  refine g_if_icmpeq C d4_3 24 (by decide) 6 rfl (fun k3 => ?_) (fun k3 => ?_)
  · refine g_iconst C d4_24 25 rfl (1 : Int32) (by decide) ?_
    refine g_goto C d4_25 29 (by decide) ?_
    refine r_nar C (by simp) d4_29 (by decide) (by decide) ⟨Or.inl ⟨rfl, Or.inl k3⟩, rfl⟩
  · refine g_iloadN C d4_6 7 rfl rfl ?_
    refine g_bipush C d4_7 9 rfl (10 : Int32) (by decide) ?_
    refine g_if_icmpeq C d4_9 24 (by decide) 12 rfl (fun k9 => ?_) (fun k9 => ?_)
    · refine g_iconst C d4_24 25 rfl (1 : Int32) (by decide) ?_
      refine g_goto C d4_25 29 (by decide) ?_
      refine r_nar C (by simp) d4_29 (by decide) (by decide) ⟨Or.inl ⟨rfl, Or.inr (Or.inl k9)⟩, rfl⟩
    · refine g_iloadN C d4_12 13 rfl rfl ?_
      refine g_bipush C d4_13 15 rfl (13 : Int32) (by decide) ?_
      refine g_if_icmpeq C d4_15 24 (by decide) 18 rfl (fun k15 => ?_) (fun k15 => ?_)
      · refine g_iconst C d4_24 25 rfl (1 : Int32) (by decide) ?_
        refine g_goto C d4_25 29 (by decide) ?_
        refine r_nar C (by simp) d4_29 (by decide) (by decide) ⟨Or.inl ⟨rfl, Or.inr (Or.inr (Or.inl k15))⟩, rfl⟩
      · refine g_iloadN C d4_18 19 rfl rfl ?_
        refine g_bipush C d4_19 21 rfl (32 : Int32) (by decide) ?_
        refine g_if_icmpne C d4_21 28 (by decide) 24 rfl (fun k21 => ?_) (fun k21 => ?_)
        · refine g_iconst C d4_28 29 rfl (0 : Int32) (by decide) ?_
          have kn : ¬ isW p0 := fun z => z.elim k3 (fun z => z.elim k9 (fun z => z.elim k15 k21))
          refine r_nar C (by simp) d4_29 (by decide) (by decide) ⟨Or.inr ⟨rfl, kn⟩, rfl⟩
        · refine g_iconst C d4_24 25 rfl (1 : Int32) (by decide) ?_
          refine g_goto C d4_25 29 (by decide) ?_
          refine r_nar C (by simp) d4_29 (by decide) (by decide) ⟨Or.inl ⟨rfl, Or.inr (Or.inr (Or.inr k21))⟩, rfl⟩
theorem d2_0 : decode method_4_code 0 = .ok (.iload_n 1, 1) := by decide +kernel
theorem d2_1 : decode method_4_code 1 = .ok (.iload_n 0, 1) := by decide +kernel
theorem d2_2 : decode method_4_code 2 = .ok (.if_icmp .gt 14, 3) := by decide +kernel
theorem d2_5 : decode method_4_code 5 = .ok (.iload_n 0, 1) := by decide +kernel
theorem d2_6 : decode method_4_code 6 = .ok (.iload_n 1, 1) := by decide +kernel
theorem d2_7 : decode method_4_code 7 = .ok (.iload_n 2, 1) := by decide +kernel
theorem d2_8 : decode method_4_code 8 = .ok (.iadd, 1) := by decide +kernel
theorem d2_9 : decode method_4_code 9 = .ok (.if_icmp .ge 7, 3) := by decide +kernel
theorem d2_12 : decode method_4_code 12 = .ok (.iconst 1, 1) := by decide +kernel
theorem d2_13 : decode method_4_code 13 = .ok (.goto 4, 3) := by decide +kernel
theorem d2_16 : decode method_4_code 16 = .ok (.iconst 0, 1) := by decide +kernel
theorem d2_17 : decode method_4_code 17 = .ok (.istore 4, 2) := by decide +kernel
theorem d2_19 : decode method_4_code 19 = .ok (.iload 4, 2) := by decide +kernel
theorem d2_21 : decode method_4_code 21 = .ok (.ifCond .eq 10, 3) := by decide +kernel
theorem d2_24 : decode method_4_code 24 = .ok (.iload_n 3, 1) := by decide +kernel
theorem d2_25 : decode method_4_code 25 = .ok (.invokestatic 8, 3) := by decide +kernel
theorem d2_28 : decode method_4_code 28 = .ok (.ifCond .eq 7, 3) := by decide +kernel
theorem d2_31 : decode method_4_code 31 = .ok (.iconst 1, 1) := by decide +kernel
theorem d2_32 : decode method_4_code 32 = .ok (.goto 4, 3) := by decide +kernel
theorem d2_35 : decode method_4_code 35 = .ok (.iconst 0, 1) := by decide +kernel
theorem d2_36 : decode method_4_code 36 = .ok (.ireturn, 1) := by decide +kernel
theorem pd_0 : parseMethodDescriptor "(C)Z" = some ⟨[.char], some (.boolean)⟩ := by decide +kernel
theorem ef_2 (m : MethodId) (x0 : Int32) (x1 : Int32) (x2 : Int32) (x3 : Int32) : entryFrame m #[(.int x0), (.int x1), (.int x2), (.int x3)] 5 = mkF m 0 #[.val (.int x0), .val (.int x1), .val (.int x2), .val (.int x3), .unset] [] := by first | (simp [entryFrame, mkF, argsToLocals, Value.category, maxLocals]; done) | rfl
set_option maxRecDepth 65536 in
set_option maxHeartbeats 40000000 in
theorem m2 (l : Launch) (Z : State) (a0 : Array Value) (hw : ∀ d ∈ tables_1, d.before a0 Z = true) (p0 : Int32) (p1 : Int32) (p2 : Int32) (p3 : Int32) (h0 : Heap) (n0 : Nat)  :
    Met l Z (⟨"com/example/gauzy_branch/gauzybranch/model/NestingIsWhitespacePinLaw", "ok", "(IIIC)Z"⟩ : MethodName) method_4_code 5 (some (.boolean)) ({ frames := 1, cells := 0, slots := 0, locals := 12 } : Room) #[(.int p0), (.int p1), (.int p2), (.int p3)] h0 n0 (qI fun r h => ((r = 1 ∧ (inI p0 p1 p2 → isW p3)) ∨ (r = 0 ∧ inI p0 p1 p2 ∧ ¬ isW p3)) ∧ h0 = h) := by
  refine met (plainFor_of_name pn_com_example_gauzy_branch_gauzybranch_model_NestingIsWhitespacePinLaw) #[.val (.int p0), .val (.int p1), .val (.int p2), .val (.int p3), .unset] (fun m => ef_2 m p0 p1 p2 p3) ?_
  intro p e s m below meth c C
  refine g_iloadN C d2_0 1 rfl rfl ?_
  refine g_iloadN C d2_1 2 rfl rfl ?_
  refine g_if_icmpgt C d2_2 16 (by decide) 5 rfl (fun k2 => ?_) (fun k2 => ?_)
  · refine g_iconst C d2_16 17 rfl (0 : Int32) (by decide) ?_
    refine g_istore C d2_17 19 rfl (fun z' => #[.val (.int p0), .val (.int p1), .val (.int p2), .val (.int p3), .val (.int z')]) (fun _ => rfl) (fun v17 ev17 => ?_)
    subst ev17
    refine g_iload C d2_19 21 rfl rfl ?_
    refine g_ifeq C d2_21 31 (by decide) 24 rfl (fun k21 => ?_) (fun k21 => ?_)
    · refine g_iconst C d2_31 32 rfl (1 : Int32) (by decide) ?_
      refine g_goto C d2_32 36 (by decide) ?_
      refine r_nar C (by simp) d2_36 (by decide) (by decide) ⟨Or.inl ⟨rfl, fun q => absurd k2 q.1⟩, rfl⟩
    · exact absurd k21 (by decide)
  · refine g_iloadN C d2_5 6 rfl rfl ?_
    refine g_iloadN C d2_6 7 rfl rfl ?_
    refine g_iloadN C d2_7 8 rfl rfl ?_
    refine g_iadd C d2_8 9 rfl ?_
    refine g_if_icmpge C d2_9 16 (by decide) 12 rfl (fun k9 => ?_) (fun k9 => ?_)
    · refine g_iconst C d2_16 17 rfl (0 : Int32) (by decide) ?_
      refine g_istore C d2_17 19 rfl (fun z' => #[.val (.int p0), .val (.int p1), .val (.int p2), .val (.int p3), .val (.int z')]) (fun _ => rfl) (fun v17 ev17 => ?_)
      subst ev17
      refine g_iload C d2_19 21 rfl rfl ?_
      refine g_ifeq C d2_21 31 (by decide) 24 rfl (fun k21 => ?_) (fun k21 => ?_)
      · refine g_iconst C d2_31 32 rfl (1 : Int32) (by decide) ?_
        refine g_goto C d2_32 36 (by decide) ?_
        refine r_nar C (by simp) d2_36 (by decide) (by decide) ⟨Or.inl ⟨rfl, fun q => absurd q.2 k9⟩, rfl⟩
      · exact absurd k21 (by decide)
    · refine g_iconst C d2_12 13 rfl (1 : Int32) (by decide) ?_
      refine g_goto C d2_13 17 (by decide) ?_
      refine g_istore C d2_17 19 rfl (fun z' => #[.val (.int p0), .val (.int p1), .val (.int p2), .val (.int p3), .val (.int z')]) (fun _ => rfl) (fun v17 ev17 => ?_)
      subst ev17
      refine g_iload C d2_19 21 rfl rfl ?_
      refine g_ifeq C d2_21 31 (by decide) 24 rfl (fun k21 => ?_) (fun k21 => ?_)
      · exact absurd k21 (by decide)
      · refine g_iloadN C d2_24 25 rfl rfl ?_
        refine c_staticI C [(.int p3)] [] (hw _ (List.mem_of_getElem? (i := 14) rfl)) (hw _ (List.mem_of_getElem? (i := 15) rfl)) (hw _ (List.mem_of_getElem? (i := 3) rfl)) (hw _ (List.mem_of_getElem? (i := 16) rfl)) (by decide) (m4 l Z a0 hw p3 h0 n0) d2_25 28 rfl (lenOf pd_0 rfl) rfl 0 (Nat.le_of_eq rfl) (by decide) (by decide) 0 0 rfl rfl (by decide) (by decide) rfl (fun r25 h25 q25 => ?_)
        obtain ⟨hr25, rfl⟩ := q25
        rcases hr25 with ⟨rfl, w25⟩ | ⟨rfl, w25⟩
        · refine g_ifeq C d2_28 35 (by decide) 31 rfl (fun k28 => ?_) (fun k28 => ?_)
          · exact absurd k28 (by decide)
          · refine g_iconst C d2_31 32 rfl (1 : Int32) (by decide) ?_
            refine g_goto C d2_32 36 (by decide) ?_
            refine r_nar C (by simp) d2_36 (by decide) (by decide) ⟨Or.inl ⟨rfl, fun _ => w25⟩, rfl⟩
        · refine g_ifeq C d2_28 35 (by decide) 31 rfl (fun k28 => ?_) (fun k28 => ?_)
          · refine g_iconst C d2_35 36 rfl (0 : Int32) (by decide) ?_
            refine r_nar C (by simp) d2_36 (by decide) (by decide) ⟨Or.inr ⟨rfl, ⟨k2, k9⟩, w25⟩, rfl⟩
          · exact absurd k28 (by decide)
theorem d3_0 : decode prog_124_method_11_code 0 = .ok (.iload_n 1, 1) := by decide +kernel
theorem d3_1 : decode prog_124_method_11_code 1 = .ok (.istore_n 3, 1) := by decide +kernel
theorem d3_2 : decode prog_124_method_11_code 2 = .ok (.iload_n 3, 1) := by decide +kernel
theorem d3_3 : decode prog_124_method_11_code 3 = .ok (.iload_n 1, 1) := by decide +kernel
theorem d3_4 : decode prog_124_method_11_code 4 = .ok (.iload_n 2, 1) := by decide +kernel
theorem d3_5 : decode prog_124_method_11_code 5 = .ok (.iadd, 1) := by decide +kernel
theorem d3_6 : decode prog_124_method_11_code 6 = .ok (.if_icmp .ge 44, 3) := by decide +kernel
theorem d3_9 : decode prog_124_method_11_code 9 = .ok (.aload_n 0, 1) := by decide +kernel
theorem d3_10 : decode prog_124_method_11_code 10 = .ok (.iload_n 3, 1) := by decide +kernel
theorem d3_11 : decode prog_124_method_11_code 11 = .ok (.caload, 1) := by decide +kernel
theorem d3_12 : decode prog_124_method_11_code 12 = .ok (.istore 4, 2) := by decide +kernel
theorem d3_14 : decode prog_124_method_11_code 14 = .ok (.iload 4, 2) := by decide +kernel
theorem d3_16 : decode prog_124_method_11_code 16 = .ok (.bipush 32, 2) := by decide +kernel
theorem d3_18 : decode prog_124_method_11_code 18 = .ok (.if_icmp .eq 26, 3) := by decide +kernel
theorem d3_21 : decode prog_124_method_11_code 21 = .ok (.iload 4, 2) := by decide +kernel
theorem d3_23 : decode prog_124_method_11_code 23 = .ok (.bipush 9, 2) := by decide +kernel
theorem d3_25 : decode prog_124_method_11_code 25 = .ok (.if_icmp .eq 19, 3) := by decide +kernel
theorem d3_28 : decode prog_124_method_11_code 28 = .ok (.iload 4, 2) := by decide +kernel
theorem d3_30 : decode prog_124_method_11_code 30 = .ok (.bipush 13, 2) := by decide +kernel
theorem d3_32 : decode prog_124_method_11_code 32 = .ok (.if_icmp .eq 12, 3) := by decide +kernel
theorem d3_35 : decode prog_124_method_11_code 35 = .ok (.iload 4, 2) := by decide +kernel
theorem d3_37 : decode prog_124_method_11_code 37 = .ok (.bipush 10, 2) := by decide +kernel
theorem d3_39 : decode prog_124_method_11_code 39 = .ok (.if_icmp .eq 5, 3) := by decide +kernel
theorem d3_42 : decode prog_124_method_11_code 42 = .ok (.iconst 0, 1) := by decide +kernel
theorem d3_43 : decode prog_124_method_11_code 43 = .ok (.ireturn, 1) := by decide +kernel
theorem d3_44 : decode prog_124_method_11_code 44 = .ok (.iinc 3 1, 3) := by decide +kernel
theorem d3_47 : decode prog_124_method_11_code 47 = .ok (.goto (-45), 3) := by decide +kernel
theorem d3_50 : decode prog_124_method_11_code 50 = .ok (.iconst 1, 1) := by decide +kernel
theorem d3_51 : decode prog_124_method_11_code 51 = .ok (.ireturn, 1) := by decide +kernel
theorem pn_com_example_gauzy_branch_gauzybranch_model_Nesting : plainName "com/example/gauzy_branch/gauzybranch/model/Nesting" = true := by first | (simp [plainName, overriddenIn]; done) | decide +kernel
theorem ef_3 (m : MethodId) (x0 : Addr) (x1 : Int32) (x2 : Int32) : entryFrame m #[(.ref x0), (.int x1), (.int x2)] 5 = mkF m 0 #[.val (.ref x0), .val (.int x1), .val (.int x2), .unset, .unset] [] := by first | (simp [entryFrame, mkF, argsToLocals, Value.category, maxLocals]; done) | rfl
set_option maxRecDepth 65536 in
set_option maxHeartbeats 40000000 in
theorem m3 (l : Launch) (Z : State) (a0 : Array Value) (hw : ∀ d ∈ tables_1, d.before a0 Z = true) (a : Addr) (p1 : Int32) (p2 : Int32) (h0 : Heap) (n0 : Nat) (g : Nat → Int32) (s0 e0 : Nat) (A : Ary Z h0 a .char 4 (fun j => .int (g j))) (x1 : Ix p1 s0) (xe : Ix (p1 + p2) e0) (hse : s0 ≤ e0) (he : e0 ≤ 4) :
    Met l Z (⟨"com/example/gauzy_branch/gauzybranch/model/Nesting", "isWhitespace", "([CII)Z"⟩ : MethodName) prog_124_method_11_code 5 (some (.boolean)) ({ frames := 0, cells := 0, slots := 0, locals := 0 } : Room) #[(.ref a), (.int p1), (.int p2)] h0 n0 (qI fun r h => ((r = 1 ∧ ∀ j, s0 ≤ j → j < e0 → isW (g j)) ∨ (r = 0 ∧ ∃ j, s0 ≤ j ∧ j < e0 ∧ ¬ isW (g j))) ∧ h0 = h) := by
  refine met (plainFor_of_name pn_com_example_gauzy_branch_gauzybranch_model_Nesting) #[.val (.ref a), .val (.int p1), .val (.int p2), .unset, .unset] (fun m => ef_3 m a p1 p2) ?_
  intro p e s m below meth c C
  refine g_iloadN C d3_0 1 rfl rfl ?_
  refine g_istoreN C d3_1 2 rfl (fun z' => #[.val (.ref a), .val (.int p1), .val (.int p2), .val (.int z'), .unset]) (fun _ => rfl) (fun v1 ev1 => ?_)
  have loop : ∀ (k i : Nat) (i' c4 : Int32), Ix i' i → e0 - i = k → s0 ≤ i → i ≤ e0 → (∀ j, s0 ≤ j → j < i → isW (g j)) → Go p l e ({ frames := 0, cells := 0, slots := 0, locals := 0 } : Room) s m #[(.ref a), (.int p1), (.int p2)] below meth c n0 (qI fun r h => ((r = 1 ∧ ∀ j, s0 ≤ j → j < e0 → isW (g j)) ∨ (r = 0 ∧ ∃ j, s0 ≤ j ∧ j < e0 ∧ ¬ isW (g j))) ∧ h0 = h) h0 0 0 2 #[.val (.ref a), .val (.int p1), .val (.int p2), .val (.int i'), .val (.int c4)] [] := by
    intro k
    induction k using Nat.strongRecOn with
    | _ k ih =>
      intro i i' c4 xi hk hs hi hj
      refine g_iloadN C d3_2 3 rfl rfl ?_
      refine g_iloadN C d3_3 4 rfl rfl ?_
      refine g_iloadN C d3_4 5 rfl rfl ?_
      refine g_iadd C d3_5 6 rfl ?_
      refine g_if_icmpge C d3_6 50 (by decide) 9 rfl (fun k6 => ?_) (fun k6 => ?_)
      · have hge : ¬ i < e0 := fun z => k6 ((xi.lt xe).mpr z)
        refine g_iconst C d3_50 51 rfl (1 : Int32) (by decide) ?_
        refine r_nar C (by simp) d3_51 (by decide) (by decide) ⟨Or.inl ⟨rfl, fun j q1 q2 => hj j q1 (by omega)⟩, rfl⟩
      · have hlt : i < e0 := (xi.lt xe).mp (by first | exact k6 | (rw [ev1] at k6; exact k6))
        refine g_aloadN C d3_9 10 rfl rfl rfl ?_
        refine g_iloadN C d3_10 11 rfl rfl ?_
        refine g_caload C A i xi (by omega) (.int (g i)) rfl d3_11 12 rfl ?_
        refine g_istore C d3_12 14 rfl (fun z' => #[.val (.ref a), .val (.int p1), .val (.int p2), .val (.int i'), .val (.int z')]) (fun _ => rfl) (fun v12 ev12 => ?_)
        refine g_iload C d3_14 16 rfl rfl ?_
        refine g_bipush C d3_16 18 rfl (32 : Int32) (by decide) ?_
        refine g_if_icmpeq C d3_18 44 (by decide) 21 rfl (fun k18 => ?_) (fun k18 => ?_)
        · have hw4 : isW (g i) := by
            rw [← ev12]; exact Or.inr (Or.inr (Or.inr k18))
          have hj' : ∀ j, s0 ≤ j → j < i + 1 → isW (g j) := fun j q1 q2 => by
            by_cases q : j = i
            · rw [q]; exact hw4
            · exact hj j q1 (by omega)
          refine g_iinc C d3_44 47 rfl rfl (1 : Int32) (by decide) (fun z' => #[.val (.ref a), .val (.int p1), .val (.int p2), .val (.int z'), .val (.int v12)]) (fun _ => rfl) (fun v44 ev44 => ?_)
          have xi' : Ix v44 (i + 1) := by rw [ev44]; exact xi.succ (by omega)
          refine g_goto C d3_47 2 (by decide) ?_
          exact ih (e0 - (i + 1)) (by omega) (i + 1) _ _ xi' rfl (by omega) (by omega) hj'
        · refine g_iload C d3_21 23 rfl rfl ?_
          refine g_bipush C d3_23 25 rfl (9 : Int32) (by decide) ?_
          refine g_if_icmpeq C d3_25 44 (by decide) 28 rfl (fun k25 => ?_) (fun k25 => ?_)
          · have hw4 : isW (g i) := by
              rw [← ev12]; exact Or.inl k25
            have hj' : ∀ j, s0 ≤ j → j < i + 1 → isW (g j) := fun j q1 q2 => by
              by_cases q : j = i
              · rw [q]; exact hw4
              · exact hj j q1 (by omega)
            refine g_iinc C d3_44 47 rfl rfl (1 : Int32) (by decide) (fun z' => #[.val (.ref a), .val (.int p1), .val (.int p2), .val (.int z'), .val (.int v12)]) (fun _ => rfl) (fun v44 ev44 => ?_)
            have xi' : Ix v44 (i + 1) := by rw [ev44]; exact xi.succ (by omega)
            refine g_goto C d3_47 2 (by decide) ?_
            exact ih (e0 - (i + 1)) (by omega) (i + 1) _ _ xi' rfl (by omega) (by omega) hj'
          · refine g_iload C d3_28 30 rfl rfl ?_
            refine g_bipush C d3_30 32 rfl (13 : Int32) (by decide) ?_
            refine g_if_icmpeq C d3_32 44 (by decide) 35 rfl (fun k32 => ?_) (fun k32 => ?_)
            · have hw4 : isW (g i) := by
                rw [← ev12]; exact Or.inr (Or.inr (Or.inl k32))
              have hj' : ∀ j, s0 ≤ j → j < i + 1 → isW (g j) := fun j q1 q2 => by
                by_cases q : j = i
                · rw [q]; exact hw4
                · exact hj j q1 (by omega)
              refine g_iinc C d3_44 47 rfl rfl (1 : Int32) (by decide) (fun z' => #[.val (.ref a), .val (.int p1), .val (.int p2), .val (.int z'), .val (.int v12)]) (fun _ => rfl) (fun v44 ev44 => ?_)
              have xi' : Ix v44 (i + 1) := by rw [ev44]; exact xi.succ (by omega)
              refine g_goto C d3_47 2 (by decide) ?_
              exact ih (e0 - (i + 1)) (by omega) (i + 1) _ _ xi' rfl (by omega) (by omega) hj'
            · refine g_iload C d3_35 37 rfl rfl ?_
              refine g_bipush C d3_37 39 rfl (10 : Int32) (by decide) ?_
              refine g_if_icmpeq C d3_39 44 (by decide) 42 rfl (fun k39 => ?_) (fun k39 => ?_)
              · have hw4 : isW (g i) := by
                  rw [← ev12]; exact Or.inr (Or.inl k39)
                have hj' : ∀ j, s0 ≤ j → j < i + 1 → isW (g j) := fun j q1 q2 => by
                  by_cases q : j = i
                  · rw [q]; exact hw4
                  · exact hj j q1 (by omega)
                refine g_iinc C d3_44 47 rfl rfl (1 : Int32) (by decide) (fun z' => #[.val (.ref a), .val (.int p1), .val (.int p2), .val (.int z'), .val (.int v12)]) (fun _ => rfl) (fun v44 ev44 => ?_)
                have xi' : Ix v44 (i + 1) := by rw [ev44]; exact xi.succ (by omega)
                refine g_goto C d3_47 2 (by decide) ?_
                exact ih (e0 - (i + 1)) (by omega) (i + 1) _ _ xi' rfl (by omega) (by omega) hj'
              · refine g_iconst C d3_42 43 rfl (0 : Int32) (by decide) ?_
                have kn : ¬ isW (g i) := by
                  rw [← ev12]; exact fun z => z.elim k25 (fun z => z.elim k39 (fun z => z.elim k32 k18))
                refine r_nar C (by simp) d3_43 (by decide) (by decide) ⟨Or.inr ⟨rfl, i, by omega, by omega, kn⟩, rfl⟩
  refine g_iloadN C d3_2 3 rfl rfl ?_
  refine g_iloadN C d3_3 4 rfl rfl ?_
  refine g_iloadN C d3_4 5 rfl rfl ?_
  refine g_iadd C d3_5 6 rfl ?_
  refine g_if_icmpge C d3_6 50 (by decide) 9 rfl (fun k6 => ?_) (fun k6 => ?_)
  · have hge : ¬ s0 < e0 := fun z => k6 (by rw [ev1]; exact (x1.lt xe).mpr z)
    refine g_iconst C d3_50 51 rfl (1 : Int32) (by decide) ?_
    refine r_nar C (by simp) d3_51 (by decide) (by decide) ⟨Or.inl ⟨rfl, fun j q1 q2 => absurd q1 (by omega)⟩, rfl⟩
  · have hlt : s0 < e0 := (x1.lt xe).mp (by first | exact k6 | (rw [ev1] at k6; exact k6))
    refine g_aloadN C d3_9 10 rfl rfl rfl ?_
    refine g_iloadN C d3_10 11 rfl rfl ?_
    refine g_caload C A s0 (by rw [ev1]; exact x1) (by omega) (.int (g s0)) rfl d3_11 12 rfl ?_
    refine g_istore C d3_12 14 rfl (fun z' => #[.val (.ref a), .val (.int p1), .val (.int p2), .val (.int v1), .val (.int z')]) (fun _ => rfl) (fun v12 ev12 => ?_)
    refine g_iload C d3_14 16 rfl rfl ?_
    refine g_bipush C d3_16 18 rfl (32 : Int32) (by decide) ?_
    refine g_if_icmpeq C d3_18 44 (by decide) 21 rfl (fun k18 => ?_) (fun k18 => ?_)
    · have hw4 : isW (g s0) := by
        rw [← ev12]; exact Or.inr (Or.inr (Or.inr k18))
      have hj' : ∀ j, s0 ≤ j → j < s0 + 1 → isW (g j) := fun j q1 q2 => by
        by_cases q : j = s0
        · rw [q]; exact hw4
        · exact absurd q1 (by omega)
      refine g_iinc C d3_44 47 rfl rfl (1 : Int32) (by decide) (fun z' => #[.val (.ref a), .val (.int p1), .val (.int p2), .val (.int z'), .val (.int v12)]) (fun _ => rfl) (fun v44 ev44 => ?_)
      have xi' : Ix v44 (s0 + 1) := by rw [ev44]; exact (show Ix v1 s0 by rw [ev1]; exact x1).succ (by omega)
      refine g_goto C d3_47 2 (by decide) ?_
      exact loop (e0 - (s0 + 1)) (s0 + 1) _ _ xi' rfl (by omega) (by omega) hj'
    · refine g_iload C d3_21 23 rfl rfl ?_
      refine g_bipush C d3_23 25 rfl (9 : Int32) (by decide) ?_
      refine g_if_icmpeq C d3_25 44 (by decide) 28 rfl (fun k25 => ?_) (fun k25 => ?_)
      · have hw4 : isW (g s0) := by
          rw [← ev12]; exact Or.inl k25
        have hj' : ∀ j, s0 ≤ j → j < s0 + 1 → isW (g j) := fun j q1 q2 => by
          by_cases q : j = s0
          · rw [q]; exact hw4
          · exact absurd q1 (by omega)
        refine g_iinc C d3_44 47 rfl rfl (1 : Int32) (by decide) (fun z' => #[.val (.ref a), .val (.int p1), .val (.int p2), .val (.int z'), .val (.int v12)]) (fun _ => rfl) (fun v44 ev44 => ?_)
        have xi' : Ix v44 (s0 + 1) := by rw [ev44]; exact (show Ix v1 s0 by rw [ev1]; exact x1).succ (by omega)
        refine g_goto C d3_47 2 (by decide) ?_
        exact loop (e0 - (s0 + 1)) (s0 + 1) _ _ xi' rfl (by omega) (by omega) hj'
      · refine g_iload C d3_28 30 rfl rfl ?_
        refine g_bipush C d3_30 32 rfl (13 : Int32) (by decide) ?_
        refine g_if_icmpeq C d3_32 44 (by decide) 35 rfl (fun k32 => ?_) (fun k32 => ?_)
        · have hw4 : isW (g s0) := by
            rw [← ev12]; exact Or.inr (Or.inr (Or.inl k32))
          have hj' : ∀ j, s0 ≤ j → j < s0 + 1 → isW (g j) := fun j q1 q2 => by
            by_cases q : j = s0
            · rw [q]; exact hw4
            · exact absurd q1 (by omega)
          refine g_iinc C d3_44 47 rfl rfl (1 : Int32) (by decide) (fun z' => #[.val (.ref a), .val (.int p1), .val (.int p2), .val (.int z'), .val (.int v12)]) (fun _ => rfl) (fun v44 ev44 => ?_)
          have xi' : Ix v44 (s0 + 1) := by rw [ev44]; exact (show Ix v1 s0 by rw [ev1]; exact x1).succ (by omega)
          refine g_goto C d3_47 2 (by decide) ?_
          exact loop (e0 - (s0 + 1)) (s0 + 1) _ _ xi' rfl (by omega) (by omega) hj'
        · refine g_iload C d3_35 37 rfl rfl ?_
          refine g_bipush C d3_37 39 rfl (10 : Int32) (by decide) ?_
          refine g_if_icmpeq C d3_39 44 (by decide) 42 rfl (fun k39 => ?_) (fun k39 => ?_)
          · have hw4 : isW (g s0) := by
              rw [← ev12]; exact Or.inr (Or.inl k39)
            have hj' : ∀ j, s0 ≤ j → j < s0 + 1 → isW (g j) := fun j q1 q2 => by
              by_cases q : j = s0
              · rw [q]; exact hw4
              · exact absurd q1 (by omega)
            refine g_iinc C d3_44 47 rfl rfl (1 : Int32) (by decide) (fun z' => #[.val (.ref a), .val (.int p1), .val (.int p2), .val (.int z'), .val (.int v12)]) (fun _ => rfl) (fun v44 ev44 => ?_)
            have xi' : Ix v44 (s0 + 1) := by rw [ev44]; exact (show Ix v1 s0 by rw [ev1]; exact x1).succ (by omega)
            refine g_goto C d3_47 2 (by decide) ?_
            exact loop (e0 - (s0 + 1)) (s0 + 1) _ _ xi' rfl (by omega) (by omega) hj'
          · refine g_iconst C d3_42 43 rfl (0 : Int32) (by decide) ?_
            have kn : ¬ isW (g s0) := by
              rw [← ev12]; exact fun z => z.elim k25 (fun z => z.elim k39 (fun z => z.elim k32 k18))
            refine r_nar C (by simp) d3_43 (by decide) (by decide) ⟨Or.inr ⟨rfl, s0, by omega, by omega, kn⟩, rfl⟩
theorem pd_1 : parseMethodDescriptor "(I)C" = some ⟨[.int], some (.char)⟩ := by decide +kernel
theorem pd_2 : parseMethodDescriptor "(IIIC)Z" = some ⟨[.int, .int, .int, .char], some (.boolean)⟩ := by decide +kernel
theorem pd_3 : parseMethodDescriptor "([CII)Z" = some ⟨[.array .char, .int, .int], some (.boolean)⟩ := by decide +kernel
theorem ef_0 (m : MethodId) (x0 : Int32) (x1 : Int32) (x2 : Int32) (x3 : Int32) (x4 : Int32) : entryFrame m #[(.int x0), (.int x1), (.int x2), (.int x3), (.int x4)] maxLocals = mkF m 0 #[.val (.int x0), .val (.int x1), .val (.int x2), .val (.int x3), .val (.int x4), .unset, .unset, .unset, .unset, .unset] [] := by first | (simp [entryFrame, mkF, argsToLocals, Value.category, maxLocals]; done) | rfl
set_option maxRecDepth 65536 in
set_option maxHeartbeats 40000000 in
theorem m0 (l : Launch) (Z : State) (a0 : Array Value) (hw : ∀ d ∈ tables_1, d.before a0 Z = true) (p0 : Int32) (p1 : Int32) (p2 : Int32) (p3 : Int32) (p4 : Int32) (h0 : Heap) (n0 : Nat) (Z0 : n0 ≤ h0.size) :
    Met l Z x code maxLocals ret room_1 #[(.int p0), (.int p1), (.int p2), (.int p3), (.int p4)] h0 n0 (qI fun r h => r = 1) := by
  refine met (plainFor_of_name pn_com_example_gauzy_branch_gauzybranch_model_NestingIsWhitespacePinLaw) #[.val (.int p0), .val (.int p1), .val (.int p2), .val (.int p3), .val (.int p4), .unset, .unset, .unset, .unset, .unset] (fun m => ef_0 m p0 p1 p2 p3 p4) ?_
  intro p e s m below meth c C
  have C : Ctx p l e room_1 s m #[(.int p0), (.int p1), (.int p2), (.int p3), (.int p4)] below meth c Z "com/example/gauzy_branch/gauzybranch/model/NestingIsWhitespacePinLaw" "law" code 10 (some (.boolean)) := C
  refine g_iconst C at_0 1 rfl (4 : Int32) (by decide) ?_
  refine g_newarray C (hw _ (List.mem_of_getElem? (i := 0) rfl)) 4 4 ⟨by decide, by decide⟩ (by decide) (by decide) at_1 3 rfl 1 4 rfl rfl (by decide) (by decide) (fun h1 a1 ga1 E1 A1 => ?_)
  have na : n0 ≤ a1 := by rw [ga1]; exact Z0
  refine g_astore C at_3 5 rfl #[.val (.int p0), .val (.int p1), .val (.int p2), .val (.int p3), .val (.int p4), .val (.ref a1), .unset, .unset, .unset, .unset] rfl rfl ?_
  refine g_aload C at_5 7 rfl rfl rfl ?_
  refine g_iconst C at_7 8 rfl (0 : Int32) (by decide) ?_
  refine g_iloadN C at_8 9 rfl rfl ?_
  refine c_staticI C [(.int p0)] [(.int (0 : Int32)), (.ref a1)] (hw _ (List.mem_of_getElem? (i := 1) rfl)) (hw _ (List.mem_of_getElem? (i := 2) rfl)) (hw _ (List.mem_of_getElem? (i := 3) rfl)) (hw _ (List.mem_of_getElem? (i := 4) rfl)) (by decide) (m1 l Z a0 hw p0 h1 n0) at_9 12 rfl (lenOf pd_1 rfl) rfl 2 (Nat.le_of_eq rfl) (by decide) (by decide) 1 4 rfl rfl (by decide) (by decide) rfl (fun r9 h9 q9 => ?_)
  obtain ⟨hr9, rfl⟩ := q9
  refine g_castore C A1 0 ⟨by decide, by decide⟩ (by decide) at_12 13 rfl na (fun h12 W12 A12 => ?_)
  refine g_aload C at_13 15 rfl rfl rfl ?_
  refine g_iconst C at_15 16 rfl (1 : Int32) (by decide) ?_
  refine g_iloadN C at_16 17 rfl rfl ?_
  refine c_staticI C [(.int p1)] [(.int (1 : Int32)), (.ref a1)] (hw _ (List.mem_of_getElem? (i := 1) rfl)) (hw _ (List.mem_of_getElem? (i := 2) rfl)) (hw _ (List.mem_of_getElem? (i := 3) rfl)) (hw _ (List.mem_of_getElem? (i := 4) rfl)) (by decide) (m1 l Z a0 hw p1 h12 n0) at_17 20 rfl (lenOf pd_1 rfl) rfl 2 (Nat.le_of_eq rfl) (by decide) (by decide) 1 4 rfl rfl (by decide) (by decide) rfl (fun r17 h17 q17 => ?_)
  obtain ⟨hr17, rfl⟩ := q17
  refine g_castore C A12 1 ⟨by decide, by decide⟩ (by decide) at_20 21 rfl na (fun h20 W20 A20 => ?_)
  refine g_aload C at_21 23 rfl rfl rfl ?_
  refine g_iconst C at_23 24 rfl (2 : Int32) (by decide) ?_
  refine g_iloadN C at_24 25 rfl rfl ?_
  refine c_staticI C [(.int p2)] [(.int (2 : Int32)), (.ref a1)] (hw _ (List.mem_of_getElem? (i := 1) rfl)) (hw _ (List.mem_of_getElem? (i := 2) rfl)) (hw _ (List.mem_of_getElem? (i := 3) rfl)) (hw _ (List.mem_of_getElem? (i := 4) rfl)) (by decide) (m1 l Z a0 hw p2 h20 n0) at_25 28 rfl (lenOf pd_1 rfl) rfl 2 (Nat.le_of_eq rfl) (by decide) (by decide) 1 4 rfl rfl (by decide) (by decide) rfl (fun r25 h25 q25 => ?_)
  obtain ⟨hr25, rfl⟩ := q25
  refine g_castore C A20 2 ⟨by decide, by decide⟩ (by decide) at_28 29 rfl na (fun h28 W28 A28 => ?_)
  refine g_aload C at_29 31 rfl rfl rfl ?_
  refine g_iconst C at_31 32 rfl (3 : Int32) (by decide) ?_
  refine g_iloadN C at_32 33 rfl rfl ?_
  refine c_staticI C [(.int p3)] [(.int (3 : Int32)), (.ref a1)] (hw _ (List.mem_of_getElem? (i := 1) rfl)) (hw _ (List.mem_of_getElem? (i := 2) rfl)) (hw _ (List.mem_of_getElem? (i := 3) rfl)) (hw _ (List.mem_of_getElem? (i := 4) rfl)) (by decide) (m1 l Z a0 hw p3 h28 n0) at_33 36 rfl (lenOf pd_1 rfl) rfl 2 (Nat.le_of_eq rfl) (by decide) (by decide) 1 4 rfl rfl (by decide) (by decide) rfl (fun r33 h33 q33 => ?_)
  obtain ⟨hr33, rfl⟩ := q33
  refine g_castore C A28 3 ⟨by decide, by decide⟩ (by decide) at_36 37 rfl na (fun h36 W36 A36 => ?_)
  obtain ⟨c0, hc0⟩ : ∃ z, z = nar .char r9 := ⟨_, rfl⟩
  obtain ⟨c1, hc1⟩ : ∃ z, z = nar .char r17 := ⟨_, rfl⟩
  obtain ⟨c2, hc2⟩ : ∃ z, z = nar .char r25 := ⟨_, rfl⟩
  obtain ⟨c3, hc3⟩ : ∃ z, z = nar .char r33 := ⟨_, rfl⟩
  rw [← hc0, ← hc1, ← hc2, ← hc3] at A36
  have AG : Ary Z h36 a1 .char 4 (fun j => .int (gF c0 c1 c2 c3 j)) := A36.congr (fun j hj => by
    have : j = 0 ∨ j = 1 ∨ j = 2 ∨ j = 3 := by omega
    rcases this with rfl | rfl | rfl | rfl <;> rfl)
  refine g_iload C at_37 39 rfl rfl ?_
  refine g_ldc C (hw _ (List.mem_of_getElem? (i := 6) rfl)) at_39 41 rfl ?_
  refine g_iand C at_41 42 rfl ?_
  refine g_iconst C at_42 43 rfl (5 : Int32) (by decide) ?_
  refine g_irem C at_43 44 rfl (by decide) ?_
  refine g_istore C at_44 46 rfl (fun z' => #[.val (.int p0), .val (.int p1), .val (.int p2), .val (.int p3), .val (.int p4), .val (.ref a1), .val (.int z'), .unset, .unset, .unset]) (fun _ => rfl) (fun v44 ev44 => ?_)
  obtain ⟨s0, hs0, xs⟩ : ∃ i, i < 5 ∧ Ix v44 i := by rw [ev44]; exact Ix.rem (nn31 _) ⟨by decide, by decide⟩ (by decide)
  have x5 : Ix (5 - v44) (5 - s0) := Ix.sub ⟨by decide, by decide⟩ xs (by omega) (by omega)
  refine g_iload C at_46 48 rfl rfl ?_
  refine g_bipush C at_48 50 rfl (8 : Int32) (by decide) ?_
  refine g_iushr C at_50 51 rfl ?_
  refine g_ldc C (hw _ (List.mem_of_getElem? (i := 6) rfl)) at_51 53 rfl ?_
  refine g_iand C at_53 54 rfl ?_
  refine g_iconst C at_54 55 rfl (5 : Int32) (by decide) ?_
  refine g_iload C at_55 57 rfl rfl ?_
  refine g_isub C at_57 58 rfl ?_
  refine g_irem C at_58 59 rfl (x5.nz (by omega)) ?_
  refine g_istore C at_59 61 rfl (fun z' => #[.val (.int p0), .val (.int p1), .val (.int p2), .val (.int p3), .val (.int p4), .val (.ref a1), .val (.int v44), .val (.int z'), .unset, .unset]) (fun _ => rfl) (fun v59 ev59 => ?_)
  obtain ⟨d0, hd0, xd⟩ : ∃ i, i < 5 - s0 ∧ Ix v59 i := by rw [ev59]; exact Ix.rem (nn31 _) x5 (by omega)
  obtain ⟨e0, he0⟩ : ∃ z, z = s0 + d0 := ⟨_, rfl⟩
  have xe : Ix (v44 + v59) e0 := by rw [he0]; exact xs.add xd (by omega)
  refine g_iconst C at_61 62 rfl (0 : Int32) (by decide) ?_
  refine g_iload C at_62 64 rfl rfl ?_
  refine g_iload C at_64 66 rfl rfl ?_
  refine g_aload C at_66 68 rfl rfl rfl ?_
  refine g_iconst C at_68 69 rfl (0 : Int32) (by decide) ?_
  refine g_caload C AG 0 ⟨by decide, by decide⟩ (by decide) (.int c0) rfl at_69 70 rfl ?_
  refine c_staticI C [(.int (0 : Int32)), (.int v44), (.int v59), (.int c0)] [] (hw _ (List.mem_of_getElem? (i := 7) rfl)) (hw _ (List.mem_of_getElem? (i := 8) rfl)) (hw _ (List.mem_of_getElem? (i := 3) rfl)) (hw _ (List.mem_of_getElem? (i := 9) rfl)) (by decide) (m2 l Z a0 hw (0 : Int32) v44 v59 c0 h36 n0) at_70 73 rfl (lenOf pd_2 rfl) rfl 0 (Nat.le_of_eq rfl) (by decide) (by decide) 1 4 rfl rfl (by decide) (by decide) rfl (fun r70 h70 q70 => ?_)
  obtain ⟨hr70, rfl⟩ := q70
  rcases hr70 with ⟨rfl, w0⟩ | ⟨rfl, w0⟩
  · refine g_ifeq C at_73 125 (by decide) 76 rfl (fun k73 => ?_) (fun k73 => ?_)
    · exact absurd k73 (by decide)
    · refine g_iconst C at_76 77 rfl (1 : Int32) (by decide) ?_
      refine g_iload C at_77 79 rfl rfl ?_
      refine g_iload C at_79 81 rfl rfl ?_
      refine g_aload C at_81 83 rfl rfl rfl ?_
      refine g_iconst C at_83 84 rfl (1 : Int32) (by decide) ?_
      refine g_caload C AG 1 ⟨by decide, by decide⟩ (by decide) (.int c1) rfl at_84 85 rfl ?_
      refine c_staticI C [(.int (1 : Int32)), (.int v44), (.int v59), (.int c1)] [] (hw _ (List.mem_of_getElem? (i := 7) rfl)) (hw _ (List.mem_of_getElem? (i := 8) rfl)) (hw _ (List.mem_of_getElem? (i := 3) rfl)) (hw _ (List.mem_of_getElem? (i := 9) rfl)) (by decide) (m2 l Z a0 hw (1 : Int32) v44 v59 c1 h36 n0) at_85 88 rfl (lenOf pd_2 rfl) rfl 0 (Nat.le_of_eq rfl) (by decide) (by decide) 1 4 rfl rfl (by decide) (by decide) rfl (fun r85 h85 q85 => ?_)
      obtain ⟨hr85, rfl⟩ := q85
      rcases hr85 with ⟨rfl, w1⟩ | ⟨rfl, w1⟩
      · refine g_ifeq C at_88 125 (by decide) 91 rfl (fun k88 => ?_) (fun k88 => ?_)
        · exact absurd k88 (by decide)
        · refine g_iconst C at_91 92 rfl (2 : Int32) (by decide) ?_
          refine g_iload C at_92 94 rfl rfl ?_
          refine g_iload C at_94 96 rfl rfl ?_
          refine g_aload C at_96 98 rfl rfl rfl ?_
          refine g_iconst C at_98 99 rfl (2 : Int32) (by decide) ?_
          refine g_caload C AG 2 ⟨by decide, by decide⟩ (by decide) (.int c2) rfl at_99 100 rfl ?_
          refine c_staticI C [(.int (2 : Int32)), (.int v44), (.int v59), (.int c2)] [] (hw _ (List.mem_of_getElem? (i := 7) rfl)) (hw _ (List.mem_of_getElem? (i := 8) rfl)) (hw _ (List.mem_of_getElem? (i := 3) rfl)) (hw _ (List.mem_of_getElem? (i := 9) rfl)) (by decide) (m2 l Z a0 hw (2 : Int32) v44 v59 c2 h36 n0) at_100 103 rfl (lenOf pd_2 rfl) rfl 0 (Nat.le_of_eq rfl) (by decide) (by decide) 1 4 rfl rfl (by decide) (by decide) rfl (fun r100 h100 q100 => ?_)
          obtain ⟨hr100, rfl⟩ := q100
          rcases hr100 with ⟨rfl, w2⟩ | ⟨rfl, w2⟩
          · refine g_ifeq C at_103 125 (by decide) 106 rfl (fun k103 => ?_) (fun k103 => ?_)
            · exact absurd k103 (by decide)
            · refine g_iconst C at_106 107 rfl (3 : Int32) (by decide) ?_
              refine g_iload C at_107 109 rfl rfl ?_
              refine g_iload C at_109 111 rfl rfl ?_
              refine g_aload C at_111 113 rfl rfl rfl ?_
              refine g_iconst C at_113 114 rfl (3 : Int32) (by decide) ?_
              refine g_caload C AG 3 ⟨by decide, by decide⟩ (by decide) (.int c3) rfl at_114 115 rfl ?_
              refine c_staticI C [(.int (3 : Int32)), (.int v44), (.int v59), (.int c3)] [] (hw _ (List.mem_of_getElem? (i := 7) rfl)) (hw _ (List.mem_of_getElem? (i := 8) rfl)) (hw _ (List.mem_of_getElem? (i := 3) rfl)) (hw _ (List.mem_of_getElem? (i := 9) rfl)) (by decide) (m2 l Z a0 hw (3 : Int32) v44 v59 c3 h36 n0) at_115 118 rfl (lenOf pd_2 rfl) rfl 0 (Nat.le_of_eq rfl) (by decide) (by decide) 1 4 rfl rfl (by decide) (by decide) rfl (fun r115 h115 q115 => ?_)
              obtain ⟨hr115, rfl⟩ := q115
              rcases hr115 with ⟨rfl, w3⟩ | ⟨rfl, w3⟩
              · refine g_ifeq C at_118 125 (by decide) 121 rfl (fun k118 => ?_) (fun k118 => ?_)
                · exact absurd k118 (by decide)
                · refine g_iconst C at_121 122 rfl (1 : Int32) (by decide) ?_
                  refine g_goto C at_122 126 (by decide) ?_
                  refine g_istore C at_126 128 rfl (fun z' => #[.val (.int p0), .val (.int p1), .val (.int p2), .val (.int p3), .val (.int p4), .val (.ref a1), .val (.int v44), .val (.int v59), .val (.int z'), .unset]) (fun _ => rfl) (fun v126 ev126 => ?_)
                  subst ev126
                  refine g_aload C at_128 130 rfl rfl rfl ?_
                  refine g_iload C at_130 132 rfl rfl ?_
                  refine g_iload C at_132 134 rfl rfl ?_
                  refine c_staticI C [(.ref a1), (.int v44), (.int v59)] [] (hw _ (List.mem_of_getElem? (i := 10) rfl)) (hw _ (List.mem_of_getElem? (i := 11) rfl)) (hw _ (List.mem_of_getElem? (i := 12) rfl)) (hw _ (List.mem_of_getElem? (i := 13) rfl)) (by decide) (m3 l Z a0 hw a1 v44 v59 h36 n0 (gF c0 c1 c2 c3) s0 e0 AG xs xe (by omega) (by omega)) at_134 137 rfl (lenOf pd_3 rfl) rfl 0 (Nat.le_of_eq rfl) (by decide) (by decide) 1 4 rfl rfl (by decide) (by decide) rfl (fun r134 h134 q134 => ?_)
                  obtain ⟨hr134, rfl⟩ := q134
                  have hr : r134 = 1 := by
                    rcases hr134 with ⟨q, -⟩ | ⟨-, j, q1, q2, q3⟩
                    · exact q
                    · exact absurd (own_all (P := fun j => isW ((gF c0 c1 c2 c3) j)) (by omega) (fun q => w0 ((own_in (i := 0) (i' := 0) ⟨by decide, by decide⟩ xs xe).mpr q)) (fun q => w1 ((own_in (i := 1) (i' := 1) ⟨by decide, by decide⟩ xs xe).mpr q)) (fun q => w2 ((own_in (i := 2) (i' := 2) ⟨by decide, by decide⟩ xs xe).mpr q)) (fun q => w3 ((own_in (i := 3) (i' := 3) ⟨by decide, by decide⟩ xs xe).mpr q)) j q1 q2) q3
                  subst hr
                  refine g_istore C at_137 139 rfl (fun z' => #[.val (.int p0), .val (.int p1), .val (.int p2), .val (.int p3), .val (.int p4), .val (.ref a1), .val (.int v44), .val (.int v59), .val (.int (1 : Int32)), .val (.int z')]) (fun _ => rfl) (fun v137 ev137 => ?_)
                  subst ev137
                  refine g_iload C at_139 141 rfl rfl ?_
                  refine g_iload C at_141 143 rfl rfl ?_
                  refine g_if_icmpne C at_143 150 (by decide) 146 rfl (fun k143 => ?_) (fun k143 => ?_)
                  · exact absurd k143 (by decide)
                  · refine g_iconst C at_146 147 rfl (1 : Int32) (by decide) ?_
                    refine g_goto C at_147 151 (by decide) ?_
                    refine r_nar C (by simp) at_151 (by decide) (by decide) rfl
              · refine g_ifeq C at_118 125 (by decide) 121 rfl (fun k118 => ?_) (fun k118 => ?_)
                · refine g_iconst C at_125 126 rfl (0 : Int32) (by decide) ?_
                  refine g_istore C at_126 128 rfl (fun z' => #[.val (.int p0), .val (.int p1), .val (.int p2), .val (.int p3), .val (.int p4), .val (.ref a1), .val (.int v44), .val (.int v59), .val (.int z'), .unset]) (fun _ => rfl) (fun v126 ev126 => ?_)
                  subst ev126
                  refine g_aload C at_128 130 rfl rfl rfl ?_
                  refine g_iload C at_130 132 rfl rfl ?_
                  refine g_iload C at_132 134 rfl rfl ?_
                  refine c_staticI C [(.ref a1), (.int v44), (.int v59)] [] (hw _ (List.mem_of_getElem? (i := 10) rfl)) (hw _ (List.mem_of_getElem? (i := 11) rfl)) (hw _ (List.mem_of_getElem? (i := 12) rfl)) (hw _ (List.mem_of_getElem? (i := 13) rfl)) (by decide) (m3 l Z a0 hw a1 v44 v59 h36 n0 (gF c0 c1 c2 c3) s0 e0 AG xs xe (by omega) (by omega)) at_134 137 rfl (lenOf pd_3 rfl) rfl 0 (Nat.le_of_eq rfl) (by decide) (by decide) 1 4 rfl rfl (by decide) (by decide) rfl (fun r134 h134 q134 => ?_)
                  obtain ⟨hr134, rfl⟩ := q134
                  have hr : r134 = 0 := by
                    rcases hr134 with ⟨-, q⟩ | ⟨q, -⟩
                    · exact absurd (q 3 ((own_in (i := 3) (i' := 3) ⟨by decide, by decide⟩ xs xe).mp w3.1).1 ((own_in (i := 3) (i' := 3) ⟨by decide, by decide⟩ xs xe).mp w3.1).2) w3.2
                    · exact q
                  subst hr
                  refine g_istore C at_137 139 rfl (fun z' => #[.val (.int p0), .val (.int p1), .val (.int p2), .val (.int p3), .val (.int p4), .val (.ref a1), .val (.int v44), .val (.int v59), .val (.int (0 : Int32)), .val (.int z')]) (fun _ => rfl) (fun v137 ev137 => ?_)
                  subst ev137
                  refine g_iload C at_139 141 rfl rfl ?_
                  refine g_iload C at_141 143 rfl rfl ?_
                  refine g_if_icmpne C at_143 150 (by decide) 146 rfl (fun k143 => ?_) (fun k143 => ?_)
                  · exact absurd k143 (by decide)
                  · refine g_iconst C at_146 147 rfl (1 : Int32) (by decide) ?_
                    refine g_goto C at_147 151 (by decide) ?_
                    refine r_nar C (by simp) at_151 (by decide) (by decide) rfl
                · exact absurd k118 (by decide)
          · refine g_ifeq C at_103 125 (by decide) 106 rfl (fun k103 => ?_) (fun k103 => ?_)
            · refine g_iconst C at_125 126 rfl (0 : Int32) (by decide) ?_
              refine g_istore C at_126 128 rfl (fun z' => #[.val (.int p0), .val (.int p1), .val (.int p2), .val (.int p3), .val (.int p4), .val (.ref a1), .val (.int v44), .val (.int v59), .val (.int z'), .unset]) (fun _ => rfl) (fun v126 ev126 => ?_)
              subst ev126
              refine g_aload C at_128 130 rfl rfl rfl ?_
              refine g_iload C at_130 132 rfl rfl ?_
              refine g_iload C at_132 134 rfl rfl ?_
              refine c_staticI C [(.ref a1), (.int v44), (.int v59)] [] (hw _ (List.mem_of_getElem? (i := 10) rfl)) (hw _ (List.mem_of_getElem? (i := 11) rfl)) (hw _ (List.mem_of_getElem? (i := 12) rfl)) (hw _ (List.mem_of_getElem? (i := 13) rfl)) (by decide) (m3 l Z a0 hw a1 v44 v59 h36 n0 (gF c0 c1 c2 c3) s0 e0 AG xs xe (by omega) (by omega)) at_134 137 rfl (lenOf pd_3 rfl) rfl 0 (Nat.le_of_eq rfl) (by decide) (by decide) 1 4 rfl rfl (by decide) (by decide) rfl (fun r134 h134 q134 => ?_)
              obtain ⟨hr134, rfl⟩ := q134
              have hr : r134 = 0 := by
                rcases hr134 with ⟨-, q⟩ | ⟨q, -⟩
                · exact absurd (q 2 ((own_in (i := 2) (i' := 2) ⟨by decide, by decide⟩ xs xe).mp w2.1).1 ((own_in (i := 2) (i' := 2) ⟨by decide, by decide⟩ xs xe).mp w2.1).2) w2.2
                · exact q
              subst hr
              refine g_istore C at_137 139 rfl (fun z' => #[.val (.int p0), .val (.int p1), .val (.int p2), .val (.int p3), .val (.int p4), .val (.ref a1), .val (.int v44), .val (.int v59), .val (.int (0 : Int32)), .val (.int z')]) (fun _ => rfl) (fun v137 ev137 => ?_)
              subst ev137
              refine g_iload C at_139 141 rfl rfl ?_
              refine g_iload C at_141 143 rfl rfl ?_
              refine g_if_icmpne C at_143 150 (by decide) 146 rfl (fun k143 => ?_) (fun k143 => ?_)
              · exact absurd k143 (by decide)
              · refine g_iconst C at_146 147 rfl (1 : Int32) (by decide) ?_
                refine g_goto C at_147 151 (by decide) ?_
                refine r_nar C (by simp) at_151 (by decide) (by decide) rfl
            · exact absurd k103 (by decide)
      · refine g_ifeq C at_88 125 (by decide) 91 rfl (fun k88 => ?_) (fun k88 => ?_)
        · refine g_iconst C at_125 126 rfl (0 : Int32) (by decide) ?_
          refine g_istore C at_126 128 rfl (fun z' => #[.val (.int p0), .val (.int p1), .val (.int p2), .val (.int p3), .val (.int p4), .val (.ref a1), .val (.int v44), .val (.int v59), .val (.int z'), .unset]) (fun _ => rfl) (fun v126 ev126 => ?_)
          subst ev126
          refine g_aload C at_128 130 rfl rfl rfl ?_
          refine g_iload C at_130 132 rfl rfl ?_
          refine g_iload C at_132 134 rfl rfl ?_
          refine c_staticI C [(.ref a1), (.int v44), (.int v59)] [] (hw _ (List.mem_of_getElem? (i := 10) rfl)) (hw _ (List.mem_of_getElem? (i := 11) rfl)) (hw _ (List.mem_of_getElem? (i := 12) rfl)) (hw _ (List.mem_of_getElem? (i := 13) rfl)) (by decide) (m3 l Z a0 hw a1 v44 v59 h36 n0 (gF c0 c1 c2 c3) s0 e0 AG xs xe (by omega) (by omega)) at_134 137 rfl (lenOf pd_3 rfl) rfl 0 (Nat.le_of_eq rfl) (by decide) (by decide) 1 4 rfl rfl (by decide) (by decide) rfl (fun r134 h134 q134 => ?_)
          obtain ⟨hr134, rfl⟩ := q134
          have hr : r134 = 0 := by
            rcases hr134 with ⟨-, q⟩ | ⟨q, -⟩
            · exact absurd (q 1 ((own_in (i := 1) (i' := 1) ⟨by decide, by decide⟩ xs xe).mp w1.1).1 ((own_in (i := 1) (i' := 1) ⟨by decide, by decide⟩ xs xe).mp w1.1).2) w1.2
            · exact q
          subst hr
          refine g_istore C at_137 139 rfl (fun z' => #[.val (.int p0), .val (.int p1), .val (.int p2), .val (.int p3), .val (.int p4), .val (.ref a1), .val (.int v44), .val (.int v59), .val (.int (0 : Int32)), .val (.int z')]) (fun _ => rfl) (fun v137 ev137 => ?_)
          subst ev137
          refine g_iload C at_139 141 rfl rfl ?_
          refine g_iload C at_141 143 rfl rfl ?_
          refine g_if_icmpne C at_143 150 (by decide) 146 rfl (fun k143 => ?_) (fun k143 => ?_)
          · exact absurd k143 (by decide)
          · refine g_iconst C at_146 147 rfl (1 : Int32) (by decide) ?_
            refine g_goto C at_147 151 (by decide) ?_
            refine r_nar C (by simp) at_151 (by decide) (by decide) rfl
        · exact absurd k88 (by decide)
  · refine g_ifeq C at_73 125 (by decide) 76 rfl (fun k73 => ?_) (fun k73 => ?_)
    · refine g_iconst C at_125 126 rfl (0 : Int32) (by decide) ?_
      refine g_istore C at_126 128 rfl (fun z' => #[.val (.int p0), .val (.int p1), .val (.int p2), .val (.int p3), .val (.int p4), .val (.ref a1), .val (.int v44), .val (.int v59), .val (.int z'), .unset]) (fun _ => rfl) (fun v126 ev126 => ?_)
      subst ev126
      refine g_aload C at_128 130 rfl rfl rfl ?_
      refine g_iload C at_130 132 rfl rfl ?_
      refine g_iload C at_132 134 rfl rfl ?_
      refine c_staticI C [(.ref a1), (.int v44), (.int v59)] [] (hw _ (List.mem_of_getElem? (i := 10) rfl)) (hw _ (List.mem_of_getElem? (i := 11) rfl)) (hw _ (List.mem_of_getElem? (i := 12) rfl)) (hw _ (List.mem_of_getElem? (i := 13) rfl)) (by decide) (m3 l Z a0 hw a1 v44 v59 h36 n0 (gF c0 c1 c2 c3) s0 e0 AG xs xe (by omega) (by omega)) at_134 137 rfl (lenOf pd_3 rfl) rfl 0 (Nat.le_of_eq rfl) (by decide) (by decide) 1 4 rfl rfl (by decide) (by decide) rfl (fun r134 h134 q134 => ?_)
      obtain ⟨hr134, rfl⟩ := q134
      have hr : r134 = 0 := by
        rcases hr134 with ⟨-, q⟩ | ⟨q, -⟩
        · exact absurd (q 0 ((own_in (i := 0) (i' := 0) ⟨by decide, by decide⟩ xs xe).mp w0.1).1 ((own_in (i := 0) (i' := 0) ⟨by decide, by decide⟩ xs xe).mp w0.1).2) w0.2
        · exact q
      subst hr
      refine g_istore C at_137 139 rfl (fun z' => #[.val (.int p0), .val (.int p1), .val (.int p2), .val (.int p3), .val (.int p4), .val (.ref a1), .val (.int v44), .val (.int v59), .val (.int (0 : Int32)), .val (.int z')]) (fun _ => rfl) (fun v137 ev137 => ?_)
      subst ev137
      refine g_iload C at_139 141 rfl rfl ?_
      refine g_iload C at_141 143 rfl rfl ?_
      refine g_if_icmpne C at_143 150 (by decide) 146 rfl (fun k143 => ?_) (fun k143 => ?_)
      · exact absurd k143 (by decide)
      · refine g_iconst C at_146 147 rfl (1 : Int32) (by decide) ?_
        refine g_goto C at_147 151 (by decide) ?_
        refine r_nar C (by simp) at_151 (by decide) (by decide) rfl
    · exact absurd k73 (by decide)
set_option maxRecDepth 65536 in
set_option maxHeartbeats 40000000 in
theorem comes_1 {Post : Tables → Env → Array Value → State → Outcome → State → Prop} (hpost : ∀ tb e args s v u, (limb_1_1.after args s (.returned v) u = true ∧ limb_1_2.after args s (.returned v) u = true ∧ True) → FrameEnd s (.returned v) u (Jvm.fieldLocs frame_1_writes args s ++ Jvm.arrayLocs frame_1_arrays args s ++ Jvm.staticLocs frame_1_statics s) 16 128 → Post tb e args s (.returned v) u) :
    ArmFor flags0 classFile x code maxLocals ret World_1 tables_1 room_1 Calls_1 rest_1 Pre_1 Post := by
  intro l hfl _ _ p e ha hc hk s m args below hf hA hF happ hP
  obtain ⟨hcalls, hrest, hpre⟩ := hP
  obtain ⟨-, -, -, hnamed, -, -, -, hat⟩ := (Spec.applies_iff hf).mp happ
  obtain ⟨hg, hn⟩ := and_e (Cond.before_iff.mp (show (Jvm.Cond.and given_1 narrow_1).before args s = true from hpre))
  obtain ⟨h1, g0⟩ := and_e hg
  obtain ⟨w0, w1, w2, w3, w4, rfl⟩ : ∃ w0 w1 w2 w3 w4 : Value, args = #[w0, w1, w2, w3, w4] := by
    have hs : args.size = 5 := by simpa [Cond.value, given_1] using h1
    obtain ⟨L⟩ := args
    match L, hs with
    | [w0, w1, w2, w3, w4], _ => exact ⟨w0, w1, w2, w3, w4, rfl⟩
  have hw := fun d (hd : d ∈ tables_1) => atoms_spec (ws := Jvm.Cond.code x code maxLocals ret :: tables_1) hat d (List.mem_cons_of_mem _ hd)
  obtain ⟨b0, g1⟩ := and_e g0
  obtain ⟨i0, q0⟩ := is_v b0
  obtain rfl : w0 = (.int i0) := Option.some.inj q0
  obtain ⟨b1, g2⟩ := and_e g1
  obtain ⟨i1, q1⟩ := is_v b1
  obtain rfl : w1 = (.int i1) := Option.some.inj q1
  obtain ⟨b2, g3⟩ := and_e g2
  obtain ⟨i2, q2⟩ := is_v b2
  obtain rfl : w2 = (.int i2) := Option.some.inj q2
  obtain ⟨b3, g4⟩ := and_e g3
  obtain ⟨i3, q3⟩ := is_v b3
  obtain rfl : w3 = (.int i3) := Option.some.inj q3
  obtain ⟨i4, q4⟩ := is_v g4
  obtain rfl : w4 = (.int i4) := Option.some.inj q4
  obtain ⟨n, o, h1, h2, h3, _, L, rfl, ⟨⟨r, rfl, rfl⟩, N⟩, hq⟩ := m0 l s _ hw i0 i1 i2 i3 i4 s.heap s.heap.size (Nat.le_refl _) tables_1 p e ha hc hk s m _ below hf ((Spec.applies_iff_loose hf).mp happ).1 ⟨rfl, State.Warmed39.refl s, rfl⟩ trivial
  refine ⟨n, _, h1, h2, h3, hpost _ _ _ _ _ _ ⟨Cond.after_iff.mpr rfl, Cond.after_iff.mpr (eq_i res_at (Term.int_eval (1)) rfl), trivial⟩ ⟨hq.1, hq.2.1, (hq.2.2.sift fun y hy => Or.inr (N y hy)).mono (by decide) (by decide)⟩⟩
theorem main_1_1 : Claimed_1_1 := comes_1 fun _ _ _ _ _ _ h hF => ⟨h.1, hF⟩
theorem main_1_2 : Claimed_1_2 := comes_1 fun _ _ _ _ _ _ h hF => ⟨h.2.1, hF⟩
end Jvm.Pilot.@@N@@
namespace Jvm.Pilot.@@N@@
open Jvm Jvm.ClassFile Sem Op Lib Jvm.Free Jvm.Stand Jvm.Pilot.@@N@@.Jvm.D
/-! MADE BY PROGRAM (witnessworld.py) out of the Statement's table words and the real class files: 11 classes; the members and pool entries that the words name. The judged class is class 1, her method 4. -/
namespace start1
open Jvm.ClassFile
def u (s : String) : CpInfo := .utf8 (stringToUtf16 s)
/-- a pool by its gaps: so many unusable entries, then the entry; so many at the end -/
def gap : Nat → List CpInfo → List CpInfo
  | 0, r => r
  | n + 1, r => .unusable :: gap n r
def poolList (es : List (Nat × CpInfo)) (last : Nat) : List CpInfo := es.foldr (fun e r => gap e.1 (e.2 :: r)) (gap last [])
def pool (es : List (Nat × CpInfo)) (last : Nat) : Array CpInfo := ⟨poolList es last⟩
def fileOf (pool : Array CpInfo) (this : Nat) (attrs : Array Attribute := #[]) (ms : Array MethodInfo := #[]) (fl : Nat := 33) (sup : Nat := 0) (ifs : Array Nat := #[]) (fds : Array FieldInfo := #[]) : ClassFile where
  minorVersion := 0
  majorVersion := 65
  constantPool := pool
  accessFlags := fl
  thisClass := this
  superClass := sup
  interfaces := ifs
  fields := fds
  methods := ms
  attributes := attrs
def plain (name : String) (sup : Option ClassId) : Class where
  name := name
  kind := .ordinary
  loader := none
  accessFlags := 33
  super := sup
  interfaces := #[]
  cf := none
  fields := #[]
  methods := #[]
  instanceTypes := #[]
  staticTypes := #[]
  resolved := #[]
  callSites := []
  init := .initialized
  statics := none
  mirror := none

def pool0 : Array CpInfo := pool [(5, u "<init>"), (0, u "()V"), (1, .class_ 10), (1, u "java/lang/Object")] 113

def k0m0 : Method := { name := "<init>", desc := "()V", sig := { parameters := [], returnType := none }, accessFlags := 1, code := none }
/-- java/lang/Object -/
def k0 : Class := { plain "java/lang/Object" none with
  accessFlags := 33
  interfaces := #[]
  cf := some (fileOf pool0 8 #[] #[{ accessFlags := 1, nameIndex := 5, descriptorIndex := 6, attributes := #[] }] 33 0 #[] #[])
  fields := #[]
  methods := #[k0m0]
  instanceTypes := #[]
  staticTypes := #[]
  resolved := Array.replicate 124 none
  statics := none }

def pool1 : Array CpInfo := pool [(2, .class_ 4), (1, u "java/lang/Object"), (0, u "<init>"), (0, u "()V"), (0, .integer 65535), (0, .methodref 9 10), (0, .class_ 11), (0, .nameAndType 12 13), (0, u "com/example/gauzy_branch/gauzybranch/model/NestingIsWhitespacePinLaw"), (0, u "ws"), (0, u "(C)Z"), (0, .methodref 9 15), (0, .nameAndType 16 17), (0, u "pick"), (0, u "(I)C"), (0, .integer 2147483647), (0, .methodref 9 20), (0, .nameAndType 21 22), (0, u "ok"), (0, u "(IIIC)Z"), (0, .methodref 24 25), (0, .class_ 26), (0, .nameAndType 27 28), (0, u "com/example/gauzy_branch/gauzybranch/model/Nesting"), (0, u "isWhitespace"), (0, u "([CII)Z"), (3, u "law"), (0, u "(IIIII)Z")] 4

def k1m0 : Method := { name := "<init>", desc := "()V", sig := { parameters := [], returnType := none }, accessFlags := 2, code := none }
def k1c1 : Code := { maxStack := 2, maxLocals := 2, code := method_2_code, exceptionTable := #[], attributes := #[] }
def k1m1 : Method := { name := "pick", desc := "(I)C", sig := { parameters := [.int], returnType := some .char }, accessFlags := 10, code := some k1c1 }
def k1c2 : Code := { maxStack := 2, maxLocals := 1, code := method_3_code, exceptionTable := #[], attributes := #[] }
def k1m2 : Method := { name := "ws", desc := "(C)Z", sig := { parameters := [.char], returnType := some .boolean }, accessFlags := 10, code := some k1c2 }
def k1c3 : Code := { maxStack := 3, maxLocals := 5, code := method_4_code, exceptionTable := #[], attributes := #[] }
def k1m3 : Method := { name := "ok", desc := "(IIIC)Z", sig := { parameters := [.int, .int, .int, .char], returnType := some .boolean }, accessFlags := 10, code := some k1c3 }
def k1c4 : Code := { maxStack := 5, maxLocals := 10, code := code, exceptionTable := #[], attributes := #[] }
def k1m4 : Method := { name := "law", desc := "(IIIII)Z", sig := { parameters := [.int, .int, .int, .int, .int], returnType := some .boolean }, accessFlags := 9, code := some k1c4 }
/-- com/example/gauzy_branch/gauzybranch/model/NestingIsWhitespacePinLaw -/
def k1 : Class := { plain "com/example/gauzy_branch/gauzybranch/model/NestingIsWhitespacePinLaw" (some 0) with
  accessFlags := 49
  interfaces := #[]
  cf := some (fileOf pool1 9 #[] #[{ accessFlags := 2, nameIndex := 5, descriptorIndex := 6, attributes := #[] }, { accessFlags := 10, nameIndex := 16, descriptorIndex := 17, attributes := #[] }, { accessFlags := 10, nameIndex := 12, descriptorIndex := 13, attributes := #[] }, { accessFlags := 10, nameIndex := 21, descriptorIndex := 22, attributes := #[] }, { accessFlags := 9, nameIndex := 32, descriptorIndex := 33, attributes := #[] }] 49 2 #[] #[])
  fields := #[]
  methods := #[k1m0, k1m1, k1m2, k1m3, k1m4]
  instanceTypes := #[]
  staticTypes := #[]
  resolved := Array.replicate 38 none
  statics := none }

def pool2 : Array CpInfo := pool [(2, .class_ 4), (1, u "java/lang/Object"), (0, u "<init>"), (0, u "()V"), (0, .class_ 8), (0, u "com/example/gauzy_branch/gauzybranch/model/Nesting"), (0, .class_ 10), (0, u "com/example/gauzy_branch/gauzybranch/model/Nesting$Kind"), (2, u "kinds"), (0, u "[Lcom/example/gauzy_branch/gauzybranch/model/Nesting$Kind;"), (2, u "parents"), (0, u "[I"), (2, u "contents"), (0, u "[B"), (28, u "depth"), (0, u "I"), (11, u "isWhitespace"), (0, u "([CII)Z"), (30, u "INITIAL_DEPTH"), (2, u "WHITESPACE"), (0, u "B"), (1, u "ONE_CONSTRUCTOR"), (1, u "MIXED")] 35

def k2m0 : Method := { name := "<init>", desc := "()V", sig := { parameters := [], returnType := none }, accessFlags := 1, code := none }
def k2c1 : Code := { maxStack := 3, maxLocals := 5, code := prog_124_method_11_code, exceptionTable := #[], attributes := #[] }
def k2m1 : Method := { name := "isWhitespace", desc := "([CII)Z", sig := { parameters := [(.array .char), .int, .int], returnType := some .boolean }, accessFlags := 8, code := some k2c1 }
/-- com/example/gauzy_branch/gauzybranch/model/Nesting -/
def k2 : Class := { plain "com/example/gauzy_branch/gauzybranch/model/Nesting" (some 0) with
  accessFlags := 33
  interfaces := #[]
  cf := some (fileOf pool2 7 #[.nestMembers #[9]] #[{ accessFlags := 1, nameIndex := 5, descriptorIndex := 6, attributes := #[] }, { accessFlags := 8, nameIndex := 64, descriptorIndex := 65, attributes := #[] }] 33 2 #[] #[{ accessFlags := 26, nameIndex := 96, descriptorIndex := 52, attributes := #[] }, { accessFlags := 26, nameIndex := 99, descriptorIndex := 100, attributes := #[] }, { accessFlags := 26, nameIndex := 102, descriptorIndex := 100, attributes := #[] }, { accessFlags := 26, nameIndex := 104, descriptorIndex := 100, attributes := #[] }, { accessFlags := 2, nameIndex := 13, descriptorIndex := 14, attributes := #[] }, { accessFlags := 2, nameIndex := 17, descriptorIndex := 18, attributes := #[] }, { accessFlags := 2, nameIndex := 21, descriptorIndex := 22, attributes := #[] }, { accessFlags := 2, nameIndex := 51, descriptorIndex := 52, attributes := #[] }])
  fields := #[{ name := "INITIAL_DEPTH", type := .int, accessFlags := 26, slot := 0, constantValue := 0 }, { name := "WHITESPACE", type := .byte, accessFlags := 26, slot := 1, constantValue := 0 }, { name := "ONE_CONSTRUCTOR", type := .byte, accessFlags := 26, slot := 2, constantValue := 0 }, { name := "MIXED", type := .byte, accessFlags := 26, slot := 3, constantValue := 0 }, { name := "kinds", type := (.array (.object "com/example/gauzy_branch/gauzybranch/model/Nesting$Kind")), accessFlags := 2, slot := 0, constantValue := 0 }, { name := "parents", type := (.array .int), accessFlags := 2, slot := 1, constantValue := 0 }, { name := "contents", type := (.array .byte), accessFlags := 2, slot := 2, constantValue := 0 }, { name := "depth", type := .int, accessFlags := 2, slot := 3, constantValue := 0 }]
  methods := #[k2m0, k2m1]
  instanceTypes := #[(.array (.object "com/example/gauzy_branch/gauzybranch/model/Nesting$Kind")), (.array .int), (.array .byte), .int]
  staticTypes := #[.int, .byte, .byte, .byte]
  resolved := Array.replicate 140 none
  statics := none }

def pool3 : Array CpInfo := pool [(1, u "java/lang/Cloneable"), (0, .class_ 1), (0, u "java/lang/Object"), (0, .class_ 3)] 3

/-- java/lang/Cloneable -/
def k3 : Class := { plain "java/lang/Cloneable" (some 0) with
  accessFlags := 1537
  interfaces := #[]
  cf := some (fileOf pool3 2 #[] #[] 1537 4 #[] #[])
  fields := #[]
  methods := #[]
  instanceTypes := #[]
  staticTypes := #[]
  resolved := Array.replicate 8 none
  statics := none }

def pool4 : Array CpInfo := pool [(1, u "java/io/Serializable"), (0, .class_ 1), (0, u "java/lang/Object"), (0, .class_ 3)] 3

/-- java/io/Serializable -/
def k4 : Class := { plain "java/io/Serializable" (some 0) with
  accessFlags := 1537
  interfaces := #[]
  cf := some (fileOf pool4 2 #[] #[] 1537 4 #[] #[])
  fields := #[]
  methods := #[]
  instanceTypes := #[]
  staticTypes := #[]
  resolved := Array.replicate 8 none
  statics := none }

/-- the primitive byte -/
def k5 : Class := { plain "byte" none with kind := .primitive 'B', accessFlags := 0x411 }
/-- [B -/
def k6 : Class := { plain "[B" (some 0) with kind := .array 5 .byte, interfaces := #[3, 4], accessFlags := 1041 }

/-- the primitive char -/
def k7 : Class := { plain "char" none with kind := .primitive 'C', accessFlags := 0x411 }
/-- [C -/
def k8 : Class := { plain "[C" (some 0) with kind := .array 7 .char, interfaces := #[3, 4], accessFlags := 1041 }

/-- the primitive int -/
def k9 : Class := { plain "int" none with kind := .primitive 'I', accessFlags := 0x411 }
/-- [I -/
def k10 : Class := { plain "[I" (some 0) with kind := .array 9 .int, interfaces := #[3, 4], accessFlags := 1041 }

def heap : Heap := #[]
def classes : Array Class := #[k0, k1, k2, k3, k4, k5, k6, k7, k8, k9, k10]
def interned : List (Array UInt16 × Addr) := []
def slotsUsed : Nat := 0
def theMethod : MethodId := ⟨1, 4⟩
def args0 : Array Value := #[.int 5, .int 5, .int 5, .int 5, .int 5]
def aboutOver (below : List Frame) : State where
  vm := { classes := classes, interned := interned.toArray }
  heap := heap
  slotsUsed := slotsUsed
  threads := #[{ frames := .invoking theMethod args0 :: below }]
def below0 : List Frame := [.native { method := ⟨0, 0⟩, args := #[] }]
def about1 : State := aboutOver below0
def p0 : Program := .bare "" "" ""
def e0 : Env := launch0.env 0 0 0
theorem w_frames : about1.frames = Frame.invoking theMethod args0 :: below0 := rfl
set_option maxRecDepth 65536 in
theorem w_args : argsFit about1.vm theMethod args0 = true := by decide +kernel
set_option maxRecDepth 65536 in
theorem w_heap : heapFits about1 = true := by decide +kernel
set_option maxRecDepth 65536 in
theorem w_runnable : about1.curStatus? = some .runnable := by decide +kernel
set_option maxRecDepth 65536 in
theorem w_alone : about1.alone = true := by decide +kernel
set_option maxRecDepth 65536 in
theorem w_named : about1.methodNamed? x = some theMethod := by decide +kernel
set_option maxRecDepth 65536 in
theorem w_hears : about1.hears theMethod below0 = true := by decide +kernel
set_option maxRecDepth 65536 in
theorem w_ripe : about1.ripe theMethod args0 below0 = true := by decide +kernel
theorem w_running : about1.status = .running := rfl
set_option maxRecDepth 65536 in
theorem w_room : about1.hasRoom e0.platform room_1 = true :=
  launch0.hasRoom_least _ room_1 (by decide +kernel) (by decide +kernel) (by decide +kernel) (by decide +kernel) (by decide +kernel) (by decide +kernel)
theorem allAtoms_all (ts : List Jvm.Cond) (a : Array Jvm.Value) (st : Jvm.State) : (allAtoms ts).before a st = ts.all (fun c => c.before a st) := by
  induction ts with
  | nil => rfl
  | cons c t ih =>
    show (Jvm.Cond.and c (allAtoms t)).before a st = _
    rw [Jvm.Cond.before_and, ih, List.all_cons]
def words1 : List Jvm.Cond := Jvm.Cond.code x code maxLocals ret :: tables_1
/-- a 'code' word, met by the world's own term for the bytes: nothing is compared byte by byte -/
theorem code_word {y : MethodName} {bytes : ByteArray} {mx : Nat} {rt : Option FieldType} {a : Array Value} {s : State} {m : MethodId} {meth : Method} {c : Code} (h1 : s.methodNamed? y = some m) (h2 : s.vm.method? m = some meth) (h3 : meth.code = some c) (h4 : c.code = bytes)
    (h5 : (c.maxLocals == mx && c.exceptionTable.isEmpty && decide (c.maxStack ≤ mostOperands) && decide (meth.sig.returnType = rt) && !meth.locks && decide (parseMethodDescriptor y.desc = some meth.sig)) = true) : (Jvm.Cond.code y bytes mx rt).before a s = true := by
  simp only [Bool.and_eq_true, beq_iff_eq, Bool.not_eq_true', decide_eq_true_eq] at h5
  obtain ⟨⟨⟨⟨⟨g1, g2⟩, g3⟩, g4⟩, g5⟩, g6⟩ := h5
  simp [Cond.before, Cond.holds, Cond.value, h1, h2, h3, h4, g1, g2, g3, g4, g5, g6]
def isCode : Jvm.Cond → Bool
  | .code _ _ _ _ => true
  | _ => false
theorem all_split {L : List Jvm.Cond} {P : Jvm.Cond → Bool} (h1 : L.all (fun c => isCode c || P c) = true) (h2 : ∀ c ∈ L.filter isCode, P c = true) : L.all P = true := by
  refine List.all_eq_true.mpr fun c hc => ?_
  have h := List.all_eq_true.mp h1 c hc
  rcases Bool.eq_false_or_eq_true (isCode c) with hi | hi
  · exact h2 c (List.mem_filter.mpr ⟨hc, hi⟩)
  · simpa [hi] using h
set_option maxRecDepth 65536 in
theorem w_c0 : (Jvm.Cond.code x code maxLocals ret).before args0 about1 = true := code_word (m := ⟨1, 4⟩) (meth := k1m4) (c := k1c4) (by decide +kernel) rfl rfl rfl (by decide +kernel)
set_option maxRecDepth 65536 in
theorem w_c1 : (Jvm.Cond.code ({ cls := "com/example/gauzy_branch/gauzybranch/model/NestingIsWhitespacePinLaw", name := "pick", desc := "(I)C" } : Jvm.MethodName) method_2_code (2 : Nat) (Option.some Jvm.ClassFile.FieldType.char)).before args0 about1 = true := code_word (m := ⟨1, 1⟩) (meth := k1m1) (c := k1c1) (by decide +kernel) rfl rfl rfl (by decide +kernel)
set_option maxRecDepth 65536 in
theorem w_c2 : (Jvm.Cond.code ({ cls := "com/example/gauzy_branch/gauzybranch/model/NestingIsWhitespacePinLaw", name := "ok", desc := "(IIIC)Z" } : Jvm.MethodName) method_4_code (5 : Nat) (Option.some Jvm.ClassFile.FieldType.boolean)).before args0 about1 = true := code_word (m := ⟨1, 3⟩) (meth := k1m3) (c := k1c3) (by decide +kernel) rfl rfl rfl (by decide +kernel)
set_option maxRecDepth 65536 in
theorem w_c3 : (Jvm.Cond.code ({ cls := "com/example/gauzy_branch/gauzybranch/model/Nesting", name := "isWhitespace", desc := "([CII)Z" } : Jvm.MethodName) prog_124_method_11_code (5 : Nat) (Option.some Jvm.ClassFile.FieldType.boolean)).before args0 about1 = true := code_word (m := ⟨2, 1⟩) (meth := k2m1) (c := k2c1) (by decide +kernel) rfl rfl rfl (by decide +kernel)
set_option maxRecDepth 65536 in
theorem w_c4 : (Jvm.Cond.code ({ cls := "com/example/gauzy_branch/gauzybranch/model/NestingIsWhitespacePinLaw", name := "ws", desc := "(C)Z" } : Jvm.MethodName) method_3_code (1 : Nat) (Option.some Jvm.ClassFile.FieldType.boolean)).before args0 about1 = true := code_word (m := ⟨1, 2⟩) (meth := k1m2) (c := k1c2) (by decide +kernel) rfl rfl rfl (by decide +kernel)
def codes1 : List Jvm.Cond := [Jvm.Cond.code x code maxLocals ret, Jvm.Cond.code ({ cls := "com/example/gauzy_branch/gauzybranch/model/NestingIsWhitespacePinLaw", name := "pick", desc := "(I)C" } : Jvm.MethodName) method_2_code (2 : Nat) (Option.some Jvm.ClassFile.FieldType.char), Jvm.Cond.code ({ cls := "com/example/gauzy_branch/gauzybranch/model/NestingIsWhitespacePinLaw", name := "ok", desc := "(IIIC)Z" } : Jvm.MethodName) method_4_code (5 : Nat) (Option.some Jvm.ClassFile.FieldType.boolean), Jvm.Cond.code ({ cls := "com/example/gauzy_branch/gauzybranch/model/Nesting", name := "isWhitespace", desc := "([CII)Z" } : Jvm.MethodName) prog_124_method_11_code (5 : Nat) (Option.some Jvm.ClassFile.FieldType.boolean), Jvm.Cond.code ({ cls := "com/example/gauzy_branch/gauzybranch/model/NestingIsWhitespacePinLaw", name := "ws", desc := "(C)Z" } : Jvm.MethodName) method_3_code (1 : Nat) (Option.some Jvm.ClassFile.FieldType.boolean)]
set_option maxRecDepth 65536 in
theorem codes_eq : words1.filter isCode = codes1 := rfl
theorem w_codes : ∀ c ∈ words1.filter isCode, c.before args0 about1 = true := by
  rw [codes_eq]
  intro c hc
  simp only [codes1, List.mem_cons, List.not_mem_nil, or_false] at hc
  rcases hc with rfl | rfl | rfl | rfl | rfl
  · exact w_c0
  · exact w_c1
  · exact w_c2
  · exact w_c3
  · exact w_c4
set_option maxRecDepth 65536 in
theorem w_t1 : words1.all (fun c => isCode c || c.before args0 about1) = true := by decide +kernel
theorem w_tables : (allAtoms (Jvm.Cond.code x code maxLocals ret :: tables_1)).before args0 about1 = true := by
  rw [allAtoms_all]
  show words1.all (fun c => c.before args0 about1) = true
  refine all_split ?_ w_codes
  rw [w_t1]
set_option maxRecDepth 65536 in
theorem w_case : (Jvm.Cond.and given_1 narrow_1).before args0 about1 = true := by decide +kernel
theorem w_applies : (headSpec (Jvm.Cond.code x code maxLocals ret :: tables_1) room_1).applies x e0.platform about1 = true :=
  (Spec.applies_iff w_frames).mpr ⟨w_running, w_runnable, w_alone, w_named, w_hears, w_ripe, w_room, w_tables⟩
theorem atStart : AtStart classFile x code maxLocals ret World_1 tables_1 room_1 Calls_1 rest_1 Pre_1 launch0 p0 e0 about1 theMethod args0 below0 :=
  ⟨lists_1, trivial, launch0.admits_env _ _ _, launch0.least_env, fairChoices_fair.cas, fairChoices_fair.clock, w_frames, w_args, w_heap, w_applies, trivial, trivial, w_case⟩
end start1
theorem witness_1 : WitnessClaimed_1 := ⟨start1.p0, start1.e0, start1.about1, start1.theMethod, start1.args0, start1.below0, start1.atStart⟩
end Jvm.Pilot.@@N@@
