import JvmDerived
import JvmDerived.Pilot.@@N@@Statement
import JvmDerived.Pilot.@@N@@Code
set_option linter.unusedVariables false
set_option linter.unusedSimpArgs false
namespace Jvm.RoadKit
open Sem ClassFile Op Lib Jvm.Stand Jvm.Free Jvm.LawKit
section New
variable {p : Program} {l : Launch} {e : Env} {R : Room} {s : State} {m : MethodId} {args : Array Value} {below : List Frame} {meth : Method} {c : Code} {T : State} {locs : List Loc} {cells slots : Nat}
theorem retI (X : Stand p l e R s m args below meth c T locs cells slots) (hx : p.tables.exec = Jvm.exec) {pc : Nat} {Ls : Array Slot} {z : Int32} {rest : List Value} (hret : meth.sig.returnType = some .int) (hd : decode c.code pc = .ok (.ireturn, 1)) {fs : List Frame}
    (hl : ∀ (f : JFrame) (acts : List Action), f.method = m → f.locked = none → f.entered = [] → (doReturn e (T.setTop f) acts (some (.int z))).1 = T.setFrames fs) : Steps p.tables e below (T.setTop (mkF m pc Ls (.int z :: rest))) (T.setFrames fs) := by
  have hm' : T.vm.method? m = some meth := X.method'
  have hn : narrow .int (.int z) = .int z := rfl
  show Steps p.tables e below (T.setTop { method := m, pc := pc, locals := Ls, stack := _ :: rest, locked := none }) _
  jvm_step X.here [X.here.top, hx, hd, hm', hret, hn]
  first | (intro acts; rw [hl _ acts rfl rfl rfl]) | rw [hl _ _ rfl rfl rfl]
  exact Steps.refl _
end New
end Jvm.RoadKit
namespace Jvm.Pilot.@@N@@.OwnW
open Jvm Jvm.ClassFile Sem Op Lib Jvm.Free Jvm.Stand Jvm.LawKit Jvm.RoadKit
section OwnBase
variable {p : Program} {l : Launch} {e : Env} {R : Room} {s : State} {m : MethodId} {args : Array Value} {below : List Frame} {meth : Method} {c : Code} {Z : State} {own nm : String} {bs : ByteArray} {ml : Nat} {rt : Option FieldType} {n0 : Nat} {Q : Option Value → Heap → Prop} {h : Heap} {cells slots pc : Nat} {L : Array Slot} {st : List Value} {a0 : Array Value}
/-- what is known throughout a body's walk -/
def Ctx (p : Program) (l : Launch) (e : Env) (R : Room) (s : State) (m : MethodId) (args : Array Value) (below : List Frame) (meth : Method) (c : Code) (Z : State) (own nm : String) (bs : ByteArray) (ml : Nat) (rt : Option FieldType) : Prop :=
  p.tables.exec = Jvm.exec ∧ c.code = bs ∧ Z.Warmed39 s.vm ∧ s.vm.findClass own = some m.cls ∧ c.maxLocals = ml ∧ meth.sig.returnType = rt ∧ meth.locks = false ∧ meth.name = nm
/-- from here the body comes to its end, and Q holds there -/
def Go (p : Program) (l : Launch) (e : Env) (R : Room) (s : State) (m : MethodId) (args : Array Value) (below : List Frame) (meth : Method) (c : Code) (n0 : Nat) (Q : Option Value → Heap → Prop) (h : Heap) (cells slots pc : Nat) (L : Array Slot) (st : List Value) : Prop :=
  ∀ (T : State) (locs : List Loc), Stand p l e R s m args below meth c T locs cells slots → T.heap = h → Fr n0 locs →
    ∃ (s2 : State) (v : Option Value) (L' : List Loc), Steps p.tables e below (T.setTop (mkF m pc L st)) s2 ∧ s2.status = .running ∧ Ended s2 below (.returned v) ∧ Q v s2.heap ∧ Fr n0 L' ∧ s.WarmedH s2.vm ∧ s.sameButNew ({ s2 with vm := s.vm } : State) L' R.cells R.slots
/-- the contract of a body at given arguments and a given heap -/
def Met (l : Launch) (Z : State) (y : MethodName) (bs : ByteArray) (ml : Nat) (rt : Option FieldType) (rm : Room) (as : Array Value) (h0 : Heap) (n0 : Nat) (Q : Option Value → Heap → Prop) : Prop :=
  ∀ ws : List Jvm.Cond, MetFree l y (head1 (Jvm.Cond.code y bs ml rt :: ws) rm) (fun a U => a = as ∧ Z.Warmed39 U.vm ∧ U.heap = h0) (fun _ _ _ _ _ => True) (fun _ U o U' => ∃ v L, o = .returned v ∧ (Q v U'.heap ∧ Fr n0 L) ∧ FrameEnd U o U' L rm.cells rm.slots)
def qI (P : Int32 → Heap → Prop) : Option Value → Heap → Prop := fun v h => ∃ r, v = some (.int r) ∧ P r h
def qJ (P : Int64 → Heap → Prop) : Option Value → Heap → Prop := fun v h => ∃ r, v = some (.long r) ∧ P r h
def qA (P : Addr → Heap → Prop) : Option Value → Heap → Prop := fun v h => ∃ r, v = some (.ref r) ∧ P r h
def qV (P : Heap → Prop) : Option Value → Heap → Prop := fun v h => v = none ∧ P h
theorem met {y : MethodName} {rm : Room} {as : Array Value} {h0 : Heap} (hpf : plainFor y = true) (L0 : Array Slot) (hE : ∀ m, entryFrame m as ml = mkF m 0 L0 [])
    (body : ∀ (p : Program) (e : Env) (s : State) (m : MethodId) (below : List Frame) (meth : Method) (c : Code), Ctx p l e rm s m as below meth c Z y.cls y.name bs ml rt → Go p l e rm s m as below meth c n0 Q h0 0 0 0 L0 []) : Met l Z y bs ml rt rm as h0 n0 Q := by
  intro ws
  refine MetFree.of_bodySF hpf hisR ?_
  intro p e s m args below meth c s1 Bd hml0 hP hK
  obtain ⟨rfl, hZ, hh⟩ := hP
  have e0 : s1.heap = h0 := by rw [← hh, Bd.state]; rfl
  obtain ⟨s2, v, L', a, b, d, q, fr, w, sm⟩ := body p e s m below meth c ⟨Bd.exec, Bd.bytes, hZ, findClass_of_methodNamed Bd.named, hml0, Bd.returns, Bd.notSynchronized, (name_of_methodNamed Bd.named Bd.method).1⟩ s1 [] (Stand.of_body Bd) e0 (Fr.nil n0)
  exact ⟨s2, _, castTop (hE m) a, b, d, v, L', rfl, ⟨q, fr⟩, ⟨v, rfl⟩, w, sm⟩
theorem step {pc' : Nat} {L' : Array Slot} {st' : List Value}
    (k : ∀ (T : State) (locs : List Loc), Stand p l e R s m args below meth c T locs cells slots → T.heap = h → ∀ t, Steps p.tables e below (T.setTop (mkF m pc' L' st')) t → Steps p.tables e below (T.setTop (mkF m pc L st)) t)
    (g : Go p l e R s m args below meth c n0 Q h cells slots pc' L' st') : Go p l e R s m args below meth c n0 Q h cells slots pc L st := fun T locs X eh N => by
  obtain ⟨s2, v, L', a, b⟩ := g T locs X eh N
  exact ⟨s2, v, L', k T locs X eh _ a, b⟩
def ush (x y : Int32) : Int32 := (x.toUInt32 >>> (y &&& 31).toUInt32).toInt32
def ushL (x : Int64) (y : Int32) : Int64 := (x.toUInt64 >>> (y &&& 0x3f).toInt64.toUInt64).toInt64
def shlL (x : Int64) (y : Int32) : Int64 := x <<< (y &&& 0x3f).toInt64
theorem g_iadd (C : Ctx p l e R s m args below meth c Z own nm bs ml rt) {x y : Int32} (hd : decode bs pc = .ok (.iadd, 1)) (pc' : Nat) (hp : pc' = pc + 1) (g : Go p l e R s m args below meth c n0 Q h cells slots pc' L (.int (x + y) :: st)) : Go p l e R s m args below meth c n0 Q h cells slots pc L (.int y :: .int x :: st) := by
  subst hp
  exact step (fun T locs X _ t k => XS.iadd X.here C.1 rfl (hb C.2.1 hd) rfl k) g
theorem g_isub (C : Ctx p l e R s m args below meth c Z own nm bs ml rt) {x y : Int32} (hd : decode bs pc = .ok (.isub, 1)) (pc' : Nat) (hp : pc' = pc + 1) (g : Go p l e R s m args below meth c n0 Q h cells slots pc' L (.int (x - y) :: st)) : Go p l e R s m args below meth c n0 Q h cells slots pc L (.int y :: .int x :: st) := by
  subst hp
  exact step (fun T locs X _ t k => XS.isub X.here C.1 rfl (hb C.2.1 hd) rfl k) g
theorem g_imul (C : Ctx p l e R s m args below meth c Z own nm bs ml rt) {x y : Int32} (hd : decode bs pc = .ok (.imul, 1)) (pc' : Nat) (hp : pc' = pc + 1) (g : Go p l e R s m args below meth c n0 Q h cells slots pc' L (.int (x * y) :: st)) : Go p l e R s m args below meth c n0 Q h cells slots pc L (.int y :: .int x :: st) := by
  subst hp
  exact step (fun T locs X _ t k => XS.imul X.here C.1 rfl (hb C.2.1 hd) rfl k) g
theorem g_iand (C : Ctx p l e R s m args below meth c Z own nm bs ml rt) {x y : Int32} (hd : decode bs pc = .ok (.iand, 1)) (pc' : Nat) (hp : pc' = pc + 1) (g : Go p l e R s m args below meth c n0 Q h cells slots pc' L (.int (x &&& y) :: st)) : Go p l e R s m args below meth c n0 Q h cells slots pc L (.int y :: .int x :: st) := by
  subst hp
  exact step (fun T locs X _ t k => XS.iand X.here C.1 rfl (hb C.2.1 hd) rfl k) g
theorem g_ior (C : Ctx p l e R s m args below meth c Z own nm bs ml rt) {x y : Int32} (hd : decode bs pc = .ok (.ior, 1)) (pc' : Nat) (hp : pc' = pc + 1) (g : Go p l e R s m args below meth c n0 Q h cells slots pc' L (.int (x ||| y) :: st)) : Go p l e R s m args below meth c n0 Q h cells slots pc L (.int y :: .int x :: st) := by
  subst hp
  exact step (fun T locs X _ t k => XS.ior X.here C.1 rfl (hb C.2.1 hd) rfl k) g
theorem g_ixor (C : Ctx p l e R s m args below meth c Z own nm bs ml rt) {x y : Int32} (hd : decode bs pc = .ok (.ixor, 1)) (pc' : Nat) (hp : pc' = pc + 1) (g : Go p l e R s m args below meth c n0 Q h cells slots pc' L (.int (x ^^^ y) :: st)) : Go p l e R s m args below meth c n0 Q h cells slots pc L (.int y :: .int x :: st) := by
  subst hp
  exact step (fun T locs X _ t k => XS.ixor X.here C.1 rfl (hb C.2.1 hd) rfl k) g
theorem g_ishl (C : Ctx p l e R s m args below meth c Z own nm bs ml rt) {x y : Int32} (hd : decode bs pc = .ok (.ishl, 1)) (pc' : Nat) (hp : pc' = pc + 1) (g : Go p l e R s m args below meth c n0 Q h cells slots pc' L (.int (x <<< (y &&& 31)) :: st)) : Go p l e R s m args below meth c n0 Q h cells slots pc L (.int y :: .int x :: st) := by
  subst hp
  exact step (fun T locs X _ t k => XS.ishl X.here C.1 rfl (hb C.2.1 hd) rfl k) g
theorem g_ishr (C : Ctx p l e R s m args below meth c Z own nm bs ml rt) {x y : Int32} (hd : decode bs pc = .ok (.ishr, 1)) (pc' : Nat) (hp : pc' = pc + 1) (g : Go p l e R s m args below meth c n0 Q h cells slots pc' L (.int (x >>> (y &&& 31)) :: st)) : Go p l e R s m args below meth c n0 Q h cells slots pc L (.int y :: .int x :: st) := by
  subst hp
  exact step (fun T locs X _ t k => XS.ishr X.here C.1 rfl (hb C.2.1 hd) rfl k) g
theorem g_iushr (C : Ctx p l e R s m args below meth c Z own nm bs ml rt) {x y : Int32} (hd : decode bs pc = .ok (.iushr, 1)) (pc' : Nat) (hp : pc' = pc + 1) (g : Go p l e R s m args below meth c n0 Q h cells slots pc' L (.int (ush x y) :: st)) : Go p l e R s m args below meth c n0 Q h cells slots pc L (.int y :: .int x :: st) := by
  subst hp
  exact step (fun T locs X _ t k => XS.iushr X.here C.1 rfl (hb C.2.1 hd) rfl k) g
theorem g_ladd (C : Ctx p l e R s m args below meth c Z own nm bs ml rt) {x y : Int64} (hd : decode bs pc = .ok (.ladd, 1)) (pc' : Nat) (hp : pc' = pc + 1) (g : Go p l e R s m args below meth c n0 Q h cells slots pc' L (.long (x + y) :: st)) : Go p l e R s m args below meth c n0 Q h cells slots pc L (.long y :: .long x :: st) := by
  subst hp
  exact step (fun T locs X _ t k => XS.ladd X.here C.1 rfl (hb C.2.1 hd) rfl k) g
theorem g_lsub (C : Ctx p l e R s m args below meth c Z own nm bs ml rt) {x y : Int64} (hd : decode bs pc = .ok (.lsub, 1)) (pc' : Nat) (hp : pc' = pc + 1) (g : Go p l e R s m args below meth c n0 Q h cells slots pc' L (.long (x - y) :: st)) : Go p l e R s m args below meth c n0 Q h cells slots pc L (.long y :: .long x :: st) := by
  subst hp
  exact step (fun T locs X _ t k => XS.lsub X.here C.1 rfl (hb C.2.1 hd) rfl k) g
theorem g_lmul (C : Ctx p l e R s m args below meth c Z own nm bs ml rt) {x y : Int64} (hd : decode bs pc = .ok (.lmul, 1)) (pc' : Nat) (hp : pc' = pc + 1) (g : Go p l e R s m args below meth c n0 Q h cells slots pc' L (.long (x * y) :: st)) : Go p l e R s m args below meth c n0 Q h cells slots pc L (.long y :: .long x :: st) := by
  subst hp
  exact step (fun T locs X _ t k => XS.lmul X.here C.1 rfl (hb C.2.1 hd) rfl k) g
theorem g_land (C : Ctx p l e R s m args below meth c Z own nm bs ml rt) {x y : Int64} (hd : decode bs pc = .ok (.land, 1)) (pc' : Nat) (hp : pc' = pc + 1) (g : Go p l e R s m args below meth c n0 Q h cells slots pc' L (.long (x &&& y) :: st)) : Go p l e R s m args below meth c n0 Q h cells slots pc L (.long y :: .long x :: st) := by
  subst hp
  exact step (fun T locs X _ t k => XS.land X.here C.1 rfl (hb C.2.1 hd) rfl k) g
theorem g_lor (C : Ctx p l e R s m args below meth c Z own nm bs ml rt) {x y : Int64} (hd : decode bs pc = .ok (.lor, 1)) (pc' : Nat) (hp : pc' = pc + 1) (g : Go p l e R s m args below meth c n0 Q h cells slots pc' L (.long (x ||| y) :: st)) : Go p l e R s m args below meth c n0 Q h cells slots pc L (.long y :: .long x :: st) := by
  subst hp
  exact step (fun T locs X _ t k => XS.lor X.here C.1 rfl (hb C.2.1 hd) rfl k) g
theorem g_lxor (C : Ctx p l e R s m args below meth c Z own nm bs ml rt) {x y : Int64} (hd : decode bs pc = .ok (.lxor, 1)) (pc' : Nat) (hp : pc' = pc + 1) (g : Go p l e R s m args below meth c n0 Q h cells slots pc' L (.long (x ^^^ y) :: st)) : Go p l e R s m args below meth c n0 Q h cells slots pc L (.long y :: .long x :: st) := by
  subst hp
  exact step (fun T locs X _ t k => XS.lxor X.here C.1 rfl (hb C.2.1 hd) rfl k) g
theorem g_lshl (C : Ctx p l e R s m args below meth c Z own nm bs ml rt) {x : Int64} {y : Int32} (hd : decode bs pc = .ok (.lshl, 1)) (pc' : Nat) (hp : pc' = pc + 1) (g : Go p l e R s m args below meth c n0 Q h cells slots pc' L (.long (shlL x y) :: st)) : Go p l e R s m args below meth c n0 Q h cells slots pc L (.int y :: .long x :: st) := by
  subst hp
  exact step (fun T locs X _ t k => XS.lshl X.here C.1 rfl (hb C.2.1 hd) rfl k) g
theorem g_lushr (C : Ctx p l e R s m args below meth c Z own nm bs ml rt) {x : Int64} {y : Int32} (hd : decode bs pc = .ok (.lushr, 1)) (pc' : Nat) (hp : pc' = pc + 1) (g : Go p l e R s m args below meth c n0 Q h cells slots pc' L (.long (ushL x y) :: st)) : Go p l e R s m args below meth c n0 Q h cells slots pc L (.int y :: .long x :: st) := by
  subst hp
  exact step (fun T locs X _ t k => XS.lushr X.here C.1 rfl (hb C.2.1 hd) rfl k) g
theorem g_i2l (C : Ctx p l e R s m args below meth c Z own nm bs ml rt) {x : Int32} (hd : decode bs pc = .ok (.i2l, 1)) (pc' : Nat) (hp : pc' = pc + 1) (g : Go p l e R s m args below meth c n0 Q h cells slots pc' L (.long x.toInt64 :: st)) : Go p l e R s m args below meth c n0 Q h cells slots pc L (.int x :: st) := by
  subst hp
  exact step (fun T locs X _ t k => XS.i2l X.here C.1 rfl (hb C.2.1 hd) rfl k) g
theorem g_i2b (C : Ctx p l e R s m args below meth c Z own nm bs ml rt) {x : Int32} (hd : decode bs pc = .ok (.i2b, 1)) (pc' : Nat) (hp : pc' = pc + 1) (g : Go p l e R s m args below meth c n0 Q h cells slots pc' L (.int x.toInt8.toInt32 :: st)) : Go p l e R s m args below meth c n0 Q h cells slots pc L (.int x :: st) := by
  subst hp
  exact step (fun T locs X _ t k => XS.i2b X.here C.1 rfl (hb C.2.1 hd) rfl k) g
theorem g_i2c (C : Ctx p l e R s m args below meth c Z own nm bs ml rt) {x : Int32} (hd : decode bs pc = .ok (.i2c, 1)) (pc' : Nat) (hp : pc' = pc + 1) (g : Go p l e R s m args below meth c n0 Q h cells slots pc' L (.int x.toUInt32.toUInt16.toUInt32.toInt32 :: st)) : Go p l e R s m args below meth c n0 Q h cells slots pc L (.int x :: st) := by
  subst hp
  exact step (fun T locs X _ t k => XS.i2c X.here C.1 rfl (hb C.2.1 hd) rfl k) g
theorem g_l2i (C : Ctx p l e R s m args below meth c Z own nm bs ml rt) {x : Int64} (hd : decode bs pc = .ok (.l2i, 1)) (pc' : Nat) (hp : pc' = pc + 1) (g : Go p l e R s m args below meth c n0 Q h cells slots pc' L (.int x.toInt32 :: st)) : Go p l e R s m args below meth c n0 Q h cells slots pc L (.long x :: st) := by
  subst hp
  exact step (fun T locs X _ t k => XS.l2i X.here C.1 rfl (hb C.2.1 hd) rfl k) g
theorem g_lneg (C : Ctx p l e R s m args below meth c Z own nm bs ml rt) {x : Int64} (hd : decode bs pc = .ok (.lneg, 1)) (pc' : Nat) (hp : pc' = pc + 1) (g : Go p l e R s m args below meth c n0 Q h cells slots pc' L (.long (-x) :: st)) : Go p l e R s m args below meth c n0 Q h cells slots pc L (.long x :: st) := by
  subst hp
  exact step (fun T locs X _ t k => XS.lneg X.here C.1 rfl (hb C.2.1 hd) rfl k) g
theorem g_irem (C : Ctx p l e R s m args below meth c Z own nm bs ml rt) {x y : Int32} (hd : decode bs pc = .ok (.irem, 1)) (pc' : Nat) (hp : pc' = pc + 1) (hy : y ≠ 0) (g : Go p l e R s m args below meth c n0 Q h cells slots pc' L (.int (x % y) :: st)) : Go p l e R s m args below meth c n0 Q h cells slots pc L (.int y :: .int x :: st) := by
  subst hp
  exact step (fun T locs X _ t k => iremM X C.1 rfl (hb C.2.1 hd) rfl hy k) g
theorem g_iconst (C : Ctx p l e R s m args below meth c Z own nm bs ml rt) {i : Int} (hd : decode bs pc = .ok (.iconst i, 1)) (pc' : Nat) (hp : pc' = pc + 1) (z : Int32) (hz : Int32.ofInt i = z) (g : Go p l e R s m args below meth c n0 Q h cells slots pc' L (.int z :: st)) : Go p l e R s m args below meth c n0 Q h cells slots pc L st := by
  subst hp hz
  exact step (fun T locs X _ t k => XS.iconst X.here C.1 rfl (hb C.2.1 hd) k) g
theorem g_bipush (C : Ctx p l e R s m args below meth c Z own nm bs ml rt) {i : Int} (hd : decode bs pc = .ok (.bipush i, 2)) (pc' : Nat) (hp : pc' = pc + 2) (z : Int32) (hz : (Int8.ofInt i).toInt32 = z) (g : Go p l e R s m args below meth c n0 Q h cells slots pc' L (.int z :: st)) : Go p l e R s m args below meth c n0 Q h cells slots pc L st := by
  subst hp hz
  exact step (fun T locs X _ t k => XS.bipush X.here C.1 rfl (hb C.2.1 hd) k) g
theorem g_sipush (C : Ctx p l e R s m args below meth c Z own nm bs ml rt) {i : Int} (hd : decode bs pc = .ok (.sipush i, 3)) (pc' : Nat) (hp : pc' = pc + 3) (z : Int32) (hz : (Int16.ofInt i).toInt32 = z) (g : Go p l e R s m args below meth c n0 Q h cells slots pc' L (.int z :: st)) : Go p l e R s m args below meth c n0 Q h cells slots pc L st := by
  subst hp hz
  exact step (fun T locs X _ t k => XS.sipush X.here C.1 rfl (hb C.2.1 hd) k) g
theorem g_lconst (C : Ctx p l e R s m args below meth c Z own nm bs ml rt) {i : Fin 2} (hd : decode bs pc = .ok (.lconst i, 1)) (pc' : Nat) (hp : pc' = pc + 1) (z : Int64) (hz : Int64.ofNat i = z) (g : Go p l e R s m args below meth c n0 Q h cells slots pc' L (.long z :: st)) : Go p l e R s m args below meth c n0 Q h cells slots pc L st := by
  subst hp hz
  exact step (fun T locs X _ t k => XS.lconst X.here C.1 rfl (hb C.2.1 hd) k) g
theorem g_aconst_null (C : Ctx p l e R s m args below meth c Z own nm bs ml rt)  (hd : decode bs pc = .ok (.aconst_null, 1)) (pc' : Nat) (hp : pc' = pc + 1) (g : Go p l e R s m args below meth c n0 Q h cells slots pc' L (.null :: st)) : Go p l e R s m args below meth c n0 Q h cells slots pc L st := by
  subst hp
  exact step (fun T locs X _ t k => XS.aconstNull X.here C.1 rfl (hb C.2.1 hd)  k) g
theorem g_ldc (C : Ctx p l e R s m args below meth c Z own nm bs ml rt) {i : Nat} {z : Int32} (w : (Jvm.Cond.constant own i z).before a0 Z = true) (hd : decode bs pc = .ok (.ldc i, 2)) (pc' : Nat) (hp : pc' = pc + 2) (g : Go p l e R s m args below meth c n0 Q h cells slots pc' L (.int z :: st)) : Go p l e R s m args below meth c n0 Q h cells slots pc L st := by
  subst hp
  exact step (fun T locs X _ t k => X.ldcInt C.1 C.2.2.2.1 (mvT C.2.2.1 w) (g := mkF m pc L st) rfl (hb C.2.1 hd) _ k) g
theorem g_ldc2_w (C : Ctx p l e R s m args below meth c Z own nm bs ml rt) {i : Nat} {z : Int64} (w : (Jvm.Cond.constantLong own i z).before a0 Z = true) (hd : decode bs pc = .ok (.ldc2_w i, 3)) (pc' : Nat) (hp : pc' = pc + 3) (g : Go p l e R s m args below meth c n0 Q h cells slots pc' L (.long z :: st)) : Go p l e R s m args below meth c n0 Q h cells slots pc L st := by
  subst hp
  exact step (fun T locs X _ t k => X.ldc2Long C.1 C.2.2.2.1 (mvT C.2.2.1 w) (g := mkF m pc L st) rfl (hb C.2.1 hd) _ k) g
theorem g_iload (C : Ctx p l e R s m args below meth c Z own nm bs ml rt) {k : Nat} {v : Int32} (hd : decode bs pc = .ok (.iload k, 2)) (pc' : Nat) (hp : pc' = pc + 2) (hl : L[k]? = some (.val (.int v))) (g : Go p l e R s m args below meth c n0 Q h cells slots pc' L (.int v :: st)) : Go p l e R s m args below meth c n0 Q h cells slots pc L st := by
  subst hp
  exact step (fun T locs X _ t k => XS.iload X.here C.1 rfl (hb C.2.1 hd) hl k) g
theorem g_iloadN (C : Ctx p l e R s m args below meth c Z own nm bs ml rt) {k : Fin 4} {v : Int32} (hd : decode bs pc = .ok (.iload_n k, 1)) (pc' : Nat) (hp : pc' = pc + 1) (hl : L[k.val]? = some (.val (.int v))) (g : Go p l e R s m args below meth c n0 Q h cells slots pc' L (.int v :: st)) : Go p l e R s m args below meth c n0 Q h cells slots pc L st := by
  subst hp
  exact step (fun T locs X _ t k => XS.iloadN X.here C.1 rfl (hb C.2.1 hd) hl k) g
theorem g_lload (C : Ctx p l e R s m args below meth c Z own nm bs ml rt) {k : Nat} {v : Int64} (hd : decode bs pc = .ok (.lload k, 2)) (pc' : Nat) (hp : pc' = pc + 2) (hl : L[k]? = some (.val (.long v))) (g : Go p l e R s m args below meth c n0 Q h cells slots pc' L (.long v :: st)) : Go p l e R s m args below meth c n0 Q h cells slots pc L st := by
  subst hp
  exact step (fun T locs X _ t k => XS.lload X.here C.1 rfl (hb C.2.1 hd) hl k) g
theorem g_lloadN (C : Ctx p l e R s m args below meth c Z own nm bs ml rt) {k : Fin 4} {v : Int64} (hd : decode bs pc = .ok (.lload_n k, 1)) (pc' : Nat) (hp : pc' = pc + 1) (hl : L[k.val]? = some (.val (.long v))) (g : Go p l e R s m args below meth c n0 Q h cells slots pc' L (.long v :: st)) : Go p l e R s m args below meth c n0 Q h cells slots pc L st := by
  subst hp
  exact step (fun T locs X _ t k => XS.lloadN X.here C.1 rfl (hb C.2.1 hd) hl k) g
theorem g_aload (C : Ctx p l e R s m args below meth c Z own nm bs ml rt) {k : Nat} {v : Value} (hd : decode bs pc = .ok (.aload k, 2)) (pc' : Nat) (hp : pc' = pc + 2) (hl : L[k]? = some (.val (v))) (hv : v.isRef = true) (g : Go p l e R s m args below meth c n0 Q h cells slots pc' L (v :: st)) : Go p l e R s m args below meth c n0 Q h cells slots pc L st := by
  subst hp
  exact step (fun T locs X _ t k => XS.aload X.here C.1 rfl (hb C.2.1 hd) hl hv k) g
theorem g_aloadN (C : Ctx p l e R s m args below meth c Z own nm bs ml rt) {k : Fin 4} {v : Value} (hd : decode bs pc = .ok (.aload_n k, 1)) (pc' : Nat) (hp : pc' = pc + 1) (hl : L[k.val]? = some (.val (v))) (hv : v.isRef = true) (g : Go p l e R s m args below meth c n0 Q h cells slots pc' L (v :: st)) : Go p l e R s m args below meth c n0 Q h cells slots pc L st := by
  subst hp
  exact step (fun T locs X _ t k => XS.aloadN X.here C.1 rfl (hb C.2.1 hd) hl hv k) g
theorem g_istore (C : Ctx p l e R s m args below meth c Z own nm bs ml rt) {k : Nat} {x : Int32} (hd : decode bs pc = .ok (.istore k, 2)) (pc' : Nat) (hp : pc' = pc + 2) (l' : Int32 → Array Slot) (hl : ∀ z, storeLocals L k (.int z) = some (l' z)) (g : ∀ z, z = x → Go p l e R s m args below meth c n0 Q h cells slots pc' (l' z) st) : Go p l e R s m args below meth c n0 Q h cells slots pc L (.int x :: st) := by
  subst hp
  exact step (fun T locs X _ t k => XS.istore X.here C.1 rfl (hb C.2.1 hd) rfl (hl x) k) (g x rfl)
theorem g_istoreN (C : Ctx p l e R s m args below meth c Z own nm bs ml rt) {k : Fin 4} {x : Int32} (hd : decode bs pc = .ok (.istore_n k, 1)) (pc' : Nat) (hp : pc' = pc + 1) (l' : Int32 → Array Slot) (hl : ∀ z, storeLocals L k.val (.int z) = some (l' z)) (g : ∀ z, z = x → Go p l e R s m args below meth c n0 Q h cells slots pc' (l' z) st) : Go p l e R s m args below meth c n0 Q h cells slots pc L (.int x :: st) := by
  subst hp
  exact step (fun T locs X _ t k => XS.istoreN X.here C.1 rfl (hb C.2.1 hd) rfl (hl x) k) (g x rfl)
theorem g_lstore (C : Ctx p l e R s m args below meth c Z own nm bs ml rt) {k : Nat} {x : Int64} (hd : decode bs pc = .ok (.lstore k, 2)) (pc' : Nat) (hp : pc' = pc + 2) (l' : Int64 → Array Slot) (hl : ∀ z, storeLocals L k (.long z) = some (l' z)) (g : ∀ z, z = x → Go p l e R s m args below meth c n0 Q h cells slots pc' (l' z) st) : Go p l e R s m args below meth c n0 Q h cells slots pc L (.long x :: st) := by
  subst hp
  exact step (fun T locs X _ t k => XS.lstore X.here C.1 rfl (hb C.2.1 hd) rfl (hl x) k) (g x rfl)
theorem g_lstoreN (C : Ctx p l e R s m args below meth c Z own nm bs ml rt) {k : Fin 4} {x : Int64} (hd : decode bs pc = .ok (.lstore_n k, 1)) (pc' : Nat) (hp : pc' = pc + 1) (l' : Int64 → Array Slot) (hl : ∀ z, storeLocals L k.val (.long z) = some (l' z)) (g : ∀ z, z = x → Go p l e R s m args below meth c n0 Q h cells slots pc' (l' z) st) : Go p l e R s m args below meth c n0 Q h cells slots pc L (.long x :: st) := by
  subst hp
  exact step (fun T locs X _ t k => XS.lstoreN X.here C.1 rfl (hb C.2.1 hd) rfl (hl x) k) (g x rfl)
theorem g_astore (C : Ctx p l e R s m args below meth c Z own nm bs ml rt) {k : Nat} {x : Value} (hd : decode bs pc = .ok (.astore k, 2)) (pc' : Nat) (hp : pc' = pc + 2) (l' : Array Slot) (hl : storeLocals L k x = some l') (hv : x.isRef = true) (g : Go p l e R s m args below meth c n0 Q h cells slots pc' l' st) : Go p l e R s m args below meth c n0 Q h cells slots pc L (x :: st) := by
  subst hp
  exact step (fun T locs X _ t k => XS.astore X.here C.1 rfl (hb C.2.1 hd) rfl hv hl k) g
theorem g_astoreN (C : Ctx p l e R s m args below meth c Z own nm bs ml rt) {k : Fin 4} {x : Value} (hd : decode bs pc = .ok (.astore_n k, 1)) (pc' : Nat) (hp : pc' = pc + 1) (l' : Array Slot) (hl : storeLocals L k.val x = some l') (hv : x.isRef = true) (g : Go p l e R s m args below meth c n0 Q h cells slots pc' l' st) : Go p l e R s m args below meth c n0 Q h cells slots pc L (x :: st) := by
  subst hp
  exact step (fun T locs X _ t k => XS.astoreN X.here C.1 rfl (hb C.2.1 hd) rfl hv hl k) g
theorem g_iinc (C : Ctx p l e R s m args below meth c Z own nm bs ml rt) {k : Nat} {i : Int} {x : Int32} (hd : decode bs pc = .ok (.iinc k i, 3)) (pc' : Nat) (hp : pc' = pc + 3) (hl0 : L[k]? = some (.val (.int x))) (d : Int32) (hz : Int32.ofInt i = d) (l' : Int32 → Array Slot) (hl : ∀ z, storeLocals L k (.int z) = some (l' z)) (g : ∀ z, z = x + d → Go p l e R s m args below meth c n0 Q h cells slots pc' (l' z) st) : Go p l e R s m args below meth c n0 Q h cells slots pc L st := by
  subst hp hz
  exact step (fun T locs X _ t k => XS.iinc X.here C.1 rfl (hb C.2.1 hd) hl0 (hl _) k) (g _ rfl)
theorem g_dup (C : Ctx p l e R s m args below meth c Z own nm bs ml rt) {x : Value} (hd : decode bs pc = .ok (.dup, 1)) (pc' : Nat) (hp : pc' = pc + 1) (hc : x.category = 1) (g : Go p l e R s m args below meth c n0 Q h cells slots pc' L (x :: x :: st)) : Go p l e R s m args below meth c n0 Q h cells slots pc L (x :: st) := by
  subst hp
  exact step (fun T locs X _ t k => XS.dup X.here C.1 rfl (hb C.2.1 hd) rfl hc k) g
theorem g_pop (C : Ctx p l e R s m args below meth c Z own nm bs ml rt) {x : Value} (hd : decode bs pc = .ok (.pop, 1)) (pc' : Nat) (hp : pc' = pc + 1) (hc : x.category = 1) (g : Go p l e R s m args below meth c n0 Q h cells slots pc' L st) : Go p l e R s m args below meth c n0 Q h cells slots pc L (x :: st) := by
  subst hp
  exact step (fun T locs X _ t k => XS.pop X.here C.1 rfl (hb C.2.1 hd) rfl hc k) g
theorem g_dup2 (C : Ctx p l e R s m args below meth c Z own nm bs ml rt) {x y : Value} (hd : decode bs pc = .ok (.dup2, 1)) (pc' : Nat) (hp : pc' = pc + 1) (hc : x.category = 1) (hc2 : y.category = 1) (g : Go p l e R s m args below meth c n0 Q h cells slots pc' L (x :: y :: x :: y :: st)) : Go p l e R s m args below meth c n0 Q h cells slots pc L (x :: y :: st) := by
  subst hp
  exact step (fun T locs X _ t k => XT.dup2 X.here C.1 rfl (hb C.2.1 hd) rfl hc hc2 k) g
theorem g_goto (C : Ctx p l e R s m args below meth c Z own nm bs ml rt) {o : Int} (hd : decode bs pc = .ok (.goto o, 3)) (pc' : Nat) (hp : 0 ≤ (pc : Int) + o ∧ ((pc : Int) + o).toNat = pc') (g : Go p l e R s m args below meth c n0 Q h cells slots pc' L st) : Go p l e R s m args below meth c n0 Q h cells slots pc L st :=
  step (fun T locs X _ t k => XS.goto X.here C.1 rfl (pc0 := pc) (pc' := pc') rfl (hb C.2.1 hd) hp.1 hp.2 k) g
theorem g_if_icmpeq (C : Ctx p l e R s m args below meth c Z own nm bs ml rt) {x y : Int32} {o : Int} (hd : decode bs pc = .ok (.if_icmp .eq o, 3)) (pc1 : Nat) (h1 : 0 ≤ ((pc : Nat) : Int) + o ∧ (((pc : Nat) : Int) + o).toNat = pc1) (pc2 : Nat) (h2 : pc2 = pc + 3) (g1 : (x = y) → Go p l e R s m args below meth c n0 Q h cells slots pc1 L st) (g2 : (¬ x = y) → Go p l e R s m args below meth c n0 Q h cells slots pc2 L st) : Go p l e R s m args below meth c n0 Q h cells slots pc L (.int y :: .int x :: st) := by
  subst h2
  by_cases q : x = y
  · exact step (fun T locs X _ t k => XS.icmpYes X.here C.1 rfl (pc0 := pc) (pc' := pc1) rfl (hb C.2.1 hd) rfl (teq q).1 h1.1 h1.2 k) (g1 q)
  · exact step (fun T locs X _ t k => XS.icmpNo X.here C.1 rfl (hb C.2.1 hd) rfl (feq q).1 k) (g2 q)
theorem g_ifeq (C : Ctx p l e R s m args below meth c Z own nm bs ml rt) {x : Int32} {o : Int} (hd : decode bs pc = .ok (.ifCond .eq o, 3)) (pc1 : Nat) (h1 : 0 ≤ ((pc : Nat) : Int) + o ∧ (((pc : Nat) : Int) + o).toNat = pc1) (pc2 : Nat) (h2 : pc2 = pc + 3) (g1 : (x = (0 : Int32)) → Go p l e R s m args below meth c n0 Q h cells slots pc1 L st) (g2 : (¬ x = (0 : Int32)) → Go p l e R s m args below meth c n0 Q h cells slots pc2 L st) : Go p l e R s m args below meth c n0 Q h cells slots pc L (.int x :: st) := by
  subst h2
  by_cases q : x = (0 : Int32)
  · exact step (fun T locs X _ t k => XS.ifYes X.here C.1 rfl (pc0 := pc) (pc' := pc1) rfl (hb C.2.1 hd) rfl ((if0 _ _).trans (teq q).1) h1.1 h1.2 k) (g1 q)
  · exact step (fun T locs X _ t k => XS.ifNo X.here C.1 rfl (hb C.2.1 hd) rfl ((if0 _ _).trans (feq q).1) k) (g2 q)
theorem g_lcmpeq (C : Ctx p l e R s m args below meth c Z own nm bs ml rt) {x y : Int64} {o : Int} (hd0 : decode bs pc = .ok (.lcmp, 1)) (pcm : Nat) (hm : pcm = pc + 1) (hd : decode bs pcm = .ok (.ifCond .eq o, 3)) (pc1 : Nat) (h1 : 0 ≤ ((pcm : Nat) : Int) + o ∧ (((pcm : Nat) : Int) + o).toNat = pc1) (pc2 : Nat) (h2 : pc2 = pcm + 3) (g1 : (x = y) → Go p l e R s m args below meth c n0 Q h cells slots pc1 L st) (g2 : (¬ x = y) → Go p l e R s m args below meth c n0 Q h cells slots pc2 L st) : Go p l e R s m args below meth c n0 Q h cells slots pc L (.long y :: .long x :: st) := by
  subst hm
  have hw : ∀ (T : State) (locs : List Loc), Stand p l e R s m args below meth c T locs cells slots → ∀ t, Steps p.tables e below (T.setTop (mkF m (pc + 1) L (.int (lcmpW x y) :: st))) t → Steps p.tables e below (T.setTop (mkF m pc L (.long y :: .long x :: st))) t := fun T locs X t k => XS.lcmp X.here C.1 rfl (hb C.2.1 hd0) rfl k
  subst h2
  by_cases q : x = y
  · exact step (fun T locs X _ t k => hw T locs X t (XS.ifYes X.here C.1 rfl (pc0 := pc + 1) (pc' := pc1) rfl (hb C.2.1 hd) rfl ((if0 _ _).trans (teq ((lw_eq x y).mpr q)).1) h1.1 h1.2 k)) (g1 q)
  · exact step (fun T locs X _ t k => hw T locs X t (XS.ifNo X.here C.1 rfl (hb C.2.1 hd) rfl ((if0 _ _).trans (feq (fun z => q ((lw_eq x y).mp z))).1) k)) (g2 q)
theorem g_if_icmpne (C : Ctx p l e R s m args below meth c Z own nm bs ml rt) {x y : Int32} {o : Int} (hd : decode bs pc = .ok (.if_icmp .ne o, 3)) (pc1 : Nat) (h1 : 0 ≤ ((pc : Nat) : Int) + o ∧ (((pc : Nat) : Int) + o).toNat = pc1) (pc2 : Nat) (h2 : pc2 = pc + 3) (g1 : (¬ x = y) → Go p l e R s m args below meth c n0 Q h cells slots pc1 L st) (g2 : (x = y) → Go p l e R s m args below meth c n0 Q h cells slots pc2 L st) : Go p l e R s m args below meth c n0 Q h cells slots pc L (.int y :: .int x :: st) := by
  subst h2
  by_cases q : x = y
  · exact step (fun T locs X _ t k => XS.icmpNo X.here C.1 rfl (hb C.2.1 hd) rfl (teq q).2 k) (g2 q)
  · exact step (fun T locs X _ t k => XS.icmpYes X.here C.1 rfl (pc0 := pc) (pc' := pc1) rfl (hb C.2.1 hd) rfl (feq q).2 h1.1 h1.2 k) (g1 q)
theorem g_ifne (C : Ctx p l e R s m args below meth c Z own nm bs ml rt) {x : Int32} {o : Int} (hd : decode bs pc = .ok (.ifCond .ne o, 3)) (pc1 : Nat) (h1 : 0 ≤ ((pc : Nat) : Int) + o ∧ (((pc : Nat) : Int) + o).toNat = pc1) (pc2 : Nat) (h2 : pc2 = pc + 3) (g1 : (¬ x = (0 : Int32)) → Go p l e R s m args below meth c n0 Q h cells slots pc1 L st) (g2 : (x = (0 : Int32)) → Go p l e R s m args below meth c n0 Q h cells slots pc2 L st) : Go p l e R s m args below meth c n0 Q h cells slots pc L (.int x :: st) := by
  subst h2
  by_cases q : x = (0 : Int32)
  · exact step (fun T locs X _ t k => XS.ifNo X.here C.1 rfl (hb C.2.1 hd) rfl ((if0 _ _).trans (teq q).2) k) (g2 q)
  · exact step (fun T locs X _ t k => XS.ifYes X.here C.1 rfl (pc0 := pc) (pc' := pc1) rfl (hb C.2.1 hd) rfl ((if0 _ _).trans (feq q).2) h1.1 h1.2 k) (g1 q)
theorem g_lcmpne (C : Ctx p l e R s m args below meth c Z own nm bs ml rt) {x y : Int64} {o : Int} (hd0 : decode bs pc = .ok (.lcmp, 1)) (pcm : Nat) (hm : pcm = pc + 1) (hd : decode bs pcm = .ok (.ifCond .ne o, 3)) (pc1 : Nat) (h1 : 0 ≤ ((pcm : Nat) : Int) + o ∧ (((pcm : Nat) : Int) + o).toNat = pc1) (pc2 : Nat) (h2 : pc2 = pcm + 3) (g1 : (¬ x = y) → Go p l e R s m args below meth c n0 Q h cells slots pc1 L st) (g2 : (x = y) → Go p l e R s m args below meth c n0 Q h cells slots pc2 L st) : Go p l e R s m args below meth c n0 Q h cells slots pc L (.long y :: .long x :: st) := by
  subst hm
  have hw : ∀ (T : State) (locs : List Loc), Stand p l e R s m args below meth c T locs cells slots → ∀ t, Steps p.tables e below (T.setTop (mkF m (pc + 1) L (.int (lcmpW x y) :: st))) t → Steps p.tables e below (T.setTop (mkF m pc L (.long y :: .long x :: st))) t := fun T locs X t k => XS.lcmp X.here C.1 rfl (hb C.2.1 hd0) rfl k
  subst h2
  by_cases q : x = y
  · exact step (fun T locs X _ t k => hw T locs X t (XS.ifNo X.here C.1 rfl (hb C.2.1 hd) rfl ((if0 _ _).trans (teq ((lw_eq x y).mpr q)).2) k)) (g2 q)
  · exact step (fun T locs X _ t k => hw T locs X t (XS.ifYes X.here C.1 rfl (pc0 := pc + 1) (pc' := pc1) rfl (hb C.2.1 hd) rfl ((if0 _ _).trans (feq (fun z => q ((lw_eq x y).mp z))).2) h1.1 h1.2 k)) (g1 q)
theorem g_if_icmplt (C : Ctx p l e R s m args below meth c Z own nm bs ml rt) {x y : Int32} {o : Int} (hd : decode bs pc = .ok (.if_icmp .lt o, 3)) (pc1 : Nat) (h1 : 0 ≤ ((pc : Nat) : Int) + o ∧ (((pc : Nat) : Int) + o).toNat = pc1) (pc2 : Nat) (h2 : pc2 = pc + 3) (g1 : (x < y) → Go p l e R s m args below meth c n0 Q h cells slots pc1 L st) (g2 : (¬ x < y) → Go p l e R s m args below meth c n0 Q h cells slots pc2 L st) : Go p l e R s m args below meth c n0 Q h cells slots pc L (.int y :: .int x :: st) := by
  subst h2
  by_cases q : x < y
  · exact step (fun T locs X _ t k => XS.icmpYes X.here C.1 rfl (pc0 := pc) (pc' := pc1) rfl (hb C.2.1 hd) rfl (tlt q).1 h1.1 h1.2 k) (g1 q)
  · exact step (fun T locs X _ t k => XS.icmpNo X.here C.1 rfl (hb C.2.1 hd) rfl (flt q).1 k) (g2 q)
theorem g_iflt (C : Ctx p l e R s m args below meth c Z own nm bs ml rt) {x : Int32} {o : Int} (hd : decode bs pc = .ok (.ifCond .lt o, 3)) (pc1 : Nat) (h1 : 0 ≤ ((pc : Nat) : Int) + o ∧ (((pc : Nat) : Int) + o).toNat = pc1) (pc2 : Nat) (h2 : pc2 = pc + 3) (g1 : (x < (0 : Int32)) → Go p l e R s m args below meth c n0 Q h cells slots pc1 L st) (g2 : (¬ x < (0 : Int32)) → Go p l e R s m args below meth c n0 Q h cells slots pc2 L st) : Go p l e R s m args below meth c n0 Q h cells slots pc L (.int x :: st) := by
  subst h2
  by_cases q : x < (0 : Int32)
  · exact step (fun T locs X _ t k => XS.ifYes X.here C.1 rfl (pc0 := pc) (pc' := pc1) rfl (hb C.2.1 hd) rfl ((if0 _ _).trans (tlt q).1) h1.1 h1.2 k) (g1 q)
  · exact step (fun T locs X _ t k => XS.ifNo X.here C.1 rfl (hb C.2.1 hd) rfl ((if0 _ _).trans (flt q).1) k) (g2 q)
theorem g_lcmplt (C : Ctx p l e R s m args below meth c Z own nm bs ml rt) {x y : Int64} {o : Int} (hd0 : decode bs pc = .ok (.lcmp, 1)) (pcm : Nat) (hm : pcm = pc + 1) (hd : decode bs pcm = .ok (.ifCond .lt o, 3)) (pc1 : Nat) (h1 : 0 ≤ ((pcm : Nat) : Int) + o ∧ (((pcm : Nat) : Int) + o).toNat = pc1) (pc2 : Nat) (h2 : pc2 = pcm + 3) (g1 : (x < y) → Go p l e R s m args below meth c n0 Q h cells slots pc1 L st) (g2 : (¬ x < y) → Go p l e R s m args below meth c n0 Q h cells slots pc2 L st) : Go p l e R s m args below meth c n0 Q h cells slots pc L (.long y :: .long x :: st) := by
  subst hm
  have hw : ∀ (T : State) (locs : List Loc), Stand p l e R s m args below meth c T locs cells slots → ∀ t, Steps p.tables e below (T.setTop (mkF m (pc + 1) L (.int (lcmpW x y) :: st))) t → Steps p.tables e below (T.setTop (mkF m pc L (.long y :: .long x :: st))) t := fun T locs X t k => XS.lcmp X.here C.1 rfl (hb C.2.1 hd0) rfl k
  subst h2
  by_cases q : x < y
  · exact step (fun T locs X _ t k => hw T locs X t (XS.ifYes X.here C.1 rfl (pc0 := pc + 1) (pc' := pc1) rfl (hb C.2.1 hd) rfl ((if0 _ _).trans (tlt ((lw_lt x y).mpr q)).1) h1.1 h1.2 k)) (g1 q)
  · exact step (fun T locs X _ t k => hw T locs X t (XS.ifNo X.here C.1 rfl (hb C.2.1 hd) rfl ((if0 _ _).trans (flt (fun z => q ((lw_lt x y).mp z))).1) k)) (g2 q)
theorem g_if_icmpge (C : Ctx p l e R s m args below meth c Z own nm bs ml rt) {x y : Int32} {o : Int} (hd : decode bs pc = .ok (.if_icmp .ge o, 3)) (pc1 : Nat) (h1 : 0 ≤ ((pc : Nat) : Int) + o ∧ (((pc : Nat) : Int) + o).toNat = pc1) (pc2 : Nat) (h2 : pc2 = pc + 3) (g1 : (¬ x < y) → Go p l e R s m args below meth c n0 Q h cells slots pc1 L st) (g2 : (x < y) → Go p l e R s m args below meth c n0 Q h cells slots pc2 L st) : Go p l e R s m args below meth c n0 Q h cells slots pc L (.int y :: .int x :: st) := by
  subst h2
  by_cases q : x < y
  · exact step (fun T locs X _ t k => XS.icmpNo X.here C.1 rfl (hb C.2.1 hd) rfl (tlt q).2.1 k) (g2 q)
  · exact step (fun T locs X _ t k => XS.icmpYes X.here C.1 rfl (pc0 := pc) (pc' := pc1) rfl (hb C.2.1 hd) rfl (flt q).2.1 h1.1 h1.2 k) (g1 q)
theorem g_ifge (C : Ctx p l e R s m args below meth c Z own nm bs ml rt) {x : Int32} {o : Int} (hd : decode bs pc = .ok (.ifCond .ge o, 3)) (pc1 : Nat) (h1 : 0 ≤ ((pc : Nat) : Int) + o ∧ (((pc : Nat) : Int) + o).toNat = pc1) (pc2 : Nat) (h2 : pc2 = pc + 3) (g1 : (¬ x < (0 : Int32)) → Go p l e R s m args below meth c n0 Q h cells slots pc1 L st) (g2 : (x < (0 : Int32)) → Go p l e R s m args below meth c n0 Q h cells slots pc2 L st) : Go p l e R s m args below meth c n0 Q h cells slots pc L (.int x :: st) := by
  subst h2
  by_cases q : x < (0 : Int32)
  · exact step (fun T locs X _ t k => XS.ifNo X.here C.1 rfl (hb C.2.1 hd) rfl ((if0 _ _).trans (tlt q).2.1) k) (g2 q)
  · exact step (fun T locs X _ t k => XS.ifYes X.here C.1 rfl (pc0 := pc) (pc' := pc1) rfl (hb C.2.1 hd) rfl ((if0 _ _).trans (flt q).2.1) h1.1 h1.2 k) (g1 q)
theorem g_lcmpge (C : Ctx p l e R s m args below meth c Z own nm bs ml rt) {x y : Int64} {o : Int} (hd0 : decode bs pc = .ok (.lcmp, 1)) (pcm : Nat) (hm : pcm = pc + 1) (hd : decode bs pcm = .ok (.ifCond .ge o, 3)) (pc1 : Nat) (h1 : 0 ≤ ((pcm : Nat) : Int) + o ∧ (((pcm : Nat) : Int) + o).toNat = pc1) (pc2 : Nat) (h2 : pc2 = pcm + 3) (g1 : (¬ x < y) → Go p l e R s m args below meth c n0 Q h cells slots pc1 L st) (g2 : (x < y) → Go p l e R s m args below meth c n0 Q h cells slots pc2 L st) : Go p l e R s m args below meth c n0 Q h cells slots pc L (.long y :: .long x :: st) := by
  subst hm
  have hw : ∀ (T : State) (locs : List Loc), Stand p l e R s m args below meth c T locs cells slots → ∀ t, Steps p.tables e below (T.setTop (mkF m (pc + 1) L (.int (lcmpW x y) :: st))) t → Steps p.tables e below (T.setTop (mkF m pc L (.long y :: .long x :: st))) t := fun T locs X t k => XS.lcmp X.here C.1 rfl (hb C.2.1 hd0) rfl k
  subst h2
  by_cases q : x < y
  · exact step (fun T locs X _ t k => hw T locs X t (XS.ifNo X.here C.1 rfl (hb C.2.1 hd) rfl ((if0 _ _).trans (tlt ((lw_lt x y).mpr q)).2.1) k)) (g2 q)
  · exact step (fun T locs X _ t k => hw T locs X t (XS.ifYes X.here C.1 rfl (pc0 := pc + 1) (pc' := pc1) rfl (hb C.2.1 hd) rfl ((if0 _ _).trans (flt (fun z => q ((lw_lt x y).mp z))).2.1) h1.1 h1.2 k)) (g1 q)
theorem g_if_icmpgt (C : Ctx p l e R s m args below meth c Z own nm bs ml rt) {x y : Int32} {o : Int} (hd : decode bs pc = .ok (.if_icmp .gt o, 3)) (pc1 : Nat) (h1 : 0 ≤ ((pc : Nat) : Int) + o ∧ (((pc : Nat) : Int) + o).toNat = pc1) (pc2 : Nat) (h2 : pc2 = pc + 3) (g1 : (y < x) → Go p l e R s m args below meth c n0 Q h cells slots pc1 L st) (g2 : (¬ y < x) → Go p l e R s m args below meth c n0 Q h cells slots pc2 L st) : Go p l e R s m args below meth c n0 Q h cells slots pc L (.int y :: .int x :: st) := by
  subst h2
  by_cases q : y < x
  · exact step (fun T locs X _ t k => XS.icmpYes X.here C.1 rfl (pc0 := pc) (pc' := pc1) rfl (hb C.2.1 hd) rfl (tlt q).2.2.1 h1.1 h1.2 k) (g1 q)
  · exact step (fun T locs X _ t k => XS.icmpNo X.here C.1 rfl (hb C.2.1 hd) rfl (flt q).2.2.1 k) (g2 q)
theorem g_ifgt (C : Ctx p l e R s m args below meth c Z own nm bs ml rt) {x : Int32} {o : Int} (hd : decode bs pc = .ok (.ifCond .gt o, 3)) (pc1 : Nat) (h1 : 0 ≤ ((pc : Nat) : Int) + o ∧ (((pc : Nat) : Int) + o).toNat = pc1) (pc2 : Nat) (h2 : pc2 = pc + 3) (g1 : ((0 : Int32) < x) → Go p l e R s m args below meth c n0 Q h cells slots pc1 L st) (g2 : (¬ (0 : Int32) < x) → Go p l e R s m args below meth c n0 Q h cells slots pc2 L st) : Go p l e R s m args below meth c n0 Q h cells slots pc L (.int x :: st) := by
  subst h2
  by_cases q : (0 : Int32) < x
  · exact step (fun T locs X _ t k => XS.ifYes X.here C.1 rfl (pc0 := pc) (pc' := pc1) rfl (hb C.2.1 hd) rfl ((if0 _ _).trans (tlt q).2.2.1) h1.1 h1.2 k) (g1 q)
  · exact step (fun T locs X _ t k => XS.ifNo X.here C.1 rfl (hb C.2.1 hd) rfl ((if0 _ _).trans (flt q).2.2.1) k) (g2 q)
theorem g_lcmpgt (C : Ctx p l e R s m args below meth c Z own nm bs ml rt) {x y : Int64} {o : Int} (hd0 : decode bs pc = .ok (.lcmp, 1)) (pcm : Nat) (hm : pcm = pc + 1) (hd : decode bs pcm = .ok (.ifCond .gt o, 3)) (pc1 : Nat) (h1 : 0 ≤ ((pcm : Nat) : Int) + o ∧ (((pcm : Nat) : Int) + o).toNat = pc1) (pc2 : Nat) (h2 : pc2 = pcm + 3) (g1 : (y < x) → Go p l e R s m args below meth c n0 Q h cells slots pc1 L st) (g2 : (¬ y < x) → Go p l e R s m args below meth c n0 Q h cells slots pc2 L st) : Go p l e R s m args below meth c n0 Q h cells slots pc L (.long y :: .long x :: st) := by
  subst hm
  have hw : ∀ (T : State) (locs : List Loc), Stand p l e R s m args below meth c T locs cells slots → ∀ t, Steps p.tables e below (T.setTop (mkF m (pc + 1) L (.int (lcmpW x y) :: st))) t → Steps p.tables e below (T.setTop (mkF m pc L (.long y :: .long x :: st))) t := fun T locs X t k => XS.lcmp X.here C.1 rfl (hb C.2.1 hd0) rfl k
  subst h2
  by_cases q : y < x
  · exact step (fun T locs X _ t k => hw T locs X t (XS.ifYes X.here C.1 rfl (pc0 := pc + 1) (pc' := pc1) rfl (hb C.2.1 hd) rfl ((if0 _ _).trans (tlt ((lw_gt x y).mpr q)).2.2.1) h1.1 h1.2 k)) (g1 q)
  · exact step (fun T locs X _ t k => hw T locs X t (XS.ifNo X.here C.1 rfl (hb C.2.1 hd) rfl ((if0 _ _).trans (flt (fun z => q ((lw_gt x y).mp z))).2.2.1) k)) (g2 q)
theorem g_if_icmple (C : Ctx p l e R s m args below meth c Z own nm bs ml rt) {x y : Int32} {o : Int} (hd : decode bs pc = .ok (.if_icmp .le o, 3)) (pc1 : Nat) (h1 : 0 ≤ ((pc : Nat) : Int) + o ∧ (((pc : Nat) : Int) + o).toNat = pc1) (pc2 : Nat) (h2 : pc2 = pc + 3) (g1 : (¬ y < x) → Go p l e R s m args below meth c n0 Q h cells slots pc1 L st) (g2 : (y < x) → Go p l e R s m args below meth c n0 Q h cells slots pc2 L st) : Go p l e R s m args below meth c n0 Q h cells slots pc L (.int y :: .int x :: st) := by
  subst h2
  by_cases q : y < x
  · exact step (fun T locs X _ t k => XS.icmpNo X.here C.1 rfl (hb C.2.1 hd) rfl (tlt q).2.2.2 k) (g2 q)
  · exact step (fun T locs X _ t k => XS.icmpYes X.here C.1 rfl (pc0 := pc) (pc' := pc1) rfl (hb C.2.1 hd) rfl (flt q).2.2.2 h1.1 h1.2 k) (g1 q)
theorem g_ifle (C : Ctx p l e R s m args below meth c Z own nm bs ml rt) {x : Int32} {o : Int} (hd : decode bs pc = .ok (.ifCond .le o, 3)) (pc1 : Nat) (h1 : 0 ≤ ((pc : Nat) : Int) + o ∧ (((pc : Nat) : Int) + o).toNat = pc1) (pc2 : Nat) (h2 : pc2 = pc + 3) (g1 : (¬ (0 : Int32) < x) → Go p l e R s m args below meth c n0 Q h cells slots pc1 L st) (g2 : ((0 : Int32) < x) → Go p l e R s m args below meth c n0 Q h cells slots pc2 L st) : Go p l e R s m args below meth c n0 Q h cells slots pc L (.int x :: st) := by
  subst h2
  by_cases q : (0 : Int32) < x
  · exact step (fun T locs X _ t k => XS.ifNo X.here C.1 rfl (hb C.2.1 hd) rfl ((if0 _ _).trans (tlt q).2.2.2) k) (g2 q)
  · exact step (fun T locs X _ t k => XS.ifYes X.here C.1 rfl (pc0 := pc) (pc' := pc1) rfl (hb C.2.1 hd) rfl ((if0 _ _).trans (flt q).2.2.2) h1.1 h1.2 k) (g1 q)
theorem g_lcmple (C : Ctx p l e R s m args below meth c Z own nm bs ml rt) {x y : Int64} {o : Int} (hd0 : decode bs pc = .ok (.lcmp, 1)) (pcm : Nat) (hm : pcm = pc + 1) (hd : decode bs pcm = .ok (.ifCond .le o, 3)) (pc1 : Nat) (h1 : 0 ≤ ((pcm : Nat) : Int) + o ∧ (((pcm : Nat) : Int) + o).toNat = pc1) (pc2 : Nat) (h2 : pc2 = pcm + 3) (g1 : (¬ y < x) → Go p l e R s m args below meth c n0 Q h cells slots pc1 L st) (g2 : (y < x) → Go p l e R s m args below meth c n0 Q h cells slots pc2 L st) : Go p l e R s m args below meth c n0 Q h cells slots pc L (.long y :: .long x :: st) := by
  subst hm
  have hw : ∀ (T : State) (locs : List Loc), Stand p l e R s m args below meth c T locs cells slots → ∀ t, Steps p.tables e below (T.setTop (mkF m (pc + 1) L (.int (lcmpW x y) :: st))) t → Steps p.tables e below (T.setTop (mkF m pc L (.long y :: .long x :: st))) t := fun T locs X t k => XS.lcmp X.here C.1 rfl (hb C.2.1 hd0) rfl k
  subst h2
  by_cases q : y < x
  · exact step (fun T locs X _ t k => hw T locs X t (XS.ifNo X.here C.1 rfl (hb C.2.1 hd) rfl ((if0 _ _).trans (tlt ((lw_gt x y).mpr q)).2.2.2) k)) (g2 q)
  · exact step (fun T locs X _ t k => hw T locs X t (XS.ifYes X.here C.1 rfl (pc0 := pc + 1) (pc' := pc1) rfl (hb C.2.1 hd) rfl ((if0 _ _).trans (flt (fun z => q ((lw_gt x y).mp z))).2.2.2) h1.1 h1.2 k)) (g1 q)
theorem fin {v : Option Value} (C : Ctx p l e R s m args below meth c Z own nm bs ml rt) (hc : cells ≤ R.cells) (hs : slots ≤ R.slots) (hv : rt = none → v = none) (k : ∀ (T : State) (locs : List Loc), Stand p l e R s m args below meth c T locs cells slots → ∀ fs, (∀ (f : JFrame) (acts : List Action), f.method = m → f.locked = none → f.entered = [] → (doReturn e (T.setTop f) acts v).1 = T.setFrames fs) → Steps p.tables e below (T.setTop (mkF m pc L st)) (T.setFrames fs)) (q : Q v h) : Go p l e R s m args below meth c n0 Q h cells slots pc L st := fun T locs X eh N => by
  obtain ⟨fs, hr, hrun, hended, hW, hsame⟩ := X.leave (v := v) (fun h => hv (C.2.2.2.2.2.1.symm.trans h)) C.2.2.2.2.2.2.1
  refine ⟨_, v, locs, k T locs X fs hr, hrun, hended, ?_, N, hW, hsame.mono hc hs⟩
  show Q v T.heap
  rw [eh]; exact q
theorem r_int {P : Int32 → Heap → Prop} {z : Int32} (C : Ctx p l e R s m args below meth c Z own nm bs ml (some .int)) (hd : decode bs pc = .ok (.ireturn, 1)) (hc : cells ≤ R.cells) (hs : slots ≤ R.slots) (q : P z h) : Go p l e R s m args below meth c n0 (qI P) h cells slots pc L (.int z :: st) :=
  fin C hc hs (fun h => by cases h) (fun T locs X fs hr => retI X C.1 C.2.2.2.2.2.1 (hb C.2.1 hd) hr) ⟨z, rfl, q⟩
theorem r_nar {P : Int32 → Heap → Prop} {z : Int32} {t : FieldType} (C : Ctx p l e R s m args below meth c Z own nm bs ml (some t)) (ht : t = .boolean ∨ t = .byte ∨ t = .char ∨ t = .short) (hd : decode bs pc = .ok (.ireturn, 1)) (hc : cells ≤ R.cells) (hs : slots ≤ R.slots) (q : P (nar t z) h) : Go p l e R s m args below meth c n0 (qI P) h cells slots pc L (.int z :: st) :=
  fin C hc hs (fun h => by cases h) (fun T locs X fs hr => retN X C.1 C.2.2.2.2.2.1 ht (hb C.2.1 hd) hr) ⟨_, rfl, q⟩
theorem r_long {P : Int64 → Heap → Prop} {z : Int64} (C : Ctx p l e R s m args below meth c Z own nm bs ml (some .long)) (hd : decode bs pc = .ok (.lreturn, 1)) (hc : cells ≤ R.cells) (hs : slots ≤ R.slots) (q : P z h) : Go p l e R s m args below meth c n0 (qJ P) h cells slots pc L (.long z :: st) :=
  fin C hc hs (fun h => by cases h) (fun T locs X fs hr => retOut X C.1 C.2.2.2.2.2.1 rfl (Or.inr (Or.inl ⟨rfl, rfl, z, rfl⟩)) (hb C.2.1 hd) hr) ⟨z, rfl, q⟩
theorem r_ref {P : Addr → Heap → Prop} {z : Addr} {t : FieldType} (C : Ctx p l e R s m args below meth c Z own nm bs ml (some t)) (ht : t.isReference = true) (hn : narrow t (.ref z) = .ref z) (hd : decode bs pc = .ok (.areturn, 1)) (hc : cells ≤ R.cells) (hs : slots ≤ R.slots) (q : P z h) : Go p l e R s m args below meth c n0 (qA P) h cells slots pc L (.ref z :: st) :=
  fin C hc hs (fun h => by cases h) (fun T locs X fs hr => retOut X C.1 C.2.2.2.2.2.1 hn (Or.inr (Or.inr (Or.inr (Or.inr ⟨rfl, ht, rfl⟩)))) (hb C.2.1 hd) hr) ⟨z, rfl, q⟩
theorem r_void {P : Heap → Prop} (C : Ctx p l e R s m args below meth c Z own nm bs ml none) (hd : decode bs pc = .ok (.return_, 1)) (hc : cells ≤ R.cells) (hs : slots ≤ R.slots) (q : P h) : Go p l e R s m args below meth c n0 (qV P) h cells slots pc L [] :=
  fin C hc hs (fun _ => rfl) (fun T locs X fs hr => X.returnOut C.1 C.2.2.2.2.2.1 (hb C.2.1 hd) hr) ⟨rfl, q⟩
theorem g_getfield (C : Ctx p l e R s m args below meth c Z own nm bs ml rt) {O n d host : String} {i : Nat} {a : Addr} {v : Value} (w : (Jvm.Cond.fieldLink own i O n d).before a0 Z = true) (F : Fld Z h a O n d v) (hd : decode bs pc = .ok (.getfield i, 3)) (pc' : Nat) (hp : pc' = pc + 3) (g : Go p l e R s m args below meth c n0 Q h cells slots pc' L (v :: st)) : Go p l e R s m args below meth c n0 Q h cells slots pc L (.ref a :: st) := fun T locs X eh N => by
  subst hp
  obtain ⟨T1, X1, e1, st1⟩ := getF X C.1 C.2.2.1 C.2.2.2.1 (host := "") (Or.inl w) Via.refl eh F (g := mkF m pc L (.ref a :: st)) rfl rfl (hb C.2.1 hd)
  obtain ⟨s2, u, L', x1, x2⟩ := g T1 locs X1 e1 N
  exact ⟨s2, u, L', st1 _ x1, x2⟩
theorem g_putfield (C : Ctx p l e R s m args below meth c Z own nm bs ml rt) {O n d K : String} {i kk : Nat} {ty : FieldType} {a : Addr} {v old : Value} (w : (Jvm.Cond.fieldLink own i O n d).before a0 Z = true) (F : Fld Z h a O n d old) (E : Exa Z h a K) (hL : (Jvm.Cond.lays K O n d).before a0 Z = true ∨ ((Jvm.Cond.laysFinal K O n d).before a0 Z = true ∧ own = O ∧ nm = "<init>")) (wi : (Jvm.Cond.instantiable K kk).before a0 Z = true) (hty : parseFieldDescriptor d = some ty) (hn : narrow ty v = v) (hf : fits ty v = true) (hd : decode bs pc = .ok (.putfield i, 3)) (pc' : Nat) (hp : pc' = pc + 3) (hna : n0 ≤ a) (g : ∀ h', Wr h h' a (Jvm.RoadKit.slotOf Z O n d) v → Go p l e R s m args below meth c n0 Q h' cells slots pc' L st) : Go p l e R s m args below meth c n0 Q h cells slots pc L (v :: .ref a :: st) := fun T locs X eh N => by
  subst hp
  obtain ⟨T1, h1, X1, e1, W1, st1⟩ := putF X C.1 C.2.2.1 C.2.2.2.1 (host := "") (Or.inl w) Via.refl eh F E (hL.imp id fun q => ⟨q.1, q.2.1, C.2.2.2.2.2.2.2.trans q.2.2⟩) wi hty hn hf (g := mkF m pc L (v :: .ref a :: st)) rfl rfl (hb C.2.1 hd)
  obtain ⟨s2, u, L', x1, x2⟩ := g h1 W1 T1 _ X1 e1 (Fr.snoc X1 N hna)
  exact ⟨s2, u, L', st1 _ x1, x2⟩
theorem g_new (C : Ctx p l e R s m args below meth c Z own nm bs ml rt) {K : String} {i n : Nat} (w : (Jvm.Cond.classLink own i K).before a0 Z = true) (wi : (Jvm.Cond.instantiable K n).before a0 Z = true) (wz : (Jvm.Cond.initialized K).before a0 Z = true) (hd : decode bs pc = .ok (.new i, 3)) (pc' : Nat) (hp : pc' = pc + 3) (cells' slots' : Nat) (hc' : cells' = cells + 1) (hs' : slots' = slots + n) (hc : cells' ≤ R.cells) (hs : slots' ≤ R.slots) (g : ∀ h' a, a = h.size → Ext h h' → Exa Z h' a K → (∀ {O nm d : String} {ty : FieldType}, Laid Z a0 K O nm d → parseFieldDescriptor d = some ty → Fld Z h' a O nm d (defaultValue ty)) → Go p l e R s m args below meth c n0 Q h' cells' slots' pc' L (.ref a :: st)) : Go p l e R s m args below meth c n0 Q h cells slots pc L st := fun T locs X eh N => by
  subst hp hc' hs'
  obtain ⟨T1, h1, X1, e1, E1, A1, D1, -, st1⟩ := newO X C.1 C.2.2.1 C.2.2.2.1 w wi wz eh (g := mkF m pc L st) rfl (hb C.2.1 hd) hc hs
  obtain ⟨s2, u, L', x1, x2⟩ := g h1 _ rfl E1 A1 D1 T1 _ X1 e1 N
  exact ⟨s2, u, L', st1 _ x1, x2⟩
theorem g_objinit (C : Ctx p l e R s m args below meth c Z own nm bs ml rt) {i : Nat} {a : Addr} (w1 : (Jvm.Cond.methodLink own i Lib.objectInit).before a0 Z = true) (w2 : (Jvm.Cond.instanceMethod Lib.objectInit).before a0 Z = true) (w3 : (Jvm.Cond.code Lib.objectInit ⟨#[0xb1]⟩ 1 none).before a0 Z = true) (hd : decode bs pc = .ok (.invokespecial i, 3)) (pc' : Nat) (hp : pc' = pc + 3) (hL : L.size = ml) (hf : 1 ≤ R.frames) (W : Nat) (hW : 2 * 0 + (st.map fun v => v.category).sum ≤ W) (hl : W + 12 ≤ R.locals) (g : Go p l e R s m args below meth c n0 Q h cells slots pc' L st) : Go p l e R s m args below meth c n0 Q h cells slots pc L (.ref a :: st) := fun T locs X eh N => by
  subst hp
  obtain ⟨T1, X1, e1, st1⟩ := initO X C.1 C.2.2.1 C.2.2.2.1 w1 w2 w3 eh (g := mkF m pc L (.ref a :: st)) rfl (hL.trans C.2.2.2.2.1.symm) rfl (hb C.2.1 hd) hf (W := W) hW hl
  obtain ⟨s2, u, L', x1, x2⟩ := g T1 locs X1 e1 N
  exact ⟨s2, u, L', st1 _ x1, x2⟩
theorem g_instY (C : Ctx p l e R s m args below meth c Z own nm bs ml rt) {K : String} {i : Nat} {a : Addr} (w : (Jvm.Cond.classLink own i K).before a0 Z = true) (F : Ins Z h a K true) (hd : decode bs pc = .ok (.instanceof i, 3)) (pc' : Nat) (hp : pc' = pc + 3) (g : Go p l e R s m args below meth c n0 Q h cells slots pc' L (.int 1 :: st)) : Go p l e R s m args below meth c n0 Q h cells slots pc L (.ref a :: st) := fun T locs X eh N => by
  subst hp
  obtain ⟨T1, X1, e1, st1⟩ := instY X C.1 C.2.2.1 C.2.2.2.1 w eh F (g := mkF m pc L (.ref a :: st)) rfl rfl (hb C.2.1 hd)
  obtain ⟨s2, u, L', x1, x2⟩ := g T1 locs X1 e1 N
  exact ⟨s2, u, L', st1 _ x1, x2⟩
theorem g_instNo (C : Ctx p l e R s m args below meth c Z own nm bs ml rt) {K K0 : String} {i : Nat} {a : Addr} (w : (Jvm.Cond.classLink own i K).before a0 Z = true) (E : Exa Z h a K0) (F : ∃ c t, Z.vm.findClass K0 = some c ∧ Z.vm.findClass K = some t ∧ Z.vm.assignable c t = false) (hd : decode bs pc = .ok (.instanceof i, 3)) (pc' : Nat) (hp : pc' = pc + 3) (g : Go p l e R s m args below meth c n0 Q h cells slots pc' L (.int 0 :: st)) : Go p l e R s m args below meth c n0 Q h cells slots pc L (.ref a :: st) := fun T locs X eh N => by
  subst hp
  obtain ⟨T1, X1, e1, st1⟩ := instNo X C.1 C.2.2.1 C.2.2.2.1 w eh E F (g := mkF m pc L (.ref a :: st)) rfl rfl (hb C.2.1 hd)
  obtain ⟨s2, u, L', x1, x2⟩ := g T1 locs X1 e1 N
  exact ⟨s2, u, L', st1 _ x1, x2⟩
theorem g_instNull (C : Ctx p l e R s m args below meth c Z own nm bs ml rt) {i : Nat} (hd : decode bs pc = .ok (.instanceof i, 3)) (pc' : Nat) (hp : pc' = pc + 3) (g : Go p l e R s m args below meth c n0 Q h cells slots pc' L (.int 0 :: st)) : Go p l e R s m args below meth c n0 Q h cells slots pc L (.null :: st) := by
  subst hp
  exact step (fun T locs X _ t k => X.instanceofNull C.1 (g := mkF m pc L (.null :: st)) rfl rfl (hb C.2.1 hd) _ k) g
theorem g_checkcast (C : Ctx p l e R s m args below meth c Z own nm bs ml rt) {K : String} {i : Nat} {a : Addr} (w : (Jvm.Cond.classLink own i K).before a0 Z = true) (F : Ins Z h a K true) (hd : decode bs pc = .ok (.checkcast i, 3)) (pc' : Nat) (hp : pc' = pc + 3) (g : Go p l e R s m args below meth c n0 Q h cells slots pc' L (.ref a :: st)) : Go p l e R s m args below meth c n0 Q h cells slots pc L (.ref a :: st) := fun T locs X eh N => by
  subst hp
  obtain ⟨T1, X1, e1, st1⟩ := castY X C.1 C.2.2.1 C.2.2.2.1 w eh F (g := mkF m pc L (.ref a :: st)) rfl rfl (hb C.2.1 hd)
  obtain ⟨s2, u, L', x1, x2⟩ := g T1 locs X1 e1 N
  exact ⟨s2, u, L', st1 _ x1, x2⟩
/-- a local that holds nothing or an int; two that hold nothing or a long -/
def One (s : Slot) : Prop := s = .unset ∨ ∃ x : Int32, s = .val (.int x)
def Two (s t : Slot) : Prop := (s = .unset ∧ t = .unset) ∨ ∃ x : Int64, s = .val (.long x) ∧ t = .second
theorem One.u : One .unset := Or.inl rfl
theorem One.i {x : Int32} : One (.val (.int x)) := Or.inr ⟨x, rfl⟩
theorem Two.u : Two .unset .unset := Or.inl ⟨rfl, rfl⟩
theorem Two.j {x : Int64} : Two (.val (.long x)) .second := Or.inr ⟨x, rfl, rfl⟩
/-- the array at a: N places, place j holds f j -/
def Ary (Z : State) (h : Heap) (a : Addr) (ty : FieldType) (N : Nat) (f : Nat → Value) : Prop := N < 2 ^ 31 ∧ ∃ cl : Cell, Arr Z h a cl ty ∧ cl.slots.size = N ∧ ∀ j, j < N → cl.slots[j]? = some (f j)
def upd (f : Nat → Value) (i : Nat) (v : Value) : Nat → Value := fun j => if j = i then v else f j
theorem Ary.lt {a : Addr} {ty : FieldType} {N : Nat} {f : Nat → Value} (A : Ary Z h a ty N f) : a < h.size := by obtain ⟨-, cl, A1, -⟩ := A; exact A1.lt
theorem Ary.ext {h' : Heap} {a : Addr} {ty : FieldType} {N : Nat} {f : Nat → Value} (A : Ary Z h a ty N f) (E : Ext h h') : Ary Z h' a ty N f := by obtain ⟨q, cl, A1, A2⟩ := A; exact ⟨q, cl, A1.ext E, A2⟩
theorem Ary.other {h' : Heap} {a b : Addr} {sl : Nat} {v : Value} {ty : FieldType} {N : Nat} {f : Nat → Value} (A : Ary Z h a ty N f) (W : Wr h h' b sl v) (q : a ≠ b) : Ary Z h' a ty N f := by obtain ⟨q0, cl, A1, A2⟩ := A; exact ⟨q0, cl, A1.other W q, A2⟩
theorem Ary.keep {h' : Heap} {a : Addr} {ws : List Addr} {ty : FieldType} {N : Nat} {f : Nat → Value} (A : Ary Z h a ty N f) (K : Keep h h' ws) (q : a ∉ ws) : Ary Z h' a ty N f := by obtain ⟨q0, cl, A1, A2⟩ := A; exact ⟨q0, cl, ⟨K.2.1 _ _ A1.1 q, A1.2⟩, A2⟩
theorem Ary.congr {a : Addr} {ty : FieldType} {N : Nat} {f f' : Nat → Value} (A : Ary Z h a ty N f) (q : ∀ j, j < N → f j = f' j) : Ary Z h a ty N f' := by obtain ⟨q0, cl, A1, A2, A3⟩ := A; exact ⟨q0, cl, A1, A2, fun j hj => by rw [A3 j hj, q j hj]⟩
theorem Ary.set {h' : Heap} {a : Addr} {i : Nat} {v : Value} {ty : FieldType} {N : Nat} {f : Nat → Value} (A : Ary Z h a ty N f) (W : Wr h h' a i v) : Ary Z h' a ty N (upd f i v) := by
  obtain ⟨q0, cl, A1, A2, A3⟩ := A
  refine ⟨q0, _, A1.same W, by rw [sz_set]; exact A2, fun j hj => ?_⟩
  obtain ⟨cell, w1, -, w3, -⟩ := W
  cases A1.1.symm.trans w1
  by_cases q : j = i
  · subst q; simp [upd, Cell.setSlot, w3]
  · rw [upd, if_neg q, ← A3 j hj]; simp [Cell.setSlot, Ne.symm q]
theorem Ary.wrlt {h' : Heap} {a : Addr} {i : Nat} {v : Value} {ty : FieldType} {N : Nat} {f : Nat → Value} (A : Ary Z h a ty N f) (W : Wr h h' a i v) : h'.size = h.size := W.size
def upn (f : Nat → Int32) (i : Nat) (v : Int32) : Nat → Int32 := fun j => if j = i then v else f j
theorem Ary.asI {a : Addr} {ty : FieldType} {N i : Nat} {f : Nat → Int32} {v : Int32} (A : Ary Z h a ty N (upd (fun j => .int (f j)) i (.int v))) : Ary Z h a ty N (fun j => .int (upn f i v j)) := A.congr (fun j _ => by
  show (if j = i then Value.int v else Value.int (f j)) = Value.int (if j = i then v else f j)
  split <;> rfl)
/-- the int j is the place i -/
def Ix (j : Int32) (i : Nat) : Prop := ¬ j < 0 ∧ j.toNatClampNeg = i
theorem Ix.inb {j : Int32} {i N : Nat} {cl : Cell} (x : Ix j i) (hi : i < N) (S : cl.slots.size = N) : ¬ (j < 0 ∨ cl.slots.size ≤ j.toNatClampNeg) := by
  rintro (q | q)
  · exact x.1 q
  · rw [x.2] at q; omega
theorem Ix.toInt {j : Int32} {i : Nat} (x : Ix j i) : j.toInt = (i : Int) := by
  obtain ⟨h1, h2⟩ := x
  rw [Int32.lt_iff_toInt_lt] at h1
  have h3 : j.toInt.toNat = i := h2
  have h4 : (0 : Int32).toInt = 0 := rfl
  omega
theorem Ix.of {j : Int32} {i : Nat} (h : j.toInt = (i : Int)) : Ix j i := by
  refine ⟨?_, ?_⟩
  · rw [Int32.lt_iff_toInt_lt]
    have h4 : (0 : Int32).toInt = 0 := rfl
    omega
  · show j.toInt.toNat = i
    omega
theorem Ix.lt {a b : Int32} {i j : Nat} (x : Ix a i) (y : Ix b j) : a < b ↔ i < j := by
  rw [Int32.lt_iff_toInt_lt, x.toInt, y.toInt]; omega
theorem Ix.eq {a b : Int32} {i j : Nat} (x : Ix a i) (y : Ix b j) : a = b ↔ i = j := by
  rw [← Int32.toInt_inj, x.toInt, y.toInt]; omega
theorem Ix.add {a b : Int32} {i j : Nat} (x : Ix a i) (y : Ix b j) (h : i + j < 2147483648) : Ix (a + b) (i + j) := by
  apply Ix.of
  rw [Int32.toInt_add, x.toInt, y.toInt]
  have h2 : ((i : Int) + (j : Int)).bmod (2 ^ 32) = (i : Int) + (j : Int) := Int.bmod_eq_of_le (by omega) (by omega)
  rw [h2]; omega
theorem Ix.sub {a b : Int32} {i j : Nat} (x : Ix a i) (y : Ix b j) (h : j ≤ i) (hi : i < 2147483648) : Ix (a - b) (i - j) := by
  apply Ix.of
  rw [Int32.toInt_sub, x.toInt, y.toInt]
  have h2 : ((i : Int) - (j : Int)).bmod (2 ^ 32) = (i : Int) - (j : Int) := Int.bmod_eq_of_le (by omega) (by omega)
  rw [h2]; omega
theorem Ix.mul {a b : Int32} {i j : Nat} (x : Ix a i) (y : Ix b j) (h : i * j < 2147483648) : Ix (a * b) (i * j) := by
  apply Ix.of
  rw [Int32.toInt_mul, x.toInt, y.toInt, ← Int.natCast_mul]
  exact Int.bmod_eq_of_le (by omega) (by omega)
theorem Ix.nz {y : Int32} {n : Nat} (x : Ix y n) (h : 0 < n) : y ≠ 0 := fun q => by
  have := x.toInt
  rw [q] at this
  have h0 : (0 : Int32).toInt = 0 := rfl
  omega
theorem nn31 (x : Int32) : 0 ≤ (x &&& 2147483647).toInt := (c_andS x 2147483647).2.2 (by decide)
theorem Ix.rem {x y : Int32} {n : Nat} (hx : 0 ≤ x.toInt) (hy : Ix y n) (hn : 0 < n) : ∃ i, i < n ∧ Ix (x % y) i := by
  have h0 : (x % y).toInt = x.toInt % (n : Int) := by
    rw [Int32.toInt_mod, hy.toInt]; exact Int.tmod_eq_emod_of_nonneg hx
  have h1 : 0 ≤ x.toInt % (n : Int) := Int.emod_nonneg _ (by omega)
  have h2 : x.toInt % (n : Int) < n := Int.emod_lt_of_pos _ (by omega)
  exact ⟨(x.toInt % (n : Int)).toNat, by omega, Ix.of (by omega)⟩
theorem Ix.succ {a : Int32} {i : Nat} (x : Ix a i) (h : i + 1 < 2147483648) : Ix (a + 1) (i + 1) := x.add (b := 1) (j := 1) ⟨by decide, by decide⟩ h
theorem g_iaload (C : Ctx p l e R s m args below meth c Z own nm bs ml rt) {a : Addr} {N : Nat} {f : Nat → Value} {j : Int32} (A : Ary Z h a .int N f) (i : Nat) (hj : Ix j i) (hi : i < N) (v : Value) (hv : f i = v) (hd : decode bs pc = .ok (.iaload, 1)) (pc' : Nat) (hp : pc' = pc + 1) (g : Go p l e R s m args below meth c n0 Q h cells slots pc' L (v :: st)) : Go p l e R s m args below meth c n0 Q h cells slots pc L (.int j :: .ref a :: st) := by
  subst hp hv
  obtain ⟨q0, cl, A1, A2, A3⟩ := A
  exact step (fun T locs X eh t k => X.iaload C.1 (j := j) (v := f i) (by rw [eh]; exact A1.1) (State.isArrayOf_alike C.2.2.1.alike A1.2.1) A1.2.2 (hj.inb hi A2) (by rw [hj.2]; exact A3 i hi) (g := mkF m pc L (.int j :: .ref a :: st)) rfl rfl (hb C.2.1 hd) _ k) g
theorem g_laload (C : Ctx p l e R s m args below meth c Z own nm bs ml rt) {a : Addr} {N : Nat} {f : Nat → Value} {j : Int32} (A : Ary Z h a .long N f) (i : Nat) (hj : Ix j i) (hi : i < N) (v : Value) (hv : f i = v) (hd : decode bs pc = .ok (.laload, 1)) (pc' : Nat) (hp : pc' = pc + 1) (g : Go p l e R s m args below meth c n0 Q h cells slots pc' L (v :: st)) : Go p l e R s m args below meth c n0 Q h cells slots pc L (.int j :: .ref a :: st) := by
  subst hp hv
  obtain ⟨q0, cl, A1, A2, A3⟩ := A
  exact step (fun T locs X eh t k => X.laload C.1 (j := j) (v := f i) (by rw [eh]; exact A1.1) (State.isArrayOf_alike C.2.2.1.alike A1.2.1) A1.2.2 (hj.inb hi A2) (by rw [hj.2]; exact A3 i hi) (g := mkF m pc L (.int j :: .ref a :: st)) rfl rfl (hb C.2.1 hd) _ k) g
theorem g_caload (C : Ctx p l e R s m args below meth c Z own nm bs ml rt) {a : Addr} {N : Nat} {f : Nat → Value} {j : Int32} (A : Ary Z h a .char N f) (i : Nat) (hj : Ix j i) (hi : i < N) (v : Value) (hv : f i = v) (hd : decode bs pc = .ok (.caload, 1)) (pc' : Nat) (hp : pc' = pc + 1) (g : Go p l e R s m args below meth c n0 Q h cells slots pc' L (v :: st)) : Go p l e R s m args below meth c n0 Q h cells slots pc L (.int j :: .ref a :: st) := by
  subst hp hv
  obtain ⟨q0, cl, A1, A2, A3⟩ := A
  exact step (fun T locs X eh t k => X.caload C.1 (j := j) (v := f i) (by rw [eh]; exact A1.1) (State.isArrayOf_alike C.2.2.1.alike A1.2.1) A1.2.2 (hj.inb hi A2) (by rw [hj.2]; exact A3 i hi) (g := mkF m pc L (.int j :: .ref a :: st)) rfl rfl (hb C.2.1 hd) _ k) g
theorem g_baload (C : Ctx p l e R s m args below meth c Z own nm bs ml rt) {a : Addr} {N : Nat} {f : Nat → Value} {j : Int32} (A : Ary Z h a .byte N f) (i : Nat) (hj : Ix j i) (hi : i < N) (v : Value) (hv : f i = v) (hd : decode bs pc = .ok (.baload, 1)) (pc' : Nat) (hp : pc' = pc + 1) (g : Go p l e R s m args below meth c n0 Q h cells slots pc' L (v :: st)) : Go p l e R s m args below meth c n0 Q h cells slots pc L (.int j :: .ref a :: st) := by
  subst hp hv
  obtain ⟨q0, cl, A1, A2, A3⟩ := A
  exact step (fun T locs X eh t k => X.baloadBytes C.1 (j := j) (v := f i) (by rw [eh]; exact A1.1) (State.isArrayOf_alike C.2.2.1.alike A1.2.1) A1.2.2 (hj.inb hi A2) (by rw [hj.2]; exact A3 i hi) (g := mkF m pc L (.int j :: .ref a :: st)) rfl rfl (hb C.2.1 hd) _ k) g
theorem g_iastore (C : Ctx p l e R s m args below meth c Z own nm bs ml rt) {a : Addr} {N : Nat} {f : Nat → Value} {j : Int32} {x : Int32} (A : Ary Z h a .int N f) (i : Nat) (hj : Ix j i) (hi : i < N) (hd : decode bs pc = .ok (.iastore, 1)) (pc' : Nat) (hp : pc' = pc + 1) (hna : n0 ≤ a) (g : ∀ h', Wr h h' a i (.int x) → Ary Z h' a .int N (upd f i (.int x)) → Go p l e R s m args below meth c n0 Q h' cells slots pc' L st) : Go p l e R s m args below meth c n0 Q h cells slots pc L (.int x :: .int j :: .ref a :: st) := fun T locs X eh N' => by
  subst hp
  have A0 := A
  obtain ⟨q0, cl, A1, A2, A3⟩ := A
  obtain ⟨T1, h1, X1, e1, W1, st1⟩ := stI X C.1 C.2.2.1 eh A1 (hj.inb hi A2) (g := mkF m pc L (.int x :: .int j :: .ref a :: st)) rfl rfl (hb C.2.1 hd)
  have W2 : Wr h h1 a i (.int x) := by have := W1; rw [hj.2] at this; exact this
  obtain ⟨s2, u, L', x1, x2⟩ := g h1 W2 (A0.set W2) T1 _ X1 e1 (Fr.snoc X1 N' hna)
  exact ⟨s2, u, L', st1 _ x1, x2⟩
theorem g_lastore (C : Ctx p l e R s m args below meth c Z own nm bs ml rt) {a : Addr} {N : Nat} {f : Nat → Value} {j : Int32} {x : Int64} (A : Ary Z h a .long N f) (i : Nat) (hj : Ix j i) (hi : i < N) (hd : decode bs pc = .ok (.lastore, 1)) (pc' : Nat) (hp : pc' = pc + 1) (hna : n0 ≤ a) (g : ∀ h', Wr h h' a i (.long x) → Ary Z h' a .long N (upd f i (.long x)) → Go p l e R s m args below meth c n0 Q h' cells slots pc' L st) : Go p l e R s m args below meth c n0 Q h cells slots pc L (.long x :: .int j :: .ref a :: st) := fun T locs X eh N' => by
  subst hp
  have A0 := A
  obtain ⟨q0, cl, A1, A2, A3⟩ := A
  obtain ⟨T1, h1, X1, e1, W1, st1⟩ := stJ X C.1 C.2.2.1 eh A1 (hj.inb hi A2) (g := mkF m pc L (.long x :: .int j :: .ref a :: st)) rfl rfl (hb C.2.1 hd)
  have W2 : Wr h h1 a i (.long x) := by have := W1; rw [hj.2] at this; exact this
  obtain ⟨s2, u, L', x1, x2⟩ := g h1 W2 (A0.set W2) T1 _ X1 e1 (Fr.snoc X1 N' hna)
  exact ⟨s2, u, L', st1 _ x1, x2⟩
theorem g_castore (C : Ctx p l e R s m args below meth c Z own nm bs ml rt) {a : Addr} {N : Nat} {f : Nat → Value} {j : Int32} {x : Int32} (A : Ary Z h a .char N f) (i : Nat) (hj : Ix j i) (hi : i < N) (hd : decode bs pc = .ok (.castore, 1)) (pc' : Nat) (hp : pc' = pc + 1) (hna : n0 ≤ a) (g : ∀ h', Wr h h' a i (.int (nar .char x)) → Ary Z h' a .char N (upd f i (.int (nar .char x))) → Go p l e R s m args below meth c n0 Q h' cells slots pc' L st) : Go p l e R s m args below meth c n0 Q h cells slots pc L (.int x :: .int j :: .ref a :: st) := fun T locs X eh N' => by
  subst hp
  have A0 := A
  obtain ⟨q0, cl, A1, A2, A3⟩ := A
  obtain ⟨T1, h1, X1, e1, W1, st1⟩ := stC X C.1 C.2.2.1 eh A1 (hj.inb hi A2) (g := mkF m pc L (.int x :: .int j :: .ref a :: st)) rfl rfl (hb C.2.1 hd)
  have W2 : Wr h h1 a i (.int (nar .char x)) := by have := W1; rw [hj.2] at this; exact this
  obtain ⟨s2, u, L', x1, x2⟩ := g h1 W2 (A0.set W2) T1 _ X1 e1 (Fr.snoc X1 N' hna)
  exact ⟨s2, u, L', st1 _ x1, x2⟩
theorem g_bastore (C : Ctx p l e R s m args below meth c Z own nm bs ml rt) {a : Addr} {N : Nat} {f : Nat → Value} {j : Int32} {x : Int32} (A : Ary Z h a .byte N f) (i : Nat) (hj : Ix j i) (hi : i < N) (hd : decode bs pc = .ok (.bastore, 1)) (pc' : Nat) (hp : pc' = pc + 1) (hna : n0 ≤ a) (g : ∀ h', Wr h h' a i (.int (nar .byte x)) → Ary Z h' a .byte N (upd f i (.int (nar .byte x))) → Go p l e R s m args below meth c n0 Q h' cells slots pc' L st) : Go p l e R s m args below meth c n0 Q h cells slots pc L (.int x :: .int j :: .ref a :: st) := fun T locs X eh N' => by
  subst hp
  have A0 := A
  obtain ⟨q0, cl, A1, A2, A3⟩ := A
  obtain ⟨T1, h1, X1, e1, W1, st1⟩ := stB X C.1 C.2.2.1 eh A1 (hj.inb hi A2) (g := mkF m pc L (.int x :: .int j :: .ref a :: st)) rfl rfl (hb C.2.1 hd)
  have W2 : Wr h h1 a i (.int (nar .byte x)) := by have := W1; rw [hj.2] at this; exact this
  obtain ⟨s2, u, L', x1, x2⟩ := g h1 W2 (A0.set W2) T1 _ X1 e1 (Fr.snoc X1 N' hna)
  exact ⟨s2, u, L', st1 _ x1, x2⟩
theorem g_arraylength (C : Ctx p l e R s m args below meth c Z own nm bs ml rt) {a : Addr} {ty : FieldType} {N : Nat} {f : Nat → Value} (A : Ary Z h a ty N f) (z : Int32) (hz : Ix z N) (hd : decode bs pc = .ok (.arraylength, 1)) (pc' : Nat) (hp : pc' = pc + 1) (g : Go p l e R s m args below meth c n0 Q h cells slots pc' L (.int z :: st)) : Go p l e R s m args below meth c n0 Q h cells slots pc L (.ref a :: st) := by
  subst hp
  obtain ⟨q0, cl, A1, A2, A3⟩ := A
  have hl : cl.slots.size.toInt32 = z := len_of (A2.trans hz.2.symm) hz.1
  exact step (fun T locs X eh t k => X.arraylength C.1 (by rw [eh]; exact A1.1) (State.isArrayOf_alike C.2.2.1.alike A1.2.1) (g := mkF m pc L (.ref a :: st)) rfl rfl (hb C.2.1 hd) _ (by rw [hl]; exact k)) g
theorem g_newarray (C : Ctx p l e R s m args below meth c Z own nm bs ml rt) {aty : ArrayType} {n : Int32} (w : (Jvm.Cond.arrayClass (newarray.typeOf aty)).before a0 Z = true) (N cap : Nat) (hn : Ix n N) (hN : N ≤ cap) (hb8 : cap * 8 ≤ 536870912) (hd : decode bs pc = .ok (.newarray aty, 2)) (pc' : Nat) (hp : pc' = pc + 2) (cells' slots' : Nat) (hc' : cells' = cells + 1) (hs' : slots' = slots + cap) (hc : cells' ≤ R.cells) (hs : slots' ≤ R.slots) (g : ∀ h' a, a = h.size → Ext h h' → Ary Z h' a (newarray.typeOf aty) N (fun _ => defaultValue (newarray.typeOf aty)) → Go p l e R s m args below meth c n0 Q h' cells' slots' pc' L (.ref a :: st)) : Go p l e R s m args below meth c n0 Q h cells slots pc L (.int n :: st) := fun T locs X eh N' => by
  subst hp hc' hs'
  obtain ⟨T1, h1, cA, X1, e1, E1, A1, st1⟩ := newP X C.1 C.2.2.1 w eh (g := mkF m pc L (.int n :: st)) rfl (hb C.2.1 hd) rfl hn.1 (cap := cap) (by rw [hn.2]; exact hN) hb8 hc hs
  obtain ⟨s2, u, L', x1, x2⟩ := g h1 _ rfl E1 ⟨by omega, _, A1, by rw [sz_new, hn.2], fun j hj => by simp [newA, hn.2, hj]⟩ T1 _ X1 e1 N'
  exact ⟨s2, u, L', st1 _ x1, x2⟩
theorem c_static0 (C : Ctx p l e R s m args below meth c Z own nm bs ml rt) {i : Nat} {y : MethodName} {cb : ByteArray} {cm : Nat} {cr : Option FieldType} {rm : Room} {Q' : Option Value → Heap → Prop} (argsL rest : List Value) (w1 : (Jvm.Cond.methodLink own i y).before a0 Z = true) (w2 : (Jvm.Cond.static y).before a0 Z = true) (w3 : (Jvm.Cond.initialized y.cls).before a0 Z = true) (w4 : (Jvm.Cond.code y cb cm cr).before a0 Z = true) (hy : y.cls ≠ "java/lang/invoke/MethodHandle" ∧ y.cls ≠ "java/lang/invoke/VarHandle") (hM : Met l Z y cb cm cr rm argsL.toArray h n0 Q') (hd : decode bs pc = .ok (.invokestatic i, 3)) (pc' : Nat) (hp : pc' = pc + 3) (hlen : ∀ sig, parseMethodDescriptor y.desc = some sig → argsL.length = sig.parameters.length) (hL : L.size = ml) (W : Nat) (hW : 2 * 0 + (rest.map fun v => v.category).sum ≤ W) (hf : rm.frames + 1 ≤ R.frames) (hl : W + (cm + 11) + rm.locals ≤ R.locals) (cells' slots' : Nat) (hc' : cells' = cells + rm.cells) (hs' : slots' = slots + rm.slots) (hc : cells' ≤ R.cells) (hs : slots' ≤ R.slots) (g : ∀ v h', Q' v h' → Go p l e R s m args below meth c n0 Q h' cells' slots' pc' L (v.toList ++ rest)) : Go p l e R s m args below meth c n0 Q h cells slots pc L (argsL.reverse ++ rest) := fun T locs X eh N => by
  subst hp hc' hs'
  obtain ⟨v, _, ⟨U1, L1, k1, n1⟩, -, X1, ⟨Lc, hQ, l1, y1, z1⟩, st1⟩ := Jvm.LawKit.callS X C.1 (y := y) C.2.2.2.1 (mvT C.2.2.1 w1) (mvT C.2.2.1 w2) (mvT C.2.2.1 w3) (mvT C.2.2.1 w4) hy (backOf (W := W) (Q := fun v h L => Q' v h ∧ Fr n0 L) (hM []) C.2.2.1 w4 w3 hf hl) (g := mkF m pc L (argsL.reverse ++ rest)) rfl (hL.trans C.2.2.2.2.1.symm) (argsL := argsL) (rest := rest) hlen rfl hW (hb C.2.1 hd) (fun _ _ => ⟨rfl, eh, hc, hs⟩)
  dsimp only [Pt.U, Pt.locs, Pt.cells, Pt.slots] at X1 l1 y1 z1 st1 hQ
  subst l1 y1 z1
  obtain ⟨s2, u, L', x1, x2⟩ := g v U1.heap hQ.1 U1 _ X1 rfl (Fr.app N hQ.2)
  exact ⟨s2, u, L', st1 _ x1, x2⟩
theorem c_special0 (C : Ctx p l e R s m args below meth c Z own nm bs ml rt) {i : Nat} {y : MethodName} {cb : ByteArray} {cm : Nat} {rm : Room} {Q' : Option Value → Heap → Prop} (a : Addr) (argsL rest : List Value) (hin : y.name = "<init>") (w1 : (Jvm.Cond.methodLink own i y).before a0 Z = true) (w2 : (Jvm.Cond.instanceMethod y).before a0 Z = true) (w3 : (Jvm.Cond.initialized y.cls).before a0 Z = true) (w4 : (Jvm.Cond.code y cb cm none).before a0 Z = true) (hy : y.cls ≠ "java/lang/invoke/MethodHandle" ∧ y.cls ≠ "java/lang/invoke/VarHandle") (hM : Met l Z y cb cm none rm (.ref a :: argsL).toArray h n0 Q') (hd : decode bs pc = .ok (.invokespecial i, 3)) (pc' : Nat) (hp : pc' = pc + 3) (hlen : ∀ sig, parseMethodDescriptor y.desc = some sig → argsL.length = sig.parameters.length) (hL : L.size = ml) (W : Nat) (hW : 2 * 0 + (rest.map fun v => v.category).sum ≤ W) (hf : rm.frames + 1 ≤ R.frames) (hl : W + (cm + 11) + rm.locals ≤ R.locals) (cells' slots' : Nat) (hc' : cells' = cells + rm.cells) (hs' : slots' = slots + rm.slots) (hc : cells' ≤ R.cells) (hs : slots' ≤ R.slots) (g : ∀ v h', Q' v h' → Go p l e R s m args below meth c n0 Q h' cells' slots' pc' L (v.toList ++ rest)) : Go p l e R s m args below meth c n0 Q h cells slots pc L (argsL.reverse ++ .ref a :: rest) := fun T locs X eh N => by
  subst hp hc' hs'
  obtain ⟨v, _, ⟨U1, L1, k1, n1⟩, -, X1, ⟨Lc, hQ, l1, y1, z1⟩, st1⟩ := X.specialBack C.1 (y := y) hin C.2.2.2.1 (mvT C.2.2.1 w1) (mvT C.2.2.1 w2) (mvT C.2.2.1 w4) hy (backOf (W := W) (Q := fun v h L => Q' v h ∧ Fr n0 L) (hM []) C.2.2.1 w4 w3 hf hl) (g := mkF m pc L (argsL.reverse ++ .ref a :: rest)) rfl (hL.trans C.2.2.2.2.1.symm) (Steps.refl _) (a := a) (argsL := argsL) (rest := rest) hlen rfl hW (hb C.2.1 hd) (fun _ _ => ⟨rfl, eh, hc, hs⟩)
  dsimp only [Pt.U, Pt.locs, Pt.cells, Pt.slots] at X1 l1 y1 z1 st1 hQ
  subst l1 y1 z1
  obtain ⟨s2, u, L', x1, x2⟩ := g v U1.heap hQ.1 U1 _ X1 rfl (Fr.app N hQ.2)
  exact ⟨s2, u, L', st1.trans x1, x2⟩
theorem c_virtual0 (C : Ctx p l e R s m args below meth c Z own nm bs ml rt) {i : Nat} {K : String} {y : MethodName} {cb : ByteArray} {cm : Nat} {cr : Option FieldType} {rm : Room} {Q' : Option Value → Heap → Prop} (a : Addr) (argsL rest : List Value) (w1 : (Jvm.Cond.methodLink own i y).before a0 Z = true) (wd : (Jvm.Cond.declares y).before a0 Z = true) (ws : (Jvm.Cond.selects K y y).before a0 Z = true) (w2 : (Jvm.Cond.instanceMethod y).before a0 Z = true) (w3 : (Jvm.Cond.initialized y.cls).before a0 Z = true) (w4 : (Jvm.Cond.code y cb cm cr).before a0 Z = true) (hy : y.cls ≠ "java/lang/invoke/MethodHandle" ∧ y.cls ≠ "java/lang/invoke/VarHandle") (E : Exa Z h a K) (hM : Met l Z y cb cm cr rm (.ref a :: argsL).toArray h n0 Q') (hd : decode bs pc = .ok (.invokevirtual i, 3)) (pc' : Nat) (hp : pc' = pc + 3) (hlen : ∀ sig, parseMethodDescriptor y.desc = some sig → argsL.length = sig.parameters.length) (hL : L.size = ml) (W : Nat) (hW : 2 * 0 + (rest.map fun v => v.category).sum ≤ W) (hf : rm.frames + 1 ≤ R.frames) (hl : W + (cm + 11) + rm.locals ≤ R.locals) (cells' slots' : Nat) (hc' : cells' = cells + rm.cells) (hs' : slots' = slots + rm.slots) (hc : cells' ≤ R.cells) (hs : slots' ≤ R.slots) (g : ∀ v h', Q' v h' → Go p l e R s m args below meth c n0 Q h' cells' slots' pc' L (v.toList ++ rest)) : Go p l e R s m args below meth c n0 Q h cells slots pc L (argsL.reverse ++ .ref a :: rest) := fun T locs X eh N => by
  subst hp hc' hs'
  obtain ⟨cq, kq, qa, qb, qc⟩ := isOf C.2.2.1 eh E
  obtain ⟨v, _, ⟨U1, L1, k1, n1⟩, -, X1, ⟨Lc, hQ, l1, y1, z1⟩, st1⟩ := X.virtualBack C.1 (y := y) (z := y) C.2.2.2.1 (mvT C.2.2.1 w1) (mvT C.2.2.1 wd) (notFace_of_selects (args := #[]) (mvT C.2.2.1 ws)) (mvT C.2.2.1 ws) (mvT C.2.2.1 w2) hy (backOf (W := W) (Q := fun v h L => Q' v h ∧ Fr n0 L) (hM []) C.2.2.1 w4 w3 hf hl) qa qc (g := mkF m pc L (argsL.reverse ++ .ref a :: rest)) rfl (hL.trans C.2.2.2.2.1.symm) (Steps.refl _) (argsL := argsL) (rest := rest) hlen rfl hW (hb C.2.1 hd) (fun _ _ => ⟨rfl, eh, hc, hs⟩)
  dsimp only [Pt.U, Pt.locs, Pt.cells, Pt.slots] at X1 l1 y1 z1 st1 hQ
  subst l1 y1 z1
  obtain ⟨s2, u, L', x1, x2⟩ := g v U1.heap hQ.1 U1 _ X1 rfl (Fr.app N hQ.2)
  exact ⟨s2, u, L', st1.trans x1, x2⟩
theorem c_staticI (C : Ctx p l e R s m args below meth c Z own nm bs ml rt) {i : Nat} {y : MethodName} {cb : ByteArray} {cm : Nat} {cr : Option FieldType} {rm : Room} {P' : Int32 → Heap → Prop} (argsL rest : List Value) (w1 : (Jvm.Cond.methodLink own i y).before a0 Z = true) (w2 : (Jvm.Cond.static y).before a0 Z = true) (w3 : (Jvm.Cond.initialized y.cls).before a0 Z = true) (w4 : (Jvm.Cond.code y cb cm cr).before a0 Z = true) (hy : y.cls ≠ "java/lang/invoke/MethodHandle" ∧ y.cls ≠ "java/lang/invoke/VarHandle") (hM : Met l Z y cb cm cr rm argsL.toArray h n0 (qI P')) (hd : decode bs pc = .ok (.invokestatic i, 3)) (pc' : Nat) (hp : pc' = pc + 3) (hlen : ∀ sig, parseMethodDescriptor y.desc = some sig → argsL.length = sig.parameters.length) (hL : L.size = ml) (W : Nat) (hW : 2 * 0 + (rest.map fun v => v.category).sum ≤ W) (hf : rm.frames + 1 ≤ R.frames) (hl : W + (cm + 11) + rm.locals ≤ R.locals) (cells' slots' : Nat) (hc' : cells' = cells + rm.cells) (hs' : slots' = slots + rm.slots) (hc : cells' ≤ R.cells) (hs : slots' ≤ R.slots) (hst : st = argsL.reverse ++ rest) (g : ∀ r h', P' r h' → Go p l e R s m args below meth c n0 Q h' cells' slots' pc' L (.int r :: rest)) : Go p l e R s m args below meth c n0 Q h cells slots pc L st := by
  subst hst
  exact c_static0 C argsL rest w1 w2 w3 w4 hy hM hd pc' hp hlen hL W hW hf hl cells' slots' hc' hs' hc hs (fun v h' hq => by obtain ⟨r, rfl, q⟩ := hq; exact g r h' q)
theorem c_staticJ (C : Ctx p l e R s m args below meth c Z own nm bs ml rt) {i : Nat} {y : MethodName} {cb : ByteArray} {cm : Nat} {cr : Option FieldType} {rm : Room} {P' : Int64 → Heap → Prop} (argsL rest : List Value) (w1 : (Jvm.Cond.methodLink own i y).before a0 Z = true) (w2 : (Jvm.Cond.static y).before a0 Z = true) (w3 : (Jvm.Cond.initialized y.cls).before a0 Z = true) (w4 : (Jvm.Cond.code y cb cm cr).before a0 Z = true) (hy : y.cls ≠ "java/lang/invoke/MethodHandle" ∧ y.cls ≠ "java/lang/invoke/VarHandle") (hM : Met l Z y cb cm cr rm argsL.toArray h n0 (qJ P')) (hd : decode bs pc = .ok (.invokestatic i, 3)) (pc' : Nat) (hp : pc' = pc + 3) (hlen : ∀ sig, parseMethodDescriptor y.desc = some sig → argsL.length = sig.parameters.length) (hL : L.size = ml) (W : Nat) (hW : 2 * 0 + (rest.map fun v => v.category).sum ≤ W) (hf : rm.frames + 1 ≤ R.frames) (hl : W + (cm + 11) + rm.locals ≤ R.locals) (cells' slots' : Nat) (hc' : cells' = cells + rm.cells) (hs' : slots' = slots + rm.slots) (hc : cells' ≤ R.cells) (hs : slots' ≤ R.slots) (hst : st = argsL.reverse ++ rest) (g : ∀ r h', P' r h' → Go p l e R s m args below meth c n0 Q h' cells' slots' pc' L (.long r :: rest)) : Go p l e R s m args below meth c n0 Q h cells slots pc L st := by
  subst hst
  exact c_static0 C argsL rest w1 w2 w3 w4 hy hM hd pc' hp hlen hL W hW hf hl cells' slots' hc' hs' hc hs (fun v h' hq => by obtain ⟨r, rfl, q⟩ := hq; exact g r h' q)
theorem c_staticA (C : Ctx p l e R s m args below meth c Z own nm bs ml rt) {i : Nat} {y : MethodName} {cb : ByteArray} {cm : Nat} {cr : Option FieldType} {rm : Room} {P' : Addr → Heap → Prop} (argsL rest : List Value) (w1 : (Jvm.Cond.methodLink own i y).before a0 Z = true) (w2 : (Jvm.Cond.static y).before a0 Z = true) (w3 : (Jvm.Cond.initialized y.cls).before a0 Z = true) (w4 : (Jvm.Cond.code y cb cm cr).before a0 Z = true) (hy : y.cls ≠ "java/lang/invoke/MethodHandle" ∧ y.cls ≠ "java/lang/invoke/VarHandle") (hM : Met l Z y cb cm cr rm argsL.toArray h n0 (qA P')) (hd : decode bs pc = .ok (.invokestatic i, 3)) (pc' : Nat) (hp : pc' = pc + 3) (hlen : ∀ sig, parseMethodDescriptor y.desc = some sig → argsL.length = sig.parameters.length) (hL : L.size = ml) (W : Nat) (hW : 2 * 0 + (rest.map fun v => v.category).sum ≤ W) (hf : rm.frames + 1 ≤ R.frames) (hl : W + (cm + 11) + rm.locals ≤ R.locals) (cells' slots' : Nat) (hc' : cells' = cells + rm.cells) (hs' : slots' = slots + rm.slots) (hc : cells' ≤ R.cells) (hs : slots' ≤ R.slots) (hst : st = argsL.reverse ++ rest) (g : ∀ r h', P' r h' → Go p l e R s m args below meth c n0 Q h' cells' slots' pc' L (.ref r :: rest)) : Go p l e R s m args below meth c n0 Q h cells slots pc L st := by
  subst hst
  exact c_static0 C argsL rest w1 w2 w3 w4 hy hM hd pc' hp hlen hL W hW hf hl cells' slots' hc' hs' hc hs (fun v h' hq => by obtain ⟨r, rfl, q⟩ := hq; exact g r h' q)
theorem c_staticV (C : Ctx p l e R s m args below meth c Z own nm bs ml rt) {i : Nat} {y : MethodName} {cb : ByteArray} {cm : Nat} {cr : Option FieldType} {rm : Room} {P' : Heap → Prop} (argsL rest : List Value) (w1 : (Jvm.Cond.methodLink own i y).before a0 Z = true) (w2 : (Jvm.Cond.static y).before a0 Z = true) (w3 : (Jvm.Cond.initialized y.cls).before a0 Z = true) (w4 : (Jvm.Cond.code y cb cm cr).before a0 Z = true) (hy : y.cls ≠ "java/lang/invoke/MethodHandle" ∧ y.cls ≠ "java/lang/invoke/VarHandle") (hM : Met l Z y cb cm cr rm argsL.toArray h n0 (qV P')) (hd : decode bs pc = .ok (.invokestatic i, 3)) (pc' : Nat) (hp : pc' = pc + 3) (hlen : ∀ sig, parseMethodDescriptor y.desc = some sig → argsL.length = sig.parameters.length) (hL : L.size = ml) (W : Nat) (hW : 2 * 0 + (rest.map fun v => v.category).sum ≤ W) (hf : rm.frames + 1 ≤ R.frames) (hl : W + (cm + 11) + rm.locals ≤ R.locals) (cells' slots' : Nat) (hc' : cells' = cells + rm.cells) (hs' : slots' = slots + rm.slots) (hc : cells' ≤ R.cells) (hs : slots' ≤ R.slots) (hst : st = argsL.reverse ++ rest) (g : ∀ h', P' h' → Go p l e R s m args below meth c n0 Q h' cells' slots' pc' L rest) : Go p l e R s m args below meth c n0 Q h cells slots pc L st := by
  subst hst
  exact c_static0 C argsL rest w1 w2 w3 w4 hy hM hd pc' hp hlen hL W hW hf hl cells' slots' hc' hs' hc hs (fun v h' hq => by obtain ⟨rfl, q⟩ := hq; exact g h' q)
theorem c_specialV (C : Ctx p l e R s m args below meth c Z own nm bs ml rt) {i : Nat} {y : MethodName} {cb : ByteArray} {cm : Nat} {rm : Room} {P' : Heap → Prop} (a : Addr) (argsL rest : List Value) (hin : y.name = "<init>") (w1 : (Jvm.Cond.methodLink own i y).before a0 Z = true) (w2 : (Jvm.Cond.instanceMethod y).before a0 Z = true) (w3 : (Jvm.Cond.initialized y.cls).before a0 Z = true) (w4 : (Jvm.Cond.code y cb cm none).before a0 Z = true) (hy : y.cls ≠ "java/lang/invoke/MethodHandle" ∧ y.cls ≠ "java/lang/invoke/VarHandle") (hM : Met l Z y cb cm none rm (.ref a :: argsL).toArray h n0 (qV P')) (hd : decode bs pc = .ok (.invokespecial i, 3)) (pc' : Nat) (hp : pc' = pc + 3) (hlen : ∀ sig, parseMethodDescriptor y.desc = some sig → argsL.length = sig.parameters.length) (hL : L.size = ml) (W : Nat) (hW : 2 * 0 + (rest.map fun v => v.category).sum ≤ W) (hf : rm.frames + 1 ≤ R.frames) (hl : W + (cm + 11) + rm.locals ≤ R.locals) (cells' slots' : Nat) (hc' : cells' = cells + rm.cells) (hs' : slots' = slots + rm.slots) (hc : cells' ≤ R.cells) (hs : slots' ≤ R.slots) (hst : st = argsL.reverse ++ .ref a :: rest) (g : ∀ h', P' h' → Go p l e R s m args below meth c n0 Q h' cells' slots' pc' L rest) : Go p l e R s m args below meth c n0 Q h cells slots pc L st := by
  subst hst
  exact c_special0 C a argsL rest hin w1 w2 w3 w4 hy hM hd pc' hp hlen hL W hW hf hl cells' slots' hc' hs' hc hs (fun v h' hq => by obtain ⟨rfl, q⟩ := hq; exact g h' q)
theorem c_virtualI (C : Ctx p l e R s m args below meth c Z own nm bs ml rt) {i : Nat} {K : String} {y : MethodName} {cb : ByteArray} {cm : Nat} {cr : Option FieldType} {rm : Room} {P' : Int32 → Heap → Prop} (a : Addr) (argsL rest : List Value) (w1 : (Jvm.Cond.methodLink own i y).before a0 Z = true) (wd : (Jvm.Cond.declares y).before a0 Z = true) (ws : (Jvm.Cond.selects K y y).before a0 Z = true) (w2 : (Jvm.Cond.instanceMethod y).before a0 Z = true) (w3 : (Jvm.Cond.initialized y.cls).before a0 Z = true) (w4 : (Jvm.Cond.code y cb cm cr).before a0 Z = true) (hy : y.cls ≠ "java/lang/invoke/MethodHandle" ∧ y.cls ≠ "java/lang/invoke/VarHandle") (E : Exa Z h a K) (hM : Met l Z y cb cm cr rm (.ref a :: argsL).toArray h n0 (qI P')) (hd : decode bs pc = .ok (.invokevirtual i, 3)) (pc' : Nat) (hp : pc' = pc + 3) (hlen : ∀ sig, parseMethodDescriptor y.desc = some sig → argsL.length = sig.parameters.length) (hL : L.size = ml) (W : Nat) (hW : 2 * 0 + (rest.map fun v => v.category).sum ≤ W) (hf : rm.frames + 1 ≤ R.frames) (hl : W + (cm + 11) + rm.locals ≤ R.locals) (cells' slots' : Nat) (hc' : cells' = cells + rm.cells) (hs' : slots' = slots + rm.slots) (hc : cells' ≤ R.cells) (hs : slots' ≤ R.slots) (hst : st = argsL.reverse ++ .ref a :: rest) (g : ∀ r h', P' r h' → Go p l e R s m args below meth c n0 Q h' cells' slots' pc' L (.int r :: rest)) : Go p l e R s m args below meth c n0 Q h cells slots pc L st := by
  subst hst
  exact c_virtual0 C a argsL rest w1 wd ws w2 w3 w4 hy E hM hd pc' hp hlen hL W hW hf hl cells' slots' hc' hs' hc hs (fun v h' hq => by obtain ⟨r, rfl, q⟩ := hq; exact g r h' q)
theorem c_virtualJ (C : Ctx p l e R s m args below meth c Z own nm bs ml rt) {i : Nat} {K : String} {y : MethodName} {cb : ByteArray} {cm : Nat} {cr : Option FieldType} {rm : Room} {P' : Int64 → Heap → Prop} (a : Addr) (argsL rest : List Value) (w1 : (Jvm.Cond.methodLink own i y).before a0 Z = true) (wd : (Jvm.Cond.declares y).before a0 Z = true) (ws : (Jvm.Cond.selects K y y).before a0 Z = true) (w2 : (Jvm.Cond.instanceMethod y).before a0 Z = true) (w3 : (Jvm.Cond.initialized y.cls).before a0 Z = true) (w4 : (Jvm.Cond.code y cb cm cr).before a0 Z = true) (hy : y.cls ≠ "java/lang/invoke/MethodHandle" ∧ y.cls ≠ "java/lang/invoke/VarHandle") (E : Exa Z h a K) (hM : Met l Z y cb cm cr rm (.ref a :: argsL).toArray h n0 (qJ P')) (hd : decode bs pc = .ok (.invokevirtual i, 3)) (pc' : Nat) (hp : pc' = pc + 3) (hlen : ∀ sig, parseMethodDescriptor y.desc = some sig → argsL.length = sig.parameters.length) (hL : L.size = ml) (W : Nat) (hW : 2 * 0 + (rest.map fun v => v.category).sum ≤ W) (hf : rm.frames + 1 ≤ R.frames) (hl : W + (cm + 11) + rm.locals ≤ R.locals) (cells' slots' : Nat) (hc' : cells' = cells + rm.cells) (hs' : slots' = slots + rm.slots) (hc : cells' ≤ R.cells) (hs : slots' ≤ R.slots) (hst : st = argsL.reverse ++ .ref a :: rest) (g : ∀ r h', P' r h' → Go p l e R s m args below meth c n0 Q h' cells' slots' pc' L (.long r :: rest)) : Go p l e R s m args below meth c n0 Q h cells slots pc L st := by
  subst hst
  exact c_virtual0 C a argsL rest w1 wd ws w2 w3 w4 hy E hM hd pc' hp hlen hL W hW hf hl cells' slots' hc' hs' hc hs (fun v h' hq => by obtain ⟨r, rfl, q⟩ := hq; exact g r h' q)
theorem c_virtualA (C : Ctx p l e R s m args below meth c Z own nm bs ml rt) {i : Nat} {K : String} {y : MethodName} {cb : ByteArray} {cm : Nat} {cr : Option FieldType} {rm : Room} {P' : Addr → Heap → Prop} (a : Addr) (argsL rest : List Value) (w1 : (Jvm.Cond.methodLink own i y).before a0 Z = true) (wd : (Jvm.Cond.declares y).before a0 Z = true) (ws : (Jvm.Cond.selects K y y).before a0 Z = true) (w2 : (Jvm.Cond.instanceMethod y).before a0 Z = true) (w3 : (Jvm.Cond.initialized y.cls).before a0 Z = true) (w4 : (Jvm.Cond.code y cb cm cr).before a0 Z = true) (hy : y.cls ≠ "java/lang/invoke/MethodHandle" ∧ y.cls ≠ "java/lang/invoke/VarHandle") (E : Exa Z h a K) (hM : Met l Z y cb cm cr rm (.ref a :: argsL).toArray h n0 (qA P')) (hd : decode bs pc = .ok (.invokevirtual i, 3)) (pc' : Nat) (hp : pc' = pc + 3) (hlen : ∀ sig, parseMethodDescriptor y.desc = some sig → argsL.length = sig.parameters.length) (hL : L.size = ml) (W : Nat) (hW : 2 * 0 + (rest.map fun v => v.category).sum ≤ W) (hf : rm.frames + 1 ≤ R.frames) (hl : W + (cm + 11) + rm.locals ≤ R.locals) (cells' slots' : Nat) (hc' : cells' = cells + rm.cells) (hs' : slots' = slots + rm.slots) (hc : cells' ≤ R.cells) (hs : slots' ≤ R.slots) (hst : st = argsL.reverse ++ .ref a :: rest) (g : ∀ r h', P' r h' → Go p l e R s m args below meth c n0 Q h' cells' slots' pc' L (.ref r :: rest)) : Go p l e R s m args below meth c n0 Q h cells slots pc L st := by
  subst hst
  exact c_virtual0 C a argsL rest w1 wd ws w2 w3 w4 hy E hM hd pc' hp hlen hL W hW hf hl cells' slots' hc' hs' hc hs (fun v h' hq => by obtain ⟨r, rfl, q⟩ := hq; exact g r h' q)
theorem c_virtualV (C : Ctx p l e R s m args below meth c Z own nm bs ml rt) {i : Nat} {K : String} {y : MethodName} {cb : ByteArray} {cm : Nat} {cr : Option FieldType} {rm : Room} {P' : Heap → Prop} (a : Addr) (argsL rest : List Value) (w1 : (Jvm.Cond.methodLink own i y).before a0 Z = true) (wd : (Jvm.Cond.declares y).before a0 Z = true) (ws : (Jvm.Cond.selects K y y).before a0 Z = true) (w2 : (Jvm.Cond.instanceMethod y).before a0 Z = true) (w3 : (Jvm.Cond.initialized y.cls).before a0 Z = true) (w4 : (Jvm.Cond.code y cb cm cr).before a0 Z = true) (hy : y.cls ≠ "java/lang/invoke/MethodHandle" ∧ y.cls ≠ "java/lang/invoke/VarHandle") (E : Exa Z h a K) (hM : Met l Z y cb cm cr rm (.ref a :: argsL).toArray h n0 (qV P')) (hd : decode bs pc = .ok (.invokevirtual i, 3)) (pc' : Nat) (hp : pc' = pc + 3) (hlen : ∀ sig, parseMethodDescriptor y.desc = some sig → argsL.length = sig.parameters.length) (hL : L.size = ml) (W : Nat) (hW : 2 * 0 + (rest.map fun v => v.category).sum ≤ W) (hf : rm.frames + 1 ≤ R.frames) (hl : W + (cm + 11) + rm.locals ≤ R.locals) (cells' slots' : Nat) (hc' : cells' = cells + rm.cells) (hs' : slots' = slots + rm.slots) (hc : cells' ≤ R.cells) (hs : slots' ≤ R.slots) (hst : st = argsL.reverse ++ .ref a :: rest) (g : ∀ h', P' h' → Go p l e R s m args below meth c n0 Q h' cells' slots' pc' L rest) : Go p l e R s m args below meth c n0 Q h cells slots pc L st := by
  subst hst
  exact c_virtual0 C a argsL rest w1 wd ws w2 w3 w4 hy E hM hd pc' hp hlen hL W hW hf hl cells' slots' hc' hs' hc hs (fun v h' hq => by obtain ⟨rfl, q⟩ := hq; exact g h' q)
end OwnBase
end Jvm.Pilot.@@N@@.OwnW
namespace Jvm.Pilot.@@N@@
open Jvm Jvm.ClassFile Sem Op Lib Jvm.Free Jvm.Stand Jvm.LawKit Jvm.RoadKit Jvm.Pilot.@@N@@.OwnW Bundle Jvm.Pilot.@@N@@.Jvm.D
def minL (a b : Int64) : Int64 := if b < a then b else a
def cellF (i fr to : Int32) (s : Int64) : Int32 := if i < fr then 2147483647 else if i < to then s.toInt32 else -2147483648
def gF (c0 c1 c2 c3 c4 : Int32) (j : Nat) : Int32 := if j = 0 then c0 else if j = 1 then c1 else if j = 2 then c2 else if j = 3 then c3 else c4
def RR (g : Nat → Int32) (bd : Int32) (lo hi k m : Nat) : Prop := (m = hi ∨ (lo ≤ m ∧ m < hi ∧ bd < g m)) ∧ ∀ j, k ≤ j → lo ≤ j → j < hi → j < m → ¬ bd < g j
theorem RR.miss {g : Nat → Int32} {bd : Int32} {lo hi k m : Nat} (q : RR g bd lo hi (k + 1) m) (h : lo ≤ k → k < hi → ¬ bd < g k) : RR g bd lo hi k m := by
  refine ⟨q.1, fun j h1 h2 h3 h4 => ?_⟩
  by_cases e : j = k
  · rw [e] at h2 h3 ⊢; exact h h2 h3
  · exact q.2 j (by omega) h2 h3 h4
theorem RR.hit {g : Nat → Int32} {bd : Int32} {lo hi k : Nat} (h1 : lo ≤ k) (h2 : k < hi) (h3 : bd < g k) : RR g bd lo hi k k := ⟨Or.inr ⟨h1, h2, h3⟩, fun j q1 _ _ q4 => absurd q4 (by omega)⟩
theorem RR.top {g : Nat → Int32} {bd : Int32} {lo hi : Nat} (h : hi ≤ 5) : RR g bd lo hi 5 hi := ⟨Or.inl rfl, fun j q1 _ q3 _ => absurd q3 (by omega)⟩
theorem own_uniq {g : Nat → Int32} {bd : Int32} {lo hi m k : Nat} (q : RR g bd lo hi 0 m) (hk : lo ≤ k) (hk2 : k ≤ hi) (h1 : ∀ j, lo ≤ j → j < k → ¬ bd < g j) (h2 : ∀ j, k ≤ j → j < hi → bd < g j) : k = m := by
  have hm : m ≤ hi := by rcases q.1 with h | h <;> omega
  rcases Nat.lt_trichotomy k m with h | h | h
  · exact absurd (h2 k (Nat.le_refl _) (by omega)) (q.2 k (by omega) hk (by omega) h)
  · exact h
  · rcases q.1 with e | ⟨e1, e2, e3⟩
    · omega
    · exact absurd e3 (h1 m e1 h)
theorem own_half {a : Int32} {n : Nat} (x : Ix a n) : Ix (ush a 1) (n / 2) := by
  apply Ix.of
  have h1 : (ush a 1).toBitVec = a.toBitVec >>> 1 := rfl
  have hn : n < 2147483648 := by have := x.toInt; have h2 := Int32.toInt_lt a; omega
  have h3 : a.toBitVec.toNat = n := by
    have h4 := x.toInt
    rw [← Int32.toInt_toBitVec, BitVec.toInt_eq_toNat_cond] at h4
    have h5 := a.toBitVec.isLt
    split at h4 <;> omega
  rw [← Int32.toInt_toBitVec, h1, BitVec.toInt_eq_toNat_cond, BitVec.toNat_ushiftRight, h3, Nat.shiftRight_eq_div_pow, Nat.pow_one]
  split <;> omega
theorem own_m7 (x : Int32) : 0 ≤ (x &&& 7).toInt64.toInt ∧ (x &&& 7).toInt64.toInt ≤ 7 := by
  rw [Int32.toInt_toInt64]
  have h1 : (x &&& 7).toBitVec.toNat ≤ 7 := by
    rw [Int32.toBitVec_and, BitVec.toNat_and]; exact Nat.and_le_right
  rw [← Int32.toInt_toBitVec, BitVec.toInt_eq_toNat_cond]
  split <;> omega
def rg (z : Int64) : Prop := -2147483648 ≤ z.toInt ∧ z.toInt ≤ 2147483647
theorem own_next {s d : Int64} (hs : rg s) (hd : 0 ≤ d.toInt ∧ d.toInt ≤ 7) : rg (minL (s + d) 2147483647) ∧ s.toInt ≤ (minL (s + d) 2147483647).toInt := by
  have hM : (2147483647 : Int64).toInt = 2147483647 := rfl
  have e : (s + d).toInt = s.toInt + d.toInt := by
    obtain ⟨a1, a2⟩ := hs
    rw [Int64.toInt_add]; exact Int.bmod_eq_of_le (by omega) (by omega)
  obtain ⟨a1, a2⟩ := hs
  unfold minL rg
  split
  · rename_i h
    exact ⟨⟨by omega, by omega⟩, by omega⟩
  · rename_i h
    rw [Int64.lt_iff_toInt_lt] at h
    exact ⟨⟨by omega, by omega⟩, by omega⟩
theorem own_cell {i fr to : Int32} {s : Int64} (hs : rg s) (h1 : ¬ i < fr) (h2 : i < to) : (cellF i fr to s).toInt = s.toInt := by
  rw [cellF, if_neg h1, if_pos h2, Int64.toInt_toInt32]
  obtain ⟨a1, a2⟩ := hs
  exact Int.bmod_eq_of_le (by omega) (by omega)
theorem own_sorted {g : Nat → Int32} {lo hi : Nat} {t0 t1 t2 t3 t4 : Int} (he : hi ≤ 5) (u1 : t0 ≤ t1) (u2 : t1 ≤ t2) (u3 : t2 ≤ t3) (u4 : t3 ≤ t4)
    (q0 : lo ≤ 0 → 0 < hi → (g 0).toInt = t0) (q1 : lo ≤ 1 → 1 < hi → (g 1).toInt = t1) (q2 : lo ≤ 2 → 2 < hi → (g 2).toInt = t2) (q3 : lo ≤ 3 → 3 < hi → (g 3).toInt = t3) (q4 : lo ≤ 4 → 4 < hi → (g 4).toInt = t4) :
    ∀ i j, lo ≤ i → i ≤ j → j < hi → (g i).toInt ≤ (g j).toInt := by
  intro i j h1 h2 h3
  have hj : j = 0 ∨ j = 1 ∨ j = 2 ∨ j = 3 ∨ j = 4 := by omega
  have hi : i = 0 ∨ i = 1 ∨ i = 2 ∨ i = 3 ∨ i = 4 := by omega
  rcases hi with rfl | rfl | rfl | rfl | rfl <;> rcases hj with rfl | rfl | rfl | rfl | rfl <;> first | omega | (rw [q0 (by omega) (by omega)]; omega) | skip
  all_goals (try have e0 := q0 (by omega) (by omega)); (try have e1 := q1 (by omega) (by omega)); (try have e2 := q2 (by omega) (by omega)); (try have e3 := q3 (by omega) (by omega)); (try have e4 := q4 (by omega) (by omega)); omega
theorem d1_0 : decode jdk_29_method_70_code 0 = .ok (.lload_n 0, 1) := by decide +kernel
theorem d1_1 : decode jdk_29_method_70_code 1 = .ok (.lload_n 2, 1) := by decide +kernel
theorem d1_2 : decode jdk_29_method_70_code 2 = .ok (.lcmp, 1) := by decide +kernel
theorem d1_3 : decode jdk_29_method_70_code 3 = .ok (.ifCond .gt 7, 3) := by decide +kernel
theorem d1_6 : decode jdk_29_method_70_code 6 = .ok (.lload_n 0, 1) := by decide +kernel
theorem d1_7 : decode jdk_29_method_70_code 7 = .ok (.goto 4, 3) := by decide +kernel
theorem d1_10 : decode jdk_29_method_70_code 10 = .ok (.lload_n 2, 1) := by decide +kernel
theorem d1_11 : decode jdk_29_method_70_code 11 = .ok (.lreturn, 1) := by decide +kernel
theorem pf_1 : plainFor (⟨"java/lang/Math", "min", "(JJ)J"⟩ : MethodName) = true := by decide +kernel
theorem ef_1 (m : MethodId) (x0 : Int64) (x1 : Int64) : entryFrame m #[(.long x0), (.long x1)] 4 = mkF m 0 #[.val (.long x0), .second, .val (.long x1), .second] [] := by first | (simp [entryFrame, mkF, argsToLocals, Value.category, maxLocals]; done) | rfl
set_option maxRecDepth 65536 in
set_option maxHeartbeats 40000000 in
theorem m1 (l : Launch) (Z : State) (a0 : Array Value) (hw : ∀ d ∈ tables_1, d.before a0 Z = true) (p0 : Int64) (p1 : Int64) (h0 : Heap) (n0 : Nat)  :
    Met l Z (⟨"java/lang/Math", "min", "(JJ)J"⟩ : MethodName) jdk_29_method_70_code 4 (some (.long)) ({ frames := 0, cells := 0, slots := 0, locals := 0 } : Room) #[(.long p0), (.long p1)] h0 n0 (qJ fun r h => r = minL p0 p1 ∧ h0 = h) := by
  refine met pf_1 #[.val (.long p0), .second, .val (.long p1), .second] (fun m => ef_1 m p0 p1) ?_
  intro p e s m below meth c C
  refine g_lloadN C d1_0 1 rfl rfl ?_
  refine g_lloadN C d1_1 2 rfl rfl ?_
  refine g_lcmpgt C d1_2 3 rfl d1_3 10 (by decide) 6 rfl (fun k3 => ?_) (fun k3 => ?_)
  · refine g_lloadN C d1_10 11 rfl rfl ?_
    refine r_long C d1_11 (by decide) (by decide) ⟨by rw [minL, if_pos k3], rfl⟩
  · refine g_lloadN C d1_6 7 rfl rfl ?_
    refine g_goto C d1_7 11 (by decide) ?_
    refine r_long C d1_11 (by decide) (by decide) ⟨by rw [minL, if_neg k3], rfl⟩
theorem d2_0 : decode method_2_code 0 = .ok (.iload_n 0, 1) := by decide +kernel
theorem d2_1 : decode method_2_code 1 = .ok (.iload_n 1, 1) := by decide +kernel
theorem d2_2 : decode method_2_code 2 = .ok (.if_icmp .ge 6, 3) := by decide +kernel
theorem d2_5 : decode method_2_code 5 = .ok (.ldc 9, 2) := by decide +kernel
theorem d2_7 : decode method_2_code 7 = .ok (.ireturn, 1) := by decide +kernel
theorem d2_8 : decode method_2_code 8 = .ok (.iload_n 0, 1) := by decide +kernel
theorem d2_9 : decode method_2_code 9 = .ok (.iload_n 2, 1) := by decide +kernel
theorem d2_10 : decode method_2_code 10 = .ok (.if_icmp .lt 6, 3) := by decide +kernel
theorem d2_13 : decode method_2_code 13 = .ok (.ldc 10, 2) := by decide +kernel
theorem d2_15 : decode method_2_code 15 = .ok (.ireturn, 1) := by decide +kernel
theorem d2_16 : decode method_2_code 16 = .ok (.lload_n 3, 1) := by decide +kernel
theorem d2_17 : decode method_2_code 17 = .ok (.l2i, 1) := by decide +kernel
theorem d2_18 : decode method_2_code 18 = .ok (.ireturn, 1) := by decide +kernel
theorem pn_com_example_gauzy_branch_gauzybranch_util_SortedIntsFirstAbovePinLaw : plainName "com/example/gauzy_branch/gauzybranch/util/SortedIntsFirstAbovePinLaw" = true := by first | (simp [plainName, overriddenIn]; done) | decide +kernel
theorem ef_2 (m : MethodId) (x0 : Int32) (x1 : Int32) (x2 : Int32) (x3 : Int64) : entryFrame m #[(.int x0), (.int x1), (.int x2), (.long x3)] 5 = mkF m 0 #[.val (.int x0), .val (.int x1), .val (.int x2), .val (.long x3), .second] [] := by first | (simp [entryFrame, mkF, argsToLocals, Value.category, maxLocals]; done) | rfl
set_option maxRecDepth 65536 in
set_option maxHeartbeats 40000000 in
theorem m2 (l : Launch) (Z : State) (a0 : Array Value) (hw : ∀ d ∈ tables_1, d.before a0 Z = true) (p0 : Int32) (p1 : Int32) (p2 : Int32) (p3 : Int64) (h0 : Heap) (n0 : Nat)  :
    Met l Z (⟨"com/example/gauzy_branch/gauzybranch/util/SortedIntsFirstAbovePinLaw", "cell", "(IIIJ)I"⟩ : MethodName) method_2_code 5 (some (.int)) ({ frames := 0, cells := 0, slots := 0, locals := 0 } : Room) #[(.int p0), (.int p1), (.int p2), (.long p3)] h0 n0 (qI fun r h => r = cellF p0 p1 p2 p3 ∧ h0 = h) := by
  refine met (plainFor_of_name pn_com_example_gauzy_branch_gauzybranch_util_SortedIntsFirstAbovePinLaw) #[.val (.int p0), .val (.int p1), .val (.int p2), .val (.long p3), .second] (fun m => ef_2 m p0 p1 p2 p3) ?_
  intro p e s m below meth c C
  refine g_iloadN C d2_0 1 rfl rfl ?_
  refine g_iloadN C d2_1 2 rfl rfl ?_
  refine g_if_icmpge C d2_2 8 (by decide) 5 rfl (fun k2 => ?_) (fun k2 => ?_)
  · refine g_iloadN C d2_8 9 rfl rfl ?_
    refine g_iloadN C d2_9 10 rfl rfl ?_
    refine g_if_icmplt C d2_10 16 (by decide) 13 rfl (fun k10 => ?_) (fun k10 => ?_)
    · refine g_lloadN C d2_16 17 rfl rfl ?_
      refine g_l2i C d2_17 18 rfl ?_
      refine r_int C d2_18 (by decide) (by decide) ⟨by rw [cellF, if_neg k2, if_pos k10], rfl⟩
    · refine g_ldc C (hw _ (List.mem_of_getElem? (i := 11) rfl)) d2_13 15 rfl ?_
      refine r_int C d2_15 (by decide) (by decide) ⟨by rw [cellF, if_neg k2, if_neg k10], rfl⟩
  · refine g_ldc C (hw _ (List.mem_of_getElem? (i := 0) rfl)) d2_5 7 rfl ?_
    refine r_int C d2_7 (by decide) (by decide) ⟨by rw [cellF, if_pos k2], rfl⟩
theorem d3_0 : decode prog_145_method_2_code 0 = .ok (.iload_n 2, 1) := by decide +kernel
theorem d3_1 : decode prog_145_method_2_code 1 = .ok (.istore 4, 2) := by decide +kernel
theorem d3_3 : decode prog_145_method_2_code 3 = .ok (.iload_n 3, 1) := by decide +kernel
theorem d3_4 : decode prog_145_method_2_code 4 = .ok (.istore 5, 2) := by decide +kernel
theorem d3_6 : decode prog_145_method_2_code 6 = .ok (.iload 4, 2) := by decide +kernel
theorem d3_8 : decode prog_145_method_2_code 8 = .ok (.iload 5, 2) := by decide +kernel
theorem d3_10 : decode prog_145_method_2_code 10 = .ok (.if_icmp .ge 36, 3) := by decide +kernel
theorem d3_13 : decode prog_145_method_2_code 13 = .ok (.iload 4, 2) := by decide +kernel
theorem d3_15 : decode prog_145_method_2_code 15 = .ok (.iload 5, 2) := by decide +kernel
theorem d3_17 : decode prog_145_method_2_code 17 = .ok (.iadd, 1) := by decide +kernel
theorem d3_18 : decode prog_145_method_2_code 18 = .ok (.iconst 1, 1) := by decide +kernel
theorem d3_19 : decode prog_145_method_2_code 19 = .ok (.iushr, 1) := by decide +kernel
theorem d3_20 : decode prog_145_method_2_code 20 = .ok (.istore 6, 2) := by decide +kernel
theorem d3_22 : decode prog_145_method_2_code 22 = .ok (.aload_n 0, 1) := by decide +kernel
theorem d3_23 : decode prog_145_method_2_code 23 = .ok (.iload 6, 2) := by decide +kernel
theorem d3_25 : decode prog_145_method_2_code 25 = .ok (.iaload, 1) := by decide +kernel
theorem d3_26 : decode prog_145_method_2_code 26 = .ok (.iload_n 1, 1) := by decide +kernel
theorem d3_27 : decode prog_145_method_2_code 27 = .ok (.if_icmp .gt 12, 3) := by decide +kernel
theorem d3_30 : decode prog_145_method_2_code 30 = .ok (.iload 6, 2) := by decide +kernel
theorem d3_32 : decode prog_145_method_2_code 32 = .ok (.iconst 1, 1) := by decide +kernel
theorem d3_33 : decode prog_145_method_2_code 33 = .ok (.iadd, 1) := by decide +kernel
theorem d3_34 : decode prog_145_method_2_code 34 = .ok (.istore 4, 2) := by decide +kernel
theorem d3_36 : decode prog_145_method_2_code 36 = .ok (.goto 7, 3) := by decide +kernel
theorem d3_39 : decode prog_145_method_2_code 39 = .ok (.iload 6, 2) := by decide +kernel
theorem d3_41 : decode prog_145_method_2_code 41 = .ok (.istore 5, 2) := by decide +kernel
theorem d3_43 : decode prog_145_method_2_code 43 = .ok (.goto (-37), 3) := by decide +kernel
theorem d3_46 : decode prog_145_method_2_code 46 = .ok (.iload 4, 2) := by decide +kernel
theorem d3_48 : decode prog_145_method_2_code 48 = .ok (.ireturn, 1) := by decide +kernel
theorem pn_com_example_gauzy_branch_gauzybranch_util_SortedInts : plainName "com/example/gauzy_branch/gauzybranch/util/SortedInts" = true := by first | (simp [plainName, overriddenIn]; done) | decide +kernel
theorem ef_3 (m : MethodId) (x0 : Addr) (x1 : Int32) (x2 : Int32) (x3 : Int32) : entryFrame m #[(.ref x0), (.int x1), (.int x2), (.int x3)] 7 = mkF m 0 #[.val (.ref x0), .val (.int x1), .val (.int x2), .val (.int x3), .unset, .unset, .unset] [] := by first | (simp [entryFrame, mkF, argsToLocals, Value.category, maxLocals]; done) | rfl
set_option maxRecDepth 65536 in
set_option maxHeartbeats 40000000 in
theorem m3 (l : Launch) (Z : State) (a0 : Array Value) (hw : ∀ d ∈ tables_1, d.before a0 Z = true) (a : Addr) (p1 : Int32) (p2 : Int32) (p3 : Int32) (h0 : Heap) (n0 : Nat) (g : Nat → Int32) (lo hi : Nat) (A : Ary Z h0 a .int 5 (fun j => .int (g j))) (x2 : Ix p2 lo) (x3 : Ix p3 hi) (hle : lo ≤ hi) (he : hi ≤ 5) (hsort : ∀ i j, lo ≤ i → i ≤ j → j < hi → (g i).toInt ≤ (g j).toInt) :
    Met l Z (⟨"com/example/gauzy_branch/gauzybranch/util/SortedInts", "firstAbove", "([IIII)I"⟩ : MethodName) prog_145_method_2_code 7 (some (.int)) ({ frames := 0, cells := 0, slots := 0, locals := 0 } : Room) #[(.ref a), (.int p1), (.int p2), (.int p3)] h0 n0 (qI fun r h => (∃ k, Ix r k ∧ lo ≤ k ∧ k ≤ hi ∧ (∀ j, lo ≤ j → j < k → ¬ p1 < g j) ∧ (∀ j, k ≤ j → j < hi → p1 < g j)) ∧ h0 = h) := by
  refine met (plainFor_of_name pn_com_example_gauzy_branch_gauzybranch_util_SortedInts) #[.val (.ref a), .val (.int p1), .val (.int p2), .val (.int p3), .unset, .unset, .unset] (fun m => ef_3 m a p1 p2 p3) ?_
  intro p e s m below meth c C
  refine g_iloadN C d3_0 1 rfl rfl ?_
  refine g_istore C d3_1 3 rfl (fun z' => #[.val (.ref a), .val (.int p1), .val (.int p2), .val (.int p3), .val (.int z'), .unset, .unset]) (fun _ => rfl) (fun v1 ev1 => ?_)
  refine g_iloadN C d3_3 4 rfl rfl ?_
  refine g_istore C d3_4 6 rfl (fun z' => #[.val (.ref a), .val (.int p1), .val (.int p2), .val (.int p3), .val (.int v1), .val (.int z'), .unset]) (fun _ => rfl) (fun v4 ev4 => ?_)
  have loop : ∀ (k lw up : Nat) (l' u' c6 : Int32), Ix l' lw → Ix u' up → up - lw = k → lo ≤ lw → lw ≤ up → up ≤ hi → (∀ j, lo ≤ j → j < lw → ¬ p1 < g j) → (∀ j, up ≤ j → j < hi → p1 < g j) → Go p l e ({ frames := 0, cells := 0, slots := 0, locals := 0 } : Room) s m #[(.ref a), (.int p1), (.int p2), (.int p3)] below meth c n0 (qI fun r h => (∃ k, Ix r k ∧ lo ≤ k ∧ k ≤ hi ∧ (∀ j, lo ≤ j → j < k → ¬ p1 < g j) ∧ (∀ j, k ≤ j → j < hi → p1 < g j)) ∧ h0 = h) h0 0 0 6 #[.val (.ref a), .val (.int p1), .val (.int p2), .val (.int p3), .val (.int l'), .val (.int u'), .val (.int c6)] [] := by
    intro k
    induction k using Nat.strongRecOn with
    | _ k ih =>
      intro lw up l' u' c6 xl xu hk h1 h2 h3 h4 h5
      refine g_iload C d3_6 8 rfl rfl ?_
      refine g_iload C d3_8 10 rfl rfl ?_
      refine g_if_icmpge C d3_10 46 (by decide) 13 rfl (fun k10 => ?_) (fun k10 => ?_)
      · have hge : ¬ lw < up := fun z => k10 ((xl.lt xu).mpr z)
        refine g_iload C d3_46 48 rfl rfl ?_
        refine r_int C d3_48 (by decide) (by decide) ⟨⟨lw, xl, by omega, by omega, fun j q1 q2 => h4 j q1 q2, fun j q1 q2 => h5 j (by omega) q2⟩, rfl⟩
      · have hlt : lw < up := (xl.lt xu).mp k10
        refine g_iload C d3_13 15 rfl rfl ?_
        refine g_iload C d3_15 17 rfl rfl ?_
        refine g_iadd C d3_17 18 rfl ?_
        refine g_iconst C d3_18 19 rfl (1 : Int32) (by decide) ?_
        refine g_iushr C d3_19 20 rfl ?_
        refine g_istore C d3_20 22 rfl (fun z' => #[.val (.ref a), .val (.int p1), .val (.int p2), .val (.int p3), .val (.int l'), .val (.int u'), .val (.int z')]) (fun _ => rfl) (fun md' emd' => ?_)
        obtain ⟨md, hmd⟩ : ∃ z, z = (lw + up) / 2 := ⟨_, rfl⟩
        have xm : Ix md' md := by rw [emd', hmd]; exact own_half (xl.add xu (by omega))
        refine g_aloadN C d3_22 23 rfl rfl rfl ?_
        refine g_iload C d3_23 25 rfl rfl ?_
        refine g_iaload C A md xm (by omega) (.int (g md)) rfl d3_25 26 rfl ?_
        refine g_iloadN C d3_26 27 rfl rfl ?_
        refine g_if_icmpgt C d3_27 39 (by decide) 30 rfl (fun k27 => ?_) (fun k27 => ?_)
        · have h5' : ∀ j, md ≤ j → j < hi → p1 < g j := fun j q1 q2 => by
            have hs := hsort md j (by omega) q1 q2
            rw [Int32.lt_iff_toInt_lt] at k27 ⊢; omega
          refine g_iload C d3_39 41 rfl rfl ?_
          refine g_istore C d3_41 43 rfl (fun z' => #[.val (.ref a), .val (.int p1), .val (.int p2), .val (.int p3), .val (.int l'), .val (.int z'), .val (.int md')]) (fun _ => rfl) (fun v41 ev41 => ?_)
          have xm0 : Ix v41 md := by rw [ev41]; exact xm
          refine g_goto C d3_43 6 (by decide) ?_
          exact ih (md - (lw)) (by omega) (lw) (md) _ _ _ xl xm0 rfl (by omega) (by omega) (by omega) h4 h5'
        · have h4' : ∀ j, lo ≤ j → j < md + 1 → ¬ p1 < g j := fun j q1 q2 => by
            have hs := hsort j md q1 (by omega) (by omega)
            rw [Int32.lt_iff_toInt_lt] at k27 ⊢; omega
          refine g_iload C d3_30 32 rfl rfl ?_
          refine g_iconst C d3_32 33 rfl (1 : Int32) (by decide) ?_
          refine g_iadd C d3_33 34 rfl ?_
          refine g_istore C d3_34 36 rfl (fun z' => #[.val (.ref a), .val (.int p1), .val (.int p2), .val (.int p3), .val (.int z'), .val (.int u'), .val (.int md')]) (fun _ => rfl) (fun v34 ev34 => ?_)
          have xm1 : Ix v34 (md + 1) := by rw [ev34]; exact xm.succ (by omega)
          refine g_goto C d3_36 43 (by decide) ?_
          refine g_goto C d3_43 6 (by decide) ?_
          exact ih (up - (md + 1)) (by omega) (md + 1) (up) _ _ _ xm1 xu rfl (by omega) (by omega) (by omega) h4' h5
  obtain ⟨lw, hlw⟩ : ∃ z, z = lo := ⟨_, rfl⟩
  obtain ⟨up, hup⟩ : ∃ z, z = hi := ⟨_, rfl⟩
  have xl : Ix v1 lw := by rw [ev1, hlw]; exact x2
  have xu : Ix v4 up := by rw [ev4, hup]; exact x3
  have h1 : lo ≤ lw := by omega
  have h2 : lw ≤ up := by omega
  have h3 : up ≤ hi := by omega
  have h4 : ∀ j, lo ≤ j → j < lw → ¬ p1 < g j := fun j q1 q2 => absurd q2 (by omega)
  have h5 : ∀ j, up ≤ j → j < hi → p1 < g j := fun j q1 q2 => absurd q2 (by omega)
  refine g_iload C d3_6 8 rfl rfl ?_
  refine g_iload C d3_8 10 rfl rfl ?_
  refine g_if_icmpge C d3_10 46 (by decide) 13 rfl (fun k10 => ?_) (fun k10 => ?_)
  · have hge : ¬ lw < up := fun z => k10 ((xl.lt xu).mpr z)
    refine g_iload C d3_46 48 rfl rfl ?_
    refine r_int C d3_48 (by decide) (by decide) ⟨⟨lw, xl, by omega, by omega, fun j q1 q2 => h4 j q1 q2, fun j q1 q2 => h5 j (by omega) q2⟩, rfl⟩
  · have hlt : lw < up := (xl.lt xu).mp k10
    refine g_iload C d3_13 15 rfl rfl ?_
    refine g_iload C d3_15 17 rfl rfl ?_
    refine g_iadd C d3_17 18 rfl ?_
    refine g_iconst C d3_18 19 rfl (1 : Int32) (by decide) ?_
    refine g_iushr C d3_19 20 rfl ?_
    refine g_istore C d3_20 22 rfl (fun z' => #[.val (.ref a), .val (.int p1), .val (.int p2), .val (.int p3), .val (.int v1), .val (.int v4), .val (.int z')]) (fun _ => rfl) (fun md' emd' => ?_)
    obtain ⟨md, hmd⟩ : ∃ z, z = (lw + up) / 2 := ⟨_, rfl⟩
    have xm : Ix md' md := by rw [emd', hmd]; exact own_half (xl.add xu (by omega))
    refine g_aloadN C d3_22 23 rfl rfl rfl ?_
    refine g_iload C d3_23 25 rfl rfl ?_
    refine g_iaload C A md xm (by omega) (.int (g md)) rfl d3_25 26 rfl ?_
    refine g_iloadN C d3_26 27 rfl rfl ?_
    refine g_if_icmpgt C d3_27 39 (by decide) 30 rfl (fun k27 => ?_) (fun k27 => ?_)
    · have h5' : ∀ j, md ≤ j → j < hi → p1 < g j := fun j q1 q2 => by
        have hs := hsort md j (by omega) q1 q2
        rw [Int32.lt_iff_toInt_lt] at k27 ⊢; omega
      refine g_iload C d3_39 41 rfl rfl ?_
      refine g_istore C d3_41 43 rfl (fun z' => #[.val (.ref a), .val (.int p1), .val (.int p2), .val (.int p3), .val (.int v1), .val (.int z'), .val (.int md')]) (fun _ => rfl) (fun v41 ev41 => ?_)
      have xm0 : Ix v41 md := by rw [ev41]; exact xm
      refine g_goto C d3_43 6 (by decide) ?_
      exact loop (md - (lw)) (lw) (md) _ _ _ xl xm0 rfl (by omega) (by omega) (by omega) h4 h5'
    · have h4' : ∀ j, lo ≤ j → j < md + 1 → ¬ p1 < g j := fun j q1 q2 => by
        have hs := hsort j md q1 (by omega) (by omega)
        rw [Int32.lt_iff_toInt_lt] at k27 ⊢; omega
      refine g_iload C d3_30 32 rfl rfl ?_
      refine g_iconst C d3_32 33 rfl (1 : Int32) (by decide) ?_
      refine g_iadd C d3_33 34 rfl ?_
      refine g_istore C d3_34 36 rfl (fun z' => #[.val (.ref a), .val (.int p1), .val (.int p2), .val (.int p3), .val (.int z'), .val (.int v4), .val (.int md')]) (fun _ => rfl) (fun v34 ev34 => ?_)
      have xm1 : Ix v34 (md + 1) := by rw [ev34]; exact xm.succ (by omega)
      refine g_goto C d3_36 43 (by decide) ?_
      refine g_goto C d3_43 6 (by decide) ?_
      exact loop (up - (md + 1)) (md + 1) (up) _ _ _ xm1 xu rfl (by omega) (by omega) (by omega) h4' h5
theorem pd_0 : parseMethodDescriptor "(JJ)J" = some ⟨[.long, .long], some (.long)⟩ := by decide +kernel
theorem pd_1 : parseMethodDescriptor "(IIIJ)I" = some ⟨[.int, .int, .int, .long], some (.int)⟩ := by decide +kernel
theorem pd_2 : parseMethodDescriptor "([IIII)I" = some ⟨[.array .int, .int, .int, .int], some (.int)⟩ := by decide +kernel
theorem ef_0 (m : MethodId) (x0 : Int32) (x1 : Int32) (x2 : Int32) (x3 : Int32) (x4 : Int32) : entryFrame m #[(.int x0), (.int x1), (.int x2), (.int x3), (.int x4)] maxLocals = mkF m 0 #[.val (.int x0), .val (.int x1), .val (.int x2), .val (.int x3), .val (.int x4), .unset, .unset, .unset, .unset, .unset, .unset, .unset, .unset, .unset, .unset, .unset, .unset, .unset, .unset, .unset, .unset, .unset] [] := by first | (simp [entryFrame, mkF, argsToLocals, Value.category, maxLocals]; done) | rfl
set_option maxRecDepth 65536 in
set_option maxHeartbeats 40000000 in
theorem m0 (l : Launch) (Z : State) (a0 : Array Value) (hw : ∀ d ∈ tables_1, d.before a0 Z = true) (p0 : Int32) (p1 : Int32) (p2 : Int32) (p3 : Int32) (p4 : Int32) (h0 : Heap) (n0 : Nat) (Z0 : n0 ≤ h0.size) :
    Met l Z x code maxLocals ret room_1 #[(.int p0), (.int p1), (.int p2), (.int p3), (.int p4)] h0 n0 (qI fun r h => r = 1) := by
  refine met (plainFor_of_name pn_com_example_gauzy_branch_gauzybranch_util_SortedIntsFirstAbovePinLaw) #[.val (.int p0), .val (.int p1), .val (.int p2), .val (.int p3), .val (.int p4), .unset, .unset, .unset, .unset, .unset, .unset, .unset, .unset, .unset, .unset, .unset, .unset, .unset, .unset, .unset, .unset, .unset] (fun m => ef_0 m p0 p1 p2 p3 p4) ?_
  intro p e s m below meth c C
  have C : Ctx p l e room_1 s m #[(.int p0), (.int p1), (.int p2), (.int p3), (.int p4)] below meth c Z "com/example/gauzy_branch/gauzybranch/util/SortedIntsFirstAbovePinLaw" "law" code 22 (some (.boolean)) := C
  refine g_iloadN C at_0 1 rfl rfl ?_
  refine g_ldc C (hw _ (List.mem_of_getElem? (i := 0) rfl)) at_1 3 rfl ?_
  refine g_iand C at_3 4 rfl ?_
  refine g_bipush C at_4 6 rfl (6 : Int32) (by decide) ?_
  refine g_irem C at_6 7 rfl (by decide) ?_
  refine g_istore C at_7 9 rfl (fun z' => #[.val (.int p0), .val (.int p1), .val (.int p2), .val (.int p3), .val (.int p4), .val (.int z'), .unset, .unset, .unset, .unset, .unset, .unset, .unset, .unset, .unset, .unset, .unset, .unset, .unset, .unset, .unset, .unset]) (fun _ => rfl) (fun v7 ev7 => ?_)
  obtain ⟨lo, hlo, xlo⟩ : ∃ i, i < 6 ∧ Ix v7 i := by rw [ev7]; exact Ix.rem (nn31 _) ⟨by decide, by decide⟩ (by decide)
  have x6 : Ix (6 - v7) (6 - lo) := Ix.sub ⟨by decide, by decide⟩ xlo (by omega) (by omega)
  obtain ⟨d0, hd0, xd⟩ := Ix.rem (nn31 p4) x6 (by omega)
  refine g_iload C at_9 11 rfl rfl ?_
  refine g_iload C at_11 13 rfl rfl ?_
  refine g_ldc C (hw _ (List.mem_of_getElem? (i := 0) rfl)) at_13 15 rfl ?_
  refine g_iand C at_15 16 rfl ?_
  refine g_bipush C at_16 18 rfl (6 : Int32) (by decide) ?_
  refine g_iload C at_18 20 rfl rfl ?_
  refine g_isub C at_20 21 rfl ?_
  refine g_irem C at_21 22 rfl (x6.nz (by omega)) ?_
  refine g_iadd C at_22 23 rfl ?_
  refine g_istore C at_23 25 rfl (fun z' => #[.val (.int p0), .val (.int p1), .val (.int p2), .val (.int p3), .val (.int p4), .val (.int v7), .val (.int z'), .unset, .unset, .unset, .unset, .unset, .unset, .unset, .unset, .unset, .unset, .unset, .unset, .unset, .unset, .unset]) (fun _ => rfl) (fun v23 ev23 => ?_)
  obtain ⟨hi, hhi⟩ : ∃ z, z = lo + d0 := ⟨_, rfl⟩
  have xhi : Ix v23 hi := by rw [ev23, hhi]; exact xlo.add xd (by omega)
  refine g_ldc2_w C (hw _ (List.mem_of_getElem? (i := 1) rfl)) at_25 28 rfl ?_
  refine g_lstore C at_28 30 rfl (fun z' => #[.val (.int p0), .val (.int p1), .val (.int p2), .val (.int p3), .val (.int p4), .val (.int v7), .val (.int v23), .val (.long z'), .second, .unset, .unset, .unset, .unset, .unset, .unset, .unset, .unset, .unset, .unset, .unset, .unset, .unset]) (fun _ => rfl) (fun v28 ev28 => ?_)
  subst ev28
  refine g_iloadN C at_30 31 rfl rfl ?_
  refine g_i2l C at_31 32 rfl ?_
  refine g_lstore C at_32 34 rfl (fun z' => #[.val (.int p0), .val (.int p1), .val (.int p2), .val (.int p3), .val (.int p4), .val (.int v7), .val (.int v23), .val (.long (2147483647 : Int64)), .second, .val (.long z'), .second, .unset, .unset, .unset, .unset, .unset, .unset, .unset, .unset, .unset, .unset, .unset]) (fun _ => rfl) (fun v32 ev32 => ?_)
  have g0 : rg v32 := by
    rw [ev32]; unfold rg; rw [Int32.toInt_toInt64]
    have h1 := Int32.le_toInt p0
    have h2 := Int32.toInt_lt p0
    omega
  refine g_lload C at_34 36 rfl rfl ?_
  refine g_iloadN C at_36 37 rfl rfl ?_
  refine g_bipush C at_37 39 rfl (7 : Int32) (by decide) ?_
  refine g_iand C at_39 40 rfl ?_
  refine g_i2l C at_40 41 rfl ?_
  refine g_ladd C at_41 42 rfl ?_
  refine g_lload C at_42 44 rfl rfl ?_
  refine c_staticJ C [(.long (v32 + ((p1 &&& (7 : Int32))).toInt64)), (.long (2147483647 : Int64))] [] (hw _ (List.mem_of_getElem? (i := 2) rfl)) (hw _ (List.mem_of_getElem? (i := 3) rfl)) (hw _ (List.mem_of_getElem? (i := 4) rfl)) (hw _ (List.mem_of_getElem? (i := 5) rfl)) (by decide) (m1 l Z a0 hw (v32 + (p1 &&& (7 : Int32)).toInt64) (2147483647 : Int64) h0 n0) at_44 47 rfl (lenOf pd_0 rfl) rfl 0 (Nat.le_of_eq rfl) (by decide) (by decide) 0 0 rfl rfl (by decide) (by decide) rfl (fun r44 h44 q44 => ?_)
  obtain ⟨hr44, rfl⟩ := q44
  refine g_lstore C at_47 49 rfl (fun z' => #[.val (.int p0), .val (.int p1), .val (.int p2), .val (.int p3), .val (.int p4), .val (.int v7), .val (.int v23), .val (.long (2147483647 : Int64)), .second, .val (.long v32), .second, .val (.long z'), .second, .unset, .unset, .unset, .unset, .unset, .unset, .unset, .unset, .unset]) (fun _ => rfl) (fun v47 ev47 => ?_)
  have N1 := own_next g0 (own_m7 p1)
  rw [← hr44, ← ev47] at N1
  have g1 : rg v47 := N1.1
  refine g_lload C at_49 51 rfl rfl ?_
  refine g_iloadN C at_51 52 rfl rfl ?_
  refine g_iconst C at_52 53 rfl (4 : Int32) (by decide) ?_
  refine g_iushr C at_53 54 rfl ?_
  refine g_bipush C at_54 56 rfl (7 : Int32) (by decide) ?_
  refine g_iand C at_56 57 rfl ?_
  refine g_i2l C at_57 58 rfl ?_
  refine g_ladd C at_58 59 rfl ?_
  refine g_lload C at_59 61 rfl rfl ?_
  refine c_staticJ C [(.long (v47 + (((ush p1 (4 : Int32)) &&& (7 : Int32))).toInt64)), (.long (2147483647 : Int64))] [] (hw _ (List.mem_of_getElem? (i := 2) rfl)) (hw _ (List.mem_of_getElem? (i := 3) rfl)) (hw _ (List.mem_of_getElem? (i := 4) rfl)) (hw _ (List.mem_of_getElem? (i := 5) rfl)) (by decide) (m1 l Z a0 hw (v47 + ((ush p1 4) &&& (7 : Int32)).toInt64) (2147483647 : Int64) h0 n0) at_61 64 rfl (lenOf pd_0 rfl) rfl 0 (Nat.le_of_eq rfl) (by decide) (by decide) 0 0 rfl rfl (by decide) (by decide) rfl (fun r61 h61 q61 => ?_)
  obtain ⟨hr61, rfl⟩ := q61
  refine g_lstore C at_64 66 rfl (fun z' => #[.val (.int p0), .val (.int p1), .val (.int p2), .val (.int p3), .val (.int p4), .val (.int v7), .val (.int v23), .val (.long (2147483647 : Int64)), .second, .val (.long v32), .second, .val (.long v47), .second, .val (.long z'), .second, .unset, .unset, .unset, .unset, .unset, .unset, .unset]) (fun _ => rfl) (fun v64 ev64 => ?_)
  have N2 := own_next g1 (own_m7 (ush p1 4))
  rw [← hr61, ← ev64] at N2
  have g2 : rg v64 := N2.1
  refine g_lload C at_66 68 rfl rfl ?_
  refine g_iloadN C at_68 69 rfl rfl ?_
  refine g_bipush C at_69 71 rfl (8 : Int32) (by decide) ?_
  refine g_iushr C at_71 72 rfl ?_
  refine g_bipush C at_72 74 rfl (7 : Int32) (by decide) ?_
  refine g_iand C at_74 75 rfl ?_
  refine g_i2l C at_75 76 rfl ?_
  refine g_ladd C at_76 77 rfl ?_
  refine g_lload C at_77 79 rfl rfl ?_
  refine c_staticJ C [(.long (v64 + (((ush p1 (8 : Int32)) &&& (7 : Int32))).toInt64)), (.long (2147483647 : Int64))] [] (hw _ (List.mem_of_getElem? (i := 2) rfl)) (hw _ (List.mem_of_getElem? (i := 3) rfl)) (hw _ (List.mem_of_getElem? (i := 4) rfl)) (hw _ (List.mem_of_getElem? (i := 5) rfl)) (by decide) (m1 l Z a0 hw (v64 + ((ush p1 8) &&& (7 : Int32)).toInt64) (2147483647 : Int64) h0 n0) at_79 82 rfl (lenOf pd_0 rfl) rfl 0 (Nat.le_of_eq rfl) (by decide) (by decide) 0 0 rfl rfl (by decide) (by decide) rfl (fun r79 h79 q79 => ?_)
  obtain ⟨hr79, rfl⟩ := q79
  refine g_lstore C at_82 84 rfl (fun z' => #[.val (.int p0), .val (.int p1), .val (.int p2), .val (.int p3), .val (.int p4), .val (.int v7), .val (.int v23), .val (.long (2147483647 : Int64)), .second, .val (.long v32), .second, .val (.long v47), .second, .val (.long v64), .second, .val (.long z'), .second, .unset, .unset, .unset, .unset, .unset]) (fun _ => rfl) (fun v82 ev82 => ?_)
  have N3 := own_next g2 (own_m7 (ush p1 8))
  rw [← hr79, ← ev82] at N3
  have g3 : rg v82 := N3.1
  refine g_lload C at_84 86 rfl rfl ?_
  refine g_iloadN C at_86 87 rfl rfl ?_
  refine g_bipush C at_87 89 rfl (12 : Int32) (by decide) ?_
  refine g_iushr C at_89 90 rfl ?_
  refine g_bipush C at_90 92 rfl (7 : Int32) (by decide) ?_
  refine g_iand C at_92 93 rfl ?_
  refine g_i2l C at_93 94 rfl ?_
  refine g_ladd C at_94 95 rfl ?_
  refine g_lload C at_95 97 rfl rfl ?_
  refine c_staticJ C [(.long (v82 + (((ush p1 (12 : Int32)) &&& (7 : Int32))).toInt64)), (.long (2147483647 : Int64))] [] (hw _ (List.mem_of_getElem? (i := 2) rfl)) (hw _ (List.mem_of_getElem? (i := 3) rfl)) (hw _ (List.mem_of_getElem? (i := 4) rfl)) (hw _ (List.mem_of_getElem? (i := 5) rfl)) (by decide) (m1 l Z a0 hw (v82 + ((ush p1 12) &&& (7 : Int32)).toInt64) (2147483647 : Int64) h0 n0) at_97 100 rfl (lenOf pd_0 rfl) rfl 0 (Nat.le_of_eq rfl) (by decide) (by decide) 0 0 rfl rfl (by decide) (by decide) rfl (fun r97 h97 q97 => ?_)
  obtain ⟨hr97, rfl⟩ := q97
  refine g_lstore C at_100 102 rfl (fun z' => #[.val (.int p0), .val (.int p1), .val (.int p2), .val (.int p3), .val (.int p4), .val (.int v7), .val (.int v23), .val (.long (2147483647 : Int64)), .second, .val (.long v32), .second, .val (.long v47), .second, .val (.long v64), .second, .val (.long v82), .second, .val (.long z'), .second, .unset, .unset, .unset]) (fun _ => rfl) (fun v100 ev100 => ?_)
  have N4 := own_next g3 (own_m7 (ush p1 12))
  rw [← hr97, ← ev100] at N4
  have g4 : rg v100 := N4.1
  refine g_iconst C at_102 103 rfl (5 : Int32) (by decide) ?_
  refine g_newarray C (hw _ (List.mem_of_getElem? (i := 6) rfl)) 5 5 ⟨by decide, by decide⟩ (by decide) (by decide) at_103 105 rfl 1 5 rfl rfl (by decide) (by decide) (fun h103 a103 ga103 E103 A103 => ?_)
  have na : n0 ≤ a103 := by rw [ga103]; exact Z0
  refine g_astore C at_105 107 rfl #[.val (.int p0), .val (.int p1), .val (.int p2), .val (.int p3), .val (.int p4), .val (.int v7), .val (.int v23), .val (.long (2147483647 : Int64)), .second, .val (.long v32), .second, .val (.long v47), .second, .val (.long v64), .second, .val (.long v82), .second, .val (.long v100), .second, .val (.ref a103), .unset, .unset] rfl rfl ?_
  refine g_aload C at_107 109 rfl rfl rfl ?_
  refine g_iconst C at_109 110 rfl (0 : Int32) (by decide) ?_
  refine g_iconst C at_110 111 rfl (0 : Int32) (by decide) ?_
  refine g_iload C at_111 113 rfl rfl ?_
  refine g_iload C at_113 115 rfl rfl ?_
  refine g_lload C at_115 117 rfl rfl ?_
  refine c_staticI C [(.int (0 : Int32)), (.int v7), (.int v23), (.long v32)] [(.int (0 : Int32)), (.ref a103)] (hw _ (List.mem_of_getElem? (i := 7) rfl)) (hw _ (List.mem_of_getElem? (i := 8) rfl)) (hw _ (List.mem_of_getElem? (i := 9) rfl)) (hw _ (List.mem_of_getElem? (i := 10) rfl)) (by decide) (m2 l Z a0 hw (0 : Int32) v7 v23 v32 h103 n0) at_117 120 rfl (lenOf pd_1 rfl) rfl 2 (Nat.le_of_eq rfl) (by decide) (by decide) 1 5 rfl rfl (by decide) (by decide) rfl (fun c0 h117 q117 => ?_)
  obtain ⟨hc0, rfl⟩ := q117
  refine g_iastore C A103 0 ⟨by decide, by decide⟩ (by decide) at_120 121 rfl na (fun h120 W120 A120 => ?_)
  refine g_aload C at_121 123 rfl rfl rfl ?_
  refine g_iconst C at_123 124 rfl (1 : Int32) (by decide) ?_
  refine g_iconst C at_124 125 rfl (1 : Int32) (by decide) ?_
  refine g_iload C at_125 127 rfl rfl ?_
  refine g_iload C at_127 129 rfl rfl ?_
  refine g_lload C at_129 131 rfl rfl ?_
  refine c_staticI C [(.int (1 : Int32)), (.int v7), (.int v23), (.long v47)] [(.int (1 : Int32)), (.ref a103)] (hw _ (List.mem_of_getElem? (i := 7) rfl)) (hw _ (List.mem_of_getElem? (i := 8) rfl)) (hw _ (List.mem_of_getElem? (i := 9) rfl)) (hw _ (List.mem_of_getElem? (i := 10) rfl)) (by decide) (m2 l Z a0 hw (1 : Int32) v7 v23 v47 h120 n0) at_131 134 rfl (lenOf pd_1 rfl) rfl 2 (Nat.le_of_eq rfl) (by decide) (by decide) 1 5 rfl rfl (by decide) (by decide) rfl (fun c1 h131 q131 => ?_)
  obtain ⟨hc1, rfl⟩ := q131
  refine g_iastore C A120 1 ⟨by decide, by decide⟩ (by decide) at_134 135 rfl na (fun h134 W134 A134 => ?_)
  refine g_aload C at_135 137 rfl rfl rfl ?_
  refine g_iconst C at_137 138 rfl (2 : Int32) (by decide) ?_
  refine g_iconst C at_138 139 rfl (2 : Int32) (by decide) ?_
  refine g_iload C at_139 141 rfl rfl ?_
  refine g_iload C at_141 143 rfl rfl ?_
  refine g_lload C at_143 145 rfl rfl ?_
  refine c_staticI C [(.int (2 : Int32)), (.int v7), (.int v23), (.long v64)] [(.int (2 : Int32)), (.ref a103)] (hw _ (List.mem_of_getElem? (i := 7) rfl)) (hw _ (List.mem_of_getElem? (i := 8) rfl)) (hw _ (List.mem_of_getElem? (i := 9) rfl)) (hw _ (List.mem_of_getElem? (i := 10) rfl)) (by decide) (m2 l Z a0 hw (2 : Int32) v7 v23 v64 h134 n0) at_145 148 rfl (lenOf pd_1 rfl) rfl 2 (Nat.le_of_eq rfl) (by decide) (by decide) 1 5 rfl rfl (by decide) (by decide) rfl (fun c2 h145 q145 => ?_)
  obtain ⟨hc2, rfl⟩ := q145
  refine g_iastore C A134 2 ⟨by decide, by decide⟩ (by decide) at_148 149 rfl na (fun h148 W148 A148 => ?_)
  refine g_aload C at_149 151 rfl rfl rfl ?_
  refine g_iconst C at_151 152 rfl (3 : Int32) (by decide) ?_
  refine g_iconst C at_152 153 rfl (3 : Int32) (by decide) ?_
  refine g_iload C at_153 155 rfl rfl ?_
  refine g_iload C at_155 157 rfl rfl ?_
  refine g_lload C at_157 159 rfl rfl ?_
  refine c_staticI C [(.int (3 : Int32)), (.int v7), (.int v23), (.long v82)] [(.int (3 : Int32)), (.ref a103)] (hw _ (List.mem_of_getElem? (i := 7) rfl)) (hw _ (List.mem_of_getElem? (i := 8) rfl)) (hw _ (List.mem_of_getElem? (i := 9) rfl)) (hw _ (List.mem_of_getElem? (i := 10) rfl)) (by decide) (m2 l Z a0 hw (3 : Int32) v7 v23 v82 h148 n0) at_159 162 rfl (lenOf pd_1 rfl) rfl 2 (Nat.le_of_eq rfl) (by decide) (by decide) 1 5 rfl rfl (by decide) (by decide) rfl (fun c3 h159 q159 => ?_)
  obtain ⟨hc3, rfl⟩ := q159
  refine g_iastore C A148 3 ⟨by decide, by decide⟩ (by decide) at_162 163 rfl na (fun h162 W162 A162 => ?_)
  refine g_aload C at_163 165 rfl rfl rfl ?_
  refine g_iconst C at_165 166 rfl (4 : Int32) (by decide) ?_
  refine g_iconst C at_166 167 rfl (4 : Int32) (by decide) ?_
  refine g_iload C at_167 169 rfl rfl ?_
  refine g_iload C at_169 171 rfl rfl ?_
  refine g_lload C at_171 173 rfl rfl ?_
  refine c_staticI C [(.int (4 : Int32)), (.int v7), (.int v23), (.long v100)] [(.int (4 : Int32)), (.ref a103)] (hw _ (List.mem_of_getElem? (i := 7) rfl)) (hw _ (List.mem_of_getElem? (i := 8) rfl)) (hw _ (List.mem_of_getElem? (i := 9) rfl)) (hw _ (List.mem_of_getElem? (i := 10) rfl)) (by decide) (m2 l Z a0 hw (4 : Int32) v7 v23 v100 h162 n0) at_173 176 rfl (lenOf pd_1 rfl) rfl 2 (Nat.le_of_eq rfl) (by decide) (by decide) 1 5 rfl rfl (by decide) (by decide) rfl (fun c4 h173 q173 => ?_)
  obtain ⟨hc4, rfl⟩ := q173
  refine g_iastore C A162 4 ⟨by decide, by decide⟩ (by decide) at_176 177 rfl na (fun h176 W176 A176 => ?_)
  have AG : Ary Z h176 a103 .int 5 (fun j => .int (gF c0 c1 c2 c3 c4 j)) := A176.congr (fun j hj => by
    have : j = 0 ∨ j = 1 ∨ j = 2 ∨ j = 3 ∨ j = 4 := by omega
    rcases this with rfl | rfl | rfl | rfl | rfl <;> rfl)
  have hsort : ∀ i j, lo ≤ i → i ≤ j → j < hi → ((gF c0 c1 c2 c3 c4) i).toInt ≤ ((gF c0 c1 c2 c3 c4) j).toInt := own_sorted (g := gF c0 c1 c2 c3 c4) (by omega) N1.2 N2.2 N3.2 N4.2 (fun q1 q2 => by show (c0).toInt = _; rw [hc0]; exact own_cell g0 (fun z => absurd ((Ix.lt (a := 0) (i := 0) ⟨by decide, by decide⟩ xlo).mp z) (by omega)) ((Ix.lt (a := 0) (i := 0) ⟨by decide, by decide⟩ xhi).mpr q2)) (fun q1 q2 => by show (c1).toInt = _; rw [hc1]; exact own_cell g1 (fun z => absurd ((Ix.lt (a := 1) (i := 1) ⟨by decide, by decide⟩ xlo).mp z) (by omega)) ((Ix.lt (a := 1) (i := 1) ⟨by decide, by decide⟩ xhi).mpr q2)) (fun q1 q2 => by show (c2).toInt = _; rw [hc2]; exact own_cell g2 (fun z => absurd ((Ix.lt (a := 2) (i := 2) ⟨by decide, by decide⟩ xlo).mp z) (by omega)) ((Ix.lt (a := 2) (i := 2) ⟨by decide, by decide⟩ xhi).mpr q2)) (fun q1 q2 => by show (c3).toInt = _; rw [hc3]; exact own_cell g3 (fun z => absurd ((Ix.lt (a := 3) (i := 3) ⟨by decide, by decide⟩ xlo).mp z) (by omega)) ((Ix.lt (a := 3) (i := 3) ⟨by decide, by decide⟩ xhi).mpr q2)) (fun q1 q2 => by show (c4).toInt = _; rw [hc4]; exact own_cell g4 (fun z => absurd ((Ix.lt (a := 4) (i := 4) ⟨by decide, by decide⟩ xlo).mp z) (by omega)) ((Ix.lt (a := 4) (i := 4) ⟨by decide, by decide⟩ xhi).mpr q2))
  refine g_iload C at_177 179 rfl rfl ?_
  refine g_istore C at_179 181 rfl (fun z' => #[.val (.int p0), .val (.int p1), .val (.int p2), .val (.int p3), .val (.int p4), .val (.int v7), .val (.int v23), .val (.long (2147483647 : Int64)), .second, .val (.long v32), .second, .val (.long v47), .second, .val (.long v64), .second, .val (.long v82), .second, .val (.long v100), .second, .val (.ref a103), .val (.int z'), .unset]) (fun _ => rfl) (fun v179 ev179 => ?_)
  have J295 : ∀ (rr : Int32) (mm : Nat), Ix rr mm → RR (gF c0 c1 c2 c3 c4) p2 lo hi 0 mm → Go p l e room_1 s m #[(.int p0), (.int p1), (.int p2), (.int p3), (.int p4)] below meth c n0 (qI fun r h => r = 1) h176 1 5 295 #[.val (.int p0), .val (.int p1), .val (.int p2), .val (.int p3), .val (.int p4), .val (.int v7), .val (.int v23), .val (.long (2147483647 : Int64)), .second, .val (.long v32), .second, .val (.long v47), .second, .val (.long v64), .second, .val (.long v82), .second, .val (.long v100), .second, .val (.ref a103), .val (.int rr), .unset] [] := by
    intro rr mm xr hR
    refine g_aload C at_295 297 rfl rfl rfl ?_
    refine g_iloadN C at_297 298 rfl rfl ?_
    refine g_iload C at_298 300 rfl rfl ?_
    refine g_iload C at_300 302 rfl rfl ?_
    refine c_staticI C [(.ref a103), (.int p2), (.int v7), (.int v23)] [] (hw _ (List.mem_of_getElem? (i := 12) rfl)) (hw _ (List.mem_of_getElem? (i := 13) rfl)) (hw _ (List.mem_of_getElem? (i := 14) rfl)) (hw _ (List.mem_of_getElem? (i := 15) rfl)) (by decide) (m3 l Z a0 hw a103 p2 v7 v23 h176 n0 (gF c0 c1 c2 c3 c4) lo hi AG xlo xhi (by omega) (by omega) hsort) at_302 305 rfl (lenOf pd_2 rfl) rfl 0 (Nat.le_of_eq rfl) (by decide) (by decide) 1 5 rfl rfl (by decide) (by decide) rfl (fun r302 h302 q302 => ?_)
    obtain ⟨hr302, rfl⟩ := q302
    obtain ⟨kk, xk, t1, t2, t3, t4⟩ := hr302
    have hk : kk = mm := own_uniq hR t1 t2 t3 t4
    have hrr : r302 = rr := (xk.eq xr).mpr hk
    refine g_istore C at_305 307 rfl (fun z' => #[.val (.int p0), .val (.int p1), .val (.int p2), .val (.int p3), .val (.int p4), .val (.int v7), .val (.int v23), .val (.long (2147483647 : Int64)), .second, .val (.long v32), .second, .val (.long v47), .second, .val (.long v64), .second, .val (.long v82), .second, .val (.long v100), .second, .val (.ref a103), .val (.int rr), .val (.int z')]) (fun _ => rfl) (fun v305 ev305 => ?_)
    refine g_iload C at_307 309 rfl rfl ?_
    refine g_iload C at_309 311 rfl rfl ?_
    refine g_if_icmpne C at_311 318 (by decide) 314 rfl (fun k311 => ?_) (fun k311 => ?_)
    · exact absurd (ev305.trans hrr) k311
    · refine g_iconst C at_314 315 rfl (1 : Int32) (by decide) ?_
      refine g_goto C at_315 319 (by decide) ?_
      refine r_nar C (by simp) at_319 (by decide) (by decide) rfl
  have J273 : ∀ (rr : Int32) (mm : Nat), Ix rr mm → RR (gF c0 c1 c2 c3 c4) p2 lo hi 1 mm → Go p l e room_1 s m #[(.int p0), (.int p1), (.int p2), (.int p3), (.int p4)] below meth c n0 (qI fun r h => r = 1) h176 1 5 273 #[.val (.int p0), .val (.int p1), .val (.int p2), .val (.int p3), .val (.int p4), .val (.int v7), .val (.int v23), .val (.long (2147483647 : Int64)), .second, .val (.long v32), .second, .val (.long v47), .second, .val (.long v64), .second, .val (.long v82), .second, .val (.long v100), .second, .val (.ref a103), .val (.int rr), .unset] [] := by
    intro rr mm xr hR
    refine g_iload C at_273 275 rfl rfl ?_
    refine g_ifgt C at_275 295 (by decide) 278 rfl (fun k275 => ?_) (fun k275 => ?_)
    · exact J295 rr mm xr (hR.miss (fun q _ => absurd ((Ix.lt (a := 0) (i := 0) ⟨by decide, by decide⟩ xlo).mp k275) (by omega)))
    · refine g_iconst C at_278 279 rfl (0 : Int32) (by decide) ?_
      refine g_iload C at_279 281 rfl rfl ?_
      refine g_if_icmpge C at_281 295 (by decide) 284 rfl (fun k281 => ?_) (fun k281 => ?_)
      · exact J295 rr mm xr (hR.miss (fun _ q => absurd ((Ix.lt (a := 0) (i := 0) ⟨by decide, by decide⟩ xhi).mpr q) k281))
      · refine g_aload C at_284 286 rfl rfl rfl ?_
        refine g_iconst C at_286 287 rfl (0 : Int32) (by decide) ?_
        refine g_iaload C AG 0 ⟨by decide, by decide⟩ (by decide) (.int (gF c0 c1 c2 c3 c4 0)) rfl at_287 288 rfl ?_
        refine g_iloadN C at_288 289 rfl rfl ?_
        refine g_if_icmple C at_289 295 (by decide) 292 rfl (fun k289 => ?_) (fun k289 => ?_)
        · exact J295 rr mm xr (hR.miss (fun _ _ => k289))
        · refine g_iconst C at_292 293 rfl (0 : Int32) (by decide) ?_
          refine g_istore C at_293 295 rfl (fun z' => #[.val (.int p0), .val (.int p1), .val (.int p2), .val (.int p3), .val (.int p4), .val (.int v7), .val (.int v23), .val (.long (2147483647 : Int64)), .second, .val (.long v32), .second, .val (.long v47), .second, .val (.long v64), .second, .val (.long v82), .second, .val (.long v100), .second, .val (.ref a103), .val (.int z'), .unset]) (fun _ => rfl) (fun v293 ev293 => ?_)
          subst ev293
          exact J295 (0 : Int32) 0 ⟨by decide, by decide⟩ (RR.hit (by have hh := mt (Ix.lt (a := 0) (i := 0) ⟨by decide, by decide⟩ xlo).mpr k275; omega) ((Ix.lt (a := 0) (i := 0) ⟨by decide, by decide⟩ xhi).mp k281) k289)
  have J250 : ∀ (rr : Int32) (mm : Nat), Ix rr mm → RR (gF c0 c1 c2 c3 c4) p2 lo hi 2 mm → Go p l e room_1 s m #[(.int p0), (.int p1), (.int p2), (.int p3), (.int p4)] below meth c n0 (qI fun r h => r = 1) h176 1 5 250 #[.val (.int p0), .val (.int p1), .val (.int p2), .val (.int p3), .val (.int p4), .val (.int v7), .val (.int v23), .val (.long (2147483647 : Int64)), .second, .val (.long v32), .second, .val (.long v47), .second, .val (.long v64), .second, .val (.long v82), .second, .val (.long v100), .second, .val (.ref a103), .val (.int rr), .unset] [] := by
    intro rr mm xr hR
    refine g_iload C at_250 252 rfl rfl ?_
    refine g_iconst C at_252 253 rfl (1 : Int32) (by decide) ?_
    refine g_if_icmpgt C at_253 273 (by decide) 256 rfl (fun k253 => ?_) (fun k253 => ?_)
    · exact J273 rr mm xr (hR.miss (fun q _ => absurd ((Ix.lt (a := 1) (i := 1) ⟨by decide, by decide⟩ xlo).mp k253) (by omega)))
    · refine g_iconst C at_256 257 rfl (1 : Int32) (by decide) ?_
      refine g_iload C at_257 259 rfl rfl ?_
      refine g_if_icmpge C at_259 273 (by decide) 262 rfl (fun k259 => ?_) (fun k259 => ?_)
      · exact J273 rr mm xr (hR.miss (fun _ q => absurd ((Ix.lt (a := 1) (i := 1) ⟨by decide, by decide⟩ xhi).mpr q) k259))
      · refine g_aload C at_262 264 rfl rfl rfl ?_
        refine g_iconst C at_264 265 rfl (1 : Int32) (by decide) ?_
        refine g_iaload C AG 1 ⟨by decide, by decide⟩ (by decide) (.int (gF c0 c1 c2 c3 c4 1)) rfl at_265 266 rfl ?_
        refine g_iloadN C at_266 267 rfl rfl ?_
        refine g_if_icmple C at_267 273 (by decide) 270 rfl (fun k267 => ?_) (fun k267 => ?_)
        · exact J273 rr mm xr (hR.miss (fun _ _ => k267))
        · refine g_iconst C at_270 271 rfl (1 : Int32) (by decide) ?_
          refine g_istore C at_271 273 rfl (fun z' => #[.val (.int p0), .val (.int p1), .val (.int p2), .val (.int p3), .val (.int p4), .val (.int v7), .val (.int v23), .val (.long (2147483647 : Int64)), .second, .val (.long v32), .second, .val (.long v47), .second, .val (.long v64), .second, .val (.long v82), .second, .val (.long v100), .second, .val (.ref a103), .val (.int z'), .unset]) (fun _ => rfl) (fun v271 ev271 => ?_)
          subst ev271
          exact J273 (1 : Int32) 1 ⟨by decide, by decide⟩ (RR.hit (by have hh := mt (Ix.lt (a := 1) (i := 1) ⟨by decide, by decide⟩ xlo).mpr k253; omega) ((Ix.lt (a := 1) (i := 1) ⟨by decide, by decide⟩ xhi).mp k259) k267)
  have J227 : ∀ (rr : Int32) (mm : Nat), Ix rr mm → RR (gF c0 c1 c2 c3 c4) p2 lo hi 3 mm → Go p l e room_1 s m #[(.int p0), (.int p1), (.int p2), (.int p3), (.int p4)] below meth c n0 (qI fun r h => r = 1) h176 1 5 227 #[.val (.int p0), .val (.int p1), .val (.int p2), .val (.int p3), .val (.int p4), .val (.int v7), .val (.int v23), .val (.long (2147483647 : Int64)), .second, .val (.long v32), .second, .val (.long v47), .second, .val (.long v64), .second, .val (.long v82), .second, .val (.long v100), .second, .val (.ref a103), .val (.int rr), .unset] [] := by
    intro rr mm xr hR
    refine g_iload C at_227 229 rfl rfl ?_
    refine g_iconst C at_229 230 rfl (2 : Int32) (by decide) ?_
    refine g_if_icmpgt C at_230 250 (by decide) 233 rfl (fun k230 => ?_) (fun k230 => ?_)
    · exact J250 rr mm xr (hR.miss (fun q _ => absurd ((Ix.lt (a := 2) (i := 2) ⟨by decide, by decide⟩ xlo).mp k230) (by omega)))
    · refine g_iconst C at_233 234 rfl (2 : Int32) (by decide) ?_
      refine g_iload C at_234 236 rfl rfl ?_
      refine g_if_icmpge C at_236 250 (by decide) 239 rfl (fun k236 => ?_) (fun k236 => ?_)
      · exact J250 rr mm xr (hR.miss (fun _ q => absurd ((Ix.lt (a := 2) (i := 2) ⟨by decide, by decide⟩ xhi).mpr q) k236))
      · refine g_aload C at_239 241 rfl rfl rfl ?_
        refine g_iconst C at_241 242 rfl (2 : Int32) (by decide) ?_
        refine g_iaload C AG 2 ⟨by decide, by decide⟩ (by decide) (.int (gF c0 c1 c2 c3 c4 2)) rfl at_242 243 rfl ?_
        refine g_iloadN C at_243 244 rfl rfl ?_
        refine g_if_icmple C at_244 250 (by decide) 247 rfl (fun k244 => ?_) (fun k244 => ?_)
        · exact J250 rr mm xr (hR.miss (fun _ _ => k244))
        · refine g_iconst C at_247 248 rfl (2 : Int32) (by decide) ?_
          refine g_istore C at_248 250 rfl (fun z' => #[.val (.int p0), .val (.int p1), .val (.int p2), .val (.int p3), .val (.int p4), .val (.int v7), .val (.int v23), .val (.long (2147483647 : Int64)), .second, .val (.long v32), .second, .val (.long v47), .second, .val (.long v64), .second, .val (.long v82), .second, .val (.long v100), .second, .val (.ref a103), .val (.int z'), .unset]) (fun _ => rfl) (fun v248 ev248 => ?_)
          subst ev248
          exact J250 (2 : Int32) 2 ⟨by decide, by decide⟩ (RR.hit (by have hh := mt (Ix.lt (a := 2) (i := 2) ⟨by decide, by decide⟩ xlo).mpr k230; omega) ((Ix.lt (a := 2) (i := 2) ⟨by decide, by decide⟩ xhi).mp k236) k244)
  have J204 : ∀ (rr : Int32) (mm : Nat), Ix rr mm → RR (gF c0 c1 c2 c3 c4) p2 lo hi 4 mm → Go p l e room_1 s m #[(.int p0), (.int p1), (.int p2), (.int p3), (.int p4)] below meth c n0 (qI fun r h => r = 1) h176 1 5 204 #[.val (.int p0), .val (.int p1), .val (.int p2), .val (.int p3), .val (.int p4), .val (.int v7), .val (.int v23), .val (.long (2147483647 : Int64)), .second, .val (.long v32), .second, .val (.long v47), .second, .val (.long v64), .second, .val (.long v82), .second, .val (.long v100), .second, .val (.ref a103), .val (.int rr), .unset] [] := by
    intro rr mm xr hR
    refine g_iload C at_204 206 rfl rfl ?_
    refine g_iconst C at_206 207 rfl (3 : Int32) (by decide) ?_
    refine g_if_icmpgt C at_207 227 (by decide) 210 rfl (fun k207 => ?_) (fun k207 => ?_)
    · exact J227 rr mm xr (hR.miss (fun q _ => absurd ((Ix.lt (a := 3) (i := 3) ⟨by decide, by decide⟩ xlo).mp k207) (by omega)))
    · refine g_iconst C at_210 211 rfl (3 : Int32) (by decide) ?_
      refine g_iload C at_211 213 rfl rfl ?_
      refine g_if_icmpge C at_213 227 (by decide) 216 rfl (fun k213 => ?_) (fun k213 => ?_)
      · exact J227 rr mm xr (hR.miss (fun _ q => absurd ((Ix.lt (a := 3) (i := 3) ⟨by decide, by decide⟩ xhi).mpr q) k213))
      · refine g_aload C at_216 218 rfl rfl rfl ?_
        refine g_iconst C at_218 219 rfl (3 : Int32) (by decide) ?_
        refine g_iaload C AG 3 ⟨by decide, by decide⟩ (by decide) (.int (gF c0 c1 c2 c3 c4 3)) rfl at_219 220 rfl ?_
        refine g_iloadN C at_220 221 rfl rfl ?_
        refine g_if_icmple C at_221 227 (by decide) 224 rfl (fun k221 => ?_) (fun k221 => ?_)
        · exact J227 rr mm xr (hR.miss (fun _ _ => k221))
        · refine g_iconst C at_224 225 rfl (3 : Int32) (by decide) ?_
          refine g_istore C at_225 227 rfl (fun z' => #[.val (.int p0), .val (.int p1), .val (.int p2), .val (.int p3), .val (.int p4), .val (.int v7), .val (.int v23), .val (.long (2147483647 : Int64)), .second, .val (.long v32), .second, .val (.long v47), .second, .val (.long v64), .second, .val (.long v82), .second, .val (.long v100), .second, .val (.ref a103), .val (.int z'), .unset]) (fun _ => rfl) (fun v225 ev225 => ?_)
          subst ev225
          exact J227 (3 : Int32) 3 ⟨by decide, by decide⟩ (RR.hit (by have hh := mt (Ix.lt (a := 3) (i := 3) ⟨by decide, by decide⟩ xlo).mpr k207; omega) ((Ix.lt (a := 3) (i := 3) ⟨by decide, by decide⟩ xhi).mp k213) k221)
  have xr : Ix v179 hi := by rw [ev179]; exact xhi
  obtain ⟨mm, hmm⟩ : ∃ z, z = hi := ⟨_, rfl⟩
  have hR : RR (gF c0 c1 c2 c3 c4) p2 lo hi 5 mm := by rw [hmm]; exact RR.top (by omega)
  rw [← hmm] at xr
  refine g_iload C at_181 183 rfl rfl ?_
  refine g_iconst C at_183 184 rfl (4 : Int32) (by decide) ?_
  refine g_if_icmpgt C at_184 204 (by decide) 187 rfl (fun k184 => ?_) (fun k184 => ?_)
  · exact J204 v179 mm xr (hR.miss (fun q _ => absurd ((Ix.lt (a := 4) (i := 4) ⟨by decide, by decide⟩ xlo).mp k184) (by omega)))
  · refine g_iconst C at_187 188 rfl (4 : Int32) (by decide) ?_
    refine g_iload C at_188 190 rfl rfl ?_
    refine g_if_icmpge C at_190 204 (by decide) 193 rfl (fun k190 => ?_) (fun k190 => ?_)
    · exact J204 v179 mm xr (hR.miss (fun _ q => absurd ((Ix.lt (a := 4) (i := 4) ⟨by decide, by decide⟩ xhi).mpr q) k190))
    · refine g_aload C at_193 195 rfl rfl rfl ?_
      refine g_iconst C at_195 196 rfl (4 : Int32) (by decide) ?_
      refine g_iaload C AG 4 ⟨by decide, by decide⟩ (by decide) (.int (gF c0 c1 c2 c3 c4 4)) rfl at_196 197 rfl ?_
      refine g_iloadN C at_197 198 rfl rfl ?_
      refine g_if_icmple C at_198 204 (by decide) 201 rfl (fun k198 => ?_) (fun k198 => ?_)
      · exact J204 v179 mm xr (hR.miss (fun _ _ => k198))
      · refine g_iconst C at_201 202 rfl (4 : Int32) (by decide) ?_
        refine g_istore C at_202 204 rfl (fun z' => #[.val (.int p0), .val (.int p1), .val (.int p2), .val (.int p3), .val (.int p4), .val (.int v7), .val (.int v23), .val (.long (2147483647 : Int64)), .second, .val (.long v32), .second, .val (.long v47), .second, .val (.long v64), .second, .val (.long v82), .second, .val (.long v100), .second, .val (.ref a103), .val (.int z'), .unset]) (fun _ => rfl) (fun v202 ev202 => ?_)
        subst ev202
        exact J204 (4 : Int32) 4 ⟨by decide, by decide⟩ (RR.hit (by have hh := mt (Ix.lt (a := 4) (i := 4) ⟨by decide, by decide⟩ xlo).mpr k184; omega) ((Ix.lt (a := 4) (i := 4) ⟨by decide, by decide⟩ xhi).mp k190) k198)
set_option maxRecDepth 65536 in
set_option maxHeartbeats 40000000 in
theorem comes_1 {Post : Tables → Env → Array Value → State → Outcome → State → Prop} (hpost : ∀ tb e args s v u, (limb_1_1.after args s (.returned v) u = true ∧ limb_1_2.after args s (.returned v) u = true ∧ True) → FrameEnd s (.returned v) u (Jvm.fieldLocs frame_1_writes args s ++ Jvm.arrayLocs frame_1_arrays args s ++ Jvm.staticLocs frame_1_statics s) 16 128 → Post tb e args s (.returned v) u) :
    ArmFor flags0 classFile x code maxLocals ret World_1 tables_1 room_1 Calls_1 rest_1 Pre_1 Post := by
  intro l hfl _ _ p e ha hc hk s m args below hf hA hF happ hP
  obtain ⟨hcalls, hrest, hpre⟩ := hP
  obtain ⟨-, -, -, hnamed, -, -, -, hat⟩ := (Spec.applies_iff hf).mp happ
  obtain ⟨hg, hn⟩ := and_e (Cond.before_iff.mp (show (Jvm.Cond.and given_1 narrow_1).before args s = true from hpre))
  obtain ⟨h1, g0⟩ := and_e hg
  obtain ⟨w0, w1, w2, w3, w4, rfl⟩ : ∃ w0 w1 w2 w3 w4 : Value, args = #[w0, w1, w2, w3, w4] := by
    have hs : args.size = 5 := by simpa [Cond.value, given_1] using h1
    obtain ⟨L⟩ := args
    match L, hs with
    | [w0, w1, w2, w3, w4], _ => exact ⟨w0, w1, w2, w3, w4, rfl⟩
  have hw := fun d (hd : d ∈ tables_1) => atoms_spec (ws := Jvm.Cond.code x code maxLocals ret :: tables_1) hat d (List.mem_cons_of_mem _ hd)
  obtain ⟨b0, g1⟩ := and_e g0
  obtain ⟨i0, q0⟩ := is_v b0
  obtain rfl : w0 = (.int i0) := Option.some.inj q0
  obtain ⟨b1, g2⟩ := and_e g1
  obtain ⟨i1, q1⟩ := is_v b1
  obtain rfl : w1 = (.int i1) := Option.some.inj q1
  obtain ⟨b2, g3⟩ := and_e g2
  obtain ⟨i2, q2⟩ := is_v b2
  obtain rfl : w2 = (.int i2) := Option.some.inj q2
  obtain ⟨b3, g4⟩ := and_e g3
  obtain ⟨i3, q3⟩ := is_v b3
  obtain rfl : w3 = (.int i3) := Option.some.inj q3
  obtain ⟨i4, q4⟩ := is_v g4
  obtain rfl : w4 = (.int i4) := Option.some.inj q4
  obtain ⟨n, o, h1, h2, h3, _, L, rfl, ⟨⟨r, rfl, rfl⟩, N⟩, hq⟩ := m0 l s _ hw i0 i1 i2 i3 i4 s.heap s.heap.size (Nat.le_refl _) tables_1 p e ha hc hk s m _ below hf ((Spec.applies_iff_loose hf).mp happ).1 ⟨rfl, State.Warmed39.refl s, rfl⟩ trivial
  refine ⟨n, _, h1, h2, h3, hpost _ _ _ _ _ _ ⟨Cond.after_iff.mpr rfl, Cond.after_iff.mpr (eq_i res_at (Term.int_eval (1)) rfl), trivial⟩ ⟨hq.1, hq.2.1, (hq.2.2.sift fun y hy => Or.inr (N y hy)).mono (by decide) (by decide)⟩⟩
theorem main_1_1 : Claimed_1_1 := comes_1 fun _ _ _ _ _ _ h hF => ⟨h.1, hF⟩
theorem main_1_2 : Claimed_1_2 := comes_1 fun _ _ _ _ _ _ h hF => ⟨h.2.1, hF⟩
end Jvm.Pilot.@@N@@
namespace Jvm.Pilot.@@N@@
open Jvm Jvm.ClassFile Sem Op Lib Jvm.Free Jvm.Stand Jvm.Pilot.@@N@@.Jvm.D
/-! MADE BY PROGRAM (witnessworld.py) out of the Statement's table words and the real class files: 10 classes; the members and pool entries that the words name. The judged class is class 1, her method 2. -/
namespace start1
open Jvm.ClassFile
def u (s : String) : CpInfo := .utf8 (stringToUtf16 s)
/-- a pool by its gaps: so many unusable entries, then the entry; so many at the end -/
def gap : Nat → List CpInfo → List CpInfo
  | 0, r => r
  | n + 1, r => .unusable :: gap n r
def poolList (es : List (Nat × CpInfo)) (last : Nat) : List CpInfo := es.foldr (fun e r => gap e.1 (e.2 :: r)) (gap last [])
def pool (es : List (Nat × CpInfo)) (last : Nat) : Array CpInfo := ⟨poolList es last⟩
def fileOf (pool : Array CpInfo) (this : Nat) (attrs : Array Attribute := #[]) (ms : Array MethodInfo := #[]) (fl : Nat := 33) (sup : Nat := 0) (ifs : Array Nat := #[]) (fds : Array FieldInfo := #[]) : ClassFile where
  minorVersion := 0
  majorVersion := 65
  constantPool := pool
  accessFlags := fl
  thisClass := this
  superClass := sup
  interfaces := ifs
  fields := fds
  methods := ms
  attributes := attrs
def plain (name : String) (sup : Option ClassId) : Class where
  name := name
  kind := .ordinary
  loader := none
  accessFlags := 33
  super := sup
  interfaces := #[]
  cf := none
  fields := #[]
  methods := #[]
  instanceTypes := #[]
  staticTypes := #[]
  resolved := #[]
  callSites := []
  init := .initialized
  statics := none
  mirror := none

def pool0 : Array CpInfo := pool [(5, u "<init>"), (0, u "()V"), (1, .class_ 10), (1, u "java/lang/Object")] 113

def k0m0 : Method := { name := "<init>", desc := "()V", sig := { parameters := [], returnType := none }, accessFlags := 1, code := none }
/-- java/lang/Object -/
def k0 : Class := { plain "java/lang/Object" none with
  accessFlags := 33
  interfaces := #[]
  cf := some (fileOf pool0 8 #[] #[{ accessFlags := 1, nameIndex := 5, descriptorIndex := 6, attributes := #[] }] 33 0 #[] #[])
  fields := #[]
  methods := #[k0m0]
  instanceTypes := #[]
  staticTypes := #[]
  resolved := Array.replicate 124 none
  statics := none }

def pool1 : Array CpInfo := pool [(2, .class_ 4), (1, u "java/lang/Object"), (0, u "<init>"), (0, u "()V"), (2, .integer 2147483647), (0, .integer 2147483648), (0, .long 2147483647), (1, .methodref 14 15), (0, .class_ 16), (0, .nameAndType 17 18), (0, u "java/lang/Math"), (0, u "min"), (0, u "(JJ)J"), (0, .methodref 20 21), (0, .class_ 22), (0, .nameAndType 23 24), (0, u "com/example/gauzy_branch/gauzybranch/util/SortedIntsFirstAbovePinLaw"), (0, u "cell"), (0, u "(IIIJ)I"), (0, .methodref 26 27), (0, .class_ 28), (0, .nameAndType 29 30), (0, u "com/example/gauzy_branch/gauzybranch/util/SortedInts"), (0, u "firstAbove"), (0, u "([IIII)I"), (3, u "law"), (0, u "(IIIII)Z")] 4

def k1m0 : Method := { name := "<init>", desc := "()V", sig := { parameters := [], returnType := none }, accessFlags := 2, code := none }
def k1c1 : Code := { maxStack := 2, maxLocals := 5, code := method_2_code, exceptionTable := #[], attributes := #[] }
def k1m1 : Method := { name := "cell", desc := "(IIIJ)I", sig := { parameters := [.int, .int, .int, .long], returnType := some .int }, accessFlags := 10, code := some k1c1 }
def k1c2 : Code := { maxStack := 7, maxLocals := 22, code := code, exceptionTable := #[], attributes := #[] }
def k1m2 : Method := { name := "law", desc := "(IIIII)Z", sig := { parameters := [.int, .int, .int, .int, .int], returnType := some .boolean }, accessFlags := 9, code := some k1c2 }
/-- com/example/gauzy_branch/gauzybranch/util/SortedIntsFirstAbovePinLaw -/
def k1 : Class := { plain "com/example/gauzy_branch/gauzybranch/util/SortedIntsFirstAbovePinLaw" (some 0) with
  accessFlags := 49
  interfaces := #[]
  cf := some (fileOf pool1 20 #[] #[{ accessFlags := 2, nameIndex := 5, descriptorIndex := 6, attributes := #[] }, { accessFlags := 10, nameIndex := 23, descriptorIndex := 24, attributes := #[] }, { accessFlags := 9, nameIndex := 34, descriptorIndex := 35, attributes := #[] }] 49 2 #[] #[])
  fields := #[]
  methods := #[k1m0, k1m1, k1m2]
  instanceTypes := #[]
  staticTypes := #[]
  resolved := Array.replicate 40 none
  statics := none }

def pool2 : Array CpInfo := pool [(1, .class_ 2), (0, u "java/lang/Math"), (1, .class_ 6), (1, u "java/lang/Object"), (0, u "<init>"), (0, u "()V"), (89, .class_ 100), (1, u "java/lang/Math$RandomNumberGeneratorHolder"), (20, u "(JJ)J"), (50, u "negativeZeroFloatBits"), (0, u "J"), (2, u "negativeZeroDoubleBits"), (24, u "min"), (43, u "$assertionsDisabled"), (0, u "Z"), (91, u "twoToTheDoubleScaleDown"), (0, u "D"), (4, u "twoToTheDoubleScaleUp"), (9, u "E"), (3, u "PI"), (2, u "TAU"), (2, u "DEGREES_TO_RADIANS"), (0, u "RADIANS_TO_DEGREES")] 94

def k2m0 : Method := { name := "<init>", desc := "()V", sig := { parameters := [], returnType := none }, accessFlags := 2, code := none }
def k2c1 : Code := { maxStack := 4, maxLocals := 4, code := jdk_29_method_70_code, exceptionTable := #[], attributes := #[] }
def k2m1 : Method := { name := "min", desc := "(JJ)J", sig := { parameters := [.long, .long], returnType := some .long }, accessFlags := 9, code := some k2c1 }
/-- java/lang/Math -/
def k2 : Class := { plain "java/lang/Math" (some 0) with
  accessFlags := 49
  interfaces := #[]
  cf := some (fileOf pool2 1 #[.nestMembers #[98]] #[{ accessFlags := 2, nameIndex := 7, descriptorIndex := 8, attributes := #[] }, { accessFlags := 9, nameIndex := 201, descriptorIndex := 121, attributes := #[] }] 49 4 #[] #[{ accessFlags := 25, nameIndex := 354, descriptorIndex := 339, attributes := #[] }, { accessFlags := 25, nameIndex := 358, descriptorIndex := 339, attributes := #[] }, { accessFlags := 25, nameIndex := 361, descriptorIndex := 339, attributes := #[] }, { accessFlags := 26, nameIndex := 364, descriptorIndex := 339, attributes := #[] }, { accessFlags := 26, nameIndex := 365, descriptorIndex := 339, attributes := #[] }, { accessFlags := 26, nameIndex := 172, descriptorIndex := 173, attributes := #[] }, { accessFlags := 26, nameIndex := 176, descriptorIndex := 173, attributes := #[] }, { accessFlags := 8, nameIndex := 344, descriptorIndex := 339, attributes := #[] }, { accessFlags := 8, nameIndex := 338, descriptorIndex := 339, attributes := #[] }, { accessFlags := 4120, nameIndex := 245, descriptorIndex := 246, attributes := #[] }])
  fields := #[{ name := "E", type := .double, accessFlags := 25, slot := 0, constantValue := 0 }, { name := "PI", type := .double, accessFlags := 25, slot := 1, constantValue := 0 }, { name := "TAU", type := .double, accessFlags := 25, slot := 2, constantValue := 0 }, { name := "DEGREES_TO_RADIANS", type := .double, accessFlags := 26, slot := 3, constantValue := 0 }, { name := "RADIANS_TO_DEGREES", type := .double, accessFlags := 26, slot := 4, constantValue := 0 }, { name := "negativeZeroFloatBits", type := .long, accessFlags := 26, slot := 5, constantValue := 0 }, { name := "negativeZeroDoubleBits", type := .long, accessFlags := 26, slot := 6, constantValue := 0 }, { name := "twoToTheDoubleScaleUp", type := .double, accessFlags := 8, slot := 7, constantValue := 0 }, { name := "twoToTheDoubleScaleDown", type := .double, accessFlags := 8, slot := 8, constantValue := 0 }, { name := "$assertionsDisabled", type := .boolean, accessFlags := 4120, slot := 9, constantValue := 0 }]
  methods := #[k2m0, k2m1]
  instanceTypes := #[]
  staticTypes := #[.double, .double, .double, .double, .double, .long, .long, .double, .double, .boolean]
  resolved := Array.replicate 460 none
  statics := none }

def pool3 : Array CpInfo := pool [(2, .class_ 4), (1, u "java/lang/Object"), (0, u "<init>"), (0, u "()V"), (0, .class_ 8), (0, u "com/example/gauzy_branch/gauzybranch/util/SortedInts"), (2, u "firstAbove"), (0, u "([IIII)I")] 3

def k3m0 : Method := { name := "<init>", desc := "()V", sig := { parameters := [], returnType := none }, accessFlags := 2, code := none }
def k3c1 : Code := { maxStack := 2, maxLocals := 7, code := prog_145_method_2_code, exceptionTable := #[], attributes := #[] }
def k3m1 : Method := { name := "firstAbove", desc := "([IIII)I", sig := { parameters := [(.array .int), .int, .int, .int], returnType := some .int }, accessFlags := 9, code := some k3c1 }
/-- com/example/gauzy_branch/gauzybranch/util/SortedInts -/
def k3 : Class := { plain "com/example/gauzy_branch/gauzybranch/util/SortedInts" (some 0) with
  accessFlags := 33
  interfaces := #[]
  cf := some (fileOf pool3 7 #[] #[{ accessFlags := 2, nameIndex := 5, descriptorIndex := 6, attributes := #[] }, { accessFlags := 9, nameIndex := 11, descriptorIndex := 12, attributes := #[] }] 33 2 #[] #[])
  fields := #[]
  methods := #[k3m0, k3m1]
  instanceTypes := #[]
  staticTypes := #[]
  resolved := Array.replicate 16 none
  statics := none }

def pool4 : Array CpInfo := pool [(1, u "java/lang/Cloneable"), (0, .class_ 1), (0, u "java/lang/Object"), (0, .class_ 3)] 3

/-- java/lang/Cloneable -/
def k4 : Class := { plain "java/lang/Cloneable" (some 0) with
  accessFlags := 1537
  interfaces := #[]
  cf := some (fileOf pool4 2 #[] #[] 1537 4 #[] #[])
  fields := #[]
  methods := #[]
  instanceTypes := #[]
  staticTypes := #[]
  resolved := Array.replicate 8 none
  statics := none }

def pool5 : Array CpInfo := pool [(1, u "java/io/Serializable"), (0, .class_ 1), (0, u "java/lang/Object"), (0, .class_ 3)] 3

/-- java/io/Serializable -/
def k5 : Class := { plain "java/io/Serializable" (some 0) with
  accessFlags := 1537
  interfaces := #[]
  cf := some (fileOf pool5 2 #[] #[] 1537 4 #[] #[])
  fields := #[]
  methods := #[]
  instanceTypes := #[]
  staticTypes := #[]
  resolved := Array.replicate 8 none
  statics := none }

/-- the primitive byte -/
def k6 : Class := { plain "byte" none with kind := .primitive 'B', accessFlags := 0x411 }
/-- [B -/
def k7 : Class := { plain "[B" (some 0) with kind := .array 6 .byte, interfaces := #[4, 5], accessFlags := 1041 }

/-- the primitive int -/
def k8 : Class := { plain "int" none with kind := .primitive 'I', accessFlags := 0x411 }
/-- [I -/
def k9 : Class := { plain "[I" (some 0) with kind := .array 8 .int, interfaces := #[4, 5], accessFlags := 1041 }

def heap : Heap := #[]
def classes : Array Class := #[k0, k1, k2, k3, k4, k5, k6, k7, k8, k9]
def interned : List (Array UInt16 × Addr) := []
def slotsUsed : Nat := 0
def theMethod : MethodId := ⟨1, 2⟩
def args0 : Array Value := #[.int 5, .int 5, .int 5, .int 5, .int 5]
def aboutOver (below : List Frame) : State where
  vm := { classes := classes, interned := interned.toArray }
  heap := heap
  slotsUsed := slotsUsed
  threads := #[{ frames := .invoking theMethod args0 :: below }]
def below0 : List Frame := [.native { method := ⟨0, 0⟩, args := #[] }]
def about1 : State := aboutOver below0
def p0 : Program := .bare "" "" ""
def e0 : Env := launch0.env 0 0 0
theorem w_frames : about1.frames = Frame.invoking theMethod args0 :: below0 := rfl
set_option maxRecDepth 65536 in
theorem w_args : argsFit about1.vm theMethod args0 = true := by decide +kernel
set_option maxRecDepth 65536 in
theorem w_heap : heapFits about1 = true := by decide +kernel
set_option maxRecDepth 65536 in
theorem w_runnable : about1.curStatus? = some .runnable := by decide +kernel
set_option maxRecDepth 65536 in
theorem w_alone : about1.alone = true := by decide +kernel
set_option maxRecDepth 65536 in
theorem w_named : about1.methodNamed? x = some theMethod := by decide +kernel
set_option maxRecDepth 65536 in
theorem w_hears : about1.hears theMethod below0 = true := by decide +kernel
set_option maxRecDepth 65536 in
theorem w_ripe : about1.ripe theMethod args0 below0 = true := by decide +kernel
theorem w_running : about1.status = .running := rfl
set_option maxRecDepth 65536 in
theorem w_room : about1.hasRoom e0.platform room_1 = true :=
  launch0.hasRoom_least _ room_1 (by decide +kernel) (by decide +kernel) (by decide +kernel) (by decide +kernel) (by decide +kernel) (by decide +kernel)
theorem allAtoms_all (ts : List Jvm.Cond) (a : Array Jvm.Value) (st : Jvm.State) : (allAtoms ts).before a st = ts.all (fun c => c.before a st) := by
  induction ts with
  | nil => rfl
  | cons c t ih =>
    show (Jvm.Cond.and c (allAtoms t)).before a st = _
    rw [Jvm.Cond.before_and, ih, List.all_cons]
def words1 : List Jvm.Cond := Jvm.Cond.code x code maxLocals ret :: tables_1
/-- a 'code' word, met by the world's own term for the bytes: nothing is compared byte by byte -/
theorem code_word {y : MethodName} {bytes : ByteArray} {mx : Nat} {rt : Option FieldType} {a : Array Value} {s : State} {m : MethodId} {meth : Method} {c : Code} (h1 : s.methodNamed? y = some m) (h2 : s.vm.method? m = some meth) (h3 : meth.code = some c) (h4 : c.code = bytes)
    (h5 : (c.maxLocals == mx && c.exceptionTable.isEmpty && decide (c.maxStack ≤ mostOperands) && decide (meth.sig.returnType = rt) && !meth.locks && decide (parseMethodDescriptor y.desc = some meth.sig)) = true) : (Jvm.Cond.code y bytes mx rt).before a s = true := by
  simp only [Bool.and_eq_true, beq_iff_eq, Bool.not_eq_true', decide_eq_true_eq] at h5
  obtain ⟨⟨⟨⟨⟨g1, g2⟩, g3⟩, g4⟩, g5⟩, g6⟩ := h5
  simp [Cond.before, Cond.holds, Cond.value, h1, h2, h3, h4, g1, g2, g3, g4, g5, g6]
def isCode : Jvm.Cond → Bool
  | .code _ _ _ _ => true
  | _ => false
theorem all_split {L : List Jvm.Cond} {P : Jvm.Cond → Bool} (h1 : L.all (fun c => isCode c || P c) = true) (h2 : ∀ c ∈ L.filter isCode, P c = true) : L.all P = true := by
  refine List.all_eq_true.mpr fun c hc => ?_
  have h := List.all_eq_true.mp h1 c hc
  rcases Bool.eq_false_or_eq_true (isCode c) with hi | hi
  · exact h2 c (List.mem_filter.mpr ⟨hc, hi⟩)
  · simpa [hi] using h
set_option maxRecDepth 65536 in
theorem w_c0 : (Jvm.Cond.code x code maxLocals ret).before args0 about1 = true := code_word (m := ⟨1, 2⟩) (meth := k1m2) (c := k1c2) (by decide +kernel) rfl rfl rfl (by decide +kernel)
set_option maxRecDepth 65536 in
theorem w_c1 : (Jvm.Cond.code ({ cls := "java/lang/Math", name := "min", desc := "(JJ)J" } : Jvm.MethodName) jdk_29_method_70_code (4 : Nat) (Option.some Jvm.ClassFile.FieldType.long)).before args0 about1 = true := code_word (m := ⟨2, 1⟩) (meth := k2m1) (c := k2c1) (by decide +kernel) rfl rfl rfl (by decide +kernel)
set_option maxRecDepth 65536 in
theorem w_c2 : (Jvm.Cond.code ({ cls := "com/example/gauzy_branch/gauzybranch/util/SortedIntsFirstAbovePinLaw", name := "cell", desc := "(IIIJ)I" } : Jvm.MethodName) method_2_code (5 : Nat) (Option.some Jvm.ClassFile.FieldType.int)).before args0 about1 = true := code_word (m := ⟨1, 1⟩) (meth := k1m1) (c := k1c1) (by decide +kernel) rfl rfl rfl (by decide +kernel)
set_option maxRecDepth 65536 in
theorem w_c3 : (Jvm.Cond.code ({ cls := "com/example/gauzy_branch/gauzybranch/util/SortedInts", name := "firstAbove", desc := "([IIII)I" } : Jvm.MethodName) prog_145_method_2_code (7 : Nat) (Option.some Jvm.ClassFile.FieldType.int)).before args0 about1 = true := code_word (m := ⟨3, 1⟩) (meth := k3m1) (c := k3c1) (by decide +kernel) rfl rfl rfl (by decide +kernel)
def codes1 : List Jvm.Cond := [Jvm.Cond.code x code maxLocals ret, Jvm.Cond.code ({ cls := "java/lang/Math", name := "min", desc := "(JJ)J" } : Jvm.MethodName) jdk_29_method_70_code (4 : Nat) (Option.some Jvm.ClassFile.FieldType.long), Jvm.Cond.code ({ cls := "com/example/gauzy_branch/gauzybranch/util/SortedIntsFirstAbovePinLaw", name := "cell", desc := "(IIIJ)I" } : Jvm.MethodName) method_2_code (5 : Nat) (Option.some Jvm.ClassFile.FieldType.int), Jvm.Cond.code ({ cls := "com/example/gauzy_branch/gauzybranch/util/SortedInts", name := "firstAbove", desc := "([IIII)I" } : Jvm.MethodName) prog_145_method_2_code (7 : Nat) (Option.some Jvm.ClassFile.FieldType.int)]
set_option maxRecDepth 65536 in
theorem codes_eq : words1.filter isCode = codes1 := rfl
theorem w_codes : ∀ c ∈ words1.filter isCode, c.before args0 about1 = true := by
  rw [codes_eq]
  intro c hc
  simp only [codes1, List.mem_cons, List.not_mem_nil, or_false] at hc
  rcases hc with rfl | rfl | rfl | rfl
  · exact w_c0
  · exact w_c1
  · exact w_c2
  · exact w_c3
set_option maxRecDepth 65536 in
theorem w_t1 : words1.all (fun c => isCode c || c.before args0 about1) = true := by decide +kernel
theorem w_tables : (allAtoms (Jvm.Cond.code x code maxLocals ret :: tables_1)).before args0 about1 = true := by
  rw [allAtoms_all]
  show words1.all (fun c => c.before args0 about1) = true
  refine all_split ?_ w_codes
  rw [w_t1]
set_option maxRecDepth 65536 in
theorem w_case : (Jvm.Cond.and given_1 narrow_1).before args0 about1 = true := by decide +kernel
theorem w_applies : (headSpec (Jvm.Cond.code x code maxLocals ret :: tables_1) room_1).applies x e0.platform about1 = true :=
  (Spec.applies_iff w_frames).mpr ⟨w_running, w_runnable, w_alone, w_named, w_hears, w_ripe, w_room, w_tables⟩
theorem atStart : AtStart classFile x code maxLocals ret World_1 tables_1 room_1 Calls_1 rest_1 Pre_1 launch0 p0 e0 about1 theMethod args0 below0 :=
  ⟨lists_1, trivial, launch0.admits_env _ _ _, launch0.least_env, fairChoices_fair.cas, fairChoices_fair.clock, w_frames, w_args, w_heap, w_applies, trivial, trivial, w_case⟩
end start1
theorem witness_1 : WitnessClaimed_1 := ⟨start1.p0, start1.e0, start1.about1, start1.theMethod, start1.args0, start1.below0, start1.atStart⟩
end Jvm.Pilot.@@N@@
