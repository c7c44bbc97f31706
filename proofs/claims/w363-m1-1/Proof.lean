import JvmDerived
import JvmDerived.Pilot.@@N@@Statement
import JvmDerived.Pilot.@@N@@Code
set_option linter.unusedVariables false
set_option linter.unusedSimpArgs false
namespace Jvm.RoadKit
open Sem ClassFile Op Lib Jvm.Stand Jvm.Free Jvm.LawKit
section New
variable {p : Program} {l : Launch} {e : Env} {R : Room} {s : State} {m : MethodId} {args : Array Value} {below : List Frame} {meth : Method} {c : Code} {T : State} {locs : List Loc} {cells slots : Nat}
theorem retI (X : Stand p l e R s m args below meth c T locs cells slots) (hx : p.tables.exec = Jvm.exec) {pc : Nat} {Ls : Array Slot} {z : Int32} {rest : List Value} (hret : meth.sig.returnType = some .int) (hd : decode c.code pc = .ok (.ireturn, 1)) {fs : List Frame}
    (hl : ∀ (f : JFrame) (acts : List Action), f.method = m → f.locked = none → f.entered = [] → (doReturn e (T.setTop f) acts (some (.int z))).1 = T.setFrames fs) : Steps p.tables e below (T.setTop (mkF m pc Ls (.int z :: rest))) (T.setFrames fs) := by
  have hm' : T.vm.method? m = some meth := X.method'
  have hn : narrow .int (.int z) = .int z := rfl
  show Steps p.tables e below (T.setTop { method := m, pc := pc, locals := Ls, stack := _ :: rest, locked := none }) _
  jvm_step X.here [X.here.top, hx, hd, hm', hret, hn]
  first | (intro acts; rw [hl _ acts rfl rfl rfl]) | rw [hl _ _ rfl rfl rfl]
  exact Steps.refl _
end New
end Jvm.RoadKit
namespace Jvm.Pilot.@@N@@.OwnW
open Jvm Jvm.ClassFile Sem Op Lib Jvm.Free Jvm.Stand Jvm.LawKit Jvm.RoadKit
section OwnBase
variable {p : Program} {l : Launch} {e : Env} {R : Room} {s : State} {m : MethodId} {args : Array Value} {below : List Frame} {meth : Method} {c : Code} {Z : State} {own nm : String} {bs : ByteArray} {ml : Nat} {rt : Option FieldType} {n0 : Nat} {Q : Option Value → Heap → Prop} {h : Heap} {cells slots pc : Nat} {L : Array Slot} {st : List Value} {a0 : Array Value}
/-- what is known throughout a body's walk -/
def Ctx (p : Program) (l : Launch) (e : Env) (R : Room) (s : State) (m : MethodId) (args : Array Value) (below : List Frame) (meth : Method) (c : Code) (Z : State) (own nm : String) (bs : ByteArray) (ml : Nat) (rt : Option FieldType) : Prop :=
  p.tables.exec = Jvm.exec ∧ c.code = bs ∧ Z.Warmed39 s.vm ∧ s.vm.findClass own = some m.cls ∧ c.maxLocals = ml ∧ meth.sig.returnType = rt ∧ meth.locks = false ∧ meth.name = nm
/-- from here the body comes to its end, and Q holds there -/
def Go (p : Program) (l : Launch) (e : Env) (R : Room) (s : State) (m : MethodId) (args : Array Value) (below : List Frame) (meth : Method) (c : Code) (n0 : Nat) (Q : Option Value → Heap → Prop) (h : Heap) (cells slots pc : Nat) (L : Array Slot) (st : List Value) : Prop :=
  ∀ (T : State) (locs : List Loc), Stand p l e R s m args below meth c T locs cells slots → T.heap = h → Fr n0 locs →
    ∃ (s2 : State) (v : Option Value) (L' : List Loc), Steps p.tables e below (T.setTop (mkF m pc L st)) s2 ∧ s2.status = .running ∧ Ended s2 below (.returned v) ∧ Q v s2.heap ∧ Fr n0 L' ∧ s.WarmedH s2.vm ∧ s.sameButNew ({ s2 with vm := s.vm } : State) L' R.cells R.slots
/-- the contract of a body at given arguments and a given heap -/
def Met (l : Launch) (Z : State) (y : MethodName) (bs : ByteArray) (ml : Nat) (rt : Option FieldType) (rm : Room) (as : Array Value) (h0 : Heap) (n0 : Nat) (Q : Option Value → Heap → Prop) : Prop :=
  ∀ ws : List Jvm.Cond, MetFree l y (head1 (Jvm.Cond.code y bs ml rt :: ws) rm) (fun a U => a = as ∧ Z.Warmed39 U.vm ∧ U.heap = h0) (fun _ _ _ _ _ => True) (fun _ U o U' => ∃ v L, o = .returned v ∧ (Q v U'.heap ∧ Fr n0 L) ∧ FrameEnd U o U' L rm.cells rm.slots)
def qI (P : Int32 → Heap → Prop) : Option Value → Heap → Prop := fun v h => ∃ r, v = some (.int r) ∧ P r h
def qJ (P : Int64 → Heap → Prop) : Option Value → Heap → Prop := fun v h => ∃ r, v = some (.long r) ∧ P r h
def qA (P : Addr → Heap → Prop) : Option Value → Heap → Prop := fun v h => ∃ r, v = some (.ref r) ∧ P r h
def qV (P : Heap → Prop) : Option Value → Heap → Prop := fun v h => v = none ∧ P h
theorem met {y : MethodName} {rm : Room} {as : Array Value} {h0 : Heap} (hpf : plainFor y = true) (L0 : Array Slot) (hE : ∀ m, entryFrame m as ml = mkF m 0 L0 [])
    (body : ∀ (p : Program) (e : Env) (s : State) (m : MethodId) (below : List Frame) (meth : Method) (c : Code), Ctx p l e rm s m as below meth c Z y.cls y.name bs ml rt → Go p l e rm s m as below meth c n0 Q h0 0 0 0 L0 []) : Met l Z y bs ml rt rm as h0 n0 Q := by
  intro ws
  refine MetFree.of_bodySF hpf hisR ?_
  intro p e s m args below meth c s1 Bd hml0 hP hK
  obtain ⟨rfl, hZ, hh⟩ := hP
  have e0 : s1.heap = h0 := by rw [← hh, Bd.state]; rfl
  obtain ⟨s2, v, L', a, b, d, q, fr, w, sm⟩ := body p e s m below meth c ⟨Bd.exec, Bd.bytes, hZ, findClass_of_methodNamed Bd.named, hml0, Bd.returns, Bd.notSynchronized, (name_of_methodNamed Bd.named Bd.method).1⟩ s1 [] (Stand.of_body Bd) e0 (Fr.nil n0)
  exact ⟨s2, _, castTop (hE m) a, b, d, v, L', rfl, ⟨q, fr⟩, ⟨v, rfl⟩, w, sm⟩
theorem step {pc' : Nat} {L' : Array Slot} {st' : List Value}
    (k : ∀ (T : State) (locs : List Loc), Stand p l e R s m args below meth c T locs cells slots → T.heap = h → ∀ t, Steps p.tables e below (T.setTop (mkF m pc' L' st')) t → Steps p.tables e below (T.setTop (mkF m pc L st)) t)
    (g : Go p l e R s m args below meth c n0 Q h cells slots pc' L' st') : Go p l e R s m args below meth c n0 Q h cells slots pc L st := fun T locs X eh N => by
  obtain ⟨s2, v, L', a, b⟩ := g T locs X eh N
  exact ⟨s2, v, L', k T locs X eh _ a, b⟩
def ush (x y : Int32) : Int32 := (x.toUInt32 >>> (y &&& 31).toUInt32).toInt32
def ushL (x : Int64) (y : Int32) : Int64 := (x.toUInt64 >>> (y &&& 0x3f).toInt64.toUInt64).toInt64
def shlL (x : Int64) (y : Int32) : Int64 := x <<< (y &&& 0x3f).toInt64
theorem g_iadd (C : Ctx p l e R s m args below meth c Z own nm bs ml rt) {x y : Int32} (hd : decode bs pc = .ok (.iadd, 1)) (pc' : Nat) (hp : pc' = pc + 1) (g : Go p l e R s m args below meth c n0 Q h cells slots pc' L (.int (x + y) :: st)) : Go p l e R s m args below meth c n0 Q h cells slots pc L (.int y :: .int x :: st) := by
  subst hp
  exact step (fun T locs X _ t k => XS.iadd X.here C.1 rfl (hb C.2.1 hd) rfl k) g
theorem g_isub (C : Ctx p l e R s m args below meth c Z own nm bs ml rt) {x y : Int32} (hd : decode bs pc = .ok (.isub, 1)) (pc' : Nat) (hp : pc' = pc + 1) (g : Go p l e R s m args below meth c n0 Q h cells slots pc' L (.int (x - y) :: st)) : Go p l e R s m args below meth c n0 Q h cells slots pc L (.int y :: .int x :: st) := by
  subst hp
  exact step (fun T locs X _ t k => XS.isub X.here C.1 rfl (hb C.2.1 hd) rfl k) g
theorem g_imul (C : Ctx p l e R s m args below meth c Z own nm bs ml rt) {x y : Int32} (hd : decode bs pc = .ok (.imul, 1)) (pc' : Nat) (hp : pc' = pc + 1) (g : Go p l e R s m args below meth c n0 Q h cells slots pc' L (.int (x * y) :: st)) : Go p l e R s m args below meth c n0 Q h cells slots pc L (.int y :: .int x :: st) := by
  subst hp
  exact step (fun T locs X _ t k => XS.imul X.here C.1 rfl (hb C.2.1 hd) rfl k) g
theorem g_iand (C : Ctx p l e R s m args below meth c Z own nm bs ml rt) {x y : Int32} (hd : decode bs pc = .ok (.iand, 1)) (pc' : Nat) (hp : pc' = pc + 1) (g : Go p l e R s m args below meth c n0 Q h cells slots pc' L (.int (x &&& y) :: st)) : Go p l e R s m args below meth c n0 Q h cells slots pc L (.int y :: .int x :: st) := by
  subst hp
  exact step (fun T locs X _ t k => XS.iand X.here C.1 rfl (hb C.2.1 hd) rfl k) g
theorem g_ior (C : Ctx p l e R s m args below meth c Z own nm bs ml rt) {x y : Int32} (hd : decode bs pc = .ok (.ior, 1)) (pc' : Nat) (hp : pc' = pc + 1) (g : Go p l e R s m args below meth c n0 Q h cells slots pc' L (.int (x ||| y) :: st)) : Go p l e R s m args below meth c n0 Q h cells slots pc L (.int y :: .int x :: st) := by
  subst hp
  exact step (fun T locs X _ t k => XS.ior X.here C.1 rfl (hb C.2.1 hd) rfl k) g
theorem g_ixor (C : Ctx p l e R s m args below meth c Z own nm bs ml rt) {x y : Int32} (hd : decode bs pc = .ok (.ixor, 1)) (pc' : Nat) (hp : pc' = pc + 1) (g : Go p l e R s m args below meth c n0 Q h cells slots pc' L (.int (x ^^^ y) :: st)) : Go p l e R s m args below meth c n0 Q h cells slots pc L (.int y :: .int x :: st) := by
  subst hp
  exact step (fun T locs X _ t k => XS.ixor X.here C.1 rfl (hb C.2.1 hd) rfl k) g
theorem g_ishl (C : Ctx p l e R s m args below meth c Z own nm bs ml rt) {x y : Int32} (hd : decode bs pc = .ok (.ishl, 1)) (pc' : Nat) (hp : pc' = pc + 1) (g : Go p l e R s m args below meth c n0 Q h cells slots pc' L (.int (x <<< (y &&& 31)) :: st)) : Go p l e R s m args below meth c n0 Q h cells slots pc L (.int y :: .int x :: st) := by
  subst hp
  exact step (fun T locs X _ t k => XS.ishl X.here C.1 rfl (hb C.2.1 hd) rfl k) g
theorem g_ishr (C : Ctx p l e R s m args below meth c Z own nm bs ml rt) {x y : Int32} (hd : decode bs pc = .ok (.ishr, 1)) (pc' : Nat) (hp : pc' = pc + 1) (g : Go p l e R s m args below meth c n0 Q h cells slots pc' L (.int (x >>> (y &&& 31)) :: st)) : Go p l e R s m args below meth c n0 Q h cells slots pc L (.int y :: .int x :: st) := by
  subst hp
  exact step (fun T locs X _ t k => XS.ishr X.here C.1 rfl (hb C.2.1 hd) rfl k) g
theorem g_iushr (C : Ctx p l e R s m args below meth c Z own nm bs ml rt) {x y : Int32} (hd : decode bs pc = .ok (.iushr, 1)) (pc' : Nat) (hp : pc' = pc + 1) (g : Go p l e R s m args below meth c n0 Q h cells slots pc' L (.int (ush x y) :: st)) : Go p l e R s m args below meth c n0 Q h cells slots pc L (.int y :: .int x :: st) := by
  subst hp
  exact step (fun T locs X _ t k => XS.iushr X.here C.1 rfl (hb C.2.1 hd) rfl k) g
theorem g_ladd (C : Ctx p l e R s m args below meth c Z own nm bs ml rt) {x y : Int64} (hd : decode bs pc = .ok (.ladd, 1)) (pc' : Nat) (hp : pc' = pc + 1) (g : Go p l e R s m args below meth c n0 Q h cells slots pc' L (.long (x + y) :: st)) : Go p l e R s m args below meth c n0 Q h cells slots pc L (.long y :: .long x :: st) := by
  subst hp
  exact step (fun T locs X _ t k => XS.ladd X.here C.1 rfl (hb C.2.1 hd) rfl k) g
theorem g_lsub (C : Ctx p l e R s m args below meth c Z own nm bs ml rt) {x y : Int64} (hd : decode bs pc = .ok (.lsub, 1)) (pc' : Nat) (hp : pc' = pc + 1) (g : Go p l e R s m args below meth c n0 Q h cells slots pc' L (.long (x - y) :: st)) : Go p l e R s m args below meth c n0 Q h cells slots pc L (.long y :: .long x :: st) := by
  subst hp
  exact step (fun T locs X _ t k => XS.lsub X.here C.1 rfl (hb C.2.1 hd) rfl k) g
theorem g_lmul (C : Ctx p l e R s m args below meth c Z own nm bs ml rt) {x y : Int64} (hd : decode bs pc = .ok (.lmul, 1)) (pc' : Nat) (hp : pc' = pc + 1) (g : Go p l e R s m args below meth c n0 Q h cells slots pc' L (.long (x * y) :: st)) : Go p l e R s m args below meth c n0 Q h cells slots pc L (.long y :: .long x :: st) := by
  subst hp
  exact step (fun T locs X _ t k => XS.lmul X.here C.1 rfl (hb C.2.1 hd) rfl k) g
theorem g_land (C : Ctx p l e R s m args below meth c Z own nm bs ml rt) {x y : Int64} (hd : decode bs pc = .ok (.land, 1)) (pc' : Nat) (hp : pc' = pc + 1) (g : Go p l e R s m args below meth c n0 Q h cells slots pc' L (.long (x &&& y) :: st)) : Go p l e R s m args below meth c n0 Q h cells slots pc L (.long y :: .long x :: st) := by
  subst hp
  exact step (fun T locs X _ t k => XS.land X.here C.1 rfl (hb C.2.1 hd) rfl k) g
theorem g_lor (C : Ctx p l e R s m args below meth c Z own nm bs ml rt) {x y : Int64} (hd : decode bs pc = .ok (.lor, 1)) (pc' : Nat) (hp : pc' = pc + 1) (g : Go p l e R s m args below meth c n0 Q h cells slots pc' L (.long (x ||| y) :: st)) : Go p l e R s m args below meth c n0 Q h cells slots pc L (.long y :: .long x :: st) := by
  subst hp
  exact step (fun T locs X _ t k => XS.lor X.here C.1 rfl (hb C.2.1 hd) rfl k) g
theorem g_lxor (C : Ctx p l e R s m args below meth c Z own nm bs ml rt) {x y : Int64} (hd : decode bs pc = .ok (.lxor, 1)) (pc' : Nat) (hp : pc' = pc + 1) (g : Go p l e R s m args below meth c n0 Q h cells slots pc' L (.long (x ^^^ y) :: st)) : Go p l e R s m args below meth c n0 Q h cells slots pc L (.long y :: .long x :: st) := by
  subst hp
  exact step (fun T locs X _ t k => XS.lxor X.here C.1 rfl (hb C.2.1 hd) rfl k) g
theorem g_lshl (C : Ctx p l e R s m args below meth c Z own nm bs ml rt) {x : Int64} {y : Int32} (hd : decode bs pc = .ok (.lshl, 1)) (pc' : Nat) (hp : pc' = pc + 1) (g : Go p l e R s m args below meth c n0 Q h cells slots pc' L (.long (shlL x y) :: st)) : Go p l e R s m args below meth c n0 Q h cells slots pc L (.int y :: .long x :: st) := by
  subst hp
  exact step (fun T locs X _ t k => XS.lshl X.here C.1 rfl (hb C.2.1 hd) rfl k) g
theorem g_lushr (C : Ctx p l e R s m args below meth c Z own nm bs ml rt) {x : Int64} {y : Int32} (hd : decode bs pc = .ok (.lushr, 1)) (pc' : Nat) (hp : pc' = pc + 1) (g : Go p l e R s m args below meth c n0 Q h cells slots pc' L (.long (ushL x y) :: st)) : Go p l e R s m args below meth c n0 Q h cells slots pc L (.int y :: .long x :: st) := by
  subst hp
  exact step (fun T locs X _ t k => XS.lushr X.here C.1 rfl (hb C.2.1 hd) rfl k) g
theorem g_i2l (C : Ctx p l e R s m args below meth c Z own nm bs ml rt) {x : Int32} (hd : decode bs pc = .ok (.i2l, 1)) (pc' : Nat) (hp : pc' = pc + 1) (g : Go p l e R s m args below meth c n0 Q h cells slots pc' L (.long x.toInt64 :: st)) : Go p l e R s m args below meth c n0 Q h cells slots pc L (.int x :: st) := by
  subst hp
  exact step (fun T locs X _ t k => XS.i2l X.here C.1 rfl (hb C.2.1 hd) rfl k) g
theorem g_i2b (C : Ctx p l e R s m args below meth c Z own nm bs ml rt) {x : Int32} (hd : decode bs pc = .ok (.i2b, 1)) (pc' : Nat) (hp : pc' = pc + 1) (g : Go p l e R s m args below meth c n0 Q h cells slots pc' L (.int x.toInt8.toInt32 :: st)) : Go p l e R s m args below meth c n0 Q h cells slots pc L (.int x :: st) := by
  subst hp
  exact step (fun T locs X _ t k => XS.i2b X.here C.1 rfl (hb C.2.1 hd) rfl k) g
theorem g_i2c (C : Ctx p l e R s m args below meth c Z own nm bs ml rt) {x : Int32} (hd : decode bs pc = .ok (.i2c, 1)) (pc' : Nat) (hp : pc' = pc + 1) (g : Go p l e R s m args below meth c n0 Q h cells slots pc' L (.int x.toUInt32.toUInt16.toUInt32.toInt32 :: st)) : Go p l e R s m args below meth c n0 Q h cells slots pc L (.int x :: st) := by
  subst hp
  exact step (fun T locs X _ t k => XS.i2c X.here C.1 rfl (hb C.2.1 hd) rfl k) g
theorem g_l2i (C : Ctx p l e R s m args below meth c Z own nm bs ml rt) {x : Int64} (hd : decode bs pc = .ok (.l2i, 1)) (pc' : Nat) (hp : pc' = pc + 1) (g : Go p l e R s m args below meth c n0 Q h cells slots pc' L (.int x.toInt32 :: st)) : Go p l e R s m args below meth c n0 Q h cells slots pc L (.long x :: st) := by
  subst hp
  exact step (fun T locs X _ t k => XS.l2i X.here C.1 rfl (hb C.2.1 hd) rfl k) g
theorem g_lneg (C : Ctx p l e R s m args below meth c Z own nm bs ml rt) {x : Int64} (hd : decode bs pc = .ok (.lneg, 1)) (pc' : Nat) (hp : pc' = pc + 1) (g : Go p l e R s m args below meth c n0 Q h cells slots pc' L (.long (-x) :: st)) : Go p l e R s m args below meth c n0 Q h cells slots pc L (.long x :: st) := by
  subst hp
  exact step (fun T locs X _ t k => XS.lneg X.here C.1 rfl (hb C.2.1 hd) rfl k) g
theorem g_irem (C : Ctx p l e R s m args below meth c Z own nm bs ml rt) {x y : Int32} (hd : decode bs pc = .ok (.irem, 1)) (pc' : Nat) (hp : pc' = pc + 1) (hy : y ≠ 0) (g : Go p l e R s m args below meth c n0 Q h cells slots pc' L (.int (x % y) :: st)) : Go p l e R s m args below meth c n0 Q h cells slots pc L (.int y :: .int x :: st) := by
  subst hp
  exact step (fun T locs X _ t k => iremM X C.1 rfl (hb C.2.1 hd) rfl hy k) g
theorem g_iconst (C : Ctx p l e R s m args below meth c Z own nm bs ml rt) {i : Int} (hd : decode bs pc = .ok (.iconst i, 1)) (pc' : Nat) (hp : pc' = pc + 1) (z : Int32) (hz : Int32.ofInt i = z) (g : Go p l e R s m args below meth c n0 Q h cells slots pc' L (.int z :: st)) : Go p l e R s m args below meth c n0 Q h cells slots pc L st := by
  subst hp hz
  exact step (fun T locs X _ t k => XS.iconst X.here C.1 rfl (hb C.2.1 hd) k) g
theorem g_bipush (C : Ctx p l e R s m args below meth c Z own nm bs ml rt) {i : Int} (hd : decode bs pc = .ok (.bipush i, 2)) (pc' : Nat) (hp : pc' = pc + 2) (z : Int32) (hz : (Int8.ofInt i).toInt32 = z) (g : Go p l e R s m args below meth c n0 Q h cells slots pc' L (.int z :: st)) : Go p l e R s m args below meth c n0 Q h cells slots pc L st := by
  subst hp hz
  exact step (fun T locs X _ t k => XS.bipush X.here C.1 rfl (hb C.2.1 hd) k) g
theorem g_sipush (C : Ctx p l e R s m args below meth c Z own nm bs ml rt) {i : Int} (hd : decode bs pc = .ok (.sipush i, 3)) (pc' : Nat) (hp : pc' = pc + 3) (z : Int32) (hz : (Int16.ofInt i).toInt32 = z) (g : Go p l e R s m args below meth c n0 Q h cells slots pc' L (.int z :: st)) : Go p l e R s m args below meth c n0 Q h cells slots pc L st := by
  subst hp hz
  exact step (fun T locs X _ t k => XS.sipush X.here C.1 rfl (hb C.2.1 hd) k) g
theorem g_lconst (C : Ctx p l e R s m args below meth c Z own nm bs ml rt) {i : Fin 2} (hd : decode bs pc = .ok (.lconst i, 1)) (pc' : Nat) (hp : pc' = pc + 1) (z : Int64) (hz : Int64.ofNat i = z) (g : Go p l e R s m args below meth c n0 Q h cells slots pc' L (.long z :: st)) : Go p l e R s m args below meth c n0 Q h cells slots pc L st := by
  subst hp hz
  exact step (fun T locs X _ t k => XS.lconst X.here C.1 rfl (hb C.2.1 hd) k) g
theorem g_aconst_null (C : Ctx p l e R s m args below meth c Z own nm bs ml rt)  (hd : decode bs pc = .ok (.aconst_null, 1)) (pc' : Nat) (hp : pc' = pc + 1) (g : Go p l e R s m args below meth c n0 Q h cells slots pc' L (.null :: st)) : Go p l e R s m args below meth c n0 Q h cells slots pc L st := by
  subst hp
  exact step (fun T locs X _ t k => XS.aconstNull X.here C.1 rfl (hb C.2.1 hd)  k) g
theorem g_ldc (C : Ctx p l e R s m args below meth c Z own nm bs ml rt) {i : Nat} {z : Int32} (w : (Jvm.Cond.constant own i z).before a0 Z = true) (hd : decode bs pc = .ok (.ldc i, 2)) (pc' : Nat) (hp : pc' = pc + 2) (g : Go p l e R s m args below meth c n0 Q h cells slots pc' L (.int z :: st)) : Go p l e R s m args below meth c n0 Q h cells slots pc L st := by
  subst hp
  exact step (fun T locs X _ t k => X.ldcInt C.1 C.2.2.2.1 (mvT C.2.2.1 w) (g := mkF m pc L st) rfl (hb C.2.1 hd) _ k) g
theorem g_ldc2_w (C : Ctx p l e R s m args below meth c Z own nm bs ml rt) {i : Nat} {z : Int64} (w : (Jvm.Cond.constantLong own i z).before a0 Z = true) (hd : decode bs pc = .ok (.ldc2_w i, 3)) (pc' : Nat) (hp : pc' = pc + 3) (g : Go p l e R s m args below meth c n0 Q h cells slots pc' L (.long z :: st)) : Go p l e R s m args below meth c n0 Q h cells slots pc L st := by
  subst hp
  exact step (fun T locs X _ t k => X.ldc2Long C.1 C.2.2.2.1 (mvT C.2.2.1 w) (g := mkF m pc L st) rfl (hb C.2.1 hd) _ k) g
theorem g_iload (C : Ctx p l e R s m args below meth c Z own nm bs ml rt) {k : Nat} {v : Int32} (hd : decode bs pc = .ok (.iload k, 2)) (pc' : Nat) (hp : pc' = pc + 2) (hl : L[k]? = some (.val (.int v))) (g : Go p l e R s m args below meth c n0 Q h cells slots pc' L (.int v :: st)) : Go p l e R s m args below meth c n0 Q h cells slots pc L st := by
  subst hp
  exact step (fun T locs X _ t k => XS.iload X.here C.1 rfl (hb C.2.1 hd) hl k) g
theorem g_iloadN (C : Ctx p l e R s m args below meth c Z own nm bs ml rt) {k : Fin 4} {v : Int32} (hd : decode bs pc = .ok (.iload_n k, 1)) (pc' : Nat) (hp : pc' = pc + 1) (hl : L[k.val]? = some (.val (.int v))) (g : Go p l e R s m args below meth c n0 Q h cells slots pc' L (.int v :: st)) : Go p l e R s m args below meth c n0 Q h cells slots pc L st := by
  subst hp
  exact step (fun T locs X _ t k => XS.iloadN X.here C.1 rfl (hb C.2.1 hd) hl k) g
theorem g_lload (C : Ctx p l e R s m args below meth c Z own nm bs ml rt) {k : Nat} {v : Int64} (hd : decode bs pc = .ok (.lload k, 2)) (pc' : Nat) (hp : pc' = pc + 2) (hl : L[k]? = some (.val (.long v))) (g : Go p l e R s m args below meth c n0 Q h cells slots pc' L (.long v :: st)) : Go p l e R s m args below meth c n0 Q h cells slots pc L st := by
  subst hp
  exact step (fun T locs X _ t k => XS.lload X.here C.1 rfl (hb C.2.1 hd) hl k) g
theorem g_lloadN (C : Ctx p l e R s m args below meth c Z own nm bs ml rt) {k : Fin 4} {v : Int64} (hd : decode bs pc = .ok (.lload_n k, 1)) (pc' : Nat) (hp : pc' = pc + 1) (hl : L[k.val]? = some (.val (.long v))) (g : Go p l e R s m args below meth c n0 Q h cells slots pc' L (.long v :: st)) : Go p l e R s m args below meth c n0 Q h cells slots pc L st := by
  subst hp
  exact step (fun T locs X _ t k => XS.lloadN X.here C.1 rfl (hb C.2.1 hd) hl k) g
theorem g_aload (C : Ctx p l e R s m args below meth c Z own nm bs ml rt) {k : Nat} {v : Value} (hd : decode bs pc = .ok (.aload k, 2)) (pc' : Nat) (hp : pc' = pc + 2) (hl : L[k]? = some (.val (v))) (hv : v.isRef = true) (g : Go p l e R s m args below meth c n0 Q h cells slots pc' L (v :: st)) : Go p l e R s m args below meth c n0 Q h cells slots pc L st := by
  subst hp
  exact step (fun T locs X _ t k => XS.aload X.here C.1 rfl (hb C.2.1 hd) hl hv k) g
theorem g_aloadN (C : Ctx p l e R s m args below meth c Z own nm bs ml rt) {k : Fin 4} {v : Value} (hd : decode bs pc = .ok (.aload_n k, 1)) (pc' : Nat) (hp : pc' = pc + 1) (hl : L[k.val]? = some (.val (v))) (hv : v.isRef = true) (g : Go p l e R s m args below meth c n0 Q h cells slots pc' L (v :: st)) : Go p l e R s m args below meth c n0 Q h cells slots pc L st := by
  subst hp
  exact step (fun T locs X _ t k => XS.aloadN X.here C.1 rfl (hb C.2.1 hd) hl hv k) g
theorem g_istore (C : Ctx p l e R s m args below meth c Z own nm bs ml rt) {k : Nat} {x : Int32} (hd : decode bs pc = .ok (.istore k, 2)) (pc' : Nat) (hp : pc' = pc + 2) (l' : Int32 → Array Slot) (hl : ∀ z, storeLocals L k (.int z) = some (l' z)) (g : ∀ z, z = x → Go p l e R s m args below meth c n0 Q h cells slots pc' (l' z) st) : Go p l e R s m args below meth c n0 Q h cells slots pc L (.int x :: st) := by
  subst hp
  exact step (fun T locs X _ t k => XS.istore X.here C.1 rfl (hb C.2.1 hd) rfl (hl x) k) (g x rfl)
theorem g_istoreN (C : Ctx p l e R s m args below meth c Z own nm bs ml rt) {k : Fin 4} {x : Int32} (hd : decode bs pc = .ok (.istore_n k, 1)) (pc' : Nat) (hp : pc' = pc + 1) (l' : Int32 → Array Slot) (hl : ∀ z, storeLocals L k.val (.int z) = some (l' z)) (g : ∀ z, z = x → Go p l e R s m args below meth c n0 Q h cells slots pc' (l' z) st) : Go p l e R s m args below meth c n0 Q h cells slots pc L (.int x :: st) := by
  subst hp
  exact step (fun T locs X _ t k => XS.istoreN X.here C.1 rfl (hb C.2.1 hd) rfl (hl x) k) (g x rfl)
theorem g_lstore (C : Ctx p l e R s m args below meth c Z own nm bs ml rt) {k : Nat} {x : Int64} (hd : decode bs pc = .ok (.lstore k, 2)) (pc' : Nat) (hp : pc' = pc + 2) (l' : Int64 → Array Slot) (hl : ∀ z, storeLocals L k (.long z) = some (l' z)) (g : ∀ z, z = x → Go p l e R s m args below meth c n0 Q h cells slots pc' (l' z) st) : Go p l e R s m args below meth c n0 Q h cells slots pc L (.long x :: st) := by
  subst hp
  exact step (fun T locs X _ t k => XS.lstore X.here C.1 rfl (hb C.2.1 hd) rfl (hl x) k) (g x rfl)
theorem g_lstoreN (C : Ctx p l e R s m args below meth c Z own nm bs ml rt) {k : Fin 4} {x : Int64} (hd : decode bs pc = .ok (.lstore_n k, 1)) (pc' : Nat) (hp : pc' = pc + 1) (l' : Int64 → Array Slot) (hl : ∀ z, storeLocals L k.val (.long z) = some (l' z)) (g : ∀ z, z = x → Go p l e R s m args below meth c n0 Q h cells slots pc' (l' z) st) : Go p l e R s m args below meth c n0 Q h cells slots pc L (.long x :: st) := by
  subst hp
  exact step (fun T locs X _ t k => XS.lstoreN X.here C.1 rfl (hb C.2.1 hd) rfl (hl x) k) (g x rfl)
theorem g_astore (C : Ctx p l e R s m args below meth c Z own nm bs ml rt) {k : Nat} {x : Value} (hd : decode bs pc = .ok (.astore k, 2)) (pc' : Nat) (hp : pc' = pc + 2) (l' : Array Slot) (hl : storeLocals L k x = some l') (hv : x.isRef = true) (g : Go p l e R s m args below meth c n0 Q h cells slots pc' l' st) : Go p l e R s m args below meth c n0 Q h cells slots pc L (x :: st) := by
  subst hp
  exact step (fun T locs X _ t k => XS.astore X.here C.1 rfl (hb C.2.1 hd) rfl hv hl k) g
theorem g_astoreN (C : Ctx p l e R s m args below meth c Z own nm bs ml rt) {k : Fin 4} {x : Value} (hd : decode bs pc = .ok (.astore_n k, 1)) (pc' : Nat) (hp : pc' = pc + 1) (l' : Array Slot) (hl : storeLocals L k.val x = some l') (hv : x.isRef = true) (g : Go p l e R s m args below meth c n0 Q h cells slots pc' l' st) : Go p l e R s m args below meth c n0 Q h cells slots pc L (x :: st) := by
  subst hp
  exact step (fun T locs X _ t k => XS.astoreN X.here C.1 rfl (hb C.2.1 hd) rfl hv hl k) g
theorem g_iinc (C : Ctx p l e R s m args below meth c Z own nm bs ml rt) {k : Nat} {i : Int} {x : Int32} (hd : decode bs pc = .ok (.iinc k i, 3)) (pc' : Nat) (hp : pc' = pc + 3) (hl0 : L[k]? = some (.val (.int x))) (d : Int32) (hz : Int32.ofInt i = d) (l' : Int32 → Array Slot) (hl : ∀ z, storeLocals L k (.int z) = some (l' z)) (g : ∀ z, z = x + d → Go p l e R s m args below meth c n0 Q h cells slots pc' (l' z) st) : Go p l e R s m args below meth c n0 Q h cells slots pc L st := by
  subst hp hz
  exact step (fun T locs X _ t k => XS.iinc X.here C.1 rfl (hb C.2.1 hd) hl0 (hl _) k) (g _ rfl)
theorem g_dup (C : Ctx p l e R s m args below meth c Z own nm bs ml rt) {x : Value} (hd : decode bs pc = .ok (.dup, 1)) (pc' : Nat) (hp : pc' = pc + 1) (hc : x.category = 1) (g : Go p l e R s m args below meth c n0 Q h cells slots pc' L (x :: x :: st)) : Go p l e R s m args below meth c n0 Q h cells slots pc L (x :: st) := by
  subst hp
  exact step (fun T locs X _ t k => XS.dup X.here C.1 rfl (hb C.2.1 hd) rfl hc k) g
theorem g_pop (C : Ctx p l e R s m args below meth c Z own nm bs ml rt) {x : Value} (hd : decode bs pc = .ok (.pop, 1)) (pc' : Nat) (hp : pc' = pc + 1) (hc : x.category = 1) (g : Go p l e R s m args below meth c n0 Q h cells slots pc' L st) : Go p l e R s m args below meth c n0 Q h cells slots pc L (x :: st) := by
  subst hp
  exact step (fun T locs X _ t k => XS.pop X.here C.1 rfl (hb C.2.1 hd) rfl hc k) g
theorem g_dup2 (C : Ctx p l e R s m args below meth c Z own nm bs ml rt) {x y : Value} (hd : decode bs pc = .ok (.dup2, 1)) (pc' : Nat) (hp : pc' = pc + 1) (hc : x.category = 1) (hc2 : y.category = 1) (g : Go p l e R s m args below meth c n0 Q h cells slots pc' L (x :: y :: x :: y :: st)) : Go p l e R s m args below meth c n0 Q h cells slots pc L (x :: y :: st) := by
  subst hp
  exact step (fun T locs X _ t k => XT.dup2 X.here C.1 rfl (hb C.2.1 hd) rfl hc hc2 k) g
theorem g_goto (C : Ctx p l e R s m args below meth c Z own nm bs ml rt) {o : Int} (hd : decode bs pc = .ok (.goto o, 3)) (pc' : Nat) (hp : 0 ≤ (pc : Int) + o ∧ ((pc : Int) + o).toNat = pc') (g : Go p l e R s m args below meth c n0 Q h cells slots pc' L st) : Go p l e R s m args below meth c n0 Q h cells slots pc L st :=
  step (fun T locs X _ t k => XS.goto X.here C.1 rfl (pc0 := pc) (pc' := pc') rfl (hb C.2.1 hd) hp.1 hp.2 k) g
theorem g_if_icmpeq (C : Ctx p l e R s m args below meth c Z own nm bs ml rt) {x y : Int32} {o : Int} (hd : decode bs pc = .ok (.if_icmp .eq o, 3)) (pc1 : Nat) (h1 : 0 ≤ ((pc : Nat) : Int) + o ∧ (((pc : Nat) : Int) + o).toNat = pc1) (pc2 : Nat) (h2 : pc2 = pc + 3) (g1 : (x = y) → Go p l e R s m args below meth c n0 Q h cells slots pc1 L st) (g2 : (¬ x = y) → Go p l e R s m args below meth c n0 Q h cells slots pc2 L st) : Go p l e R s m args below meth c n0 Q h cells slots pc L (.int y :: .int x :: st) := by
  subst h2
  by_cases q : x = y
  · exact step (fun T locs X _ t k => XS.icmpYes X.here C.1 rfl (pc0 := pc) (pc' := pc1) rfl (hb C.2.1 hd) rfl (teq q).1 h1.1 h1.2 k) (g1 q)
  · exact step (fun T locs X _ t k => XS.icmpNo X.here C.1 rfl (hb C.2.1 hd) rfl (feq q).1 k) (g2 q)
theorem g_ifeq (C : Ctx p l e R s m args below meth c Z own nm bs ml rt) {x : Int32} {o : Int} (hd : decode bs pc = .ok (.ifCond .eq o, 3)) (pc1 : Nat) (h1 : 0 ≤ ((pc : Nat) : Int) + o ∧ (((pc : Nat) : Int) + o).toNat = pc1) (pc2 : Nat) (h2 : pc2 = pc + 3) (g1 : (x = (0 : Int32)) → Go p l e R s m args below meth c n0 Q h cells slots pc1 L st) (g2 : (¬ x = (0 : Int32)) → Go p l e R s m args below meth c n0 Q h cells slots pc2 L st) : Go p l e R s m args below meth c n0 Q h cells slots pc L (.int x :: st) := by
  subst h2
  by_cases q : x = (0 : Int32)
  · exact step (fun T locs X _ t k => XS.ifYes X.here C.1 rfl (pc0 := pc) (pc' := pc1) rfl (hb C.2.1 hd) rfl ((if0 _ _).trans (teq q).1) h1.1 h1.2 k) (g1 q)
  · exact step (fun T locs X _ t k => XS.ifNo X.here C.1 rfl (hb C.2.1 hd) rfl ((if0 _ _).trans (feq q).1) k) (g2 q)
theorem g_lcmpeq (C : Ctx p l e R s m args below meth c Z own nm bs ml rt) {x y : Int64} {o : Int} (hd0 : decode bs pc = .ok (.lcmp, 1)) (pcm : Nat) (hm : pcm = pc + 1) (hd : decode bs pcm = .ok (.ifCond .eq o, 3)) (pc1 : Nat) (h1 : 0 ≤ ((pcm : Nat) : Int) + o ∧ (((pcm : Nat) : Int) + o).toNat = pc1) (pc2 : Nat) (h2 : pc2 = pcm + 3) (g1 : (x = y) → Go p l e R s m args below meth c n0 Q h cells slots pc1 L st) (g2 : (¬ x = y) → Go p l e R s m args below meth c n0 Q h cells slots pc2 L st) : Go p l e R s m args below meth c n0 Q h cells slots pc L (.long y :: .long x :: st) := by
  subst hm
  have hw : ∀ (T : State) (locs : List Loc), Stand p l e R s m args below meth c T locs cells slots → ∀ t, Steps p.tables e below (T.setTop (mkF m (pc + 1) L (.int (lcmpW x y) :: st))) t → Steps p.tables e below (T.setTop (mkF m pc L (.long y :: .long x :: st))) t := fun T locs X t k => XS.lcmp X.here C.1 rfl (hb C.2.1 hd0) rfl k
  subst h2
  by_cases q : x = y
  · exact step (fun T locs X _ t k => hw T locs X t (XS.ifYes X.here C.1 rfl (pc0 := pc + 1) (pc' := pc1) rfl (hb C.2.1 hd) rfl ((if0 _ _).trans (teq ((lw_eq x y).mpr q)).1) h1.1 h1.2 k)) (g1 q)
  · exact step (fun T locs X _ t k => hw T locs X t (XS.ifNo X.here C.1 rfl (hb C.2.1 hd) rfl ((if0 _ _).trans (feq (fun z => q ((lw_eq x y).mp z))).1) k)) (g2 q)
theorem g_if_icmpne (C : Ctx p l e R s m args below meth c Z own nm bs ml rt) {x y : Int32} {o : Int} (hd : decode bs pc = .ok (.if_icmp .ne o, 3)) (pc1 : Nat) (h1 : 0 ≤ ((pc : Nat) : Int) + o ∧ (((pc : Nat) : Int) + o).toNat = pc1) (pc2 : Nat) (h2 : pc2 = pc + 3) (g1 : (¬ x = y) → Go p l e R s m args below meth c n0 Q h cells slots pc1 L st) (g2 : (x = y) → Go p l e R s m args below meth c n0 Q h cells slots pc2 L st) : Go p l e R s m args below meth c n0 Q h cells slots pc L (.int y :: .int x :: st) := by
  subst h2
  by_cases q : x = y
  · exact step (fun T locs X _ t k => XS.icmpNo X.here C.1 rfl (hb C.2.1 hd) rfl (teq q).2 k) (g2 q)
  · exact step (fun T locs X _ t k => XS.icmpYes X.here C.1 rfl (pc0 := pc) (pc' := pc1) rfl (hb C.2.1 hd) rfl (feq q).2 h1.1 h1.2 k) (g1 q)
theorem g_ifne (C : Ctx p l e R s m args below meth c Z own nm bs ml rt) {x : Int32} {o : Int} (hd : decode bs pc = .ok (.ifCond .ne o, 3)) (pc1 : Nat) (h1 : 0 ≤ ((pc : Nat) : Int) + o ∧ (((pc : Nat) : Int) + o).toNat = pc1) (pc2 : Nat) (h2 : pc2 = pc + 3) (g1 : (¬ x = (0 : Int32)) → Go p l e R s m args below meth c n0 Q h cells slots pc1 L st) (g2 : (x = (0 : Int32)) → Go p l e R s m args below meth c n0 Q h cells slots pc2 L st) : Go p l e R s m args below meth c n0 Q h cells slots pc L (.int x :: st) := by
  subst h2
  by_cases q : x = (0 : Int32)
  · exact step (fun T locs X _ t k => XS.ifNo X.here C.1 rfl (hb C.2.1 hd) rfl ((if0 _ _).trans (teq q).2) k) (g2 q)
  · exact step (fun T locs X _ t k => XS.ifYes X.here C.1 rfl (pc0 := pc) (pc' := pc1) rfl (hb C.2.1 hd) rfl ((if0 _ _).trans (feq q).2) h1.1 h1.2 k) (g1 q)
theorem g_lcmpne (C : Ctx p l e R s m args below meth c Z own nm bs ml rt) {x y : Int64} {o : Int} (hd0 : decode bs pc = .ok (.lcmp, 1)) (pcm : Nat) (hm : pcm = pc + 1) (hd : decode bs pcm = .ok (.ifCond .ne o, 3)) (pc1 : Nat) (h1 : 0 ≤ ((pcm : Nat) : Int) + o ∧ (((pcm : Nat) : Int) + o).toNat = pc1) (pc2 : Nat) (h2 : pc2 = pcm + 3) (g1 : (¬ x = y) → Go p l e R s m args below meth c n0 Q h cells slots pc1 L st) (g2 : (x = y) → Go p l e R s m args below meth c n0 Q h cells slots pc2 L st) : Go p l e R s m args below meth c n0 Q h cells slots pc L (.long y :: .long x :: st) := by
  subst hm
  have hw : ∀ (T : State) (locs : List Loc), Stand p l e R s m args below meth c T locs cells slots → ∀ t, Steps p.tables e below (T.setTop (mkF m (pc + 1) L (.int (lcmpW x y) :: st))) t → Steps p.tables e below (T.setTop (mkF m pc L (.long y :: .long x :: st))) t := fun T locs X t k => XS.lcmp X.here C.1 rfl (hb C.2.1 hd0) rfl k
  subst h2
  by_cases q : x = y
  · exact step (fun T locs X _ t k => hw T locs X t (XS.ifNo X.here C.1 rfl (hb C.2.1 hd) rfl ((if0 _ _).trans (teq ((lw_eq x y).mpr q)).2) k)) (g2 q)
  · exact step (fun T locs X _ t k => hw T locs X t (XS.ifYes X.here C.1 rfl (pc0 := pc + 1) (pc' := pc1) rfl (hb C.2.1 hd) rfl ((if0 _ _).trans (feq (fun z => q ((lw_eq x y).mp z))).2) h1.1 h1.2 k)) (g1 q)
theorem g_if_icmplt (C : Ctx p l e R s m args below meth c Z own nm bs ml rt) {x y : Int32} {o : Int} (hd : decode bs pc = .ok (.if_icmp .lt o, 3)) (pc1 : Nat) (h1 : 0 ≤ ((pc : Nat) : Int) + o ∧ (((pc : Nat) : Int) + o).toNat = pc1) (pc2 : Nat) (h2 : pc2 = pc + 3) (g1 : (x < y) → Go p l e R s m args below meth c n0 Q h cells slots pc1 L st) (g2 : (¬ x < y) → Go p l e R s m args below meth c n0 Q h cells slots pc2 L st) : Go p l e R s m args below meth c n0 Q h cells slots pc L (.int y :: .int x :: st) := by
  subst h2
  by_cases q : x < y
  · exact step (fun T locs X _ t k => XS.icmpYes X.here C.1 rfl (pc0 := pc) (pc' := pc1) rfl (hb C.2.1 hd) rfl (tlt q).1 h1.1 h1.2 k) (g1 q)
  · exact step (fun T locs X _ t k => XS.icmpNo X.here C.1 rfl (hb C.2.1 hd) rfl (flt q).1 k) (g2 q)
theorem g_iflt (C : Ctx p l e R s m args below meth c Z own nm bs ml rt) {x : Int32} {o : Int} (hd : decode bs pc = .ok (.ifCond .lt o, 3)) (pc1 : Nat) (h1 : 0 ≤ ((pc : Nat) : Int) + o ∧ (((pc : Nat) : Int) + o).toNat = pc1) (pc2 : Nat) (h2 : pc2 = pc + 3) (g1 : (x < (0 : Int32)) → Go p l e R s m args below meth c n0 Q h cells slots pc1 L st) (g2 : (¬ x < (0 : Int32)) → Go p l e R s m args below meth c n0 Q h cells slots pc2 L st) : Go p l e R s m args below meth c n0 Q h cells slots pc L (.int x :: st) := by
  subst h2
  by_cases q : x < (0 : Int32)
  · exact step (fun T locs X _ t k => XS.ifYes X.here C.1 rfl (pc0 := pc) (pc' := pc1) rfl (hb C.2.1 hd) rfl ((if0 _ _).trans (tlt q).1) h1.1 h1.2 k) (g1 q)
  · exact step (fun T locs X _ t k => XS.ifNo X.here C.1 rfl (hb C.2.1 hd) rfl ((if0 _ _).trans (flt q).1) k) (g2 q)
theorem g_lcmplt (C : Ctx p l e R s m args below meth c Z own nm bs ml rt) {x y : Int64} {o : Int} (hd0 : decode bs pc = .ok (.lcmp, 1)) (pcm : Nat) (hm : pcm = pc + 1) (hd : decode bs pcm = .ok (.ifCond .lt o, 3)) (pc1 : Nat) (h1 : 0 ≤ ((pcm : Nat) : Int) + o ∧ (((pcm : Nat) : Int) + o).toNat = pc1) (pc2 : Nat) (h2 : pc2 = pcm + 3) (g1 : (x < y) → Go p l e R s m args below meth c n0 Q h cells slots pc1 L st) (g2 : (¬ x < y) → Go p l e R s m args below meth c n0 Q h cells slots pc2 L st) : Go p l e R s m args below meth c n0 Q h cells slots pc L (.long y :: .long x :: st) := by
  subst hm
  have hw : ∀ (T : State) (locs : List Loc), Stand p l e R s m args below meth c T locs cells slots → ∀ t, Steps p.tables e below (T.setTop (mkF m (pc + 1) L (.int (lcmpW x y) :: st))) t → Steps p.tables e below (T.setTop (mkF m pc L (.long y :: .long x :: st))) t := fun T locs X t k => XS.lcmp X.here C.1 rfl (hb C.2.1 hd0) rfl k
  subst h2
  by_cases q : x < y
  · exact step (fun T locs X _ t k => hw T locs X t (XS.ifYes X.here C.1 rfl (pc0 := pc + 1) (pc' := pc1) rfl (hb C.2.1 hd) rfl ((if0 _ _).trans (tlt ((lw_lt x y).mpr q)).1) h1.1 h1.2 k)) (g1 q)
  · exact step (fun T locs X _ t k => hw T locs X t (XS.ifNo X.here C.1 rfl (hb C.2.1 hd) rfl ((if0 _ _).trans (flt (fun z => q ((lw_lt x y).mp z))).1) k)) (g2 q)
theorem g_if_icmpge (C : Ctx p l e R s m args below meth c Z own nm bs ml rt) {x y : Int32} {o : Int} (hd : decode bs pc = .ok (.if_icmp .ge o, 3)) (pc1 : Nat) (h1 : 0 ≤ ((pc : Nat) : Int) + o ∧ (((pc : Nat) : Int) + o).toNat = pc1) (pc2 : Nat) (h2 : pc2 = pc + 3) (g1 : (¬ x < y) → Go p l e R s m args below meth c n0 Q h cells slots pc1 L st) (g2 : (x < y) → Go p l e R s m args below meth c n0 Q h cells slots pc2 L st) : Go p l e R s m args below meth c n0 Q h cells slots pc L (.int y :: .int x :: st) := by
  subst h2
  by_cases q : x < y
  · exact step (fun T locs X _ t k => XS.icmpNo X.here C.1 rfl (hb C.2.1 hd) rfl (tlt q).2.1 k) (g2 q)
  · exact step (fun T locs X _ t k => XS.icmpYes X.here C.1 rfl (pc0 := pc) (pc' := pc1) rfl (hb C.2.1 hd) rfl (flt q).2.1 h1.1 h1.2 k) (g1 q)
theorem g_ifge (C : Ctx p l e R s m args below meth c Z own nm bs ml rt) {x : Int32} {o : Int} (hd : decode bs pc = .ok (.ifCond .ge o, 3)) (pc1 : Nat) (h1 : 0 ≤ ((pc : Nat) : Int) + o ∧ (((pc : Nat) : Int) + o).toNat = pc1) (pc2 : Nat) (h2 : pc2 = pc + 3) (g1 : (¬ x < (0 : Int32)) → Go p l e R s m args below meth c n0 Q h cells slots pc1 L st) (g2 : (x < (0 : Int32)) → Go p l e R s m args below meth c n0 Q h cells slots pc2 L st) : Go p l e R s m args below meth c n0 Q h cells slots pc L (.int x :: st) := by
  subst h2
  by_cases q : x < (0 : Int32)
  · exact step (fun T locs X _ t k => XS.ifNo X.here C.1 rfl (hb C.2.1 hd) rfl ((if0 _ _).trans (tlt q).2.1) k) (g2 q)
  · exact step (fun T locs X _ t k => XS.ifYes X.here C.1 rfl (pc0 := pc) (pc' := pc1) rfl (hb C.2.1 hd) rfl ((if0 _ _).trans (flt q).2.1) h1.1 h1.2 k) (g1 q)
theorem g_lcmpge (C : Ctx p l e R s m args below meth c Z own nm bs ml rt) {x y : Int64} {o : Int} (hd0 : decode bs pc = .ok (.lcmp, 1)) (pcm : Nat) (hm : pcm = pc + 1) (hd : decode bs pcm = .ok (.ifCond .ge o, 3)) (pc1 : Nat) (h1 : 0 ≤ ((pcm : Nat) : Int) + o ∧ (((pcm : Nat) : Int) + o).toNat = pc1) (pc2 : Nat) (h2 : pc2 = pcm + 3) (g1 : (¬ x < y) → Go p l e R s m args below meth c n0 Q h cells slots pc1 L st) (g2 : (x < y) → Go p l e R s m args below meth c n0 Q h cells slots pc2 L st) : Go p l e R s m args below meth c n0 Q h cells slots pc L (.long y :: .long x :: st) := by
  subst hm
  have hw : ∀ (T : State) (locs : List Loc), Stand p l e R s m args below meth c T locs cells slots → ∀ t, Steps p.tables e below (T.setTop (mkF m (pc + 1) L (.int (lcmpW x y) :: st))) t → Steps p.tables e below (T.setTop (mkF m pc L (.long y :: .long x :: st))) t := fun T locs X t k => XS.lcmp X.here C.1 rfl (hb C.2.1 hd0) rfl k
  subst h2
  by_cases q : x < y
  · exact step (fun T locs X _ t k => hw T locs X t (XS.ifNo X.here C.1 rfl (hb C.2.1 hd) rfl ((if0 _ _).trans (tlt ((lw_lt x y).mpr q)).2.1) k)) (g2 q)
  · exact step (fun T locs X _ t k => hw T locs X t (XS.ifYes X.here C.1 rfl (pc0 := pc + 1) (pc' := pc1) rfl (hb C.2.1 hd) rfl ((if0 _ _).trans (flt (fun z => q ((lw_lt x y).mp z))).2.1) h1.1 h1.2 k)) (g1 q)
theorem g_if_icmpgt (C : Ctx p l e R s m args below meth c Z own nm bs ml rt) {x y : Int32} {o : Int} (hd : decode bs pc = .ok (.if_icmp .gt o, 3)) (pc1 : Nat) (h1 : 0 ≤ ((pc : Nat) : Int) + o ∧ (((pc : Nat) : Int) + o).toNat = pc1) (pc2 : Nat) (h2 : pc2 = pc + 3) (g1 : (y < x) → Go p l e R s m args below meth c n0 Q h cells slots pc1 L st) (g2 : (¬ y < x) → Go p l e R s m args below meth c n0 Q h cells slots pc2 L st) : Go p l e R s m args below meth c n0 Q h cells slots pc L (.int y :: .int x :: st) := by
  subst h2
  by_cases q : y < x
  · exact step (fun T locs X _ t k => XS.icmpYes X.here C.1 rfl (pc0 := pc) (pc' := pc1) rfl (hb C.2.1 hd) rfl (tlt q).2.2.1 h1.1 h1.2 k) (g1 q)
  · exact step (fun T locs X _ t k => XS.icmpNo X.here C.1 rfl (hb C.2.1 hd) rfl (flt q).2.2.1 k) (g2 q)
theorem g_ifgt (C : Ctx p l e R s m args below meth c Z own nm bs ml rt) {x : Int32} {o : Int} (hd : decode bs pc = .ok (.ifCond .gt o, 3)) (pc1 : Nat) (h1 : 0 ≤ ((pc : Nat) : Int) + o ∧ (((pc : Nat) : Int) + o).toNat = pc1) (pc2 : Nat) (h2 : pc2 = pc + 3) (g1 : ((0 : Int32) < x) → Go p l e R s m args below meth c n0 Q h cells slots pc1 L st) (g2 : (¬ (0 : Int32) < x) → Go p l e R s m args below meth c n0 Q h cells slots pc2 L st) : Go p l e R s m args below meth c n0 Q h cells slots pc L (.int x :: st) := by
  subst h2
  by_cases q : (0 : Int32) < x
  · exact step (fun T locs X _ t k => XS.ifYes X.here C.1 rfl (pc0 := pc) (pc' := pc1) rfl (hb C.2.1 hd) rfl ((if0 _ _).trans (tlt q).2.2.1) h1.1 h1.2 k) (g1 q)
  · exact step (fun T locs X _ t k => XS.ifNo X.here C.1 rfl (hb C.2.1 hd) rfl ((if0 _ _).trans (flt q).2.2.1) k) (g2 q)
theorem g_lcmpgt (C : Ctx p l e R s m args below meth c Z own nm bs ml rt) {x y : Int64} {o : Int} (hd0 : decode bs pc = .ok (.lcmp, 1)) (pcm : Nat) (hm : pcm = pc + 1) (hd : decode bs pcm = .ok (.ifCond .gt o, 3)) (pc1 : Nat) (h1 : 0 ≤ ((pcm : Nat) : Int) + o ∧ (((pcm : Nat) : Int) + o).toNat = pc1) (pc2 : Nat) (h2 : pc2 = pcm + 3) (g1 : (y < x) → Go p l e R s m args below meth c n0 Q h cells slots pc1 L st) (g2 : (¬ y < x) → Go p l e R s m args below meth c n0 Q h cells slots pc2 L st) : Go p l e R s m args below meth c n0 Q h cells slots pc L (.long y :: .long x :: st) := by
  subst hm
  have hw : ∀ (T : State) (locs : List Loc), Stand p l e R s m args below meth c T locs cells slots → ∀ t, Steps p.tables e below (T.setTop (mkF m (pc + 1) L (.int (lcmpW x y) :: st))) t → Steps p.tables e below (T.setTop (mkF m pc L (.long y :: .long x :: st))) t := fun T locs X t k => XS.lcmp X.here C.1 rfl (hb C.2.1 hd0) rfl k
  subst h2
  by_cases q : y < x
  · exact step (fun T locs X _ t k => hw T locs X t (XS.ifYes X.here C.1 rfl (pc0 := pc + 1) (pc' := pc1) rfl (hb C.2.1 hd) rfl ((if0 _ _).trans (tlt ((lw_gt x y).mpr q)).2.2.1) h1.1 h1.2 k)) (g1 q)
  · exact step (fun T locs X _ t k => hw T locs X t (XS.ifNo X.here C.1 rfl (hb C.2.1 hd) rfl ((if0 _ _).trans (flt (fun z => q ((lw_gt x y).mp z))).2.2.1) k)) (g2 q)
theorem g_if_icmple (C : Ctx p l e R s m args below meth c Z own nm bs ml rt) {x y : Int32} {o : Int} (hd : decode bs pc = .ok (.if_icmp .le o, 3)) (pc1 : Nat) (h1 : 0 ≤ ((pc : Nat) : Int) + o ∧ (((pc : Nat) : Int) + o).toNat = pc1) (pc2 : Nat) (h2 : pc2 = pc + 3) (g1 : (¬ y < x) → Go p l e R s m args below meth c n0 Q h cells slots pc1 L st) (g2 : (y < x) → Go p l e R s m args below meth c n0 Q h cells slots pc2 L st) : Go p l e R s m args below meth c n0 Q h cells slots pc L (.int y :: .int x :: st) := by
  subst h2
  by_cases q : y < x
  · exact step (fun T locs X _ t k => XS.icmpNo X.here C.1 rfl (hb C.2.1 hd) rfl (tlt q).2.2.2 k) (g2 q)
  · exact step (fun T locs X _ t k => XS.icmpYes X.here C.1 rfl (pc0 := pc) (pc' := pc1) rfl (hb C.2.1 hd) rfl (flt q).2.2.2 h1.1 h1.2 k) (g1 q)
theorem g_ifle (C : Ctx p l e R s m args below meth c Z own nm bs ml rt) {x : Int32} {o : Int} (hd : decode bs pc = .ok (.ifCond .le o, 3)) (pc1 : Nat) (h1 : 0 ≤ ((pc : Nat) : Int) + o ∧ (((pc : Nat) : Int) + o).toNat = pc1) (pc2 : Nat) (h2 : pc2 = pc + 3) (g1 : (¬ (0 : Int32) < x) → Go p l e R s m args below meth c n0 Q h cells slots pc1 L st) (g2 : ((0 : Int32) < x) → Go p l e R s m args below meth c n0 Q h cells slots pc2 L st) : Go p l e R s m args below meth c n0 Q h cells slots pc L (.int x :: st) := by
  subst h2
  by_cases q : (0 : Int32) < x
  · exact step (fun T locs X _ t k => XS.ifNo X.here C.1 rfl (hb C.2.1 hd) rfl ((if0 _ _).trans (tlt q).2.2.2) k) (g2 q)
  · exact step (fun T locs X _ t k => XS.ifYes X.here C.1 rfl (pc0 := pc) (pc' := pc1) rfl (hb C.2.1 hd) rfl ((if0 _ _).trans (flt q).2.2.2) h1.1 h1.2 k) (g1 q)
theorem g_lcmple (C : Ctx p l e R s m args below meth c Z own nm bs ml rt) {x y : Int64} {o : Int} (hd0 : decode bs pc = .ok (.lcmp, 1)) (pcm : Nat) (hm : pcm = pc + 1) (hd : decode bs pcm = .ok (.ifCond .le o, 3)) (pc1 : Nat) (h1 : 0 ≤ ((pcm : Nat) : Int) + o ∧ (((pcm : Nat) : Int) + o).toNat = pc1) (pc2 : Nat) (h2 : pc2 = pcm + 3) (g1 : (¬ y < x) → Go p l e R s m args below meth c n0 Q h cells slots pc1 L st) (g2 : (y < x) → Go p l e R s m args below meth c n0 Q h cells slots pc2 L st) : Go p l e R s m args below meth c n0 Q h cells slots pc L (.long y :: .long x :: st) := by
  subst hm
  have hw : ∀ (T : State) (locs : List Loc), Stand p l e R s m args below meth c T locs cells slots → ∀ t, Steps p.tables e below (T.setTop (mkF m (pc + 1) L (.int (lcmpW x y) :: st))) t → Steps p.tables e below (T.setTop (mkF m pc L (.long y :: .long x :: st))) t := fun T locs X t k => XS.lcmp X.here C.1 rfl (hb C.2.1 hd0) rfl k
  subst h2
  by_cases q : y < x
  · exact step (fun T locs X _ t k => hw T locs X t (XS.ifNo X.here C.1 rfl (hb C.2.1 hd) rfl ((if0 _ _).trans (tlt ((lw_gt x y).mpr q)).2.2.2) k)) (g2 q)
  · exact step (fun T locs X _ t k => hw T locs X t (XS.ifYes X.here C.1 rfl (pc0 := pc + 1) (pc' := pc1) rfl (hb C.2.1 hd) rfl ((if0 _ _).trans (flt (fun z => q ((lw_gt x y).mp z))).2.2.2) h1.1 h1.2 k)) (g1 q)
theorem fin {v : Option Value} (C : Ctx p l e R s m args below meth c Z own nm bs ml rt) (hc : cells ≤ R.cells) (hs : slots ≤ R.slots) (hv : rt = none → v = none) (k : ∀ (T : State) (locs : List Loc), Stand p l e R s m args below meth c T locs cells slots → ∀ fs, (∀ (f : JFrame) (acts : List Action), f.method = m → f.locked = none → f.entered = [] → (doReturn e (T.setTop f) acts v).1 = T.setFrames fs) → Steps p.tables e below (T.setTop (mkF m pc L st)) (T.setFrames fs)) (q : Q v h) : Go p l e R s m args below meth c n0 Q h cells slots pc L st := fun T locs X eh N => by
  obtain ⟨fs, hr, hrun, hended, hW, hsame⟩ := X.leave (v := v) (fun h => hv (C.2.2.2.2.2.1.symm.trans h)) C.2.2.2.2.2.2.1
  refine ⟨_, v, locs, k T locs X fs hr, hrun, hended, ?_, N, hW, hsame.mono hc hs⟩
  show Q v T.heap
  rw [eh]; exact q
theorem r_int {P : Int32 → Heap → Prop} {z : Int32} (C : Ctx p l e R s m args below meth c Z own nm bs ml (some .int)) (hd : decode bs pc = .ok (.ireturn, 1)) (hc : cells ≤ R.cells) (hs : slots ≤ R.slots) (q : P z h) : Go p l e R s m args below meth c n0 (qI P) h cells slots pc L (.int z :: st) :=
  fin C hc hs (fun h => by cases h) (fun T locs X fs hr => retI X C.1 C.2.2.2.2.2.1 (hb C.2.1 hd) hr) ⟨z, rfl, q⟩
theorem r_nar {P : Int32 → Heap → Prop} {z : Int32} {t : FieldType} (C : Ctx p l e R s m args below meth c Z own nm bs ml (some t)) (ht : t = .boolean ∨ t = .byte ∨ t = .char ∨ t = .short) (hd : decode bs pc = .ok (.ireturn, 1)) (hc : cells ≤ R.cells) (hs : slots ≤ R.slots) (q : P (nar t z) h) : Go p l e R s m args below meth c n0 (qI P) h cells slots pc L (.int z :: st) :=
  fin C hc hs (fun h => by cases h) (fun T locs X fs hr => retN X C.1 C.2.2.2.2.2.1 ht (hb C.2.1 hd) hr) ⟨_, rfl, q⟩
theorem r_long {P : Int64 → Heap → Prop} {z : Int64} (C : Ctx p l e R s m args below meth c Z own nm bs ml (some .long)) (hd : decode bs pc = .ok (.lreturn, 1)) (hc : cells ≤ R.cells) (hs : slots ≤ R.slots) (q : P z h) : Go p l e R s m args below meth c n0 (qJ P) h cells slots pc L (.long z :: st) :=
  fin C hc hs (fun h => by cases h) (fun T locs X fs hr => retOut X C.1 C.2.2.2.2.2.1 rfl (Or.inr (Or.inl ⟨rfl, rfl, z, rfl⟩)) (hb C.2.1 hd) hr) ⟨z, rfl, q⟩
theorem r_ref {P : Addr → Heap → Prop} {z : Addr} {t : FieldType} (C : Ctx p l e R s m args below meth c Z own nm bs ml (some t)) (ht : t.isReference = true) (hn : narrow t (.ref z) = .ref z) (hd : decode bs pc = .ok (.areturn, 1)) (hc : cells ≤ R.cells) (hs : slots ≤ R.slots) (q : P z h) : Go p l e R s m args below meth c n0 (qA P) h cells slots pc L (.ref z :: st) :=
  fin C hc hs (fun h => by cases h) (fun T locs X fs hr => retOut X C.1 C.2.2.2.2.2.1 hn (Or.inr (Or.inr (Or.inr (Or.inr ⟨rfl, ht, rfl⟩)))) (hb C.2.1 hd) hr) ⟨z, rfl, q⟩
theorem r_void {P : Heap → Prop} (C : Ctx p l e R s m args below meth c Z own nm bs ml none) (hd : decode bs pc = .ok (.return_, 1)) (hc : cells ≤ R.cells) (hs : slots ≤ R.slots) (q : P h) : Go p l e R s m args below meth c n0 (qV P) h cells slots pc L [] :=
  fin C hc hs (fun _ => rfl) (fun T locs X fs hr => X.returnOut C.1 C.2.2.2.2.2.1 (hb C.2.1 hd) hr) ⟨rfl, q⟩
theorem g_getfield (C : Ctx p l e R s m args below meth c Z own nm bs ml rt) {O n d host : String} {i : Nat} {a : Addr} {v : Value} (w : (Jvm.Cond.fieldLink own i O n d).before a0 Z = true) (F : Fld Z h a O n d v) (hd : decode bs pc = .ok (.getfield i, 3)) (pc' : Nat) (hp : pc' = pc + 3) (g : Go p l e R s m args below meth c n0 Q h cells slots pc' L (v :: st)) : Go p l e R s m args below meth c n0 Q h cells slots pc L (.ref a :: st) := fun T locs X eh N => by
  subst hp
  obtain ⟨T1, X1, e1, st1⟩ := getF X C.1 C.2.2.1 C.2.2.2.1 (host := "") (Or.inl w) Via.refl eh F (g := mkF m pc L (.ref a :: st)) rfl rfl (hb C.2.1 hd)
  obtain ⟨s2, u, L', x1, x2⟩ := g T1 locs X1 e1 N
  exact ⟨s2, u, L', st1 _ x1, x2⟩
theorem g_putfield (C : Ctx p l e R s m args below meth c Z own nm bs ml rt) {O n d K : String} {i kk : Nat} {ty : FieldType} {a : Addr} {v old : Value} (w : (Jvm.Cond.fieldLink own i O n d).before a0 Z = true) (F : Fld Z h a O n d old) (E : Exa Z h a K) (hL : (Jvm.Cond.lays K O n d).before a0 Z = true ∨ ((Jvm.Cond.laysFinal K O n d).before a0 Z = true ∧ own = O ∧ nm = "<init>")) (wi : (Jvm.Cond.instantiable K kk).before a0 Z = true) (hty : parseFieldDescriptor d = some ty) (hn : narrow ty v = v) (hf : fits ty v = true) (hd : decode bs pc = .ok (.putfield i, 3)) (pc' : Nat) (hp : pc' = pc + 3) (hna : n0 ≤ a) (g : ∀ h', Wr h h' a (Jvm.RoadKit.slotOf Z O n d) v → Go p l e R s m args below meth c n0 Q h' cells slots pc' L st) : Go p l e R s m args below meth c n0 Q h cells slots pc L (v :: .ref a :: st) := fun T locs X eh N => by
  subst hp
  obtain ⟨T1, h1, X1, e1, W1, st1⟩ := putF X C.1 C.2.2.1 C.2.2.2.1 (host := "") (Or.inl w) Via.refl eh F E (hL.imp id fun q => ⟨q.1, q.2.1, C.2.2.2.2.2.2.2.trans q.2.2⟩) wi hty hn hf (g := mkF m pc L (v :: .ref a :: st)) rfl rfl (hb C.2.1 hd)
  obtain ⟨s2, u, L', x1, x2⟩ := g h1 W1 T1 _ X1 e1 (Fr.snoc X1 N hna)
  exact ⟨s2, u, L', st1 _ x1, x2⟩
theorem g_new (C : Ctx p l e R s m args below meth c Z own nm bs ml rt) {K : String} {i n : Nat} (w : (Jvm.Cond.classLink own i K).before a0 Z = true) (wi : (Jvm.Cond.instantiable K n).before a0 Z = true) (wz : (Jvm.Cond.initialized K).before a0 Z = true) (hd : decode bs pc = .ok (.new i, 3)) (pc' : Nat) (hp : pc' = pc + 3) (cells' slots' : Nat) (hc' : cells' = cells + 1) (hs' : slots' = slots + n) (hc : cells' ≤ R.cells) (hs : slots' ≤ R.slots) (g : ∀ h' a, a = h.size → Ext h h' → Exa Z h' a K → (∀ {O nm d : String} {ty : FieldType}, Laid Z a0 K O nm d → parseFieldDescriptor d = some ty → Fld Z h' a O nm d (defaultValue ty)) → Go p l e R s m args below meth c n0 Q h' cells' slots' pc' L (.ref a :: st)) : Go p l e R s m args below meth c n0 Q h cells slots pc L st := fun T locs X eh N => by
  subst hp hc' hs'
  obtain ⟨T1, h1, X1, e1, E1, A1, D1, -, st1⟩ := newO X C.1 C.2.2.1 C.2.2.2.1 w wi wz eh (g := mkF m pc L st) rfl (hb C.2.1 hd) hc hs
  obtain ⟨s2, u, L', x1, x2⟩ := g h1 _ rfl E1 A1 D1 T1 _ X1 e1 N
  exact ⟨s2, u, L', st1 _ x1, x2⟩
theorem g_objinit (C : Ctx p l e R s m args below meth c Z own nm bs ml rt) {i : Nat} {a : Addr} (w1 : (Jvm.Cond.methodLink own i Lib.objectInit).before a0 Z = true) (w2 : (Jvm.Cond.instanceMethod Lib.objectInit).before a0 Z = true) (w3 : (Jvm.Cond.code Lib.objectInit ⟨#[0xb1]⟩ 1 none).before a0 Z = true) (hd : decode bs pc = .ok (.invokespecial i, 3)) (pc' : Nat) (hp : pc' = pc + 3) (hL : L.size = ml) (hf : 1 ≤ R.frames) (W : Nat) (hW : 2 * 0 + (st.map fun v => v.category).sum ≤ W) (hl : W + 12 ≤ R.locals) (g : Go p l e R s m args below meth c n0 Q h cells slots pc' L st) : Go p l e R s m args below meth c n0 Q h cells slots pc L (.ref a :: st) := fun T locs X eh N => by
  subst hp
  obtain ⟨T1, X1, e1, st1⟩ := initO X C.1 C.2.2.1 C.2.2.2.1 w1 w2 w3 eh (g := mkF m pc L (.ref a :: st)) rfl (hL.trans C.2.2.2.2.1.symm) rfl (hb C.2.1 hd) hf (W := W) hW hl
  obtain ⟨s2, u, L', x1, x2⟩ := g T1 locs X1 e1 N
  exact ⟨s2, u, L', st1 _ x1, x2⟩
theorem g_instY (C : Ctx p l e R s m args below meth c Z own nm bs ml rt) {K : String} {i : Nat} {a : Addr} (w : (Jvm.Cond.classLink own i K).before a0 Z = true) (F : Ins Z h a K true) (hd : decode bs pc = .ok (.instanceof i, 3)) (pc' : Nat) (hp : pc' = pc + 3) (g : Go p l e R s m args below meth c n0 Q h cells slots pc' L (.int 1 :: st)) : Go p l e R s m args below meth c n0 Q h cells slots pc L (.ref a :: st) := fun T locs X eh N => by
  subst hp
  obtain ⟨T1, X1, e1, st1⟩ := instY X C.1 C.2.2.1 C.2.2.2.1 w eh F (g := mkF m pc L (.ref a :: st)) rfl rfl (hb C.2.1 hd)
  obtain ⟨s2, u, L', x1, x2⟩ := g T1 locs X1 e1 N
  exact ⟨s2, u, L', st1 _ x1, x2⟩
theorem g_instNo (C : Ctx p l e R s m args below meth c Z own nm bs ml rt) {K K0 : String} {i : Nat} {a : Addr} (w : (Jvm.Cond.classLink own i K).before a0 Z = true) (E : Exa Z h a K0) (F : ∃ c t, Z.vm.findClass K0 = some c ∧ Z.vm.findClass K = some t ∧ Z.vm.assignable c t = false) (hd : decode bs pc = .ok (.instanceof i, 3)) (pc' : Nat) (hp : pc' = pc + 3) (g : Go p l e R s m args below meth c n0 Q h cells slots pc' L (.int 0 :: st)) : Go p l e R s m args below meth c n0 Q h cells slots pc L (.ref a :: st) := fun T locs X eh N => by
  subst hp
  obtain ⟨T1, X1, e1, st1⟩ := instNo X C.1 C.2.2.1 C.2.2.2.1 w eh E F (g := mkF m pc L (.ref a :: st)) rfl rfl (hb C.2.1 hd)
  obtain ⟨s2, u, L', x1, x2⟩ := g T1 locs X1 e1 N
  exact ⟨s2, u, L', st1 _ x1, x2⟩
theorem g_instNull (C : Ctx p l e R s m args below meth c Z own nm bs ml rt) {i : Nat} (hd : decode bs pc = .ok (.instanceof i, 3)) (pc' : Nat) (hp : pc' = pc + 3) (g : Go p l e R s m args below meth c n0 Q h cells slots pc' L (.int 0 :: st)) : Go p l e R s m args below meth c n0 Q h cells slots pc L (.null :: st) := by
  subst hp
  exact step (fun T locs X _ t k => X.instanceofNull C.1 (g := mkF m pc L (.null :: st)) rfl rfl (hb C.2.1 hd) _ k) g
theorem g_checkcast (C : Ctx p l e R s m args below meth c Z own nm bs ml rt) {K : String} {i : Nat} {a : Addr} (w : (Jvm.Cond.classLink own i K).before a0 Z = true) (F : Ins Z h a K true) (hd : decode bs pc = .ok (.checkcast i, 3)) (pc' : Nat) (hp : pc' = pc + 3) (g : Go p l e R s m args below meth c n0 Q h cells slots pc' L (.ref a :: st)) : Go p l e R s m args below meth c n0 Q h cells slots pc L (.ref a :: st) := fun T locs X eh N => by
  subst hp
  obtain ⟨T1, X1, e1, st1⟩ := castY X C.1 C.2.2.1 C.2.2.2.1 w eh F (g := mkF m pc L (.ref a :: st)) rfl rfl (hb C.2.1 hd)
  obtain ⟨s2, u, L', x1, x2⟩ := g T1 locs X1 e1 N
  exact ⟨s2, u, L', st1 _ x1, x2⟩
/-- a local that holds nothing or an int; two that hold nothing or a long -/
def One (s : Slot) : Prop := s = .unset ∨ ∃ x : Int32, s = .val (.int x)
def Two (s t : Slot) : Prop := (s = .unset ∧ t = .unset) ∨ ∃ x : Int64, s = .val (.long x) ∧ t = .second
theorem One.u : One .unset := Or.inl rfl
theorem One.i {x : Int32} : One (.val (.int x)) := Or.inr ⟨x, rfl⟩
theorem Two.u : Two .unset .unset := Or.inl ⟨rfl, rfl⟩
theorem Two.j {x : Int64} : Two (.val (.long x)) .second := Or.inr ⟨x, rfl, rfl⟩
/-- the array at a: N places, place j holds f j -/
def Ary (Z : State) (h : Heap) (a : Addr) (ty : FieldType) (N : Nat) (f : Nat → Value) : Prop := N < 2 ^ 31 ∧ ∃ cl : Cell, Arr Z h a cl ty ∧ cl.slots.size = N ∧ ∀ j, j < N → cl.slots[j]? = some (f j)
def upd (f : Nat → Value) (i : Nat) (v : Value) : Nat → Value := fun j => if j = i then v else f j
theorem Ary.lt {a : Addr} {ty : FieldType} {N : Nat} {f : Nat → Value} (A : Ary Z h a ty N f) : a < h.size := by obtain ⟨-, cl, A1, -⟩ := A; exact A1.lt
theorem Ary.ext {h' : Heap} {a : Addr} {ty : FieldType} {N : Nat} {f : Nat → Value} (A : Ary Z h a ty N f) (E : Ext h h') : Ary Z h' a ty N f := by obtain ⟨q, cl, A1, A2⟩ := A; exact ⟨q, cl, A1.ext E, A2⟩
theorem Ary.other {h' : Heap} {a b : Addr} {sl : Nat} {v : Value} {ty : FieldType} {N : Nat} {f : Nat → Value} (A : Ary Z h a ty N f) (W : Wr h h' b sl v) (q : a ≠ b) : Ary Z h' a ty N f := by obtain ⟨q0, cl, A1, A2⟩ := A; exact ⟨q0, cl, A1.other W q, A2⟩
theorem Ary.keep {h' : Heap} {a : Addr} {ws : List Addr} {ty : FieldType} {N : Nat} {f : Nat → Value} (A : Ary Z h a ty N f) (K : Keep h h' ws) (q : a ∉ ws) : Ary Z h' a ty N f := by obtain ⟨q0, cl, A1, A2⟩ := A; exact ⟨q0, cl, ⟨K.2.1 _ _ A1.1 q, A1.2⟩, A2⟩
theorem Ary.congr {a : Addr} {ty : FieldType} {N : Nat} {f f' : Nat → Value} (A : Ary Z h a ty N f) (q : ∀ j, j < N → f j = f' j) : Ary Z h a ty N f' := by obtain ⟨q0, cl, A1, A2, A3⟩ := A; exact ⟨q0, cl, A1, A2, fun j hj => by rw [A3 j hj, q j hj]⟩
theorem Ary.set {h' : Heap} {a : Addr} {i : Nat} {v : Value} {ty : FieldType} {N : Nat} {f : Nat → Value} (A : Ary Z h a ty N f) (W : Wr h h' a i v) : Ary Z h' a ty N (upd f i v) := by
  obtain ⟨q0, cl, A1, A2, A3⟩ := A
  refine ⟨q0, _, A1.same W, by rw [sz_set]; exact A2, fun j hj => ?_⟩
  obtain ⟨cell, w1, -, w3, -⟩ := W
  cases A1.1.symm.trans w1
  by_cases q : j = i
  · subst q; simp [upd, Cell.setSlot, w3]
  · rw [upd, if_neg q, ← A3 j hj]; simp [Cell.setSlot, Ne.symm q]
theorem Ary.wrlt {h' : Heap} {a : Addr} {i : Nat} {v : Value} {ty : FieldType} {N : Nat} {f : Nat → Value} (A : Ary Z h a ty N f) (W : Wr h h' a i v) : h'.size = h.size := W.size
def upn (f : Nat → Int32) (i : Nat) (v : Int32) : Nat → Int32 := fun j => if j = i then v else f j
theorem Ary.asI {a : Addr} {ty : FieldType} {N i : Nat} {f : Nat → Int32} {v : Int32} (A : Ary Z h a ty N (upd (fun j => .int (f j)) i (.int v))) : Ary Z h a ty N (fun j => .int (upn f i v j)) := A.congr (fun j _ => by
  show (if j = i then Value.int v else Value.int (f j)) = Value.int (if j = i then v else f j)
  split <;> rfl)
/-- the int j is the place i -/
def Ix (j : Int32) (i : Nat) : Prop := ¬ j < 0 ∧ j.toNatClampNeg = i
theorem Ix.inb {j : Int32} {i N : Nat} {cl : Cell} (x : Ix j i) (hi : i < N) (S : cl.slots.size = N) : ¬ (j < 0 ∨ cl.slots.size ≤ j.toNatClampNeg) := by
  rintro (q | q)
  · exact x.1 q
  · rw [x.2] at q; omega
theorem Ix.toInt {j : Int32} {i : Nat} (x : Ix j i) : j.toInt = (i : Int) := by
  obtain ⟨h1, h2⟩ := x
  rw [Int32.lt_iff_toInt_lt] at h1
  have h3 : j.toInt.toNat = i := h2
  have h4 : (0 : Int32).toInt = 0 := rfl
  omega
theorem Ix.of {j : Int32} {i : Nat} (h : j.toInt = (i : Int)) : Ix j i := by
  refine ⟨?_, ?_⟩
  · rw [Int32.lt_iff_toInt_lt]
    have h4 : (0 : Int32).toInt = 0 := rfl
    omega
  · show j.toInt.toNat = i
    omega
theorem Ix.lt {a b : Int32} {i j : Nat} (x : Ix a i) (y : Ix b j) : a < b ↔ i < j := by
  rw [Int32.lt_iff_toInt_lt, x.toInt, y.toInt]; omega
theorem Ix.eq {a b : Int32} {i j : Nat} (x : Ix a i) (y : Ix b j) : a = b ↔ i = j := by
  rw [← Int32.toInt_inj, x.toInt, y.toInt]; omega
theorem Ix.add {a b : Int32} {i j : Nat} (x : Ix a i) (y : Ix b j) (h : i + j < 2147483648) : Ix (a + b) (i + j) := by
  apply Ix.of
  rw [Int32.toInt_add, x.toInt, y.toInt]
  have h2 : ((i : Int) + (j : Int)).bmod (2 ^ 32) = (i : Int) + (j : Int) := Int.bmod_eq_of_le (by omega) (by omega)
  rw [h2]; omega
theorem Ix.sub {a b : Int32} {i j : Nat} (x : Ix a i) (y : Ix b j) (h : j ≤ i) (hi : i < 2147483648) : Ix (a - b) (i - j) := by
  apply Ix.of
  rw [Int32.toInt_sub, x.toInt, y.toInt]
  have h2 : ((i : Int) - (j : Int)).bmod (2 ^ 32) = (i : Int) - (j : Int) := Int.bmod_eq_of_le (by omega) (by omega)
  rw [h2]; omega
theorem Ix.mul {a b : Int32} {i j : Nat} (x : Ix a i) (y : Ix b j) (h : i * j < 2147483648) : Ix (a * b) (i * j) := by
  apply Ix.of
  rw [Int32.toInt_mul, x.toInt, y.toInt, ← Int.natCast_mul]
  exact Int.bmod_eq_of_le (by omega) (by omega)
theorem Ix.nz {y : Int32} {n : Nat} (x : Ix y n) (h : 0 < n) : y ≠ 0 := fun q => by
  have := x.toInt
  rw [q] at this
  have h0 : (0 : Int32).toInt = 0 := rfl
  omega
theorem nn31 (x : Int32) : 0 ≤ (x &&& 2147483647).toInt := (c_andS x 2147483647).2.2 (by decide)
theorem Ix.rem {x y : Int32} {n : Nat} (hx : 0 ≤ x.toInt) (hy : Ix y n) (hn : 0 < n) : ∃ i, i < n ∧ Ix (x % y) i := by
  have h0 : (x % y).toInt = x.toInt % (n : Int) := by
    rw [Int32.toInt_mod, hy.toInt]; exact Int.tmod_eq_emod_of_nonneg hx
  have h1 : 0 ≤ x.toInt % (n : Int) := Int.emod_nonneg _ (by omega)
  have h2 : x.toInt % (n : Int) < n := Int.emod_lt_of_pos _ (by omega)
  exact ⟨(x.toInt % (n : Int)).toNat, by omega, Ix.of (by omega)⟩
theorem Ix.succ {a : Int32} {i : Nat} (x : Ix a i) (h : i + 1 < 2147483648) : Ix (a + 1) (i + 1) := x.add (b := 1) (j := 1) ⟨by decide, by decide⟩ h
theorem g_iaload (C : Ctx p l e R s m args below meth c Z own nm bs ml rt) {a : Addr} {N : Nat} {f : Nat → Value} {j : Int32} (A : Ary Z h a .int N f) (i : Nat) (hj : Ix j i) (hi : i < N) (v : Value) (hv : f i = v) (hd : decode bs pc = .ok (.iaload, 1)) (pc' : Nat) (hp : pc' = pc + 1) (g : Go p l e R s m args below meth c n0 Q h cells slots pc' L (v :: st)) : Go p l e R s m args below meth c n0 Q h cells slots pc L (.int j :: .ref a :: st) := by
  subst hp hv
  obtain ⟨q0, cl, A1, A2, A3⟩ := A
  exact step (fun T locs X eh t k => X.iaload C.1 (j := j) (v := f i) (by rw [eh]; exact A1.1) (State.isArrayOf_alike C.2.2.1.alike A1.2.1) A1.2.2 (hj.inb hi A2) (by rw [hj.2]; exact A3 i hi) (g := mkF m pc L (.int j :: .ref a :: st)) rfl rfl (hb C.2.1 hd) _ k) g
theorem g_laload (C : Ctx p l e R s m args below meth c Z own nm bs ml rt) {a : Addr} {N : Nat} {f : Nat → Value} {j : Int32} (A : Ary Z h a .long N f) (i : Nat) (hj : Ix j i) (hi : i < N) (v : Value) (hv : f i = v) (hd : decode bs pc = .ok (.laload, 1)) (pc' : Nat) (hp : pc' = pc + 1) (g : Go p l e R s m args below meth c n0 Q h cells slots pc' L (v :: st)) : Go p l e R s m args below meth c n0 Q h cells slots pc L (.int j :: .ref a :: st) := by
  subst hp hv
  obtain ⟨q0, cl, A1, A2, A3⟩ := A
  exact step (fun T locs X eh t k => X.laload C.1 (j := j) (v := f i) (by rw [eh]; exact A1.1) (State.isArrayOf_alike C.2.2.1.alike A1.2.1) A1.2.2 (hj.inb hi A2) (by rw [hj.2]; exact A3 i hi) (g := mkF m pc L (.int j :: .ref a :: st)) rfl rfl (hb C.2.1 hd) _ k) g
theorem g_caload (C : Ctx p l e R s m args below meth c Z own nm bs ml rt) {a : Addr} {N : Nat} {f : Nat → Value} {j : Int32} (A : Ary Z h a .char N f) (i : Nat) (hj : Ix j i) (hi : i < N) (v : Value) (hv : f i = v) (hd : decode bs pc = .ok (.caload, 1)) (pc' : Nat) (hp : pc' = pc + 1) (g : Go p l e R s m args below meth c n0 Q h cells slots pc' L (v :: st)) : Go p l e R s m args below meth c n0 Q h cells slots pc L (.int j :: .ref a :: st) := by
  subst hp hv
  obtain ⟨q0, cl, A1, A2, A3⟩ := A
  exact step (fun T locs X eh t k => X.caload C.1 (j := j) (v := f i) (by rw [eh]; exact A1.1) (State.isArrayOf_alike C.2.2.1.alike A1.2.1) A1.2.2 (hj.inb hi A2) (by rw [hj.2]; exact A3 i hi) (g := mkF m pc L (.int j :: .ref a :: st)) rfl rfl (hb C.2.1 hd) _ k) g
theorem g_baload (C : Ctx p l e R s m args below meth c Z own nm bs ml rt) {a : Addr} {N : Nat} {f : Nat → Value} {j : Int32} (A : Ary Z h a .byte N f) (i : Nat) (hj : Ix j i) (hi : i < N) (v : Value) (hv : f i = v) (hd : decode bs pc = .ok (.baload, 1)) (pc' : Nat) (hp : pc' = pc + 1) (g : Go p l e R s m args below meth c n0 Q h cells slots pc' L (v :: st)) : Go p l e R s m args below meth c n0 Q h cells slots pc L (.int j :: .ref a :: st) := by
  subst hp hv
  obtain ⟨q0, cl, A1, A2, A3⟩ := A
  exact step (fun T locs X eh t k => X.baloadBytes C.1 (j := j) (v := f i) (by rw [eh]; exact A1.1) (State.isArrayOf_alike C.2.2.1.alike A1.2.1) A1.2.2 (hj.inb hi A2) (by rw [hj.2]; exact A3 i hi) (g := mkF m pc L (.int j :: .ref a :: st)) rfl rfl (hb C.2.1 hd) _ k) g
theorem g_iastore (C : Ctx p l e R s m args below meth c Z own nm bs ml rt) {a : Addr} {N : Nat} {f : Nat → Value} {j : Int32} {x : Int32} (A : Ary Z h a .int N f) (i : Nat) (hj : Ix j i) (hi : i < N) (hd : decode bs pc = .ok (.iastore, 1)) (pc' : Nat) (hp : pc' = pc + 1) (hna : n0 ≤ a) (g : ∀ h', Wr h h' a i (.int x) → Ary Z h' a .int N (upd f i (.int x)) → Go p l e R s m args below meth c n0 Q h' cells slots pc' L st) : Go p l e R s m args below meth c n0 Q h cells slots pc L (.int x :: .int j :: .ref a :: st) := fun T locs X eh N' => by
  subst hp
  have A0 := A
  obtain ⟨q0, cl, A1, A2, A3⟩ := A
  obtain ⟨T1, h1, X1, e1, W1, st1⟩ := stI X C.1 C.2.2.1 eh A1 (hj.inb hi A2) (g := mkF m pc L (.int x :: .int j :: .ref a :: st)) rfl rfl (hb C.2.1 hd)
  have W2 : Wr h h1 a i (.int x) := by have := W1; rw [hj.2] at this; exact this
  obtain ⟨s2, u, L', x1, x2⟩ := g h1 W2 (A0.set W2) T1 _ X1 e1 (Fr.snoc X1 N' hna)
  exact ⟨s2, u, L', st1 _ x1, x2⟩
theorem g_lastore (C : Ctx p l e R s m args below meth c Z own nm bs ml rt) {a : Addr} {N : Nat} {f : Nat → Value} {j : Int32} {x : Int64} (A : Ary Z h a .long N f) (i : Nat) (hj : Ix j i) (hi : i < N) (hd : decode bs pc = .ok (.lastore, 1)) (pc' : Nat) (hp : pc' = pc + 1) (hna : n0 ≤ a) (g : ∀ h', Wr h h' a i (.long x) → Ary Z h' a .long N (upd f i (.long x)) → Go p l e R s m args below meth c n0 Q h' cells slots pc' L st) : Go p l e R s m args below meth c n0 Q h cells slots pc L (.long x :: .int j :: .ref a :: st) := fun T locs X eh N' => by
  subst hp
  have A0 := A
  obtain ⟨q0, cl, A1, A2, A3⟩ := A
  obtain ⟨T1, h1, X1, e1, W1, st1⟩ := stJ X C.1 C.2.2.1 eh A1 (hj.inb hi A2) (g := mkF m pc L (.long x :: .int j :: .ref a :: st)) rfl rfl (hb C.2.1 hd)
  have W2 : Wr h h1 a i (.long x) := by have := W1; rw [hj.2] at this; exact this
  obtain ⟨s2, u, L', x1, x2⟩ := g h1 W2 (A0.set W2) T1 _ X1 e1 (Fr.snoc X1 N' hna)
  exact ⟨s2, u, L', st1 _ x1, x2⟩
theorem g_castore (C : Ctx p l e R s m args below meth c Z own nm bs ml rt) {a : Addr} {N : Nat} {f : Nat → Value} {j : Int32} {x : Int32} (A : Ary Z h a .char N f) (i : Nat) (hj : Ix j i) (hi : i < N) (hd : decode bs pc = .ok (.castore, 1)) (pc' : Nat) (hp : pc' = pc + 1) (hna : n0 ≤ a) (g : ∀ h', Wr h h' a i (.int (nar .char x)) → Ary Z h' a .char N (upd f i (.int (nar .char x))) → Go p l e R s m args below meth c n0 Q h' cells slots pc' L st) : Go p l e R s m args below meth c n0 Q h cells slots pc L (.int x :: .int j :: .ref a :: st) := fun T locs X eh N' => by
  subst hp
  have A0 := A
  obtain ⟨q0, cl, A1, A2, A3⟩ := A
  obtain ⟨T1, h1, X1, e1, W1, st1⟩ := stC X C.1 C.2.2.1 eh A1 (hj.inb hi A2) (g := mkF m pc L (.int x :: .int j :: .ref a :: st)) rfl rfl (hb C.2.1 hd)
  have W2 : Wr h h1 a i (.int (nar .char x)) := by have := W1; rw [hj.2] at this; exact this
  obtain ⟨s2, u, L', x1, x2⟩ := g h1 W2 (A0.set W2) T1 _ X1 e1 (Fr.snoc X1 N' hna)
  exact ⟨s2, u, L', st1 _ x1, x2⟩
theorem g_bastore (C : Ctx p l e R s m args below meth c Z own nm bs ml rt) {a : Addr} {N : Nat} {f : Nat → Value} {j : Int32} {x : Int32} (A : Ary Z h a .byte N f) (i : Nat) (hj : Ix j i) (hi : i < N) (hd : decode bs pc = .ok (.bastore, 1)) (pc' : Nat) (hp : pc' = pc + 1) (hna : n0 ≤ a) (g : ∀ h', Wr h h' a i (.int (nar .byte x)) → Ary Z h' a .byte N (upd f i (.int (nar .byte x))) → Go p l e R s m args below meth c n0 Q h' cells slots pc' L st) : Go p l e R s m args below meth c n0 Q h cells slots pc L (.int x :: .int j :: .ref a :: st) := fun T locs X eh N' => by
  subst hp
  have A0 := A
  obtain ⟨q0, cl, A1, A2, A3⟩ := A
  obtain ⟨T1, h1, X1, e1, W1, st1⟩ := stB X C.1 C.2.2.1 eh A1 (hj.inb hi A2) (g := mkF m pc L (.int x :: .int j :: .ref a :: st)) rfl rfl (hb C.2.1 hd)
  have W2 : Wr h h1 a i (.int (nar .byte x)) := by have := W1; rw [hj.2] at this; exact this
  obtain ⟨s2, u, L', x1, x2⟩ := g h1 W2 (A0.set W2) T1 _ X1 e1 (Fr.snoc X1 N' hna)
  exact ⟨s2, u, L', st1 _ x1, x2⟩
theorem g_arraylength (C : Ctx p l e R s m args below meth c Z own nm bs ml rt) {a : Addr} {ty : FieldType} {N : Nat} {f : Nat → Value} (A : Ary Z h a ty N f) (z : Int32) (hz : Ix z N) (hd : decode bs pc = .ok (.arraylength, 1)) (pc' : Nat) (hp : pc' = pc + 1) (g : Go p l e R s m args below meth c n0 Q h cells slots pc' L (.int z :: st)) : Go p l e R s m args below meth c n0 Q h cells slots pc L (.ref a :: st) := by
  subst hp
  obtain ⟨q0, cl, A1, A2, A3⟩ := A
  have hl : cl.slots.size.toInt32 = z := len_of (A2.trans hz.2.symm) hz.1
  exact step (fun T locs X eh t k => X.arraylength C.1 (by rw [eh]; exact A1.1) (State.isArrayOf_alike C.2.2.1.alike A1.2.1) (g := mkF m pc L (.ref a :: st)) rfl rfl (hb C.2.1 hd) _ (by rw [hl]; exact k)) g
theorem g_newarray (C : Ctx p l e R s m args below meth c Z own nm bs ml rt) {aty : ArrayType} {n : Int32} (w : (Jvm.Cond.arrayClass (newarray.typeOf aty)).before a0 Z = true) (N cap : Nat) (hn : Ix n N) (hN : N ≤ cap) (hb8 : cap * 8 ≤ 536870912) (hd : decode bs pc = .ok (.newarray aty, 2)) (pc' : Nat) (hp : pc' = pc + 2) (cells' slots' : Nat) (hc' : cells' = cells + 1) (hs' : slots' = slots + cap) (hc : cells' ≤ R.cells) (hs : slots' ≤ R.slots) (g : ∀ h' a, a = h.size → Ext h h' → Ary Z h' a (newarray.typeOf aty) N (fun _ => defaultValue (newarray.typeOf aty)) → Go p l e R s m args below meth c n0 Q h' cells' slots' pc' L (.ref a :: st)) : Go p l e R s m args below meth c n0 Q h cells slots pc L (.int n :: st) := fun T locs X eh N' => by
  subst hp hc' hs'
  obtain ⟨T1, h1, cA, X1, e1, E1, A1, st1⟩ := newP X C.1 C.2.2.1 w eh (g := mkF m pc L (.int n :: st)) rfl (hb C.2.1 hd) rfl hn.1 (cap := cap) (by rw [hn.2]; exact hN) hb8 hc hs
  obtain ⟨s2, u, L', x1, x2⟩ := g h1 _ rfl E1 ⟨by omega, _, A1, by rw [sz_new, hn.2], fun j hj => by simp [newA, hn.2, hj]⟩ T1 _ X1 e1 N'
  exact ⟨s2, u, L', st1 _ x1, x2⟩
theorem c_static0 (C : Ctx p l e R s m args below meth c Z own nm bs ml rt) {i : Nat} {y : MethodName} {cb : ByteArray} {cm : Nat} {cr : Option FieldType} {rm : Room} {Q' : Option Value → Heap → Prop} (argsL rest : List Value) (w1 : (Jvm.Cond.methodLink own i y).before a0 Z = true) (w2 : (Jvm.Cond.static y).before a0 Z = true) (w3 : (Jvm.Cond.initialized y.cls).before a0 Z = true) (w4 : (Jvm.Cond.code y cb cm cr).before a0 Z = true) (hy : y.cls ≠ "java/lang/invoke/MethodHandle" ∧ y.cls ≠ "java/lang/invoke/VarHandle") (hM : Met l Z y cb cm cr rm argsL.toArray h n0 Q') (hd : decode bs pc = .ok (.invokestatic i, 3)) (pc' : Nat) (hp : pc' = pc + 3) (hlen : ∀ sig, parseMethodDescriptor y.desc = some sig → argsL.length = sig.parameters.length) (hL : L.size = ml) (W : Nat) (hW : 2 * 0 + (rest.map fun v => v.category).sum ≤ W) (hf : rm.frames + 1 ≤ R.frames) (hl : W + (cm + 11) + rm.locals ≤ R.locals) (cells' slots' : Nat) (hc' : cells' = cells + rm.cells) (hs' : slots' = slots + rm.slots) (hc : cells' ≤ R.cells) (hs : slots' ≤ R.slots) (g : ∀ v h', Q' v h' → Go p l e R s m args below meth c n0 Q h' cells' slots' pc' L (v.toList ++ rest)) : Go p l e R s m args below meth c n0 Q h cells slots pc L (argsL.reverse ++ rest) := fun T locs X eh N => by
  subst hp hc' hs'
  obtain ⟨v, _, ⟨U1, L1, k1, n1⟩, -, X1, ⟨Lc, hQ, l1, y1, z1⟩, st1⟩ := Jvm.LawKit.callS X C.1 (y := y) C.2.2.2.1 (mvT C.2.2.1 w1) (mvT C.2.2.1 w2) (mvT C.2.2.1 w3) (mvT C.2.2.1 w4) hy (backOf (W := W) (Q := fun v h L => Q' v h ∧ Fr n0 L) (hM []) C.2.2.1 w4 w3 hf hl) (g := mkF m pc L (argsL.reverse ++ rest)) rfl (hL.trans C.2.2.2.2.1.symm) (argsL := argsL) (rest := rest) hlen rfl hW (hb C.2.1 hd) (fun _ _ => ⟨rfl, eh, hc, hs⟩)
  dsimp only [Pt.U, Pt.locs, Pt.cells, Pt.slots] at X1 l1 y1 z1 st1 hQ
  subst l1 y1 z1
  obtain ⟨s2, u, L', x1, x2⟩ := g v U1.heap hQ.1 U1 _ X1 rfl (Fr.app N hQ.2)
  exact ⟨s2, u, L', st1 _ x1, x2⟩
theorem c_special0 (C : Ctx p l e R s m args below meth c Z own nm bs ml rt) {i : Nat} {y : MethodName} {cb : ByteArray} {cm : Nat} {rm : Room} {Q' : Option Value → Heap → Prop} (a : Addr) (argsL rest : List Value) (hin : y.name = "<init>") (w1 : (Jvm.Cond.methodLink own i y).before a0 Z = true) (w2 : (Jvm.Cond.instanceMethod y).before a0 Z = true) (w3 : (Jvm.Cond.initialized y.cls).before a0 Z = true) (w4 : (Jvm.Cond.code y cb cm none).before a0 Z = true) (hy : y.cls ≠ "java/lang/invoke/MethodHandle" ∧ y.cls ≠ "java/lang/invoke/VarHandle") (hM : Met l Z y cb cm none rm (.ref a :: argsL).toArray h n0 Q') (hd : decode bs pc = .ok (.invokespecial i, 3)) (pc' : Nat) (hp : pc' = pc + 3) (hlen : ∀ sig, parseMethodDescriptor y.desc = some sig → argsL.length = sig.parameters.length) (hL : L.size = ml) (W : Nat) (hW : 2 * 0 + (rest.map fun v => v.category).sum ≤ W) (hf : rm.frames + 1 ≤ R.frames) (hl : W + (cm + 11) + rm.locals ≤ R.locals) (cells' slots' : Nat) (hc' : cells' = cells + rm.cells) (hs' : slots' = slots + rm.slots) (hc : cells' ≤ R.cells) (hs : slots' ≤ R.slots) (g : ∀ v h', Q' v h' → Go p l e R s m args below meth c n0 Q h' cells' slots' pc' L (v.toList ++ rest)) : Go p l e R s m args below meth c n0 Q h cells slots pc L (argsL.reverse ++ .ref a :: rest) := fun T locs X eh N => by
  subst hp hc' hs'
  obtain ⟨v, _, ⟨U1, L1, k1, n1⟩, -, X1, ⟨Lc, hQ, l1, y1, z1⟩, st1⟩ := X.specialBack C.1 (y := y) hin C.2.2.2.1 (mvT C.2.2.1 w1) (mvT C.2.2.1 w2) (mvT C.2.2.1 w4) hy (backOf (W := W) (Q := fun v h L => Q' v h ∧ Fr n0 L) (hM []) C.2.2.1 w4 w3 hf hl) (g := mkF m pc L (argsL.reverse ++ .ref a :: rest)) rfl (hL.trans C.2.2.2.2.1.symm) (Steps.refl _) (a := a) (argsL := argsL) (rest := rest) hlen rfl hW (hb C.2.1 hd) (fun _ _ => ⟨rfl, eh, hc, hs⟩)
  dsimp only [Pt.U, Pt.locs, Pt.cells, Pt.slots] at X1 l1 y1 z1 st1 hQ
  subst l1 y1 z1
  obtain ⟨s2, u, L', x1, x2⟩ := g v U1.heap hQ.1 U1 _ X1 rfl (Fr.app N hQ.2)
  exact ⟨s2, u, L', st1.trans x1, x2⟩
theorem c_virtual0 (C : Ctx p l e R s m args below meth c Z own nm bs ml rt) {i : Nat} {K : String} {y : MethodName} {cb : ByteArray} {cm : Nat} {cr : Option FieldType} {rm : Room} {Q' : Option Value → Heap → Prop} (a : Addr) (argsL rest : List Value) (w1 : (Jvm.Cond.methodLink own i y).before a0 Z = true) (wd : (Jvm.Cond.declares y).before a0 Z = true) (ws : (Jvm.Cond.selects K y y).before a0 Z = true) (w2 : (Jvm.Cond.instanceMethod y).before a0 Z = true) (w3 : (Jvm.Cond.initialized y.cls).before a0 Z = true) (w4 : (Jvm.Cond.code y cb cm cr).before a0 Z = true) (hy : y.cls ≠ "java/lang/invoke/MethodHandle" ∧ y.cls ≠ "java/lang/invoke/VarHandle") (E : Exa Z h a K) (hM : Met l Z y cb cm cr rm (.ref a :: argsL).toArray h n0 Q') (hd : decode bs pc = .ok (.invokevirtual i, 3)) (pc' : Nat) (hp : pc' = pc + 3) (hlen : ∀ sig, parseMethodDescriptor y.desc = some sig → argsL.length = sig.parameters.length) (hL : L.size = ml) (W : Nat) (hW : 2 * 0 + (rest.map fun v => v.category).sum ≤ W) (hf : rm.frames + 1 ≤ R.frames) (hl : W + (cm + 11) + rm.locals ≤ R.locals) (cells' slots' : Nat) (hc' : cells' = cells + rm.cells) (hs' : slots' = slots + rm.slots) (hc : cells' ≤ R.cells) (hs : slots' ≤ R.slots) (g : ∀ v h', Q' v h' → Go p l e R s m args below meth c n0 Q h' cells' slots' pc' L (v.toList ++ rest)) : Go p l e R s m args below meth c n0 Q h cells slots pc L (argsL.reverse ++ .ref a :: rest) := fun T locs X eh N => by
  subst hp hc' hs'
  obtain ⟨cq, kq, qa, qb, qc⟩ := isOf C.2.2.1 eh E
  obtain ⟨v, _, ⟨U1, L1, k1, n1⟩, -, X1, ⟨Lc, hQ, l1, y1, z1⟩, st1⟩ := X.virtualBack C.1 (y := y) (z := y) C.2.2.2.1 (mvT C.2.2.1 w1) (mvT C.2.2.1 wd) (notFace_of_selects (args := #[]) (mvT C.2.2.1 ws)) (mvT C.2.2.1 ws) (mvT C.2.2.1 w2) hy (backOf (W := W) (Q := fun v h L => Q' v h ∧ Fr n0 L) (hM []) C.2.2.1 w4 w3 hf hl) qa qc (g := mkF m pc L (argsL.reverse ++ .ref a :: rest)) rfl (hL.trans C.2.2.2.2.1.symm) (Steps.refl _) (argsL := argsL) (rest := rest) hlen rfl hW (hb C.2.1 hd) (fun _ _ => ⟨rfl, eh, hc, hs⟩)
  dsimp only [Pt.U, Pt.locs, Pt.cells, Pt.slots] at X1 l1 y1 z1 st1 hQ
  subst l1 y1 z1
  obtain ⟨s2, u, L', x1, x2⟩ := g v U1.heap hQ.1 U1 _ X1 rfl (Fr.app N hQ.2)
  exact ⟨s2, u, L', st1.trans x1, x2⟩
theorem c_staticI (C : Ctx p l e R s m args below meth c Z own nm bs ml rt) {i : Nat} {y : MethodName} {cb : ByteArray} {cm : Nat} {cr : Option FieldType} {rm : Room} {P' : Int32 → Heap → Prop} (argsL rest : List Value) (w1 : (Jvm.Cond.methodLink own i y).before a0 Z = true) (w2 : (Jvm.Cond.static y).before a0 Z = true) (w3 : (Jvm.Cond.initialized y.cls).before a0 Z = true) (w4 : (Jvm.Cond.code y cb cm cr).before a0 Z = true) (hy : y.cls ≠ "java/lang/invoke/MethodHandle" ∧ y.cls ≠ "java/lang/invoke/VarHandle") (hM : Met l Z y cb cm cr rm argsL.toArray h n0 (qI P')) (hd : decode bs pc = .ok (.invokestatic i, 3)) (pc' : Nat) (hp : pc' = pc + 3) (hlen : ∀ sig, parseMethodDescriptor y.desc = some sig → argsL.length = sig.parameters.length) (hL : L.size = ml) (W : Nat) (hW : 2 * 0 + (rest.map fun v => v.category).sum ≤ W) (hf : rm.frames + 1 ≤ R.frames) (hl : W + (cm + 11) + rm.locals ≤ R.locals) (cells' slots' : Nat) (hc' : cells' = cells + rm.cells) (hs' : slots' = slots + rm.slots) (hc : cells' ≤ R.cells) (hs : slots' ≤ R.slots) (hst : st = argsL.reverse ++ rest) (g : ∀ r h', P' r h' → Go p l e R s m args below meth c n0 Q h' cells' slots' pc' L (.int r :: rest)) : Go p l e R s m args below meth c n0 Q h cells slots pc L st := by
  subst hst
  exact c_static0 C argsL rest w1 w2 w3 w4 hy hM hd pc' hp hlen hL W hW hf hl cells' slots' hc' hs' hc hs (fun v h' hq => by obtain ⟨r, rfl, q⟩ := hq; exact g r h' q)
theorem c_staticJ (C : Ctx p l e R s m args below meth c Z own nm bs ml rt) {i : Nat} {y : MethodName} {cb : ByteArray} {cm : Nat} {cr : Option FieldType} {rm : Room} {P' : Int64 → Heap → Prop} (argsL rest : List Value) (w1 : (Jvm.Cond.methodLink own i y).before a0 Z = true) (w2 : (Jvm.Cond.static y).before a0 Z = true) (w3 : (Jvm.Cond.initialized y.cls).before a0 Z = true) (w4 : (Jvm.Cond.code y cb cm cr).before a0 Z = true) (hy : y.cls ≠ "java/lang/invoke/MethodHandle" ∧ y.cls ≠ "java/lang/invoke/VarHandle") (hM : Met l Z y cb cm cr rm argsL.toArray h n0 (qJ P')) (hd : decode bs pc = .ok (.invokestatic i, 3)) (pc' : Nat) (hp : pc' = pc + 3) (hlen : ∀ sig, parseMethodDescriptor y.desc = some sig → argsL.length = sig.parameters.length) (hL : L.size = ml) (W : Nat) (hW : 2 * 0 + (rest.map fun v => v.category).sum ≤ W) (hf : rm.frames + 1 ≤ R.frames) (hl : W + (cm + 11) + rm.locals ≤ R.locals) (cells' slots' : Nat) (hc' : cells' = cells + rm.cells) (hs' : slots' = slots + rm.slots) (hc : cells' ≤ R.cells) (hs : slots' ≤ R.slots) (hst : st = argsL.reverse ++ rest) (g : ∀ r h', P' r h' → Go p l e R s m args below meth c n0 Q h' cells' slots' pc' L (.long r :: rest)) : Go p l e R s m args below meth c n0 Q h cells slots pc L st := by
  subst hst
  exact c_static0 C argsL rest w1 w2 w3 w4 hy hM hd pc' hp hlen hL W hW hf hl cells' slots' hc' hs' hc hs (fun v h' hq => by obtain ⟨r, rfl, q⟩ := hq; exact g r h' q)
theorem c_staticA (C : Ctx p l e R s m args below meth c Z own nm bs ml rt) {i : Nat} {y : MethodName} {cb : ByteArray} {cm : Nat} {cr : Option FieldType} {rm : Room} {P' : Addr → Heap → Prop} (argsL rest : List Value) (w1 : (Jvm.Cond.methodLink own i y).before a0 Z = true) (w2 : (Jvm.Cond.static y).before a0 Z = true) (w3 : (Jvm.Cond.initialized y.cls).before a0 Z = true) (w4 : (Jvm.Cond.code y cb cm cr).before a0 Z = true) (hy : y.cls ≠ "java/lang/invoke/MethodHandle" ∧ y.cls ≠ "java/lang/invoke/VarHandle") (hM : Met l Z y cb cm cr rm argsL.toArray h n0 (qA P')) (hd : decode bs pc = .ok (.invokestatic i, 3)) (pc' : Nat) (hp : pc' = pc + 3) (hlen : ∀ sig, parseMethodDescriptor y.desc = some sig → argsL.length = sig.parameters.length) (hL : L.size = ml) (W : Nat) (hW : 2 * 0 + (rest.map fun v => v.category).sum ≤ W) (hf : rm.frames + 1 ≤ R.frames) (hl : W + (cm + 11) + rm.locals ≤ R.locals) (cells' slots' : Nat) (hc' : cells' = cells + rm.cells) (hs' : slots' = slots + rm.slots) (hc : cells' ≤ R.cells) (hs : slots' ≤ R.slots) (hst : st = argsL.reverse ++ rest) (g : ∀ r h', P' r h' → Go p l e R s m args below meth c n0 Q h' cells' slots' pc' L (.ref r :: rest)) : Go p l e R s m args below meth c n0 Q h cells slots pc L st := by
  subst hst
  exact c_static0 C argsL rest w1 w2 w3 w4 hy hM hd pc' hp hlen hL W hW hf hl cells' slots' hc' hs' hc hs (fun v h' hq => by obtain ⟨r, rfl, q⟩ := hq; exact g r h' q)
theorem c_staticV (C : Ctx p l e R s m args below meth c Z own nm bs ml rt) {i : Nat} {y : MethodName} {cb : ByteArray} {cm : Nat} {cr : Option FieldType} {rm : Room} {P' : Heap → Prop} (argsL rest : List Value) (w1 : (Jvm.Cond.methodLink own i y).before a0 Z = true) (w2 : (Jvm.Cond.static y).before a0 Z = true) (w3 : (Jvm.Cond.initialized y.cls).before a0 Z = true) (w4 : (Jvm.Cond.code y cb cm cr).before a0 Z = true) (hy : y.cls ≠ "java/lang/invoke/MethodHandle" ∧ y.cls ≠ "java/lang/invoke/VarHandle") (hM : Met l Z y cb cm cr rm argsL.toArray h n0 (qV P')) (hd : decode bs pc = .ok (.invokestatic i, 3)) (pc' : Nat) (hp : pc' = pc + 3) (hlen : ∀ sig, parseMethodDescriptor y.desc = some sig → argsL.length = sig.parameters.length) (hL : L.size = ml) (W : Nat) (hW : 2 * 0 + (rest.map fun v => v.category).sum ≤ W) (hf : rm.frames + 1 ≤ R.frames) (hl : W + (cm + 11) + rm.locals ≤ R.locals) (cells' slots' : Nat) (hc' : cells' = cells + rm.cells) (hs' : slots' = slots + rm.slots) (hc : cells' ≤ R.cells) (hs : slots' ≤ R.slots) (hst : st = argsL.reverse ++ rest) (g : ∀ h', P' h' → Go p l e R s m args below meth c n0 Q h' cells' slots' pc' L rest) : Go p l e R s m args below meth c n0 Q h cells slots pc L st := by
  subst hst
  exact c_static0 C argsL rest w1 w2 w3 w4 hy hM hd pc' hp hlen hL W hW hf hl cells' slots' hc' hs' hc hs (fun v h' hq => by obtain ⟨rfl, q⟩ := hq; exact g h' q)
theorem c_specialV (C : Ctx p l e R s m args below meth c Z own nm bs ml rt) {i : Nat} {y : MethodName} {cb : ByteArray} {cm : Nat} {rm : Room} {P' : Heap → Prop} (a : Addr) (argsL rest : List Value) (hin : y.name = "<init>") (w1 : (Jvm.Cond.methodLink own i y).before a0 Z = true) (w2 : (Jvm.Cond.instanceMethod y).before a0 Z = true) (w3 : (Jvm.Cond.initialized y.cls).before a0 Z = true) (w4 : (Jvm.Cond.code y cb cm none).before a0 Z = true) (hy : y.cls ≠ "java/lang/invoke/MethodHandle" ∧ y.cls ≠ "java/lang/invoke/VarHandle") (hM : Met l Z y cb cm none rm (.ref a :: argsL).toArray h n0 (qV P')) (hd : decode bs pc = .ok (.invokespecial i, 3)) (pc' : Nat) (hp : pc' = pc + 3) (hlen : ∀ sig, parseMethodDescriptor y.desc = some sig → argsL.length = sig.parameters.length) (hL : L.size = ml) (W : Nat) (hW : 2 * 0 + (rest.map fun v => v.category).sum ≤ W) (hf : rm.frames + 1 ≤ R.frames) (hl : W + (cm + 11) + rm.locals ≤ R.locals) (cells' slots' : Nat) (hc' : cells' = cells + rm.cells) (hs' : slots' = slots + rm.slots) (hc : cells' ≤ R.cells) (hs : slots' ≤ R.slots) (hst : st = argsL.reverse ++ .ref a :: rest) (g : ∀ h', P' h' → Go p l e R s m args below meth c n0 Q h' cells' slots' pc' L rest) : Go p l e R s m args below meth c n0 Q h cells slots pc L st := by
  subst hst
  exact c_special0 C a argsL rest hin w1 w2 w3 w4 hy hM hd pc' hp hlen hL W hW hf hl cells' slots' hc' hs' hc hs (fun v h' hq => by obtain ⟨rfl, q⟩ := hq; exact g h' q)
theorem c_virtualI (C : Ctx p l e R s m args below meth c Z own nm bs ml rt) {i : Nat} {K : String} {y : MethodName} {cb : ByteArray} {cm : Nat} {cr : Option FieldType} {rm : Room} {P' : Int32 → Heap → Prop} (a : Addr) (argsL rest : List Value) (w1 : (Jvm.Cond.methodLink own i y).before a0 Z = true) (wd : (Jvm.Cond.declares y).before a0 Z = true) (ws : (Jvm.Cond.selects K y y).before a0 Z = true) (w2 : (Jvm.Cond.instanceMethod y).before a0 Z = true) (w3 : (Jvm.Cond.initialized y.cls).before a0 Z = true) (w4 : (Jvm.Cond.code y cb cm cr).before a0 Z = true) (hy : y.cls ≠ "java/lang/invoke/MethodHandle" ∧ y.cls ≠ "java/lang/invoke/VarHandle") (E : Exa Z h a K) (hM : Met l Z y cb cm cr rm (.ref a :: argsL).toArray h n0 (qI P')) (hd : decode bs pc = .ok (.invokevirtual i, 3)) (pc' : Nat) (hp : pc' = pc + 3) (hlen : ∀ sig, parseMethodDescriptor y.desc = some sig → argsL.length = sig.parameters.length) (hL : L.size = ml) (W : Nat) (hW : 2 * 0 + (rest.map fun v => v.category).sum ≤ W) (hf : rm.frames + 1 ≤ R.frames) (hl : W + (cm + 11) + rm.locals ≤ R.locals) (cells' slots' : Nat) (hc' : cells' = cells + rm.cells) (hs' : slots' = slots + rm.slots) (hc : cells' ≤ R.cells) (hs : slots' ≤ R.slots) (hst : st = argsL.reverse ++ .ref a :: rest) (g : ∀ r h', P' r h' → Go p l e R s m args below meth c n0 Q h' cells' slots' pc' L (.int r :: rest)) : Go p l e R s m args below meth c n0 Q h cells slots pc L st := by
  subst hst
  exact c_virtual0 C a argsL rest w1 wd ws w2 w3 w4 hy E hM hd pc' hp hlen hL W hW hf hl cells' slots' hc' hs' hc hs (fun v h' hq => by obtain ⟨r, rfl, q⟩ := hq; exact g r h' q)
theorem c_virtualJ (C : Ctx p l e R s m args below meth c Z own nm bs ml rt) {i : Nat} {K : String} {y : MethodName} {cb : ByteArray} {cm : Nat} {cr : Option FieldType} {rm : Room} {P' : Int64 → Heap → Prop} (a : Addr) (argsL rest : List Value) (w1 : (Jvm.Cond.methodLink own i y).before a0 Z = true) (wd : (Jvm.Cond.declares y).before a0 Z = true) (ws : (Jvm.Cond.selects K y y).before a0 Z = true) (w2 : (Jvm.Cond.instanceMethod y).before a0 Z = true) (w3 : (Jvm.Cond.initialized y.cls).before a0 Z = true) (w4 : (Jvm.Cond.code y cb cm cr).before a0 Z = true) (hy : y.cls ≠ "java/lang/invoke/MethodHandle" ∧ y.cls ≠ "java/lang/invoke/VarHandle") (E : Exa Z h a K) (hM : Met l Z y cb cm cr rm (.ref a :: argsL).toArray h n0 (qJ P')) (hd : decode bs pc = .ok (.invokevirtual i, 3)) (pc' : Nat) (hp : pc' = pc + 3) (hlen : ∀ sig, parseMethodDescriptor y.desc = some sig → argsL.length = sig.parameters.length) (hL : L.size = ml) (W : Nat) (hW : 2 * 0 + (rest.map fun v => v.category).sum ≤ W) (hf : rm.frames + 1 ≤ R.frames) (hl : W + (cm + 11) + rm.locals ≤ R.locals) (cells' slots' : Nat) (hc' : cells' = cells + rm.cells) (hs' : slots' = slots + rm.slots) (hc : cells' ≤ R.cells) (hs : slots' ≤ R.slots) (hst : st = argsL.reverse ++ .ref a :: rest) (g : ∀ r h', P' r h' → Go p l e R s m args below meth c n0 Q h' cells' slots' pc' L (.long r :: rest)) : Go p l e R s m args below meth c n0 Q h cells slots pc L st := by
  subst hst
  exact c_virtual0 C a argsL rest w1 wd ws w2 w3 w4 hy E hM hd pc' hp hlen hL W hW hf hl cells' slots' hc' hs' hc hs (fun v h' hq => by obtain ⟨r, rfl, q⟩ := hq; exact g r h' q)
theorem c_virtualA (C : Ctx p l e R s m args below meth c Z own nm bs ml rt) {i : Nat} {K : String} {y : MethodName} {cb : ByteArray} {cm : Nat} {cr : Option FieldType} {rm : Room} {P' : Addr → Heap → Prop} (a : Addr) (argsL rest : List Value) (w1 : (Jvm.Cond.methodLink own i y).before a0 Z = true) (wd : (Jvm.Cond.declares y).before a0 Z = true) (ws : (Jvm.Cond.selects K y y).before a0 Z = true) (w2 : (Jvm.Cond.instanceMethod y).before a0 Z = true) (w3 : (Jvm.Cond.initialized y.cls).before a0 Z = true) (w4 : (Jvm.Cond.code y cb cm cr).before a0 Z = true) (hy : y.cls ≠ "java/lang/invoke/MethodHandle" ∧ y.cls ≠ "java/lang/invoke/VarHandle") (E : Exa Z h a K) (hM : Met l Z y cb cm cr rm (.ref a :: argsL).toArray h n0 (qA P')) (hd : decode bs pc = .ok (.invokevirtual i, 3)) (pc' : Nat) (hp : pc' = pc + 3) (hlen : ∀ sig, parseMethodDescriptor y.desc = some sig → argsL.length = sig.parameters.length) (hL : L.size = ml) (W : Nat) (hW : 2 * 0 + (rest.map fun v => v.category).sum ≤ W) (hf : rm.frames + 1 ≤ R.frames) (hl : W + (cm + 11) + rm.locals ≤ R.locals) (cells' slots' : Nat) (hc' : cells' = cells + rm.cells) (hs' : slots' = slots + rm.slots) (hc : cells' ≤ R.cells) (hs : slots' ≤ R.slots) (hst : st = argsL.reverse ++ .ref a :: rest) (g : ∀ r h', P' r h' → Go p l e R s m args below meth c n0 Q h' cells' slots' pc' L (.ref r :: rest)) : Go p l e R s m args below meth c n0 Q h cells slots pc L st := by
  subst hst
  exact c_virtual0 C a argsL rest w1 wd ws w2 w3 w4 hy E hM hd pc' hp hlen hL W hW hf hl cells' slots' hc' hs' hc hs (fun v h' hq => by obtain ⟨r, rfl, q⟩ := hq; exact g r h' q)
theorem c_virtualV (C : Ctx p l e R s m args below meth c Z own nm bs ml rt) {i : Nat} {K : String} {y : MethodName} {cb : ByteArray} {cm : Nat} {cr : Option FieldType} {rm : Room} {P' : Heap → Prop} (a : Addr) (argsL rest : List Value) (w1 : (Jvm.Cond.methodLink own i y).before a0 Z = true) (wd : (Jvm.Cond.declares y).before a0 Z = true) (ws : (Jvm.Cond.selects K y y).before a0 Z = true) (w2 : (Jvm.Cond.instanceMethod y).before a0 Z = true) (w3 : (Jvm.Cond.initialized y.cls).before a0 Z = true) (w4 : (Jvm.Cond.code y cb cm cr).before a0 Z = true) (hy : y.cls ≠ "java/lang/invoke/MethodHandle" ∧ y.cls ≠ "java/lang/invoke/VarHandle") (E : Exa Z h a K) (hM : Met l Z y cb cm cr rm (.ref a :: argsL).toArray h n0 (qV P')) (hd : decode bs pc = .ok (.invokevirtual i, 3)) (pc' : Nat) (hp : pc' = pc + 3) (hlen : ∀ sig, parseMethodDescriptor y.desc = some sig → argsL.length = sig.parameters.length) (hL : L.size = ml) (W : Nat) (hW : 2 * 0 + (rest.map fun v => v.category).sum ≤ W) (hf : rm.frames + 1 ≤ R.frames) (hl : W + (cm + 11) + rm.locals ≤ R.locals) (cells' slots' : Nat) (hc' : cells' = cells + rm.cells) (hs' : slots' = slots + rm.slots) (hc : cells' ≤ R.cells) (hs : slots' ≤ R.slots) (hst : st = argsL.reverse ++ .ref a :: rest) (g : ∀ h', P' h' → Go p l e R s m args below meth c n0 Q h' cells' slots' pc' L rest) : Go p l e R s m args below meth c n0 Q h cells slots pc L st := by
  subst hst
  exact c_virtual0 C a argsL rest w1 wd ws w2 w3 w4 hy E hM hd pc' hp hlen hL W hW hf hl cells' slots' hc' hs' hc hs (fun v h' hq => by obtain ⟨rfl, q⟩ := hq; exact g h' q)
end OwnBase
end Jvm.Pilot.@@N@@.OwnW
namespace Jvm.Pilot.@@N@@
open Jvm Jvm.ClassFile Sem Op Lib Jvm.Free Jvm.Stand Jvm.LawKit Jvm.RoadKit Jvm.Pilot.@@N@@.OwnW Bundle Jvm.Pilot.@@N@@.Jvm.D
def Wgt (Z : State) (h : Heap) (a : Addr) (x y : Int64) : Prop := Exa Z h a "com/example/tussle/tussle/cap/Weights" ∧ Fld Z h a "com/example/tussle/tussle/cap/Weights" "ofA" "J" (.long x) ∧ Fld Z h a "com/example/tussle/tussle/cap/Weights" "ofB" "J" (.long y)
theorem Wgt.keep {Z : State} {h h' : Heap} {a : Addr} {x y : Int64} {ws : List Addr} (B : Wgt Z h a x y) (k : Keep h h' ws) (q : a ∉ ws) : Wgt Z h' a x y := ⟨B.1.keep k, B.2.1.keep k q, B.2.2.keep k q⟩
theorem Wgt.ext {Z : State} {h h' : Heap} {a : Addr} {x y : Int64} (B : Wgt Z h a x y) (k : Ext h h') : Wgt Z h' a x y := ⟨B.1.ext k, B.2.1.ext k, B.2.2.ext k⟩
def eqF (x a y b : Int64) : Int32 := if x = a then (if y = b then 1 else 0) else 0
theorem eqF_self (x y : Int64) : eqF x x y y = 1 := by rw [eqF, if_pos rfl, if_pos rfl]
theorem eqF_n1 {x a y b : Int64} (k : ¬ x = a) : eqF x a y b = 0 := by rw [eqF, if_neg k]
theorem eqF_n2 {x a y b : Int64} (k : ¬ y = b) : eqF x a y b = 0 := by rw [eqF, if_neg k]; split <;> rfl
theorem eqF_y {x a y b : Int64} (k : x = a) (k2 : y = b) : eqF x a y b = 1 := by rw [eqF, if_pos k, if_pos k2]
theorem own_not {Z : State} {a0 : Array Value} (hw : ∀ d ∈ tables_1, d.before a0 Z = true) : ∃ c t, Z.vm.findClass "com/example/tussle/tussle/cap/Outcome" = some c ∧ Z.vm.findClass "com/example/tussle/tussle/cap/Weights" = some t ∧ Z.vm.assignable c t = false := by
  have w1 : (Jvm.Cond.superclass "com/example/tussle/tussle/cap/Outcome" "java/lang/Record").before a0 Z = true := (hw _ (List.mem_of_getElem? (i := 36) rfl))
  have w2 : (Jvm.Cond.superclass "java/lang/Record" "java/lang/Object").before a0 Z = true := (hw _ (List.mem_of_getElem? (i := 37) rfl))
  have w3 : (Jvm.Cond.noSuperclass "java/lang/Object").before a0 Z = true := (hw _ (List.mem_of_getElem? (i := 38) rfl))
  have wi : (Jvm.Cond.instantiable "com/example/tussle/tussle/cap/Weights" 2).before a0 Z = true := (hw _ (List.mem_of_getElem? (i := 1) rfl))
  obtain ⟨t, kt, t1, t2, t3, t4, -, -⟩ := Cond.instantiable_spec wi
  have n0 : NS Z "java/lang/Object" "com/example/tussle/tussle/cap/Weights" := by
    obtain ⟨c, k, h1, h2, h3, -, -⟩ := Cond.noSuperclass_spec w3
    have ne := ids_ne h1 t1 (by decide)
    refine ⟨c, t, h1, t1, fun fuel => ?_⟩
    cases fuel with
    | zero => rfl
    | succ f => simp [Vm.isSubclassAux, ne, h2, h3]
  have n1 := NS.step w2 n0 (by decide)
  have n2 := NS.step w1 n1 (by decide)
  obtain ⟨c, t', g1, g2, g3⟩ := n2
  cases t1.symm.trans g2
  obtain ⟨p, k, kp, h1, h2, h3, h4, h5, -, h7⟩ := Cond.superclass_spec g1 w1
  have ne := ids_ne g1 t1 (by decide)
  refine ⟨c, t, g1, t1, ?_⟩
  have hi : kt.isInterface = false := by simpa using (Bool.or_eq_false_iff.mp t4).1
  show Z.vm.assignableAux (255 + 1) c t = false
  simp [Vm.assignableAux, ne, h2, t2, h5, t3, hi, Vm.isSubclass, g3]
theorem d2_0 : decode jdk_30_method_1_code 0 = .ok (.aload_n 0, 1) := by decide +kernel
theorem d2_1 : decode jdk_30_method_1_code 1 = .ok (.invokespecial 1, 3) := by decide +kernel
theorem d2_4 : decode jdk_30_method_1_code 4 = .ok (.return_, 1) := by decide +kernel
theorem pn_java_lang_Record : plainName "java/lang/Record" = true := by first | (simp [plainName, overriddenIn]; done) | decide +kernel
theorem pd_0 : parseMethodDescriptor "()V" = some ⟨[], none⟩ := by decide +kernel
theorem ef_2 (m : MethodId) (x0 : Addr) : entryFrame m #[(.ref x0)] 1 = mkF m 0 #[.val (.ref x0)] [] := by first | (simp [entryFrame, mkF, argsToLocals, Value.category, maxLocals]; done) | rfl
set_option maxRecDepth 65536 in
set_option maxHeartbeats 40000000 in
theorem m2 (l : Launch) (Z : State) (a0 : Array Value) (hw : ∀ d ∈ tables_1, d.before a0 Z = true) (a : Addr) (h0 : Heap) (n0 : Nat)  :
    Met l Z (⟨"java/lang/Record", "<init>", "()V"⟩ : MethodName) jdk_30_method_1_code 1 none ({ frames := 1, cells := 0, slots := 0, locals := 12 } : Room) #[(.ref a)] h0 n0 (qV fun h => h0 = h) := by
  refine met (plainFor_of_name pn_java_lang_Record) #[.val (.ref a)] (fun m => ef_2 m a) ?_
  intro p e s m below meth c C
  refine g_aloadN C d2_0 1 rfl rfl rfl ?_
  refine g_objinit C (hw _ (List.mem_of_getElem? (i := 11) rfl)) (hw _ (List.mem_of_getElem? (i := 12) rfl)) (hw _ (List.mem_of_getElem? (i := 13) rfl)) d2_1 4 rfl rfl (by decide) 0 (Nat.le_of_eq rfl) (by decide) ?_
  refine r_void C d2_4 (by decide) (by decide) rfl
theorem d1_0 : decode prog_13_method_1_code 0 = .ok (.aload_n 0, 1) := by decide +kernel
theorem d1_1 : decode prog_13_method_1_code 1 = .ok (.invokespecial 1, 3) := by decide +kernel
theorem d1_4 : decode prog_13_method_1_code 4 = .ok (.aload_n 0, 1) := by decide +kernel
theorem d1_5 : decode prog_13_method_1_code 5 = .ok (.lload_n 1, 1) := by decide +kernel
theorem d1_6 : decode prog_13_method_1_code 6 = .ok (.putfield 7, 3) := by decide +kernel
theorem d1_9 : decode prog_13_method_1_code 9 = .ok (.aload_n 0, 1) := by decide +kernel
theorem d1_10 : decode prog_13_method_1_code 10 = .ok (.lload_n 3, 1) := by decide +kernel
theorem d1_11 : decode prog_13_method_1_code 11 = .ok (.putfield 13, 3) := by decide +kernel
theorem d1_14 : decode prog_13_method_1_code 14 = .ok (.return_, 1) := by decide +kernel
theorem pn_com_example_tussle_tussle_cap_Weights : plainName "com/example/tussle/tussle/cap/Weights" = true := by first | (simp [plainName, overriddenIn]; done) | decide +kernel
theorem ef_1 (m : MethodId) (x0 : Addr) (x1 : Int64) (x2 : Int64) : entryFrame m #[(.ref x0), (.long x1), (.long x2)] 5 = mkF m 0 #[.val (.ref x0), .val (.long x1), .second, .val (.long x2), .second] [] := by first | (simp [entryFrame, mkF, argsToLocals, Value.category, maxLocals]; done) | rfl
set_option maxRecDepth 65536 in
set_option maxHeartbeats 40000000 in
theorem m1 (l : Launch) (Z : State) (a0 : Array Value) (hw : ∀ d ∈ tables_1, d.before a0 Z = true) (a : Addr) (p1 : Int64) (p2 : Int64) (h0 : Heap) (n0 : Nat) (na : n0 ≤ a) (E : Exa Z h0 a "com/example/tussle/tussle/cap/Weights") (F1 : Fld Z h0 a "com/example/tussle/tussle/cap/Weights" "ofA" "J" (.long 0)) (F2 : Fld Z h0 a "com/example/tussle/tussle/cap/Weights" "ofB" "J" (.long 0)) :
    Met l Z (⟨"com/example/tussle/tussle/cap/Weights", "<init>", "(JJ)V"⟩ : MethodName) prog_13_method_1_code 5 none ({ frames := 2, cells := 0, slots := 0, locals := 24 } : Room) #[(.ref a), (.long p1), (.long p2)] h0 n0 (qV fun h => (Exa Z h a "com/example/tussle/tussle/cap/Weights" ∧ Fld Z h a "com/example/tussle/tussle/cap/Weights" "ofA" "J" (.long p1) ∧ Fld Z h a "com/example/tussle/tussle/cap/Weights" "ofB" "J" (.long p2)) ∧ Keep h0 h [a]) := by
  refine met (plainFor_of_name pn_com_example_tussle_tussle_cap_Weights) #[.val (.ref a), .val (.long p1), .second, .val (.long p2), .second] (fun m => ef_1 m a p1 p2) ?_
  intro p e s m below meth c C
  refine g_aloadN C d1_0 1 rfl rfl rfl ?_
  refine c_specialV C a [] [] rfl (hw _ (List.mem_of_getElem? (i := 6) rfl)) (hw _ (List.mem_of_getElem? (i := 7) rfl)) (hw _ (List.mem_of_getElem? (i := 9) rfl)) (hw _ (List.mem_of_getElem? (i := 10) rfl)) (by decide) (m2 l Z a0 hw a h0 n0) d1_1 4 rfl (lenOf pd_0 rfl) rfl 0 (Nat.le_of_eq rfl) (by decide) (by decide) 0 0 rfl rfl (by decide) (by decide) rfl (fun h1 q1 => ?_)
  obtain rfl := q1
  refine g_aloadN C d1_4 5 rfl rfl rfl ?_
  refine g_lloadN C d1_5 6 rfl rfl ?_
  refine g_putfield C (hw _ (List.mem_of_getElem? (i := 14) rfl)) F1 E (Or.inr ⟨(hw _ (List.mem_of_getElem? (i := 15) rfl)), rfl, rfl⟩) (hw _ (List.mem_of_getElem? (i := 1) rfl)) (ty := .long) (by decide) rfl rfl d1_6 9 rfl na (fun h6 W6 => ?_)
  have E6 := E.wr W6
  have F6 := F1.same W6
  have G6 := F2.other W6 (Or.inr (slot_ne (Or.inr (hw _ (List.mem_of_getElem? (i := 17) rfl))) (Or.inr (hw _ (List.mem_of_getElem? (i := 15) rfl))) (by decide) (t := .long) (t' := .long) (by decide) (by decide)))
  have K6 := (Keep.refl h0 [a]).wr W6 (Or.inl (List.mem_of_getElem? (i := 0) rfl))
  refine g_aloadN C d1_9 10 rfl rfl rfl ?_
  refine g_lloadN C d1_10 11 rfl rfl ?_
  refine g_putfield C (hw _ (List.mem_of_getElem? (i := 16) rfl)) G6 E6 (Or.inr ⟨(hw _ (List.mem_of_getElem? (i := 17) rfl)), rfl, rfl⟩) (hw _ (List.mem_of_getElem? (i := 1) rfl)) (ty := .long) (by decide) rfl rfl d1_11 14 rfl na (fun h11 W11 => ?_)
  have E11 := E6.wr W11
  have F11 := F6.other W11 (Or.inr (slot_ne (Or.inr (hw _ (List.mem_of_getElem? (i := 15) rfl))) (Or.inr (hw _ (List.mem_of_getElem? (i := 17) rfl))) (by decide) (t := .long) (t' := .long) (by decide) (by decide)))
  have G11 := G6.same W11
  have K11 := K6.wr W11 (Or.inl (List.mem_of_getElem? (i := 0) rfl))
  refine r_void C d1_14 (by decide) (by decide) ⟨⟨E11, F11, G11⟩, K11⟩
theorem d5_0 : decode prog_9_method_1_code 0 = .ok (.aload_n 0, 1) := by decide +kernel
theorem d5_1 : decode prog_9_method_1_code 1 = .ok (.invokespecial 1, 3) := by decide +kernel
theorem d5_4 : decode prog_9_method_1_code 4 = .ok (.aload_n 0, 1) := by decide +kernel
theorem d5_5 : decode prog_9_method_1_code 5 = .ok (.lload_n 1, 1) := by decide +kernel
theorem d5_6 : decode prog_9_method_1_code 6 = .ok (.putfield 7, 3) := by decide +kernel
theorem d5_9 : decode prog_9_method_1_code 9 = .ok (.aload_n 0, 1) := by decide +kernel
theorem d5_10 : decode prog_9_method_1_code 10 = .ok (.lload_n 3, 1) := by decide +kernel
theorem d5_11 : decode prog_9_method_1_code 11 = .ok (.putfield 13, 3) := by decide +kernel
theorem d5_14 : decode prog_9_method_1_code 14 = .ok (.return_, 1) := by decide +kernel
theorem pn_com_example_tussle_tussle_cap_Outcome : plainName "com/example/tussle/tussle/cap/Outcome" = true := by first | (simp [plainName, overriddenIn]; done) | decide +kernel
theorem ef_5 (m : MethodId) (x0 : Addr) (x1 : Int64) (x2 : Int64) : entryFrame m #[(.ref x0), (.long x1), (.long x2)] 5 = mkF m 0 #[.val (.ref x0), .val (.long x1), .second, .val (.long x2), .second] [] := by first | (simp [entryFrame, mkF, argsToLocals, Value.category, maxLocals]; done) | rfl
set_option maxRecDepth 65536 in
set_option maxHeartbeats 40000000 in
theorem m5 (l : Launch) (Z : State) (a0 : Array Value) (hw : ∀ d ∈ tables_1, d.before a0 Z = true) (a : Addr) (p1 : Int64) (p2 : Int64) (h0 : Heap) (n0 : Nat) (na : n0 ≤ a) (E : Exa Z h0 a "com/example/tussle/tussle/cap/Outcome") (F1 : Fld Z h0 a "com/example/tussle/tussle/cap/Outcome" "costOfA" "J" (.long 0)) (F2 : Fld Z h0 a "com/example/tussle/tussle/cap/Outcome" "costOfB" "J" (.long 0)) :
    Met l Z (⟨"com/example/tussle/tussle/cap/Outcome", "<init>", "(JJ)V"⟩ : MethodName) prog_9_method_1_code 5 none ({ frames := 2, cells := 0, slots := 0, locals := 24 } : Room) #[(.ref a), (.long p1), (.long p2)] h0 n0 (qV fun h => (Exa Z h a "com/example/tussle/tussle/cap/Outcome" ∧ Fld Z h a "com/example/tussle/tussle/cap/Outcome" "costOfA" "J" (.long p1) ∧ Fld Z h a "com/example/tussle/tussle/cap/Outcome" "costOfB" "J" (.long p2)) ∧ Keep h0 h [a]) := by
  refine met (plainFor_of_name pn_com_example_tussle_tussle_cap_Outcome) #[.val (.ref a), .val (.long p1), .second, .val (.long p2), .second] (fun m => ef_5 m a p1 p2) ?_
  intro p e s m below meth c C
  refine g_aloadN C d5_0 1 rfl rfl rfl ?_
  refine c_specialV C a [] [] rfl (hw _ (List.mem_of_getElem? (i := 31) rfl)) (hw _ (List.mem_of_getElem? (i := 7) rfl)) (hw _ (List.mem_of_getElem? (i := 9) rfl)) (hw _ (List.mem_of_getElem? (i := 10) rfl)) (by decide) (m2 l Z a0 hw a h0 n0) d5_1 4 rfl (lenOf pd_0 rfl) rfl 0 (Nat.le_of_eq rfl) (by decide) (by decide) 0 0 rfl rfl (by decide) (by decide) rfl (fun h1 q1 => ?_)
  obtain rfl := q1
  refine g_aloadN C d5_4 5 rfl rfl rfl ?_
  refine g_lloadN C d5_5 6 rfl rfl ?_
  refine g_putfield C (hw _ (List.mem_of_getElem? (i := 32) rfl)) F1 E (Or.inr ⟨(hw _ (List.mem_of_getElem? (i := 33) rfl)), rfl, rfl⟩) (hw _ (List.mem_of_getElem? (i := 26) rfl)) (ty := .long) (by decide) rfl rfl d5_6 9 rfl na (fun h6 W6 => ?_)
  have E6 := E.wr W6
  have F6 := F1.same W6
  have G6 := F2.other W6 (Or.inr (slot_ne (Or.inr (hw _ (List.mem_of_getElem? (i := 35) rfl))) (Or.inr (hw _ (List.mem_of_getElem? (i := 33) rfl))) (by decide) (t := .long) (t' := .long) (by decide) (by decide)))
  have K6 := (Keep.refl h0 [a]).wr W6 (Or.inl (List.mem_of_getElem? (i := 0) rfl))
  refine g_aloadN C d5_9 10 rfl rfl rfl ?_
  refine g_lloadN C d5_10 11 rfl rfl ?_
  refine g_putfield C (hw _ (List.mem_of_getElem? (i := 34) rfl)) G6 E6 (Or.inr ⟨(hw _ (List.mem_of_getElem? (i := 35) rfl)), rfl, rfl⟩) (hw _ (List.mem_of_getElem? (i := 26) rfl)) (ty := .long) (by decide) rfl rfl d5_11 14 rfl na (fun h11 W11 => ?_)
  have E11 := E6.wr W11
  have F11 := F6.other W11 (Or.inr (slot_ne (Or.inr (hw _ (List.mem_of_getElem? (i := 33) rfl))) (Or.inr (hw _ (List.mem_of_getElem? (i := 35) rfl))) (by decide) (t := .long) (t' := .long) (by decide) (by decide)))
  have G11 := G6.same W11
  have K11 := K6.wr W11 (Or.inl (List.mem_of_getElem? (i := 0) rfl))
  refine r_void C d5_14 (by decide) (by decide) ⟨⟨E11, F11, G11⟩, K11⟩
theorem d4_0 : decode prog_13_method_6_code 0 = .ok (.aload_n 1, 1) := by decide +kernel
theorem d4_1 : decode prog_13_method_6_code 1 = .ok (.instanceof 8, 3) := by decide +kernel
theorem d4_4 : decode prog_13_method_6_code 4 = .ok (.ifCond .eq 36, 3) := by decide +kernel
theorem d4_7 : decode prog_13_method_6_code 7 = .ok (.aload_n 1, 1) := by decide +kernel
theorem d4_8 : decode prog_13_method_6_code 8 = .ok (.checkcast 8, 3) := by decide +kernel
theorem d4_11 : decode prog_13_method_6_code 11 = .ok (.astore_n 2, 1) := by decide +kernel
theorem d4_12 : decode prog_13_method_6_code 12 = .ok (.aload_n 2, 1) := by decide +kernel
theorem d4_13 : decode prog_13_method_6_code 13 = .ok (.getfield 7, 3) := by decide +kernel
theorem d4_16 : decode prog_13_method_6_code 16 = .ok (.aload_n 0, 1) := by decide +kernel
theorem d4_17 : decode prog_13_method_6_code 17 = .ok (.getfield 7, 3) := by decide +kernel
theorem d4_20 : decode prog_13_method_6_code 20 = .ok (.lcmp, 1) := by decide +kernel
theorem d4_21 : decode prog_13_method_6_code 21 = .ok (.ifCond .ne 19, 3) := by decide +kernel
theorem d4_24 : decode prog_13_method_6_code 24 = .ok (.aload_n 2, 1) := by decide +kernel
theorem d4_25 : decode prog_13_method_6_code 25 = .ok (.getfield 13, 3) := by decide +kernel
theorem d4_28 : decode prog_13_method_6_code 28 = .ok (.aload_n 0, 1) := by decide +kernel
theorem d4_29 : decode prog_13_method_6_code 29 = .ok (.getfield 13, 3) := by decide +kernel
theorem d4_32 : decode prog_13_method_6_code 32 = .ok (.lcmp, 1) := by decide +kernel
theorem d4_33 : decode prog_13_method_6_code 33 = .ok (.ifCond .ne 7, 3) := by decide +kernel
theorem d4_36 : decode prog_13_method_6_code 36 = .ok (.iconst 1, 1) := by decide +kernel
theorem d4_37 : decode prog_13_method_6_code 37 = .ok (.goto 4, 3) := by decide +kernel
theorem d4_40 : decode prog_13_method_6_code 40 = .ok (.iconst 0, 1) := by decide +kernel
theorem d4_41 : decode prog_13_method_6_code 41 = .ok (.ireturn, 1) := by decide +kernel
theorem ef_4n (m : MethodId) (x0 : Addr) : entryFrame m #[(.ref x0), .null] 3 = mkF m 0 #[.val (.ref x0), .val .null, .unset] [] := by first | (simp [entryFrame, mkF, argsToLocals, Value.category, maxLocals]; done) | rfl
set_option maxRecDepth 65536 in
set_option maxHeartbeats 40000000 in
theorem m4n (l : Launch) (Z : State) (a0 : Array Value) (hw : ∀ d ∈ tables_1, d.before a0 Z = true) (a : Addr) (h0 : Heap) (n0 : Nat)  :
    Met l Z (⟨"com/example/tussle/tussle/cap/Weights", "equals", "(Ljava/lang/Object;)Z"⟩ : MethodName) prog_13_method_6_code 3 (some (.boolean)) ({ frames := 0, cells := 0, slots := 0, locals := 0 } : Room) #[(.ref a), .null] h0 n0 (qI fun r h => r = 0 ∧ h0 = h) := by
  refine met (plainFor_of_name pn_com_example_tussle_tussle_cap_Weights) #[.val (.ref a), .val .null, .unset] (fun m => ef_4n m a) ?_
  intro p e s m below meth c C
  refine g_aloadN C d4_0 1 rfl rfl rfl ?_
  refine g_instNull C d4_1 4 rfl ?_
  refine g_ifeq C d4_4 40 (by decide) 7 rfl (fun k4 => ?_) (fun k4 => ?_)
  · refine g_iconst C d4_40 41 rfl (0 : Int32) (by decide) ?_
    refine r_nar C (by simp) d4_41 (by decide) (by decide) ⟨rfl, rfl⟩
  · exact absurd k4 (by decide)
theorem ef_4o (m : MethodId) (x0 : Addr) (x1 : Addr) : entryFrame m #[(.ref x0), (.ref x1)] 3 = mkF m 0 #[.val (.ref x0), .val (.ref x1), .unset] [] := by first | (simp [entryFrame, mkF, argsToLocals, Value.category, maxLocals]; done) | rfl
set_option maxRecDepth 65536 in
set_option maxHeartbeats 40000000 in
theorem m4o (l : Launch) (Z : State) (a0 : Array Value) (hw : ∀ d ∈ tables_1, d.before a0 Z = true) (a : Addr) (o : Addr) (h0 : Heap) (n0 : Nat) (E : Exa Z h0 o "com/example/tussle/tussle/cap/Outcome") :
    Met l Z (⟨"com/example/tussle/tussle/cap/Weights", "equals", "(Ljava/lang/Object;)Z"⟩ : MethodName) prog_13_method_6_code 3 (some (.boolean)) ({ frames := 0, cells := 0, slots := 0, locals := 0 } : Room) #[(.ref a), (.ref o)] h0 n0 (qI fun r h => r = 0 ∧ h0 = h) := by
  refine met (plainFor_of_name pn_com_example_tussle_tussle_cap_Weights) #[.val (.ref a), .val (.ref o), .unset] (fun m => ef_4o m a o) ?_
  intro p e s m below meth c C
  refine g_aloadN C d4_0 1 rfl rfl rfl ?_
  refine g_instNo C (hw _ (List.mem_of_getElem? (i := 23) rfl)) E (own_not hw) d4_1 4 rfl ?_
  refine g_ifeq C d4_4 40 (by decide) 7 rfl (fun k4 => ?_) (fun k4 => ?_)
  · refine g_iconst C d4_40 41 rfl (0 : Int32) (by decide) ?_
    refine r_nar C (by simp) d4_41 (by decide) (by decide) ⟨rfl, rfl⟩
  · exact absurd k4 (by decide)
theorem ef_4w (m : MethodId) (x0 : Addr) (x1 : Addr) : entryFrame m #[(.ref x0), (.ref x1)] 3 = mkF m 0 #[.val (.ref x0), .val (.ref x1), .unset] [] := by first | (simp [entryFrame, mkF, argsToLocals, Value.category, maxLocals]; done) | rfl
set_option maxRecDepth 65536 in
set_option maxHeartbeats 40000000 in
theorem m4w (l : Launch) (Z : State) (a0 : Array Value) (hw : ∀ d ∈ tables_1, d.before a0 Z = true) (a : Addr) (o : Addr) (h0 : Heap) (n0 : Nat) (u v x y : Int64) (Ba : Wgt Z h0 a u v) (Bo : Wgt Z h0 o x y) :
    Met l Z (⟨"com/example/tussle/tussle/cap/Weights", "equals", "(Ljava/lang/Object;)Z"⟩ : MethodName) prog_13_method_6_code 3 (some (.boolean)) ({ frames := 0, cells := 0, slots := 0, locals := 0 } : Room) #[(.ref a), (.ref o)] h0 n0 (qI fun r h => r = eqF x u y v ∧ h0 = h) := by
  refine met (plainFor_of_name pn_com_example_tussle_tussle_cap_Weights) #[.val (.ref a), .val (.ref o), .unset] (fun m => ef_4w m a o) ?_
  intro p e s m below meth c C
  refine g_aloadN C d4_0 1 rfl rfl rfl ?_
  refine g_instY C (hw _ (List.mem_of_getElem? (i := 23) rfl)) (Ins.self Bo.1) d4_1 4 rfl ?_
  refine g_ifeq C d4_4 40 (by decide) 7 rfl (fun k4 => ?_) (fun k4 => ?_)
  · exact absurd k4 (by decide)
  · refine g_aloadN C d4_7 8 rfl rfl rfl ?_
    refine g_checkcast C (hw _ (List.mem_of_getElem? (i := 23) rfl)) (Ins.self Bo.1) d4_8 11 rfl ?_
    refine g_astoreN C d4_11 12 rfl #[.val (.ref a), .val (.ref o), .val (.ref o)] rfl rfl ?_
    refine g_aloadN C d4_12 13 rfl rfl rfl ?_
    refine g_getfield C (host := "") (hw _ (List.mem_of_getElem? (i := 14) rfl)) Bo.2.1 d4_13 16 rfl ?_
    refine g_aloadN C d4_16 17 rfl rfl rfl ?_
    refine g_getfield C (host := "") (hw _ (List.mem_of_getElem? (i := 14) rfl)) Ba.2.1 d4_17 20 rfl ?_
    refine g_lcmpne C d4_20 21 rfl d4_21 40 (by decide) 24 rfl (fun k21 => ?_) (fun k21 => ?_)
    · refine g_iconst C d4_40 41 rfl (0 : Int32) (by decide) ?_
      refine r_nar C (by simp) d4_41 (by decide) (by decide) ⟨(eqF_n1 k21).symm, rfl⟩
    · refine g_aloadN C d4_24 25 rfl rfl rfl ?_
      refine g_getfield C (host := "") (hw _ (List.mem_of_getElem? (i := 16) rfl)) Bo.2.2 d4_25 28 rfl ?_
      refine g_aloadN C d4_28 29 rfl rfl rfl ?_
      refine g_getfield C (host := "") (hw _ (List.mem_of_getElem? (i := 16) rfl)) Ba.2.2 d4_29 32 rfl ?_
      refine g_lcmpne C d4_32 33 rfl d4_33 40 (by decide) 36 rfl (fun k33 => ?_) (fun k33 => ?_)
      · refine g_iconst C d4_40 41 rfl (0 : Int32) (by decide) ?_
        refine r_nar C (by simp) d4_41 (by decide) (by decide) ⟨(eqF_n2 k33).symm, rfl⟩
      · refine g_iconst C d4_36 37 rfl (1 : Int32) (by decide) ?_
        refine g_goto C d4_37 41 (by decide) ?_
        refine r_nar C (by simp) d4_41 (by decide) (by decide) ⟨(eqF_y k21 k33).symm, rfl⟩
theorem pn_com_example_tussle_tussle_cap_WeightsEqualsPinLaw : plainName "com/example/tussle/tussle/cap/WeightsEqualsPinLaw" = true := by first | (simp [plainName, overriddenIn]; done) | decide +kernel
theorem pd_1 : parseMethodDescriptor "(JJ)V" = some ⟨[.long, .long], none⟩ := by decide +kernel
theorem pd_2 : parseMethodDescriptor "(Ljava/lang/Object;)Z" = some ⟨[.object "java/lang/Object"], some (.boolean)⟩ := by decide +kernel
theorem ef_0 (m : MethodId) (x0 : Int64) (x1 : Int64) (x2 : Int64) (x3 : Int64) (x4 : Int32) : entryFrame m #[(.long x0), (.long x1), (.long x2), (.long x3), (.int x4)] maxLocals = mkF m 0 #[.val (.long x0), .second, .val (.long x1), .second, .val (.long x2), .second, .val (.long x3), .second, .val (.int x4), .unset, .unset, .unset, .unset, .unset, .unset, .unset, .unset] [] := by first | (simp [entryFrame, mkF, argsToLocals, Value.category, maxLocals]; done) | rfl
set_option maxRecDepth 65536 in
set_option maxHeartbeats 40000000 in
theorem m0 (l : Launch) (Z : State) (a0 : Array Value) (hw : ∀ d ∈ tables_1, d.before a0 Z = true) (p0 : Int64) (p1 : Int64) (p2 : Int64) (p3 : Int64) (p4 : Int32) (h0 : Heap) (n0 : Nat) (Z0 : n0 ≤ h0.size) :
    Met l Z x code maxLocals ret room_1 #[(.long p0), (.long p1), (.long p2), (.long p3), (.int p4)] h0 n0 (qI fun r h => r = 1) := by
  refine met (plainFor_of_name pn_com_example_tussle_tussle_cap_WeightsEqualsPinLaw) #[.val (.long p0), .second, .val (.long p1), .second, .val (.long p2), .second, .val (.long p3), .second, .val (.int p4), .unset, .unset, .unset, .unset, .unset, .unset, .unset, .unset] (fun m => ef_0 m p0 p1 p2 p3 p4) ?_
  intro p e s m below meth c C
  have C : Ctx p l e room_1 s m #[(.long p0), (.long p1), (.long p2), (.long p3), (.int p4)] below meth c Z "com/example/tussle/tussle/cap/WeightsEqualsPinLaw" "law" code 17 (some (.boolean)) := C
  refine g_iload C at_0 2 rfl rfl ?_
  refine g_bipush C at_2 4 rfl (7 : Int32) (by decide) ?_
  refine g_iand C at_4 5 rfl ?_
  refine g_istore C at_5 7 rfl (fun z' => #[.val (.long p0), .second, .val (.long p1), .second, .val (.long p2), .second, .val (.long p3), .second, .val (.int p4), .val (.int z'), .unset, .unset, .unset, .unset, .unset, .unset, .unset]) (fun _ => rfl) (fun v5 ev5 => ?_)
  refine g_new C (hw _ (List.mem_of_getElem? (i := 0) rfl)) (hw _ (List.mem_of_getElem? (i := 1) rfl)) (hw _ (List.mem_of_getElem? (i := 2) rfl)) at_7 10 rfl 1 2 rfl rfl (by decide) (by decide) (fun h7 a7 ga7 E7 X7 D7 => ?_)
  have n7 : n0 ≤ a7 := by rw [ga7]; exact Z0
  have Z7 : n0 ≤ h7.size := Nat.le_trans Z0 E7.1
  refine g_dup C at_10 11 rfl rfl ?_
  refine g_lloadN C at_11 12 rfl rfl ?_
  refine g_lloadN C at_12 13 rfl rfl ?_
  refine c_specialV C a7 [(.long p0), (.long p1)] [(.ref a7)] rfl (hw _ (List.mem_of_getElem? (i := 3) rfl)) (hw _ (List.mem_of_getElem? (i := 4) rfl)) (hw _ (List.mem_of_getElem? (i := 2) rfl)) (hw _ (List.mem_of_getElem? (i := 5) rfl)) (by decide) (m1 l Z a0 hw a7 p0 p1 h7 n0 n7 X7 (D7 (Or.inr (hw _ (List.mem_of_getElem? (i := 15) rfl))) (ty := .long) (by decide)) (D7 (Or.inr (hw _ (List.mem_of_getElem? (i := 17) rfl))) (ty := .long) (by decide))) at_13 16 rfl (lenOf pd_1 rfl) rfl 1 (Nat.le_of_eq rfl) (by decide) (by decide) 1 2 rfl rfl (by decide) (by decide) rfl (fun h13 q13 => ?_)
  obtain ⟨B13, K13⟩ := q13
  have B13 : Wgt Z h13 a7 p0 p1 := B13
  have Z13 : n0 ≤ h13.size := Nat.le_trans Z7 K13.1
  refine g_astore C at_16 18 rfl #[.val (.long p0), .second, .val (.long p1), .second, .val (.long p2), .second, .val (.long p3), .second, .val (.int p4), .val (.int v5), .val (.ref a7), .unset, .unset, .unset, .unset, .unset, .unset] rfl rfl ?_
  refine g_iload C at_18 20 rfl rfl ?_
  refine g_iconst C at_20 21 rfl (4 : Int32) (by decide) ?_
  refine g_if_icmpne C at_21 39 (by decide) 24 rfl (fun k21 => ?_) (fun k21 => ?_)
  · refine g_iload C at_39 41 rfl rfl ?_
    refine g_iconst C at_41 42 rfl (5 : Int32) (by decide) ?_
    refine g_if_icmpne C at_42 72 (by decide) 45 rfl (fun k42 => ?_) (fun k42 => ?_)
    · refine g_iload C at_72 74 rfl rfl ?_
      refine g_bipush C at_74 76 rfl (6 : Int32) (by decide) ?_
      refine g_if_icmpne C at_76 87 (by decide) 79 rfl (fun k76 => ?_) (fun k76 => ?_)
      · have J156 : ∀ (x y : Int64), Go p l e room_1 s m #[(.long p0), (.long p1), (.long p2), (.long p3), (.int p4)] below meth c n0 (qI fun r h => r = 1) h13 1 2 156 #[.val (.long p0), .second, .val (.long p1), .second, .val (.long p2), .second, .val (.long p3), .second, .val (.int p4), .val (.int v5), .val (.ref a7), .val (.long x), .second, .val (.long y), .second, .unset, .unset] [] := by
          intro x y
          refine g_lload C at_156 158 rfl rfl ?_
          refine g_lloadN C at_158 159 rfl rfl ?_
          refine g_lcmpne C at_159 160 rfl at_160 174 (by decide) 163 rfl (fun k160 => ?_) (fun k160 => ?_)
          · refine g_iconst C at_174 175 rfl (0 : Int32) (by decide) ?_
            refine g_istore C at_175 177 rfl (fun z' => #[.val (.long p0), .second, .val (.long p1), .second, .val (.long p2), .second, .val (.long p3), .second, .val (.int p4), .val (.int v5), .val (.ref a7), .val (.long x), .second, .val (.long y), .second, .val (.int z'), .unset]) (fun _ => rfl) (fun v175 ev175 => ?_)
            subst ev175
            refine g_new C (hw _ (List.mem_of_getElem? (i := 0) rfl)) (hw _ (List.mem_of_getElem? (i := 1) rfl)) (hw _ (List.mem_of_getElem? (i := 2) rfl)) at_177 180 rfl 2 4 rfl rfl (by decide) (by decide) (fun h177 a177 ga177 E177 X177 D177 => ?_)
            have n177 : n0 ≤ a177 := by rw [ga177]; exact Z13
            have ne177 : a7 ≠ a177 := by rw [ga177]; exact Nat.ne_of_lt B13.1.lt
            refine g_dup C at_180 181 rfl rfl ?_
            refine g_lload C at_181 183 rfl rfl ?_
            refine g_lload C at_183 185 rfl rfl ?_
            refine c_specialV C a177 [(.long x), (.long y)] [(.ref a177)] rfl (hw _ (List.mem_of_getElem? (i := 3) rfl)) (hw _ (List.mem_of_getElem? (i := 4) rfl)) (hw _ (List.mem_of_getElem? (i := 2) rfl)) (hw _ (List.mem_of_getElem? (i := 5) rfl)) (by decide) (m1 l Z a0 hw a177 x y h177 n0 n177 X177 (D177 (Or.inr (hw _ (List.mem_of_getElem? (i := 15) rfl))) (ty := .long) (by decide)) (D177 (Or.inr (hw _ (List.mem_of_getElem? (i := 17) rfl))) (ty := .long) (by decide))) at_185 188 rfl (lenOf pd_1 rfl) rfl 1 (Nat.le_of_eq rfl) (by decide) (by decide) 2 4 rfl rfl (by decide) (by decide) rfl (fun h185 q185 => ?_)
            have B185 := (B13.ext E177).keep q185.2 (by simpa using ne177)
            have V185 : Wgt Z h185 a177 x y := q185.1
            refine g_astore C at_188 190 rfl #[.val (.long p0), .second, .val (.long p1), .second, .val (.long p2), .second, .val (.long p3), .second, .val (.int p4), .val (.int v5), .val (.ref a7), .val (.long x), .second, .val (.long y), .second, .val (.int (0 : Int32)), .val (.ref a177)] rfl rfl ?_
            refine g_aload C at_190 192 rfl rfl rfl ?_
            refine g_aload C at_192 194 rfl rfl rfl ?_
            refine c_virtualI C a7 [(.ref a177)] [] (hw _ (List.mem_of_getElem? (i := 18) rfl)) (hw _ (List.mem_of_getElem? (i := 19) rfl)) (hw _ (List.mem_of_getElem? (i := 21) rfl)) (hw _ (List.mem_of_getElem? (i := 20) rfl)) (hw _ (List.mem_of_getElem? (i := 2) rfl)) (hw _ (List.mem_of_getElem? (i := 22) rfl)) (by decide) B185.1 (m4w l Z a0 hw a7 a177 h185 n0 p0 p1 x y B185 V185) at_194 197 rfl (lenOf pd_2 rfl) rfl 0 (Nat.le_of_eq rfl) (by decide) (by decide) 2 4 rfl rfl (by decide) (by decide) rfl (fun r194 h194 q194 => ?_)
            obtain ⟨hr194, rfl⟩ := q194
            rw [eqF_n1 k160] at hr194
            subst hr194
            refine g_iload C at_197 199 rfl rfl ?_
            refine g_if_icmpne C at_199 218 (by decide) 202 rfl (fun k199 => ?_) (fun k199 => ?_)
            · exact absurd k199 (by decide)
            · refine g_aload C at_202 204 rfl rfl rfl ?_
              refine g_aload C at_204 206 rfl rfl rfl ?_
              refine c_virtualI C a177 [(.ref a7)] [] (hw _ (List.mem_of_getElem? (i := 18) rfl)) (hw _ (List.mem_of_getElem? (i := 19) rfl)) (hw _ (List.mem_of_getElem? (i := 21) rfl)) (hw _ (List.mem_of_getElem? (i := 20) rfl)) (hw _ (List.mem_of_getElem? (i := 2) rfl)) (hw _ (List.mem_of_getElem? (i := 22) rfl)) (by decide) V185.1 (m4w l Z a0 hw a177 a7 h185 n0 x y p0 p1 V185 B185) at_206 209 rfl (lenOf pd_2 rfl) rfl 0 (Nat.le_of_eq rfl) (by decide) (by decide) 2 4 rfl rfl (by decide) (by decide) rfl (fun r206 h206 q206 => ?_)
              obtain ⟨hr206, rfl⟩ := q206
              rw [eqF_n1 (fun z => k160 z.symm)] at hr206
              subst hr206
              refine g_iload C at_209 211 rfl rfl ?_
              refine g_if_icmpne C at_211 218 (by decide) 214 rfl (fun k211 => ?_) (fun k211 => ?_)
              · exact absurd k211 (by decide)
              · refine g_iconst C at_214 215 rfl (1 : Int32) (by decide) ?_
                refine g_goto C at_215 219 (by decide) ?_
                refine r_nar C (by simp) at_219 (by decide) (by decide) rfl
          · refine g_lload C at_163 165 rfl rfl ?_
            refine g_lloadN C at_165 166 rfl rfl ?_
            refine g_lcmpne C at_166 167 rfl at_167 174 (by decide) 170 rfl (fun k167 => ?_) (fun k167 => ?_)
            · refine g_iconst C at_174 175 rfl (0 : Int32) (by decide) ?_
              refine g_istore C at_175 177 rfl (fun z' => #[.val (.long p0), .second, .val (.long p1), .second, .val (.long p2), .second, .val (.long p3), .second, .val (.int p4), .val (.int v5), .val (.ref a7), .val (.long x), .second, .val (.long y), .second, .val (.int z'), .unset]) (fun _ => rfl) (fun v175 ev175 => ?_)
              subst ev175
              refine g_new C (hw _ (List.mem_of_getElem? (i := 0) rfl)) (hw _ (List.mem_of_getElem? (i := 1) rfl)) (hw _ (List.mem_of_getElem? (i := 2) rfl)) at_177 180 rfl 2 4 rfl rfl (by decide) (by decide) (fun h177 a177 ga177 E177 X177 D177 => ?_)
              have n177 : n0 ≤ a177 := by rw [ga177]; exact Z13
              have ne177 : a7 ≠ a177 := by rw [ga177]; exact Nat.ne_of_lt B13.1.lt
              refine g_dup C at_180 181 rfl rfl ?_
              refine g_lload C at_181 183 rfl rfl ?_
              refine g_lload C at_183 185 rfl rfl ?_
              refine c_specialV C a177 [(.long x), (.long y)] [(.ref a177)] rfl (hw _ (List.mem_of_getElem? (i := 3) rfl)) (hw _ (List.mem_of_getElem? (i := 4) rfl)) (hw _ (List.mem_of_getElem? (i := 2) rfl)) (hw _ (List.mem_of_getElem? (i := 5) rfl)) (by decide) (m1 l Z a0 hw a177 x y h177 n0 n177 X177 (D177 (Or.inr (hw _ (List.mem_of_getElem? (i := 15) rfl))) (ty := .long) (by decide)) (D177 (Or.inr (hw _ (List.mem_of_getElem? (i := 17) rfl))) (ty := .long) (by decide))) at_185 188 rfl (lenOf pd_1 rfl) rfl 1 (Nat.le_of_eq rfl) (by decide) (by decide) 2 4 rfl rfl (by decide) (by decide) rfl (fun h185 q185 => ?_)
              have B185 := (B13.ext E177).keep q185.2 (by simpa using ne177)
              have V185 : Wgt Z h185 a177 x y := q185.1
              refine g_astore C at_188 190 rfl #[.val (.long p0), .second, .val (.long p1), .second, .val (.long p2), .second, .val (.long p3), .second, .val (.int p4), .val (.int v5), .val (.ref a7), .val (.long x), .second, .val (.long y), .second, .val (.int (0 : Int32)), .val (.ref a177)] rfl rfl ?_
              refine g_aload C at_190 192 rfl rfl rfl ?_
              refine g_aload C at_192 194 rfl rfl rfl ?_
              refine c_virtualI C a7 [(.ref a177)] [] (hw _ (List.mem_of_getElem? (i := 18) rfl)) (hw _ (List.mem_of_getElem? (i := 19) rfl)) (hw _ (List.mem_of_getElem? (i := 21) rfl)) (hw _ (List.mem_of_getElem? (i := 20) rfl)) (hw _ (List.mem_of_getElem? (i := 2) rfl)) (hw _ (List.mem_of_getElem? (i := 22) rfl)) (by decide) B185.1 (m4w l Z a0 hw a7 a177 h185 n0 p0 p1 x y B185 V185) at_194 197 rfl (lenOf pd_2 rfl) rfl 0 (Nat.le_of_eq rfl) (by decide) (by decide) 2 4 rfl rfl (by decide) (by decide) rfl (fun r194 h194 q194 => ?_)
              obtain ⟨hr194, rfl⟩ := q194
              rw [eqF_n2 k167] at hr194
              subst hr194
              refine g_iload C at_197 199 rfl rfl ?_
              refine g_if_icmpne C at_199 218 (by decide) 202 rfl (fun k199 => ?_) (fun k199 => ?_)
              · exact absurd k199 (by decide)
              · refine g_aload C at_202 204 rfl rfl rfl ?_
                refine g_aload C at_204 206 rfl rfl rfl ?_
                refine c_virtualI C a177 [(.ref a7)] [] (hw _ (List.mem_of_getElem? (i := 18) rfl)) (hw _ (List.mem_of_getElem? (i := 19) rfl)) (hw _ (List.mem_of_getElem? (i := 21) rfl)) (hw _ (List.mem_of_getElem? (i := 20) rfl)) (hw _ (List.mem_of_getElem? (i := 2) rfl)) (hw _ (List.mem_of_getElem? (i := 22) rfl)) (by decide) V185.1 (m4w l Z a0 hw a177 a7 h185 n0 x y p0 p1 V185 B185) at_206 209 rfl (lenOf pd_2 rfl) rfl 0 (Nat.le_of_eq rfl) (by decide) (by decide) 2 4 rfl rfl (by decide) (by decide) rfl (fun r206 h206 q206 => ?_)
                obtain ⟨hr206, rfl⟩ := q206
                rw [eqF_n2 (fun z => k167 z.symm)] at hr206
                subst hr206
                refine g_iload C at_209 211 rfl rfl ?_
                refine g_if_icmpne C at_211 218 (by decide) 214 rfl (fun k211 => ?_) (fun k211 => ?_)
                · exact absurd k211 (by decide)
                · refine g_iconst C at_214 215 rfl (1 : Int32) (by decide) ?_
                  refine g_goto C at_215 219 (by decide) ?_
                  refine r_nar C (by simp) at_219 (by decide) (by decide) rfl
            · refine g_iconst C at_170 171 rfl (1 : Int32) (by decide) ?_
              refine g_goto C at_171 175 (by decide) ?_
              refine g_istore C at_175 177 rfl (fun z' => #[.val (.long p0), .second, .val (.long p1), .second, .val (.long p2), .second, .val (.long p3), .second, .val (.int p4), .val (.int v5), .val (.ref a7), .val (.long x), .second, .val (.long y), .second, .val (.int z'), .unset]) (fun _ => rfl) (fun v175 ev175 => ?_)
              subst ev175
              refine g_new C (hw _ (List.mem_of_getElem? (i := 0) rfl)) (hw _ (List.mem_of_getElem? (i := 1) rfl)) (hw _ (List.mem_of_getElem? (i := 2) rfl)) at_177 180 rfl 2 4 rfl rfl (by decide) (by decide) (fun h177 a177 ga177 E177 X177 D177 => ?_)
              have n177 : n0 ≤ a177 := by rw [ga177]; exact Z13
              have ne177 : a7 ≠ a177 := by rw [ga177]; exact Nat.ne_of_lt B13.1.lt
              refine g_dup C at_180 181 rfl rfl ?_
              refine g_lload C at_181 183 rfl rfl ?_
              refine g_lload C at_183 185 rfl rfl ?_
              refine c_specialV C a177 [(.long x), (.long y)] [(.ref a177)] rfl (hw _ (List.mem_of_getElem? (i := 3) rfl)) (hw _ (List.mem_of_getElem? (i := 4) rfl)) (hw _ (List.mem_of_getElem? (i := 2) rfl)) (hw _ (List.mem_of_getElem? (i := 5) rfl)) (by decide) (m1 l Z a0 hw a177 x y h177 n0 n177 X177 (D177 (Or.inr (hw _ (List.mem_of_getElem? (i := 15) rfl))) (ty := .long) (by decide)) (D177 (Or.inr (hw _ (List.mem_of_getElem? (i := 17) rfl))) (ty := .long) (by decide))) at_185 188 rfl (lenOf pd_1 rfl) rfl 1 (Nat.le_of_eq rfl) (by decide) (by decide) 2 4 rfl rfl (by decide) (by decide) rfl (fun h185 q185 => ?_)
              have B185 := (B13.ext E177).keep q185.2 (by simpa using ne177)
              have V185 : Wgt Z h185 a177 x y := q185.1
              refine g_astore C at_188 190 rfl #[.val (.long p0), .second, .val (.long p1), .second, .val (.long p2), .second, .val (.long p3), .second, .val (.int p4), .val (.int v5), .val (.ref a7), .val (.long x), .second, .val (.long y), .second, .val (.int (1 : Int32)), .val (.ref a177)] rfl rfl ?_
              refine g_aload C at_190 192 rfl rfl rfl ?_
              refine g_aload C at_192 194 rfl rfl rfl ?_
              refine c_virtualI C a7 [(.ref a177)] [] (hw _ (List.mem_of_getElem? (i := 18) rfl)) (hw _ (List.mem_of_getElem? (i := 19) rfl)) (hw _ (List.mem_of_getElem? (i := 21) rfl)) (hw _ (List.mem_of_getElem? (i := 20) rfl)) (hw _ (List.mem_of_getElem? (i := 2) rfl)) (hw _ (List.mem_of_getElem? (i := 22) rfl)) (by decide) B185.1 (m4w l Z a0 hw a7 a177 h185 n0 p0 p1 x y B185 V185) at_194 197 rfl (lenOf pd_2 rfl) rfl 0 (Nat.le_of_eq rfl) (by decide) (by decide) 2 4 rfl rfl (by decide) (by decide) rfl (fun r194 h194 q194 => ?_)
              obtain ⟨hr194, rfl⟩ := q194
              rw [eqF_y k160 k167] at hr194
              subst hr194
              refine g_iload C at_197 199 rfl rfl ?_
              refine g_if_icmpne C at_199 218 (by decide) 202 rfl (fun k199 => ?_) (fun k199 => ?_)
              · exact absurd k199 (by decide)
              · refine g_aload C at_202 204 rfl rfl rfl ?_
                refine g_aload C at_204 206 rfl rfl rfl ?_
                refine c_virtualI C a177 [(.ref a7)] [] (hw _ (List.mem_of_getElem? (i := 18) rfl)) (hw _ (List.mem_of_getElem? (i := 19) rfl)) (hw _ (List.mem_of_getElem? (i := 21) rfl)) (hw _ (List.mem_of_getElem? (i := 20) rfl)) (hw _ (List.mem_of_getElem? (i := 2) rfl)) (hw _ (List.mem_of_getElem? (i := 22) rfl)) (by decide) V185.1 (m4w l Z a0 hw a177 a7 h185 n0 x y p0 p1 V185 B185) at_206 209 rfl (lenOf pd_2 rfl) rfl 0 (Nat.le_of_eq rfl) (by decide) (by decide) 2 4 rfl rfl (by decide) (by decide) rfl (fun r206 h206 q206 => ?_)
                obtain ⟨hr206, rfl⟩ := q206
                rw [eqF_y (Eq.symm k160) (Eq.symm k167)] at hr206
                subst hr206
                refine g_iload C at_209 211 rfl rfl ?_
                refine g_if_icmpne C at_211 218 (by decide) 214 rfl (fun k211 => ?_) (fun k211 => ?_)
                · exact absurd k211 (by decide)
                · refine g_iconst C at_214 215 rfl (1 : Int32) (by decide) ?_
                  refine g_goto C at_215 219 (by decide) ?_
                  refine r_nar C (by simp) at_219 (by decide) (by decide) rfl
        refine g_iload C at_87 89 rfl rfl ?_
        refine g_ifne C at_89 101 (by decide) 92 rfl (fun k89 => ?_) (fun k89 => ?_)
        · refine g_iload C at_101 103 rfl rfl ?_
          refine g_iconst C at_103 104 rfl (1 : Int32) (by decide) ?_
          refine g_if_icmpne C at_104 117 (by decide) 107 rfl (fun k104 => ?_) (fun k104 => ?_)
          · refine g_iload C at_117 119 rfl rfl ?_
            refine g_iconst C at_119 120 rfl (2 : Int32) (by decide) ?_
            refine g_if_icmpne C at_120 133 (by decide) 123 rfl (fun k120 => ?_) (fun k120 => ?_)
            · refine g_iload C at_133 135 rfl rfl ?_
              refine g_iconst C at_135 136 rfl (3 : Int32) (by decide) ?_
              refine g_if_icmpne C at_136 150 (by decide) 139 rfl (fun k136 => ?_) (fun k136 => ?_)
              · refine g_lloadN C at_150 151 rfl rfl ?_
                refine g_lstore C at_151 153 rfl (fun z' => #[.val (.long p0), .second, .val (.long p1), .second, .val (.long p2), .second, .val (.long p3), .second, .val (.int p4), .val (.int v5), .val (.ref a7), .val (.long z'), .second, .unset, .unset, .unset, .unset]) (fun _ => rfl) (fun v151 ev151 => ?_)
                refine g_lloadN C at_153 154 rfl rfl ?_
                refine g_lstore C at_154 156 rfl (fun z' => #[.val (.long p0), .second, .val (.long p1), .second, .val (.long p2), .second, .val (.long p3), .second, .val (.int p4), .val (.int v5), .val (.ref a7), .val (.long v151), .second, .val (.long z'), .second, .unset, .unset]) (fun _ => rfl) (fun v154 ev154 => ?_)
                exact J156 v151 v154
              · refine g_lload C at_139 141 rfl rfl ?_
                refine g_lstore C at_141 143 rfl (fun z' => #[.val (.long p0), .second, .val (.long p1), .second, .val (.long p2), .second, .val (.long p3), .second, .val (.int p4), .val (.int v5), .val (.ref a7), .val (.long z'), .second, .unset, .unset, .unset, .unset]) (fun _ => rfl) (fun v141 ev141 => ?_)
                refine g_lload C at_143 145 rfl rfl ?_
                refine g_lstore C at_145 147 rfl (fun z' => #[.val (.long p0), .second, .val (.long p1), .second, .val (.long p2), .second, .val (.long p3), .second, .val (.int p4), .val (.int v5), .val (.ref a7), .val (.long v141), .second, .val (.long z'), .second, .unset, .unset]) (fun _ => rfl) (fun v145 ev145 => ?_)
                refine g_goto C at_147 156 (by decide) ?_
                exact J156 v141 v145
            · refine g_lloadN C at_123 124 rfl rfl ?_
              refine g_lstore C at_124 126 rfl (fun z' => #[.val (.long p0), .second, .val (.long p1), .second, .val (.long p2), .second, .val (.long p3), .second, .val (.int p4), .val (.int v5), .val (.ref a7), .val (.long z'), .second, .unset, .unset, .unset, .unset]) (fun _ => rfl) (fun v124 ev124 => ?_)
              refine g_lload C at_126 128 rfl rfl ?_
              refine g_lstore C at_128 130 rfl (fun z' => #[.val (.long p0), .second, .val (.long p1), .second, .val (.long p2), .second, .val (.long p3), .second, .val (.int p4), .val (.int v5), .val (.ref a7), .val (.long v124), .second, .val (.long z'), .second, .unset, .unset]) (fun _ => rfl) (fun v128 ev128 => ?_)
              refine g_goto C at_130 156 (by decide) ?_
              exact J156 v124 v128
          · refine g_lload C at_107 109 rfl rfl ?_
            refine g_lstore C at_109 111 rfl (fun z' => #[.val (.long p0), .second, .val (.long p1), .second, .val (.long p2), .second, .val (.long p3), .second, .val (.int p4), .val (.int v5), .val (.ref a7), .val (.long z'), .second, .unset, .unset, .unset, .unset]) (fun _ => rfl) (fun v109 ev109 => ?_)
            refine g_lloadN C at_111 112 rfl rfl ?_
            refine g_lstore C at_112 114 rfl (fun z' => #[.val (.long p0), .second, .val (.long p1), .second, .val (.long p2), .second, .val (.long p3), .second, .val (.int p4), .val (.int v5), .val (.ref a7), .val (.long v109), .second, .val (.long z'), .second, .unset, .unset]) (fun _ => rfl) (fun v112 ev112 => ?_)
            refine g_goto C at_114 156 (by decide) ?_
            exact J156 v109 v112
        · refine g_lloadN C at_92 93 rfl rfl ?_
          refine g_lstore C at_93 95 rfl (fun z' => #[.val (.long p0), .second, .val (.long p1), .second, .val (.long p2), .second, .val (.long p3), .second, .val (.int p4), .val (.int v5), .val (.ref a7), .val (.long z'), .second, .unset, .unset, .unset, .unset]) (fun _ => rfl) (fun v93 ev93 => ?_)
          refine g_lloadN C at_95 96 rfl rfl ?_
          refine g_lstore C at_96 98 rfl (fun z' => #[.val (.long p0), .second, .val (.long p1), .second, .val (.long p2), .second, .val (.long p3), .second, .val (.int p4), .val (.int v5), .val (.ref a7), .val (.long v93), .second, .val (.long z'), .second, .unset, .unset]) (fun _ => rfl) (fun v96 ev96 => ?_)
          refine g_goto C at_98 156 (by decide) ?_
          exact J156 v93 v96
      · refine g_aload C at_79 81 rfl rfl rfl ?_
        refine g_aload C at_81 83 rfl rfl rfl ?_
        refine c_virtualI C a7 [(.ref a7)] [] (hw _ (List.mem_of_getElem? (i := 18) rfl)) (hw _ (List.mem_of_getElem? (i := 19) rfl)) (hw _ (List.mem_of_getElem? (i := 21) rfl)) (hw _ (List.mem_of_getElem? (i := 20) rfl)) (hw _ (List.mem_of_getElem? (i := 2) rfl)) (hw _ (List.mem_of_getElem? (i := 22) rfl)) (by decide) B13.1 (m4w l Z a0 hw a7 a7 h13 n0 p0 p1 p0 p1 B13 B13) at_83 86 rfl (lenOf pd_2 rfl) rfl 0 (Nat.le_of_eq rfl) (by decide) (by decide) 1 2 rfl rfl (by decide) (by decide) rfl (fun r83 h83 q83 => ?_)
        obtain ⟨hr83, rfl⟩ := q83
        rw [eqF_self] at hr83
        subst hr83
        refine r_nar C (by simp) at_86 (by decide) (by decide) rfl
    · refine g_new C (hw _ (List.mem_of_getElem? (i := 25) rfl)) (hw _ (List.mem_of_getElem? (i := 26) rfl)) (hw _ (List.mem_of_getElem? (i := 27) rfl)) at_45 48 rfl 2 4 rfl rfl (by decide) (by decide) (fun h45 a45 ga45 E45 X45 D45 => ?_)
      have n45 : n0 ≤ a45 := by rw [ga45]; exact Z13
      have ne45 : a7 ≠ a45 := by rw [ga45]; exact Nat.ne_of_lt B13.1.lt
      refine g_dup C at_48 49 rfl rfl ?_
      refine g_lloadN C at_49 50 rfl rfl ?_
      refine g_lloadN C at_50 51 rfl rfl ?_
      refine c_specialV C a45 [(.long p0), (.long p1)] [(.ref a45)] rfl (hw _ (List.mem_of_getElem? (i := 28) rfl)) (hw _ (List.mem_of_getElem? (i := 29) rfl)) (hw _ (List.mem_of_getElem? (i := 27) rfl)) (hw _ (List.mem_of_getElem? (i := 30) rfl)) (by decide) (m5 l Z a0 hw a45 p0 p1 h45 n0 n45 X45 (D45 (Or.inr (hw _ (List.mem_of_getElem? (i := 33) rfl))) (ty := .long) (by decide)) (D45 (Or.inr (hw _ (List.mem_of_getElem? (i := 35) rfl))) (ty := .long) (by decide))) at_51 54 rfl (lenOf pd_1 rfl) rfl 1 (Nat.le_of_eq rfl) (by decide) (by decide) 2 4 rfl rfl (by decide) (by decide) rfl (fun h51 q51 => ?_)
      have B51 := (B13.ext E45).keep q51.2 (by simpa using ne45)
      refine g_astore C at_54 56 rfl #[.val (.long p0), .second, .val (.long p1), .second, .val (.long p2), .second, .val (.long p3), .second, .val (.int p4), .val (.int v5), .val (.ref a7), .val (.ref a45), .unset, .unset, .unset, .unset, .unset] rfl rfl ?_
      refine g_aload C at_56 58 rfl rfl rfl ?_
      refine g_aload C at_58 60 rfl rfl rfl ?_
      refine c_virtualI C a7 [(.ref a45)] [] (hw _ (List.mem_of_getElem? (i := 18) rfl)) (hw _ (List.mem_of_getElem? (i := 19) rfl)) (hw _ (List.mem_of_getElem? (i := 21) rfl)) (hw _ (List.mem_of_getElem? (i := 20) rfl)) (hw _ (List.mem_of_getElem? (i := 2) rfl)) (hw _ (List.mem_of_getElem? (i := 22) rfl)) (by decide) B51.1 (m4o l Z a0 hw a7 a45 h51 n0 q51.1.1) at_60 63 rfl (lenOf pd_2 rfl) rfl 0 (Nat.le_of_eq rfl) (by decide) (by decide) 2 4 rfl rfl (by decide) (by decide) rfl (fun r60 h60 q60 => ?_)
      obtain ⟨hr60, rfl⟩ := q60
      subst hr60
      refine g_ifne C at_63 70 (by decide) 66 rfl (fun k63 => ?_) (fun k63 => ?_)
      · exact absurd k63 (by decide)
      · refine g_iconst C at_66 67 rfl (1 : Int32) (by decide) ?_
        refine g_goto C at_67 71 (by decide) ?_
        refine r_nar C (by simp) at_71 (by decide) (by decide) rfl
  · refine g_aload C at_24 26 rfl rfl rfl ?_
    refine g_aconst_null C at_26 27 rfl ?_
    refine c_virtualI C a7 [.null] [] (hw _ (List.mem_of_getElem? (i := 18) rfl)) (hw _ (List.mem_of_getElem? (i := 19) rfl)) (hw _ (List.mem_of_getElem? (i := 21) rfl)) (hw _ (List.mem_of_getElem? (i := 20) rfl)) (hw _ (List.mem_of_getElem? (i := 2) rfl)) (hw _ (List.mem_of_getElem? (i := 22) rfl)) (by decide) B13.1 (m4n l Z a0 hw a7 h13 n0) at_27 30 rfl (lenOf pd_2 rfl) rfl 0 (Nat.le_of_eq rfl) (by decide) (by decide) 1 2 rfl rfl (by decide) (by decide) rfl (fun r27 h27 q27 => ?_)
    obtain ⟨hr27, rfl⟩ := q27
    subst hr27
    refine g_ifne C at_30 37 (by decide) 33 rfl (fun k30 => ?_) (fun k30 => ?_)
    · exact absurd k30 (by decide)
    · refine g_iconst C at_33 34 rfl (1 : Int32) (by decide) ?_
      refine g_goto C at_34 38 (by decide) ?_
      refine r_nar C (by simp) at_38 (by decide) (by decide) rfl
set_option maxRecDepth 65536 in
set_option maxHeartbeats 40000000 in
theorem comes_1 {Post : Tables → Env → Array Value → State → Outcome → State → Prop} (hpost : ∀ tb e args s v u, (limb_1_1.after args s (.returned v) u = true ∧ limb_1_2.after args s (.returned v) u = true ∧ True) → FrameEnd s (.returned v) u (Jvm.fieldLocs frame_1_writes args s ++ Jvm.arrayLocs frame_1_arrays args s ++ Jvm.staticLocs frame_1_statics s) 16 128 → Post tb e args s (.returned v) u) :
    ArmFor flags0 classFile x code maxLocals ret World_1 tables_1 room_1 Calls_1 rest_1 Pre_1 Post := by
  intro l hfl _ _ p e ha hc hk s m args below hf hA hF happ hP
  obtain ⟨hcalls, hrest, hpre⟩ := hP
  obtain ⟨-, -, -, hnamed, -, -, -, hat⟩ := (Spec.applies_iff hf).mp happ
  obtain ⟨hg, hn⟩ := and_e (Cond.before_iff.mp (show (Jvm.Cond.and given_1 narrow_1).before args s = true from hpre))
  obtain ⟨h1, g0⟩ := and_e hg
  obtain ⟨w0, w1, w2, w3, w4, rfl⟩ : ∃ w0 w1 w2 w3 w4 : Value, args = #[w0, w1, w2, w3, w4] := by
    have hs : args.size = 5 := by simpa [Cond.value, given_1] using h1
    obtain ⟨L⟩ := args
    match L, hs with
    | [w0, w1, w2, w3, w4], _ => exact ⟨w0, w1, w2, w3, w4, rfl⟩
  have hw := fun d (hd : d ∈ tables_1) => atoms_spec (ws := Jvm.Cond.code x code maxLocals ret :: tables_1) hat d (List.mem_cons_of_mem _ hd)
  obtain ⟨b0, g1⟩ := and_e g0
  obtain ⟨i0, q0⟩ := isL_v b0
  obtain rfl : w0 = (.long i0) := Option.some.inj q0
  obtain ⟨b1, g2⟩ := and_e g1
  obtain ⟨i1, q1⟩ := isL_v b1
  obtain rfl : w1 = (.long i1) := Option.some.inj q1
  obtain ⟨b2, g3⟩ := and_e g2
  obtain ⟨i2, q2⟩ := isL_v b2
  obtain rfl : w2 = (.long i2) := Option.some.inj q2
  obtain ⟨b3, g4⟩ := and_e g3
  obtain ⟨i3, q3⟩ := isL_v b3
  obtain rfl : w3 = (.long i3) := Option.some.inj q3
  obtain ⟨i4, q4⟩ := is_v g4
  obtain rfl : w4 = (.int i4) := Option.some.inj q4
  obtain ⟨n, o, h1, h2, h3, _, L, rfl, ⟨⟨r, rfl, rfl⟩, N⟩, hq⟩ := m0 l s _ hw i0 i1 i2 i3 i4 s.heap s.heap.size (Nat.le_refl _) tables_1 p e ha hc hk s m _ below hf ((Spec.applies_iff_loose hf).mp happ).1 ⟨rfl, State.Warmed39.refl s, rfl⟩ trivial
  refine ⟨n, _, h1, h2, h3, hpost _ _ _ _ _ _ ⟨Cond.after_iff.mpr rfl, Cond.after_iff.mpr (eq_i res_at (Term.int_eval (1)) rfl), trivial⟩ ⟨hq.1, hq.2.1, (hq.2.2.sift fun y hy => Or.inr (N y hy)).mono (by decide) (by decide)⟩⟩
theorem main_1_1 : Claimed_1_1 := comes_1 fun _ _ _ _ _ _ h hF => ⟨h.1, hF⟩
theorem main_1_2 : Claimed_1_2 := comes_1 fun _ _ _ _ _ _ h hF => ⟨h.2.1, hF⟩
end Jvm.Pilot.@@N@@
namespace Jvm.Pilot.@@N@@
open Jvm Jvm.ClassFile Sem Op Lib Jvm.Free Jvm.Stand Jvm.Pilot.@@N@@.Jvm.D
/-! MADE BY PROGRAM (witnessworld.py) out of the Statement's table words and the real class files: 11 classes; the members and pool entries that the words name. The judged class is class 1, her method 1. -/
namespace start1
open Jvm.ClassFile
def u (s : String) : CpInfo := .utf8 (stringToUtf16 s)
/-- a pool by its gaps: so many unusable entries, then the entry; so many at the end -/
def gap : Nat → List CpInfo → List CpInfo
  | 0, r => r
  | n + 1, r => .unusable :: gap n r
def poolList (es : List (Nat × CpInfo)) (last : Nat) : List CpInfo := es.foldr (fun e r => gap e.1 (e.2 :: r)) (gap last [])
def pool (es : List (Nat × CpInfo)) (last : Nat) : Array CpInfo := ⟨poolList es last⟩
def fileOf (pool : Array CpInfo) (this : Nat) (attrs : Array Attribute := #[]) (ms : Array MethodInfo := #[]) (fl : Nat := 33) (sup : Nat := 0) (ifs : Array Nat := #[]) (fds : Array FieldInfo := #[]) : ClassFile where
  minorVersion := 0
  majorVersion := 65
  constantPool := pool
  accessFlags := fl
  thisClass := this
  superClass := sup
  interfaces := ifs
  fields := fds
  methods := ms
  attributes := attrs
def plain (name : String) (sup : Option ClassId) : Class where
  name := name
  kind := .ordinary
  loader := none
  accessFlags := 33
  super := sup
  interfaces := #[]
  cf := none
  fields := #[]
  methods := #[]
  instanceTypes := #[]
  staticTypes := #[]
  resolved := #[]
  callSites := []
  init := .initialized
  statics := none
  mirror := none

def pool0 : Array CpInfo := pool [(5, u "<init>"), (0, u "()V"), (1, .class_ 10), (1, u "java/lang/Object")] 113

def k0c0 : Code := { maxStack := 0, maxLocals := 1, code := object_method_1_code, exceptionTable := #[], attributes := #[] }
def k0m0 : Method := { name := "<init>", desc := "()V", sig := { parameters := [], returnType := none }, accessFlags := 1, code := some k0c0 }
/-- java/lang/Object -/
def k0 : Class := { plain "java/lang/Object" none with
  accessFlags := 33
  interfaces := #[]
  cf := some (fileOf pool0 8 #[] #[{ accessFlags := 1, nameIndex := 5, descriptorIndex := 6, attributes := #[] }] 33 0 #[] #[])
  fields := #[]
  methods := #[k0m0]
  instanceTypes := #[]
  staticTypes := #[]
  resolved := Array.replicate 124 none
  statics := none }

def pool1 : Array CpInfo := pool [(2, .class_ 4), (1, u "java/lang/Object"), (0, u "<init>"), (0, u "()V"), (0, .class_ 8), (0, u "com/example/tussle/tussle/cap/Weights"), (0, .methodref 7 10), (0, .nameAndType 5 11), (0, u "(JJ)V"), (0, .methodref 7 13), (0, .nameAndType 14 15), (0, u "equals"), (0, u "(Ljava/lang/Object;)Z"), (0, .class_ 17), (0, u "com/example/tussle/tussle/cap/Outcome"), (0, .methodref 16 10), (0, .class_ 20), (0, u "com/example/tussle/tussle/cap/WeightsEqualsPinLaw"), (2, u "law"), (0, u "(JJJJI)Z")] 3

def k1m0 : Method := { name := "<init>", desc := "()V", sig := { parameters := [], returnType := none }, accessFlags := 1, code := none }
def k1c1 : Code := { maxStack := 6, maxLocals := 17, code := code, exceptionTable := #[], attributes := #[] }
def k1m1 : Method := { name := "law", desc := "(JJJJI)Z", sig := { parameters := [.long, .long, .long, .long, .int], returnType := some .boolean }, accessFlags := 9, code := some k1c1 }
/-- com/example/tussle/tussle/cap/WeightsEqualsPinLaw -/
def k1 : Class := { plain "com/example/tussle/tussle/cap/WeightsEqualsPinLaw" (some 0) with
  accessFlags := 49
  interfaces := #[]
  cf := some (fileOf pool1 19 #[] #[{ accessFlags := 1, nameIndex := 5, descriptorIndex := 6, attributes := #[] }, { accessFlags := 9, nameIndex := 23, descriptorIndex := 24, attributes := #[] }] 49 2 #[] #[])
  fields := #[]
  methods := #[k1m0, k1m1]
  instanceTypes := #[]
  staticTypes := #[]
  resolved := Array.replicate 28 none
  statics := none }

def pool2 : Array CpInfo := pool [(1, .methodref 2 3), (0, .class_ 4), (0, .nameAndType 5 6), (0, u "java/lang/Object"), (0, u "<init>"), (0, u "()V"), (0, .class_ 8), (0, u "java/lang/Record")] 13

def k2c0 : Code := { maxStack := 1, maxLocals := 1, code := jdk_30_method_1_code, exceptionTable := #[], attributes := #[] }
def k2m0 : Method := { name := "<init>", desc := "()V", sig := { parameters := [], returnType := none }, accessFlags := 4, code := some k2c0 }
/-- java/lang/Record -/
def k2 : Class := { plain "java/lang/Record" (some 0) with
  accessFlags := 1057
  interfaces := #[]
  cf := some (fileOf pool2 7 #[] #[{ accessFlags := 4, nameIndex := 5, descriptorIndex := 6, attributes := #[] }] 1057 2 #[] #[])
  fields := #[]
  methods := #[k2m0]
  instanceTypes := #[]
  staticTypes := #[]
  resolved := Array.replicate 22 none
  statics := none }

def pool3 : Array CpInfo := pool [(1, .methodref 2 3), (0, .class_ 4), (0, .nameAndType 5 6), (0, u "java/lang/Record"), (0, u "<init>"), (0, u "()V"), (0, .fieldref 8 9), (0, .class_ 10), (0, .nameAndType 11 12), (0, u "com/example/tussle/tussle/cap/Weights"), (0, u "ofA"), (0, u "J"), (0, .fieldref 8 14), (0, .nameAndType 15 12), (0, u "ofB"), (11, u "(JJ)V"), (28, u "equals"), (0, u "(Ljava/lang/Object;)Z")] 23

def k3c0 : Code := { maxStack := 3, maxLocals := 5, code := prog_13_method_1_code, exceptionTable := #[], attributes := #[] }
def k3m0 : Method := { name := "<init>", desc := "(JJ)V", sig := { parameters := [.long, .long], returnType := none }, accessFlags := 0, code := some k3c0 }
def k3c1 : Code := { maxStack := 4, maxLocals := 3, code := prog_13_method_6_code, exceptionTable := #[], attributes := #[] }
def k3m1 : Method := { name := "equals", desc := "(Ljava/lang/Object;)Z", sig := { parameters := [(.object "java/lang/Object")], returnType := some .boolean }, accessFlags := 1, code := some k3c1 }
/-- com/example/tussle/tussle/cap/Weights -/
def k3 : Class := { plain "com/example/tussle/tussle/cap/Weights" (some 2) with
  accessFlags := 48
  interfaces := #[]
  cf := some (fileOf pool3 8 #[] #[{ accessFlags := 0, nameIndex := 5, descriptorIndex := 27, attributes := #[] }, { accessFlags := 1, nameIndex := 56, descriptorIndex := 57, attributes := #[] }] 48 2 #[] #[{ accessFlags := 18, nameIndex := 11, descriptorIndex := 12, attributes := #[] }, { accessFlags := 18, nameIndex := 15, descriptorIndex := 12, attributes := #[] }])
  fields := #[{ name := "ofA", type := .long, accessFlags := 18, slot := 0, constantValue := 0 }, { name := "ofB", type := .long, accessFlags := 18, slot := 1, constantValue := 0 }]
  methods := #[k3m0, k3m1]
  instanceTypes := #[.long, .long]
  staticTypes := #[]
  resolved := Array.replicate 81 none
  statics := none }

def pool4 : Array CpInfo := pool [(1, .methodref 2 3), (0, .class_ 4), (0, .nameAndType 5 6), (0, u "java/lang/Record"), (0, u "<init>"), (0, u "()V"), (0, .fieldref 8 9), (0, .class_ 10), (0, .nameAndType 11 12), (0, u "com/example/tussle/tussle/cap/Outcome"), (0, u "costOfA"), (0, u "J"), (0, .fieldref 8 14), (0, .nameAndType 15 12), (0, u "costOfB"), (12, u "(JJ)V")] 28

def k4c0 : Code := { maxStack := 3, maxLocals := 5, code := prog_9_method_1_code, exceptionTable := #[], attributes := #[] }
def k4m0 : Method := { name := "<init>", desc := "(JJ)V", sig := { parameters := [.long, .long], returnType := none }, accessFlags := 1, code := some k4c0 }
/-- com/example/tussle/tussle/cap/Outcome -/
def k4 : Class := { plain "com/example/tussle/tussle/cap/Outcome" (some 2) with
  accessFlags := 49
  interfaces := #[]
  cf := some (fileOf pool4 8 #[] #[{ accessFlags := 1, nameIndex := 5, descriptorIndex := 28, attributes := #[] }] 49 2 #[] #[{ accessFlags := 18, nameIndex := 11, descriptorIndex := 12, attributes := #[] }, { accessFlags := 18, nameIndex := 15, descriptorIndex := 12, attributes := #[] }])
  fields := #[{ name := "costOfA", type := .long, accessFlags := 18, slot := 0, constantValue := 0 }, { name := "costOfB", type := .long, accessFlags := 18, slot := 1, constantValue := 0 }]
  methods := #[k4m0]
  instanceTypes := #[.long, .long]
  staticTypes := #[]
  resolved := Array.replicate 57 none
  statics := none }

def pool5 : Array CpInfo := pool [(1, u "java/lang/Cloneable"), (0, .class_ 1), (0, u "java/lang/Object"), (0, .class_ 3)] 3

/-- java/lang/Cloneable -/
def k5 : Class := { plain "java/lang/Cloneable" (some 0) with
  accessFlags := 1537
  interfaces := #[]
  cf := some (fileOf pool5 2 #[] #[] 1537 4 #[] #[])
  fields := #[]
  methods := #[]
  instanceTypes := #[]
  staticTypes := #[]
  resolved := Array.replicate 8 none
  statics := none }

def pool6 : Array CpInfo := pool [(1, u "java/io/Serializable"), (0, .class_ 1), (0, u "java/lang/Object"), (0, .class_ 3)] 3

/-- java/io/Serializable -/
def k6 : Class := { plain "java/io/Serializable" (some 0) with
  accessFlags := 1537
  interfaces := #[]
  cf := some (fileOf pool6 2 #[] #[] 1537 4 #[] #[])
  fields := #[]
  methods := #[]
  instanceTypes := #[]
  staticTypes := #[]
  resolved := Array.replicate 8 none
  statics := none }

/-- the primitive byte -/
def k7 : Class := { plain "byte" none with kind := .primitive 'B', accessFlags := 0x411 }
/-- [B -/
def k8 : Class := { plain "[B" (some 0) with kind := .array 7 .byte, interfaces := #[5, 6], accessFlags := 1041 }

/-- the primitive int -/
def k9 : Class := { plain "int" none with kind := .primitive 'I', accessFlags := 0x411 }
/-- [I -/
def k10 : Class := { plain "[I" (some 0) with kind := .array 9 .int, interfaces := #[5, 6], accessFlags := 1041 }

def heap : Heap := #[]
def classes : Array Class := #[k0, k1, k2, k3, k4, k5, k6, k7, k8, k9, k10]
def interned : List (Array UInt16 × Addr) := []
def slotsUsed : Nat := 0
def theMethod : MethodId := ⟨1, 1⟩
def args0 : Array Value := #[.long 5, .long 5, .long 5, .long 5, .int 5]
def aboutOver (below : List Frame) : State where
  vm := { classes := classes, interned := interned.toArray }
  heap := heap
  slotsUsed := slotsUsed
  threads := #[{ frames := .invoking theMethod args0 :: below }]
def below0 : List Frame := [.native { method := ⟨0, 0⟩, args := #[] }]
def about1 : State := aboutOver below0
def p0 : Program := .bare "" "" ""
def e0 : Env := launch0.env 0 0 0
theorem w_frames : about1.frames = Frame.invoking theMethod args0 :: below0 := rfl
set_option maxRecDepth 65536 in
theorem w_args : argsFit about1.vm theMethod args0 = true := by decide +kernel
set_option maxRecDepth 65536 in
theorem w_heap : heapFits about1 = true := by decide +kernel
set_option maxRecDepth 65536 in
theorem w_runnable : about1.curStatus? = some .runnable := by decide +kernel
set_option maxRecDepth 65536 in
theorem w_alone : about1.alone = true := by decide +kernel
set_option maxRecDepth 65536 in
theorem w_named : about1.methodNamed? x = some theMethod := by decide +kernel
set_option maxRecDepth 65536 in
theorem w_hears : about1.hears theMethod below0 = true := by decide +kernel
set_option maxRecDepth 65536 in
theorem w_ripe : about1.ripe theMethod args0 below0 = true := by decide +kernel
theorem w_running : about1.status = .running := rfl
set_option maxRecDepth 65536 in
theorem w_room : about1.hasRoom e0.platform room_1 = true :=
  launch0.hasRoom_least _ room_1 (by decide +kernel) (by decide +kernel) (by decide +kernel) (by decide +kernel) (by decide +kernel) (by decide +kernel)
theorem allAtoms_all (ts : List Jvm.Cond) (a : Array Jvm.Value) (st : Jvm.State) : (allAtoms ts).before a st = ts.all (fun c => c.before a st) := by
  induction ts with
  | nil => rfl
  | cons c t ih =>
    show (Jvm.Cond.and c (allAtoms t)).before a st = _
    rw [Jvm.Cond.before_and, ih, List.all_cons]
def words1 : List Jvm.Cond := Jvm.Cond.code x code maxLocals ret :: tables_1
/-- a 'code' word, met by the world's own term for the bytes: nothing is compared byte by byte -/
theorem code_word {y : MethodName} {bytes : ByteArray} {mx : Nat} {rt : Option FieldType} {a : Array Value} {s : State} {m : MethodId} {meth : Method} {c : Code} (h1 : s.methodNamed? y = some m) (h2 : s.vm.method? m = some meth) (h3 : meth.code = some c) (h4 : c.code = bytes)
    (h5 : (c.maxLocals == mx && c.exceptionTable.isEmpty && decide (c.maxStack ≤ mostOperands) && decide (meth.sig.returnType = rt) && !meth.locks && decide (parseMethodDescriptor y.desc = some meth.sig)) = true) : (Jvm.Cond.code y bytes mx rt).before a s = true := by
  simp only [Bool.and_eq_true, beq_iff_eq, Bool.not_eq_true', decide_eq_true_eq] at h5
  obtain ⟨⟨⟨⟨⟨g1, g2⟩, g3⟩, g4⟩, g5⟩, g6⟩ := h5
  simp [Cond.before, Cond.holds, Cond.value, h1, h2, h3, h4, g1, g2, g3, g4, g5, g6]
def isCode : Jvm.Cond → Bool
  | .code _ _ _ _ => true
  | _ => false
theorem all_split {L : List Jvm.Cond} {P : Jvm.Cond → Bool} (h1 : L.all (fun c => isCode c || P c) = true) (h2 : ∀ c ∈ L.filter isCode, P c = true) : L.all P = true := by
  refine List.all_eq_true.mpr fun c hc => ?_
  have h := List.all_eq_true.mp h1 c hc
  rcases Bool.eq_false_or_eq_true (isCode c) with hi | hi
  · exact h2 c (List.mem_filter.mpr ⟨hc, hi⟩)
  · simpa [hi] using h
set_option maxRecDepth 65536 in
theorem w_c0 : (Jvm.Cond.code x code maxLocals ret).before args0 about1 = true := code_word (m := ⟨1, 1⟩) (meth := k1m1) (c := k1c1) (by decide +kernel) rfl rfl rfl (by decide +kernel)
set_option maxRecDepth 65536 in
theorem w_c1 : (Jvm.Cond.code ({ cls := "com/example/tussle/tussle/cap/Weights", name := "<init>", desc := "(JJ)V" } : Jvm.MethodName) prog_13_method_1_code (5 : Nat) (Option.none : Option Jvm.ClassFile.FieldType)).before args0 about1 = true := code_word (m := ⟨3, 0⟩) (meth := k3m0) (c := k3c0) (by decide +kernel) rfl rfl rfl (by decide +kernel)
set_option maxRecDepth 65536 in
theorem w_c2 : (Jvm.Cond.code ({ cls := "java/lang/Record", name := "<init>", desc := "()V" } : Jvm.MethodName) jdk_30_method_1_code (1 : Nat) (Option.none : Option Jvm.ClassFile.FieldType)).before args0 about1 = true := code_word (m := ⟨2, 0⟩) (meth := k2m0) (c := k2c0) (by decide +kernel) rfl rfl rfl (by decide +kernel)
set_option maxRecDepth 65536 in
theorem w_c3 : (Jvm.Cond.code ({ cls := "java/lang/Object", name := "<init>", desc := "()V" } : Jvm.MethodName) object_method_1_code (1 : Nat) (Option.none : Option Jvm.ClassFile.FieldType)).before args0 about1 = true := code_word (m := ⟨0, 0⟩) (meth := k0m0) (c := k0c0) (by decide +kernel) rfl rfl rfl (by decide +kernel)
set_option maxRecDepth 65536 in
theorem w_c4 : (Jvm.Cond.code ({ cls := "com/example/tussle/tussle/cap/Weights", name := "equals", desc := "(Ljava/lang/Object;)Z" } : Jvm.MethodName) prog_13_method_6_code (3 : Nat) (Option.some Jvm.ClassFile.FieldType.boolean)).before args0 about1 = true := code_word (m := ⟨3, 1⟩) (meth := k3m1) (c := k3c1) (by decide +kernel) rfl rfl rfl (by decide +kernel)
set_option maxRecDepth 65536 in
theorem w_c5 : (Jvm.Cond.code ({ cls := "com/example/tussle/tussle/cap/Outcome", name := "<init>", desc := "(JJ)V" } : Jvm.MethodName) prog_9_method_1_code (5 : Nat) (Option.none : Option Jvm.ClassFile.FieldType)).before args0 about1 = true := code_word (m := ⟨4, 0⟩) (meth := k4m0) (c := k4c0) (by decide +kernel) rfl rfl rfl (by decide +kernel)
def codes1 : List Jvm.Cond := [Jvm.Cond.code x code maxLocals ret, Jvm.Cond.code ({ cls := "com/example/tussle/tussle/cap/Weights", name := "<init>", desc := "(JJ)V" } : Jvm.MethodName) prog_13_method_1_code (5 : Nat) (Option.none : Option Jvm.ClassFile.FieldType), Jvm.Cond.code ({ cls := "java/lang/Record", name := "<init>", desc := "()V" } : Jvm.MethodName) jdk_30_method_1_code (1 : Nat) (Option.none : Option Jvm.ClassFile.FieldType), Jvm.Cond.code ({ cls := "java/lang/Object", name := "<init>", desc := "()V" } : Jvm.MethodName) object_method_1_code (1 : Nat) (Option.none : Option Jvm.ClassFile.FieldType), Jvm.Cond.code ({ cls := "com/example/tussle/tussle/cap/Weights", name := "equals", desc := "(Ljava/lang/Object;)Z" } : Jvm.MethodName) prog_13_method_6_code (3 : Nat) (Option.some Jvm.ClassFile.FieldType.boolean), Jvm.Cond.code ({ cls := "com/example/tussle/tussle/cap/Outcome", name := "<init>", desc := "(JJ)V" } : Jvm.MethodName) prog_9_method_1_code (5 : Nat) (Option.none : Option Jvm.ClassFile.FieldType)]
set_option maxRecDepth 65536 in
theorem codes_eq : words1.filter isCode = codes1 := rfl
theorem w_codes : ∀ c ∈ words1.filter isCode, c.before args0 about1 = true := by
  rw [codes_eq]
  intro c hc
  simp only [codes1, List.mem_cons, List.not_mem_nil, or_false] at hc
  rcases hc with rfl | rfl | rfl | rfl | rfl | rfl
  · exact w_c0
  · exact w_c1
  · exact w_c2
  · exact w_c3
  · exact w_c4
  · exact w_c5
set_option maxRecDepth 65536 in
theorem w_t1 : (words1.take 24).all (fun c => isCode c || c.before args0 about1) = true := by decide +kernel
set_option maxRecDepth 65536 in
theorem w_t2 : (words1.drop 24).all (fun c => isCode c || c.before args0 about1) = true := by decide +kernel
theorem w_tables : (allAtoms (Jvm.Cond.code x code maxLocals ret :: tables_1)).before args0 about1 = true := by
  rw [allAtoms_all]
  show words1.all (fun c => c.before args0 about1) = true
  refine all_split ?_ w_codes
  rw [← List.take_append_drop 24 words1, List.all_append, w_t1, w_t2]
  rfl
set_option maxRecDepth 65536 in
theorem w_case : (Jvm.Cond.and given_1 narrow_1).before args0 about1 = true := by decide +kernel
theorem w_applies : (headSpec (Jvm.Cond.code x code maxLocals ret :: tables_1) room_1).applies x e0.platform about1 = true :=
  (Spec.applies_iff w_frames).mpr ⟨w_running, w_runnable, w_alone, w_named, w_hears, w_ripe, w_room, w_tables⟩
theorem atStart : AtStart classFile x code maxLocals ret World_1 tables_1 room_1 Calls_1 rest_1 Pre_1 launch0 p0 e0 about1 theMethod args0 below0 :=
  ⟨lists_1, trivial, launch0.admits_env _ _ _, launch0.least_env, fairChoices_fair.cas, fairChoices_fair.clock, w_frames, w_args, w_heap, w_applies, trivial, trivial, w_case⟩
end start1
theorem witness_1 : WitnessClaimed_1 := ⟨start1.p0, start1.e0, start1.about1, start1.theMethod, start1.args0, start1.below0, start1.atStart⟩
end Jvm.Pilot.@@N@@
