import JvmDerived
import JvmDerived.Pilot.@@N@@Statement
import JvmDerived.Pilot.@@N@@Code
set_option linter.unusedVariables false
set_option linter.unusedSimpArgs false
namespace Jvm.RoadKit
open Sem ClassFile Op Lib Jvm.Stand Jvm.Free Jvm.LawKit
section New
variable {p : Program} {l : Launch} {e : Env} {R : Room} {s : State} {m : MethodId} {args : Array Value} {below : List Frame} {meth : Method} {c : Code} {T : State} {locs : List Loc} {cells slots : Nat}
theorem retI (X : Stand p l e R s m args below meth c T locs cells slots) (hx : p.tables.exec = Jvm.exec) {pc : Nat} {Ls : Array Slot} {z : Int32} {rest : List Value} (hret : meth.sig.returnType = some .int) (hd : decode c.code pc = .ok (.ireturn, 1)) {fs : List Frame}
    (hl : ∀ (f : JFrame) (acts : List Action), f.method = m → f.locked = none → f.entered = [] → (doReturn e (T.setTop f) acts (some (.int z))).1 = T.setFrames fs) : Steps p.tables e below (T.setTop (mkF m pc Ls (.int z :: rest))) (T.setFrames fs) := by
  have hm' : T.vm.method? m = some meth := X.method'
  have hn : narrow .int (.int z) = .int z := rfl
  show Steps p.tables e below (T.setTop { method := m, pc := pc, locals := Ls, stack := _ :: rest, locked := none }) _
  jvm_step X.here [X.here.top, hx, hd, hm', hret, hn]
  first | (intro acts; rw [hl _ acts rfl rfl rfl]) | rw [hl _ _ rfl rfl rfl]
  exact Steps.refl _
end New
end Jvm.RoadKit
namespace Jvm.Pilot.@@N@@.OwnW
open Jvm Jvm.ClassFile Sem Op Lib Jvm.Free Jvm.Stand Jvm.LawKit Jvm.RoadKit
section OwnBase
variable {p : Program} {l : Launch} {e : Env} {R : Room} {s : State} {m : MethodId} {args : Array Value} {below : List Frame} {meth : Method} {c : Code} {Z : State} {own nm : String} {bs : ByteArray} {ml : Nat} {rt : Option FieldType} {n0 : Nat} {Q : Option Value → Heap → Prop} {h : Heap} {cells slots pc : Nat} {L : Array Slot} {st : List Value} {a0 : Array Value}
/-- what is known throughout a body's walk -/
def Ctx (p : Program) (l : Launch) (e : Env) (R : Room) (s : State) (m : MethodId) (args : Array Value) (below : List Frame) (meth : Method) (c : Code) (Z : State) (own nm : String) (bs : ByteArray) (ml : Nat) (rt : Option FieldType) : Prop :=
  p.tables.exec = Jvm.exec ∧ c.code = bs ∧ Z.Warmed39 s.vm ∧ s.vm.findClass own = some m.cls ∧ c.maxLocals = ml ∧ meth.sig.returnType = rt ∧ meth.locks = false ∧ meth.name = nm
/-- from here the body comes to its end, and Q holds there -/
def Go (p : Program) (l : Launch) (e : Env) (R : Room) (s : State) (m : MethodId) (args : Array Value) (below : List Frame) (meth : Method) (c : Code) (n0 : Nat) (Q : Option Value → Heap → Prop) (h : Heap) (cells slots pc : Nat) (L : Array Slot) (st : List Value) : Prop :=
  ∀ (T : State) (locs : List Loc), Stand p l e R s m args below meth c T locs cells slots → T.heap = h → Fr n0 locs →
    ∃ (s2 : State) (v : Option Value) (L' : List Loc), Steps p.tables e below (T.setTop (mkF m pc L st)) s2 ∧ s2.status = .running ∧ Ended s2 below (.returned v) ∧ Q v s2.heap ∧ Fr n0 L' ∧ s.WarmedH s2.vm ∧ s.sameButNew ({ s2 with vm := s.vm } : State) L' R.cells R.slots
/-- the contract of a body at given arguments and a given heap -/
def Met (l : Launch) (Z : State) (y : MethodName) (bs : ByteArray) (ml : Nat) (rt : Option FieldType) (rm : Room) (as : Array Value) (h0 : Heap) (n0 : Nat) (Q : Option Value → Heap → Prop) : Prop :=
  ∀ ws : List Jvm.Cond, MetFree l y (head1 (Jvm.Cond.code y bs ml rt :: ws) rm) (fun a U => a = as ∧ Z.Warmed39 U.vm ∧ U.heap = h0) (fun _ _ _ _ _ => True) (fun _ U o U' => ∃ v L, o = .returned v ∧ (Q v U'.heap ∧ Fr n0 L) ∧ FrameEnd U o U' L rm.cells rm.slots)
def qI (P : Int32 → Heap → Prop) : Option Value → Heap → Prop := fun v h => ∃ r, v = some (.int r) ∧ P r h
def qJ (P : Int64 → Heap → Prop) : Option Value → Heap → Prop := fun v h => ∃ r, v = some (.long r) ∧ P r h
def qA (P : Addr → Heap → Prop) : Option Value → Heap → Prop := fun v h => ∃ r, v = some (.ref r) ∧ P r h
def qV (P : Heap → Prop) : Option Value → Heap → Prop := fun v h => v = none ∧ P h
theorem met {y : MethodName} {rm : Room} {as : Array Value} {h0 : Heap} (hpf : plainFor y = true) (L0 : Array Slot) (hE : ∀ m, entryFrame m as ml = mkF m 0 L0 [])
    (body : ∀ (p : Program) (e : Env) (s : State) (m : MethodId) (below : List Frame) (meth : Method) (c : Code), Ctx p l e rm s m as below meth c Z y.cls y.name bs ml rt → Go p l e rm s m as below meth c n0 Q h0 0 0 0 L0 []) : Met l Z y bs ml rt rm as h0 n0 Q := by
  intro ws
  refine MetFree.of_bodySF hpf hisR ?_
  intro p e s m args below meth c s1 Bd hml0 hP hK
  obtain ⟨rfl, hZ, hh⟩ := hP
  have e0 : s1.heap = h0 := by rw [← hh, Bd.state]; rfl
  obtain ⟨s2, v, L', a, b, d, q, fr, w, sm⟩ := body p e s m below meth c ⟨Bd.exec, Bd.bytes, hZ, findClass_of_methodNamed Bd.named, hml0, Bd.returns, Bd.notSynchronized, (name_of_methodNamed Bd.named Bd.method).1⟩ s1 [] (Stand.of_body Bd) e0 (Fr.nil n0)
  exact ⟨s2, _, castTop (hE m) a, b, d, v, L', rfl, ⟨q, fr⟩, ⟨v, rfl⟩, w, sm⟩
theorem step {pc' : Nat} {L' : Array Slot} {st' : List Value}
    (k : ∀ (T : State) (locs : List Loc), Stand p l e R s m args below meth c T locs cells slots → T.heap = h → ∀ t, Steps p.tables e below (T.setTop (mkF m pc' L' st')) t → Steps p.tables e below (T.setTop (mkF m pc L st)) t)
    (g : Go p l e R s m args below meth c n0 Q h cells slots pc' L' st') : Go p l e R s m args below meth c n0 Q h cells slots pc L st := fun T locs X eh N => by
  obtain ⟨s2, v, L', a, b⟩ := g T locs X eh N
  exact ⟨s2, v, L', k T locs X eh _ a, b⟩
def ush (x y : Int32) : Int32 := (x.toUInt32 >>> (y &&& 31).toUInt32).toInt32
def ushL (x : Int64) (y : Int32) : Int64 := (x.toUInt64 >>> (y &&& 0x3f).toInt64.toUInt64).toInt64
def shlL (x : Int64) (y : Int32) : Int64 := x <<< (y &&& 0x3f).toInt64
theorem g_iadd (C : Ctx p l e R s m args below meth c Z own nm bs ml rt) {x y : Int32} (hd : decode bs pc = .ok (.iadd, 1)) (pc' : Nat) (hp : pc' = pc + 1) (g : Go p l e R s m args below meth c n0 Q h cells slots pc' L (.int (x + y) :: st)) : Go p l e R s m args below meth c n0 Q h cells slots pc L (.int y :: .int x :: st) := by
  subst hp
  exact step (fun T locs X _ t k => XS.iadd X.here C.1 rfl (hb C.2.1 hd) rfl k) g
theorem g_isub (C : Ctx p l e R s m args below meth c Z own nm bs ml rt) {x y : Int32} (hd : decode bs pc = .ok (.isub, 1)) (pc' : Nat) (hp : pc' = pc + 1) (g : Go p l e R s m args below meth c n0 Q h cells slots pc' L (.int (x - y) :: st)) : Go p l e R s m args below meth c n0 Q h cells slots pc L (.int y :: .int x :: st) := by
  subst hp
  exact step (fun T locs X _ t k => XS.isub X.here C.1 rfl (hb C.2.1 hd) rfl k) g
theorem g_imul (C : Ctx p l e R s m args below meth c Z own nm bs ml rt) {x y : Int32} (hd : decode bs pc = .ok (.imul, 1)) (pc' : Nat) (hp : pc' = pc + 1) (g : Go p l e R s m args below meth c n0 Q h cells slots pc' L (.int (x * y) :: st)) : Go p l e R s m args below meth c n0 Q h cells slots pc L (.int y :: .int x :: st) := by
  subst hp
  exact step (fun T locs X _ t k => XS.imul X.here C.1 rfl (hb C.2.1 hd) rfl k) g
theorem g_iand (C : Ctx p l e R s m args below meth c Z own nm bs ml rt) {x y : Int32} (hd : decode bs pc = .ok (.iand, 1)) (pc' : Nat) (hp : pc' = pc + 1) (g : Go p l e R s m args below meth c n0 Q h cells slots pc' L (.int (x &&& y) :: st)) : Go p l e R s m args below meth c n0 Q h cells slots pc L (.int y :: .int x :: st) := by
  subst hp
  exact step (fun T locs X _ t k => XS.iand X.here C.1 rfl (hb C.2.1 hd) rfl k) g
theorem g_ior (C : Ctx p l e R s m args below meth c Z own nm bs ml rt) {x y : Int32} (hd : decode bs pc = .ok (.ior, 1)) (pc' : Nat) (hp : pc' = pc + 1) (g : Go p l e R s m args below meth c n0 Q h cells slots pc' L (.int (x ||| y) :: st)) : Go p l e R s m args below meth c n0 Q h cells slots pc L (.int y :: .int x :: st) := by
  subst hp
  exact step (fun T locs X _ t k => XS.ior X.here C.1 rfl (hb C.2.1 hd) rfl k) g
theorem g_ixor (C : Ctx p l e R s m args below meth c Z own nm bs ml rt) {x y : Int32} (hd : decode bs pc = .ok (.ixor, 1)) (pc' : Nat) (hp : pc' = pc + 1) (g : Go p l e R s m args below meth c n0 Q h cells slots pc' L (.int (x ^^^ y) :: st)) : Go p l e R s m args below meth c n0 Q h cells slots pc L (.int y :: .int x :: st) := by
  subst hp
  exact step (fun T locs X _ t k => XS.ixor X.here C.1 rfl (hb C.2.1 hd) rfl k) g
theorem g_ishl (C : Ctx p l e R s m args below meth c Z own nm bs ml rt) {x y : Int32} (hd : decode bs pc = .ok (.ishl, 1)) (pc' : Nat) (hp : pc' = pc + 1) (g : Go p l e R s m args below meth c n0 Q h cells slots pc' L (.int (x <<< (y &&& 31)) :: st)) : Go p l e R s m args below meth c n0 Q h cells slots pc L (.int y :: .int x :: st) := by
  subst hp
  exact step (fun T locs X _ t k => XS.ishl X.here C.1 rfl (hb C.2.1 hd) rfl k) g
theorem g_ishr (C : Ctx p l e R s m args below meth c Z own nm bs ml rt) {x y : Int32} (hd : decode bs pc = .ok (.ishr, 1)) (pc' : Nat) (hp : pc' = pc + 1) (g : Go p l e R s m args below meth c n0 Q h cells slots pc' L (.int (x >>> (y &&& 31)) :: st)) : Go p l e R s m args below meth c n0 Q h cells slots pc L (.int y :: .int x :: st) := by
  subst hp
  exact step (fun T locs X _ t k => XS.ishr X.here C.1 rfl (hb C.2.1 hd) rfl k) g
theorem g_iushr (C : Ctx p l e R s m args below meth c Z own nm bs ml rt) {x y : Int32} (hd : decode bs pc = .ok (.iushr, 1)) (pc' : Nat) (hp : pc' = pc + 1) (g : Go p l e R s m args below meth c n0 Q h cells slots pc' L (.int (ush x y) :: st)) : Go p l e R s m args below meth c n0 Q h cells slots pc L (.int y :: .int x :: st) := by
  subst hp
  exact step (fun T locs X _ t k => XS.iushr X.here C.1 rfl (hb C.2.1 hd) rfl k) g
theorem g_ladd (C : Ctx p l e R s m args below meth c Z own nm bs ml rt) {x y : Int64} (hd : decode bs pc = .ok (.ladd, 1)) (pc' : Nat) (hp : pc' = pc + 1) (g : Go p l e R s m args below meth c n0 Q h cells slots pc' L (.long (x + y) :: st)) : Go p l e R s m args below meth c n0 Q h cells slots pc L (.long y :: .long x :: st) := by
  subst hp
  exact step (fun T locs X _ t k => XS.ladd X.here C.1 rfl (hb C.2.1 hd) rfl k) g
theorem g_lsub (C : Ctx p l e R s m args below meth c Z own nm bs ml rt) {x y : Int64} (hd : decode bs pc = .ok (.lsub, 1)) (pc' : Nat) (hp : pc' = pc + 1) (g : Go p l e R s m args below meth c n0 Q h cells slots pc' L (.long (x - y) :: st)) : Go p l e R s m args below meth c n0 Q h cells slots pc L (.long y :: .long x :: st) := by
  subst hp
  exact step (fun T locs X _ t k => XS.lsub X.here C.1 rfl (hb C.2.1 hd) rfl k) g
theorem g_lmul (C : Ctx p l e R s m args below meth c Z own nm bs ml rt) {x y : Int64} (hd : decode bs pc = .ok (.lmul, 1)) (pc' : Nat) (hp : pc' = pc + 1) (g : Go p l e R s m args below meth c n0 Q h cells slots pc' L (.long (x * y) :: st)) : Go p l e R s m args below meth c n0 Q h cells slots pc L (.long y :: .long x :: st) := by
  subst hp
  exact step (fun T locs X _ t k => XS.lmul X.here C.1 rfl (hb C.2.1 hd) rfl k) g
theorem g_land (C : Ctx p l e R s m args below meth c Z own nm bs ml rt) {x y : Int64} (hd : decode bs pc = .ok (.land, 1)) (pc' : Nat) (hp : pc' = pc + 1) (g : Go p l e R s m args below meth c n0 Q h cells slots pc' L (.long (x &&& y) :: st)) : Go p l e R s m args below meth c n0 Q h cells slots pc L (.long y :: .long x :: st) := by
  subst hp
  exact step (fun T locs X _ t k => XS.land X.here C.1 rfl (hb C.2.1 hd) rfl k) g
theorem g_lor (C : Ctx p l e R s m args below meth c Z own nm bs ml rt) {x y : Int64} (hd : decode bs pc = .ok (.lor, 1)) (pc' : Nat) (hp : pc' = pc + 1) (g : Go p l e R s m args below meth c n0 Q h cells slots pc' L (.long (x ||| y) :: st)) : Go p l e R s m args below meth c n0 Q h cells slots pc L (.long y :: .long x :: st) := by
  subst hp
  exact step (fun T locs X _ t k => XS.lor X.here C.1 rfl (hb C.2.1 hd) rfl k) g
theorem g_lxor (C : Ctx p l e R s m args below meth c Z own nm bs ml rt) {x y : Int64} (hd : decode bs pc = .ok (.lxor, 1)) (pc' : Nat) (hp : pc' = pc + 1) (g : Go p l e R s m args below meth c n0 Q h cells slots pc' L (.long (x ^^^ y) :: st)) : Go p l e R s m args below meth c n0 Q h cells slots pc L (.long y :: .long x :: st) := by
  subst hp
  exact step (fun T locs X _ t k => XS.lxor X.here C.1 rfl (hb C.2.1 hd) rfl k) g
theorem g_lshl (C : Ctx p l e R s m args below meth c Z own nm bs ml rt) {x : Int64} {y : Int32} (hd : decode bs pc = .ok (.lshl, 1)) (pc' : Nat) (hp : pc' = pc + 1) (g : Go p l e R s m args below meth c n0 Q h cells slots pc' L (.long (shlL x y) :: st)) : Go p l e R s m args below meth c n0 Q h cells slots pc L (.int y :: .long x :: st) := by
  subst hp
  exact step (fun T locs X _ t k => XS.lshl X.here C.1 rfl (hb C.2.1 hd) rfl k) g
theorem g_lushr (C : Ctx p l e R s m args below meth c Z own nm bs ml rt) {x : Int64} {y : Int32} (hd : decode bs pc = .ok (.lushr, 1)) (pc' : Nat) (hp : pc' = pc + 1) (g : Go p l e R s m args below meth c n0 Q h cells slots pc' L (.long (ushL x y) :: st)) : Go p l e R s m args below meth c n0 Q h cells slots pc L (.int y :: .long x :: st) := by
  subst hp
  exact step (fun T locs X _ t k => XS.lushr X.here C.1 rfl (hb C.2.1 hd) rfl k) g
theorem g_i2l (C : Ctx p l e R s m args below meth c Z own nm bs ml rt) {x : Int32} (hd : decode bs pc = .ok (.i2l, 1)) (pc' : Nat) (hp : pc' = pc + 1) (g : Go p l e R s m args below meth c n0 Q h cells slots pc' L (.long x.toInt64 :: st)) : Go p l e R s m args below meth c n0 Q h cells slots pc L (.int x :: st) := by
  subst hp
  exact step (fun T locs X _ t k => XS.i2l X.here C.1 rfl (hb C.2.1 hd) rfl k) g
theorem g_i2b (C : Ctx p l e R s m args below meth c Z own nm bs ml rt) {x : Int32} (hd : decode bs pc = .ok (.i2b, 1)) (pc' : Nat) (hp : pc' = pc + 1) (g : Go p l e R s m args below meth c n0 Q h cells slots pc' L (.int x.toInt8.toInt32 :: st)) : Go p l e R s m args below meth c n0 Q h cells slots pc L (.int x :: st) := by
  subst hp
  exact step (fun T locs X _ t k => XS.i2b X.here C.1 rfl (hb C.2.1 hd) rfl k) g
theorem g_i2c (C : Ctx p l e R s m args below meth c Z own nm bs ml rt) {x : Int32} (hd : decode bs pc = .ok (.i2c, 1)) (pc' : Nat) (hp : pc' = pc + 1) (g : Go p l e R s m args below meth c n0 Q h cells slots pc' L (.int x.toUInt32.toUInt16.toUInt32.toInt32 :: st)) : Go p l e R s m args below meth c n0 Q h cells slots pc L (.int x :: st) := by
  subst hp
  exact step (fun T locs X _ t k => XS.i2c X.here C.1 rfl (hb C.2.1 hd) rfl k) g
theorem g_l2i (C : Ctx p l e R s m args below meth c Z own nm bs ml rt) {x : Int64} (hd : decode bs pc = .ok (.l2i, 1)) (pc' : Nat) (hp : pc' = pc + 1) (g : Go p l e R s m args below meth c n0 Q h cells slots pc' L (.int x.toInt32 :: st)) : Go p l e R s m args below meth c n0 Q h cells slots pc L (.long x :: st) := by
  subst hp
  exact step (fun T locs X _ t k => XS.l2i X.here C.1 rfl (hb C.2.1 hd) rfl k) g
theorem g_lneg (C : Ctx p l e R s m args below meth c Z own nm bs ml rt) {x : Int64} (hd : decode bs pc = .ok (.lneg, 1)) (pc' : Nat) (hp : pc' = pc + 1) (g : Go p l e R s m args below meth c n0 Q h cells slots pc' L (.long (-x) :: st)) : Go p l e R s m args below meth c n0 Q h cells slots pc L (.long x :: st) := by
  subst hp
  exact step (fun T locs X _ t k => XS.lneg X.here C.1 rfl (hb C.2.1 hd) rfl k) g
theorem g_irem (C : Ctx p l e R s m args below meth c Z own nm bs ml rt) {x y : Int32} (hd : decode bs pc = .ok (.irem, 1)) (pc' : Nat) (hp : pc' = pc + 1) (hy : y ≠ 0) (g : Go p l e R s m args below meth c n0 Q h cells slots pc' L (.int (x % y) :: st)) : Go p l e R s m args below meth c n0 Q h cells slots pc L (.int y :: .int x :: st) := by
  subst hp
  exact step (fun T locs X _ t k => iremM X C.1 rfl (hb C.2.1 hd) rfl hy k) g
theorem g_iconst (C : Ctx p l e R s m args below meth c Z own nm bs ml rt) {i : Int} (hd : decode bs pc = .ok (.iconst i, 1)) (pc' : Nat) (hp : pc' = pc + 1) (z : Int32) (hz : Int32.ofInt i = z) (g : Go p l e R s m args below meth c n0 Q h cells slots pc' L (.int z :: st)) : Go p l e R s m args below meth c n0 Q h cells slots pc L st := by
  subst hp hz
  exact step (fun T locs X _ t k => XS.iconst X.here C.1 rfl (hb C.2.1 hd) k) g
theorem g_bipush (C : Ctx p l e R s m args below meth c Z own nm bs ml rt) {i : Int} (hd : decode bs pc = .ok (.bipush i, 2)) (pc' : Nat) (hp : pc' = pc + 2) (z : Int32) (hz : (Int8.ofInt i).toInt32 = z) (g : Go p l e R s m args below meth c n0 Q h cells slots pc' L (.int z :: st)) : Go p l e R s m args below meth c n0 Q h cells slots pc L st := by
  subst hp hz
  exact step (fun T locs X _ t k => XS.bipush X.here C.1 rfl (hb C.2.1 hd) k) g
theorem g_sipush (C : Ctx p l e R s m args below meth c Z own nm bs ml rt) {i : Int} (hd : decode bs pc = .ok (.sipush i, 3)) (pc' : Nat) (hp : pc' = pc + 3) (z : Int32) (hz : (Int16.ofInt i).toInt32 = z) (g : Go p l e R s m args below meth c n0 Q h cells slots pc' L (.int z :: st)) : Go p l e R s m args below meth c n0 Q h cells slots pc L st := by
  subst hp hz
  exact step (fun T locs X _ t k => XS.sipush X.here C.1 rfl (hb C.2.1 hd) k) g
theorem g_lconst (C : Ctx p l e R s m args below meth c Z own nm bs ml rt) {i : Fin 2} (hd : decode bs pc = .ok (.lconst i, 1)) (pc' : Nat) (hp : pc' = pc + 1) (z : Int64) (hz : Int64.ofNat i = z) (g : Go p l e R s m args below meth c n0 Q h cells slots pc' L (.long z :: st)) : Go p l e R s m args below meth c n0 Q h cells slots pc L st := by
  subst hp hz
  exact step (fun T locs X _ t k => XS.lconst X.here C.1 rfl (hb C.2.1 hd) k) g
theorem g_aconst_null (C : Ctx p l e R s m args below meth c Z own nm bs ml rt)  (hd : decode bs pc = .ok (.aconst_null, 1)) (pc' : Nat) (hp : pc' = pc + 1) (g : Go p l e R s m args below meth c n0 Q h cells slots pc' L (.null :: st)) : Go p l e R s m args below meth c n0 Q h cells slots pc L st := by
  subst hp
  exact step (fun T locs X _ t k => XS.aconstNull X.here C.1 rfl (hb C.2.1 hd)  k) g
theorem g_ldc (C : Ctx p l e R s m args below meth c Z own nm bs ml rt) {i : Nat} {z : Int32} (w : (Jvm.Cond.constant own i z).before a0 Z = true) (hd : decode bs pc = .ok (.ldc i, 2)) (pc' : Nat) (hp : pc' = pc + 2) (g : Go p l e R s m args below meth c n0 Q h cells slots pc' L (.int z :: st)) : Go p l e R s m args below meth c n0 Q h cells slots pc L st := by
  subst hp
  exact step (fun T locs X _ t k => X.ldcInt C.1 C.2.2.2.1 (mvT C.2.2.1 w) (g := mkF m pc L st) rfl (hb C.2.1 hd) _ k) g
theorem g_ldc2_w (C : Ctx p l e R s m args below meth c Z own nm bs ml rt) {i : Nat} {z : Int64} (w : (Jvm.Cond.constantLong own i z).before a0 Z = true) (hd : decode bs pc = .ok (.ldc2_w i, 3)) (pc' : Nat) (hp : pc' = pc + 3) (g : Go p l e R s m args below meth c n0 Q h cells slots pc' L (.long z :: st)) : Go p l e R s m args below meth c n0 Q h cells slots pc L st := by
  subst hp
  exact step (fun T locs X _ t k => X.ldc2Long C.1 C.2.2.2.1 (mvT C.2.2.1 w) (g := mkF m pc L st) rfl (hb C.2.1 hd) _ k) g
theorem g_iload (C : Ctx p l e R s m args below meth c Z own nm bs ml rt) {k : Nat} {v : Int32} (hd : decode bs pc = .ok (.iload k, 2)) (pc' : Nat) (hp : pc' = pc + 2) (hl : L[k]? = some (.val (.int v))) (g : Go p l e R s m args below meth c n0 Q h cells slots pc' L (.int v :: st)) : Go p l e R s m args below meth c n0 Q h cells slots pc L st := by
  subst hp
  exact step (fun T locs X _ t k => XS.iload X.here C.1 rfl (hb C.2.1 hd) hl k) g
theorem g_iloadN (C : Ctx p l e R s m args below meth c Z own nm bs ml rt) {k : Fin 4} {v : Int32} (hd : decode bs pc = .ok (.iload_n k, 1)) (pc' : Nat) (hp : pc' = pc + 1) (hl : L[k.val]? = some (.val (.int v))) (g : Go p l e R s m args below meth c n0 Q h cells slots pc' L (.int v :: st)) : Go p l e R s m args below meth c n0 Q h cells slots pc L st := by
  subst hp
  exact step (fun T locs X _ t k => XS.iloadN X.here C.1 rfl (hb C.2.1 hd) hl k) g
theorem g_lload (C : Ctx p l e R s m args below meth c Z own nm bs ml rt) {k : Nat} {v : Int64} (hd : decode bs pc = .ok (.lload k, 2)) (pc' : Nat) (hp : pc' = pc + 2) (hl : L[k]? = some (.val (.long v))) (g : Go p l e R s m args below meth c n0 Q h cells slots pc' L (.long v :: st)) : Go p l e R s m args below meth c n0 Q h cells slots pc L st := by
  subst hp
  exact step (fun T locs X _ t k => XS.lload X.here C.1 rfl (hb C.2.1 hd) hl k) g
theorem g_lloadN (C : Ctx p l e R s m args below meth c Z own nm bs ml rt) {k : Fin 4} {v : Int64} (hd : decode bs pc = .ok (.lload_n k, 1)) (pc' : Nat) (hp : pc' = pc + 1) (hl : L[k.val]? = some (.val (.long v))) (g : Go p l e R s m args below meth c n0 Q h cells slots pc' L (.long v :: st)) : Go p l e R s m args below meth c n0 Q h cells slots pc L st := by
  subst hp
  exact step (fun T locs X _ t k => XS.lloadN X.here C.1 rfl (hb C.2.1 hd) hl k) g
theorem g_aload (C : Ctx p l e R s m args below meth c Z own nm bs ml rt) {k : Nat} {v : Value} (hd : decode bs pc = .ok (.aload k, 2)) (pc' : Nat) (hp : pc' = pc + 2) (hl : L[k]? = some (.val (v))) (hv : v.isRef = true) (g : Go p l e R s m args below meth c n0 Q h cells slots pc' L (v :: st)) : Go p l e R s m args below meth c n0 Q h cells slots pc L st := by
  subst hp
  exact step (fun T locs X _ t k => XS.aload X.here C.1 rfl (hb C.2.1 hd) hl hv k) g
theorem g_aloadN (C : Ctx p l e R s m args below meth c Z own nm bs ml rt) {k : Fin 4} {v : Value} (hd : decode bs pc = .ok (.aload_n k, 1)) (pc' : Nat) (hp : pc' = pc + 1) (hl : L[k.val]? = some (.val (v))) (hv : v.isRef = true) (g : Go p l e R s m args below meth c n0 Q h cells slots pc' L (v :: st)) : Go p l e R s m args below meth c n0 Q h cells slots pc L st := by
  subst hp
  exact step (fun T locs X _ t k => XS.aloadN X.here C.1 rfl (hb C.2.1 hd) hl hv k) g
theorem g_istore (C : Ctx p l e R s m args below meth c Z own nm bs ml rt) {k : Nat} {x : Int32} (hd : decode bs pc = .ok (.istore k, 2)) (pc' : Nat) (hp : pc' = pc + 2) (l' : Int32 → Array Slot) (hl : ∀ z, storeLocals L k (.int z) = some (l' z)) (g : ∀ z, z = x → Go p l e R s m args below meth c n0 Q h cells slots pc' (l' z) st) : Go p l e R s m args below meth c n0 Q h cells slots pc L (.int x :: st) := by
  subst hp
  exact step (fun T locs X _ t k => XS.istore X.here C.1 rfl (hb C.2.1 hd) rfl (hl x) k) (g x rfl)
theorem g_istoreN (C : Ctx p l e R s m args below meth c Z own nm bs ml rt) {k : Fin 4} {x : Int32} (hd : decode bs pc = .ok (.istore_n k, 1)) (pc' : Nat) (hp : pc' = pc + 1) (l' : Int32 → Array Slot) (hl : ∀ z, storeLocals L k.val (.int z) = some (l' z)) (g : ∀ z, z = x → Go p l e R s m args below meth c n0 Q h cells slots pc' (l' z) st) : Go p l e R s m args below meth c n0 Q h cells slots pc L (.int x :: st) := by
  subst hp
  exact step (fun T locs X _ t k => XS.istoreN X.here C.1 rfl (hb C.2.1 hd) rfl (hl x) k) (g x rfl)
theorem g_lstore (C : Ctx p l e R s m args below meth c Z own nm bs ml rt) {k : Nat} {x : Int64} (hd : decode bs pc = .ok (.lstore k, 2)) (pc' : Nat) (hp : pc' = pc + 2) (l' : Int64 → Array Slot) (hl : ∀ z, storeLocals L k (.long z) = some (l' z)) (g : ∀ z, z = x → Go p l e R s m args below meth c n0 Q h cells slots pc' (l' z) st) : Go p l e R s m args below meth c n0 Q h cells slots pc L (.long x :: st) := by
  subst hp
  exact step (fun T locs X _ t k => XS.lstore X.here C.1 rfl (hb C.2.1 hd) rfl (hl x) k) (g x rfl)
theorem g_lstoreN (C : Ctx p l e R s m args below meth c Z own nm bs ml rt) {k : Fin 4} {x : Int64} (hd : decode bs pc = .ok (.lstore_n k, 1)) (pc' : Nat) (hp : pc' = pc + 1) (l' : Int64 → Array Slot) (hl : ∀ z, storeLocals L k.val (.long z) = some (l' z)) (g : ∀ z, z = x → Go p l e R s m args below meth c n0 Q h cells slots pc' (l' z) st) : Go p l e R s m args below meth c n0 Q h cells slots pc L (.long x :: st) := by
  subst hp
  exact step (fun T locs X _ t k => XS.lstoreN X.here C.1 rfl (hb C.2.1 hd) rfl (hl x) k) (g x rfl)
theorem g_astore (C : Ctx p l e R s m args below meth c Z own nm bs ml rt) {k : Nat} {x : Value} (hd : decode bs pc = .ok (.astore k, 2)) (pc' : Nat) (hp : pc' = pc + 2) (l' : Array Slot) (hl : storeLocals L k x = some l') (hv : x.isRef = true) (g : Go p l e R s m args below meth c n0 Q h cells slots pc' l' st) : Go p l e R s m args below meth c n0 Q h cells slots pc L (x :: st) := by
  subst hp
  exact step (fun T locs X _ t k => XS.astore X.here C.1 rfl (hb C.2.1 hd) rfl hv hl k) g
theorem g_astoreN (C : Ctx p l e R s m args below meth c Z own nm bs ml rt) {k : Fin 4} {x : Value} (hd : decode bs pc = .ok (.astore_n k, 1)) (pc' : Nat) (hp : pc' = pc + 1) (l' : Array Slot) (hl : storeLocals L k.val x = some l') (hv : x.isRef = true) (g : Go p l e R s m args below meth c n0 Q h cells slots pc' l' st) : Go p l e R s m args below meth c n0 Q h cells slots pc L (x :: st) := by
  subst hp
  exact step (fun T locs X _ t k => XS.astoreN X.here C.1 rfl (hb C.2.1 hd) rfl hv hl k) g
theorem g_iinc (C : Ctx p l e R s m args below meth c Z own nm bs ml rt) {k : Nat} {i : Int} {x : Int32} (hd : decode bs pc = .ok (.iinc k i, 3)) (pc' : Nat) (hp : pc' = pc + 3) (hl0 : L[k]? = some (.val (.int x))) (d : Int32) (hz : Int32.ofInt i = d) (l' : Int32 → Array Slot) (hl : ∀ z, storeLocals L k (.int z) = some (l' z)) (g : ∀ z, z = x + d → Go p l e R s m args below meth c n0 Q h cells slots pc' (l' z) st) : Go p l e R s m args below meth c n0 Q h cells slots pc L st := by
  subst hp hz
  exact step (fun T locs X _ t k => XS.iinc X.here C.1 rfl (hb C.2.1 hd) hl0 (hl _) k) (g _ rfl)
theorem g_dup (C : Ctx p l e R s m args below meth c Z own nm bs ml rt) {x : Value} (hd : decode bs pc = .ok (.dup, 1)) (pc' : Nat) (hp : pc' = pc + 1) (hc : x.category = 1) (g : Go p l e R s m args below meth c n0 Q h cells slots pc' L (x :: x :: st)) : Go p l e R s m args below meth c n0 Q h cells slots pc L (x :: st) := by
  subst hp
  exact step (fun T locs X _ t k => XS.dup X.here C.1 rfl (hb C.2.1 hd) rfl hc k) g
theorem g_pop (C : Ctx p l e R s m args below meth c Z own nm bs ml rt) {x : Value} (hd : decode bs pc = .ok (.pop, 1)) (pc' : Nat) (hp : pc' = pc + 1) (hc : x.category = 1) (g : Go p l e R s m args below meth c n0 Q h cells slots pc' L st) : Go p l e R s m args below meth c n0 Q h cells slots pc L (x :: st) := by
  subst hp
  exact step (fun T locs X _ t k => XS.pop X.here C.1 rfl (hb C.2.1 hd) rfl hc k) g
theorem g_dup2 (C : Ctx p l e R s m args below meth c Z own nm bs ml rt) {x y : Value} (hd : decode bs pc = .ok (.dup2, 1)) (pc' : Nat) (hp : pc' = pc + 1) (hc : x.category = 1) (hc2 : y.category = 1) (g : Go p l e R s m args below meth c n0 Q h cells slots pc' L (x :: y :: x :: y :: st)) : Go p l e R s m args below meth c n0 Q h cells slots pc L (x :: y :: st) := by
  subst hp
  exact step (fun T locs X _ t k => XT.dup2 X.here C.1 rfl (hb C.2.1 hd) rfl hc hc2 k) g
theorem g_goto (C : Ctx p l e R s m args below meth c Z own nm bs ml rt) {o : Int} (hd : decode bs pc = .ok (.goto o, 3)) (pc' : Nat) (hp : 0 ≤ (pc : Int) + o ∧ ((pc : Int) + o).toNat = pc') (g : Go p l e R s m args below meth c n0 Q h cells slots pc' L st) : Go p l e R s m args below meth c n0 Q h cells slots pc L st :=
  step (fun T locs X _ t k => XS.goto X.here C.1 rfl (pc0 := pc) (pc' := pc') rfl (hb C.2.1 hd) hp.1 hp.2 k) g
theorem g_if_icmpeq (C : Ctx p l e R s m args below meth c Z own nm bs ml rt) {x y : Int32} {o : Int} (hd : decode bs pc = .ok (.if_icmp .eq o, 3)) (pc1 : Nat) (h1 : 0 ≤ ((pc : Nat) : Int) + o ∧ (((pc : Nat) : Int) + o).toNat = pc1) (pc2 : Nat) (h2 : pc2 = pc + 3) (g1 : (x = y) → Go p l e R s m args below meth c n0 Q h cells slots pc1 L st) (g2 : (¬ x = y) → Go p l e R s m args below meth c n0 Q h cells slots pc2 L st) : Go p l e R s m args below meth c n0 Q h cells slots pc L (.int y :: .int x :: st) := by
  subst h2
  by_cases q : x = y
  · exact step (fun T locs X _ t k => XS.icmpYes X.here C.1 rfl (pc0 := pc) (pc' := pc1) rfl (hb C.2.1 hd) rfl (teq q).1 h1.1 h1.2 k) (g1 q)
  · exact step (fun T locs X _ t k => XS.icmpNo X.here C.1 rfl (hb C.2.1 hd) rfl (feq q).1 k) (g2 q)
theorem g_ifeq (C : Ctx p l e R s m args below meth c Z own nm bs ml rt) {x : Int32} {o : Int} (hd : decode bs pc = .ok (.ifCond .eq o, 3)) (pc1 : Nat) (h1 : 0 ≤ ((pc : Nat) : Int) + o ∧ (((pc : Nat) : Int) + o).toNat = pc1) (pc2 : Nat) (h2 : pc2 = pc + 3) (g1 : (x = (0 : Int32)) → Go p l e R s m args below meth c n0 Q h cells slots pc1 L st) (g2 : (¬ x = (0 : Int32)) → Go p l e R s m args below meth c n0 Q h cells slots pc2 L st) : Go p l e R s m args below meth c n0 Q h cells slots pc L (.int x :: st) := by
  subst h2
  by_cases q : x = (0 : Int32)
  · exact step (fun T locs X _ t k => XS.ifYes X.here C.1 rfl (pc0 := pc) (pc' := pc1) rfl (hb C.2.1 hd) rfl ((if0 _ _).trans (teq q).1) h1.1 h1.2 k) (g1 q)
  · exact step (fun T locs X _ t k => XS.ifNo X.here C.1 rfl (hb C.2.1 hd) rfl ((if0 _ _).trans (feq q).1) k) (g2 q)
theorem g_lcmpeq (C : Ctx p l e R s m args below meth c Z own nm bs ml rt) {x y : Int64} {o : Int} (hd0 : decode bs pc = .ok (.lcmp, 1)) (pcm : Nat) (hm : pcm = pc + 1) (hd : decode bs pcm = .ok (.ifCond .eq o, 3)) (pc1 : Nat) (h1 : 0 ≤ ((pcm : Nat) : Int) + o ∧ (((pcm : Nat) : Int) + o).toNat = pc1) (pc2 : Nat) (h2 : pc2 = pcm + 3) (g1 : (x = y) → Go p l e R s m args below meth c n0 Q h cells slots pc1 L st) (g2 : (¬ x = y) → Go p l e R s m args below meth c n0 Q h cells slots pc2 L st) : Go p l e R s m args below meth c n0 Q h cells slots pc L (.long y :: .long x :: st) := by
  subst hm
  have hw : ∀ (T : State) (locs : List Loc), Stand p l e R s m args below meth c T locs cells slots → ∀ t, Steps p.tables e below (T.setTop (mkF m (pc + 1) L (.int (lcmpW x y) :: st))) t → Steps p.tables e below (T.setTop (mkF m pc L (.long y :: .long x :: st))) t := fun T locs X t k => XS.lcmp X.here C.1 rfl (hb C.2.1 hd0) rfl k
  subst h2
  by_cases q : x = y
  · exact step (fun T locs X _ t k => hw T locs X t (XS.ifYes X.here C.1 rfl (pc0 := pc + 1) (pc' := pc1) rfl (hb C.2.1 hd) rfl ((if0 _ _).trans (teq ((lw_eq x y).mpr q)).1) h1.1 h1.2 k)) (g1 q)
  · exact step (fun T locs X _ t k => hw T locs X t (XS.ifNo X.here C.1 rfl (hb C.2.1 hd) rfl ((if0 _ _).trans (feq (fun z => q ((lw_eq x y).mp z))).1) k)) (g2 q)
theorem g_if_icmpne (C : Ctx p l e R s m args below meth c Z own nm bs ml rt) {x y : Int32} {o : Int} (hd : decode bs pc = .ok (.if_icmp .ne o, 3)) (pc1 : Nat) (h1 : 0 ≤ ((pc : Nat) : Int) + o ∧ (((pc : Nat) : Int) + o).toNat = pc1) (pc2 : Nat) (h2 : pc2 = pc + 3) (g1 : (¬ x = y) → Go p l e R s m args below meth c n0 Q h cells slots pc1 L st) (g2 : (x = y) → Go p l e R s m args below meth c n0 Q h cells slots pc2 L st) : Go p l e R s m args below meth c n0 Q h cells slots pc L (.int y :: .int x :: st) := by
  subst h2
  by_cases q : x = y
  · exact step (fun T locs X _ t k => XS.icmpNo X.here C.1 rfl (hb C.2.1 hd) rfl (teq q).2 k) (g2 q)
  · exact step (fun T locs X _ t k => XS.icmpYes X.here C.1 rfl (pc0 := pc) (pc' := pc1) rfl (hb C.2.1 hd) rfl (feq q).2 h1.1 h1.2 k) (g1 q)
theorem g_ifne (C : Ctx p l e R s m args below meth c Z own nm bs ml rt) {x : Int32} {o : Int} (hd : decode bs pc = .ok (.ifCond .ne o, 3)) (pc1 : Nat) (h1 : 0 ≤ ((pc : Nat) : Int) + o ∧ (((pc : Nat) : Int) + o).toNat = pc1) (pc2 : Nat) (h2 : pc2 = pc + 3) (g1 : (¬ x = (0 : Int32)) → Go p l e R s m args below meth c n0 Q h cells slots pc1 L st) (g2 : (x = (0 : Int32)) → Go p l e R s m args below meth c n0 Q h cells slots pc2 L st) : Go p l e R s m args below meth c n0 Q h cells slots pc L (.int x :: st) := by
  subst h2
  by_cases q : x = (0 : Int32)
  · exact step (fun T locs X _ t k => XS.ifNo X.here C.1 rfl (hb C.2.1 hd) rfl ((if0 _ _).trans (teq q).2) k) (g2 q)
  · exact step (fun T locs X _ t k => XS.ifYes X.here C.1 rfl (pc0 := pc) (pc' := pc1) rfl (hb C.2.1 hd) rfl ((if0 _ _).trans (feq q).2) h1.1 h1.2 k) (g1 q)
theorem g_lcmpne (C : Ctx p l e R s m args below meth c Z own nm bs ml rt) {x y : Int64} {o : Int} (hd0 : decode bs pc = .ok (.lcmp, 1)) (pcm : Nat) (hm : pcm = pc + 1) (hd : decode bs pcm = .ok (.ifCond .ne o, 3)) (pc1 : Nat) (h1 : 0 ≤ ((pcm : Nat) : Int) + o ∧ (((pcm : Nat) : Int) + o).toNat = pc1) (pc2 : Nat) (h2 : pc2 = pcm + 3) (g1 : (¬ x = y) → Go p l e R s m args below meth c n0 Q h cells slots pc1 L st) (g2 : (x = y) → Go p l e R s m args below meth c n0 Q h cells slots pc2 L st) : Go p l e R s m args below meth c n0 Q h cells slots pc L (.long y :: .long x :: st) := by
  subst hm
  have hw : ∀ (T : State) (locs : List Loc), Stand p l e R s m args below meth c T locs cells slots → ∀ t, Steps p.tables e below (T.setTop (mkF m (pc + 1) L (.int (lcmpW x y) :: st))) t → Steps p.tables e below (T.setTop (mkF m pc L (.long y :: .long x :: st))) t := fun T locs X t k => XS.lcmp X.here C.1 rfl (hb C.2.1 hd0) rfl k
  subst h2
  by_cases q : x = y
  · exact step (fun T locs X _ t k => hw T locs X t (XS.ifNo X.here C.1 rfl (hb C.2.1 hd) rfl ((if0 _ _).trans (teq ((lw_eq x y).mpr q)).2) k)) (g2 q)
  · exact step (fun T locs X _ t k => hw T locs X t (XS.ifYes X.here C.1 rfl (pc0 := pc + 1) (pc' := pc1) rfl (hb C.2.1 hd) rfl ((if0 _ _).trans (feq (fun z => q ((lw_eq x y).mp z))).2) h1.1 h1.2 k)) (g1 q)
theorem g_if_icmplt (C : Ctx p l e R s m args below meth c Z own nm bs ml rt) {x y : Int32} {o : Int} (hd : decode bs pc = .ok (.if_icmp .lt o, 3)) (pc1 : Nat) (h1 : 0 ≤ ((pc : Nat) : Int) + o ∧ (((pc : Nat) : Int) + o).toNat = pc1) (pc2 : Nat) (h2 : pc2 = pc + 3) (g1 : (x < y) → Go p l e R s m args below meth c n0 Q h cells slots pc1 L st) (g2 : (¬ x < y) → Go p l e R s m args below meth c n0 Q h cells slots pc2 L st) : Go p l e R s m args below meth c n0 Q h cells slots pc L (.int y :: .int x :: st) := by
  subst h2
  by_cases q : x < y
  · exact step (fun T locs X _ t k => XS.icmpYes X.here C.1 rfl (pc0 := pc) (pc' := pc1) rfl (hb C.2.1 hd) rfl (tlt q).1 h1.1 h1.2 k) (g1 q)
  · exact step (fun T locs X _ t k => XS.icmpNo X.here C.1 rfl (hb C.2.1 hd) rfl (flt q).1 k) (g2 q)
theorem g_iflt (C : Ctx p l e R s m args below meth c Z own nm bs ml rt) {x : Int32} {o : Int} (hd : decode bs pc = .ok (.ifCond .lt o, 3)) (pc1 : Nat) (h1 : 0 ≤ ((pc : Nat) : Int) + o ∧ (((pc : Nat) : Int) + o).toNat = pc1) (pc2 : Nat) (h2 : pc2 = pc + 3) (g1 : (x < (0 : Int32)) → Go p l e R s m args below meth c n0 Q h cells slots pc1 L st) (g2 : (¬ x < (0 : Int32)) → Go p l e R s m args below meth c n0 Q h cells slots pc2 L st) : Go p l e R s m args below meth c n0 Q h cells slots pc L (.int x :: st) := by
  subst h2
  by_cases q : x < (0 : Int32)
  · exact step (fun T locs X _ t k => XS.ifYes X.here C.1 rfl (pc0 := pc) (pc' := pc1) rfl (hb C.2.1 hd) rfl ((if0 _ _).trans (tlt q).1) h1.1 h1.2 k) (g1 q)
  · exact step (fun T locs X _ t k => XS.ifNo X.here C.1 rfl (hb C.2.1 hd) rfl ((if0 _ _).trans (flt q).1) k) (g2 q)
theorem g_lcmplt (C : Ctx p l e R s m args below meth c Z own nm bs ml rt) {x y : Int64} {o : Int} (hd0 : decode bs pc = .ok (.lcmp, 1)) (pcm : Nat) (hm : pcm = pc + 1) (hd : decode bs pcm = .ok (.ifCond .lt o, 3)) (pc1 : Nat) (h1 : 0 ≤ ((pcm : Nat) : Int) + o ∧ (((pcm : Nat) : Int) + o).toNat = pc1) (pc2 : Nat) (h2 : pc2 = pcm + 3) (g1 : (x < y) → Go p l e R s m args below meth c n0 Q h cells slots pc1 L st) (g2 : (¬ x < y) → Go p l e R s m args below meth c n0 Q h cells slots pc2 L st) : Go p l e R s m args below meth c n0 Q h cells slots pc L (.long y :: .long x :: st) := by
  subst hm
  have hw : ∀ (T : State) (locs : List Loc), Stand p l e R s m args below meth c T locs cells slots → ∀ t, Steps p.tables e below (T.setTop (mkF m (pc + 1) L (.int (lcmpW x y) :: st))) t → Steps p.tables e below (T.setTop (mkF m pc L (.long y :: .long x :: st))) t := fun T locs X t k => XS.lcmp X.here C.1 rfl (hb C.2.1 hd0) rfl k
  subst h2
  by_cases q : x < y
  · exact step (fun T locs X _ t k => hw T locs X t (XS.ifYes X.here C.1 rfl (pc0 := pc + 1) (pc' := pc1) rfl (hb C.2.1 hd) rfl ((if0 _ _).trans (tlt ((lw_lt x y).mpr q)).1) h1.1 h1.2 k)) (g1 q)
  · exact step (fun T locs X _ t k => hw T locs X t (XS.ifNo X.here C.1 rfl (hb C.2.1 hd) rfl ((if0 _ _).trans (flt (fun z => q ((lw_lt x y).mp z))).1) k)) (g2 q)
theorem g_if_icmpge (C : Ctx p l e R s m args below meth c Z own nm bs ml rt) {x y : Int32} {o : Int} (hd : decode bs pc = .ok (.if_icmp .ge o, 3)) (pc1 : Nat) (h1 : 0 ≤ ((pc : Nat) : Int) + o ∧ (((pc : Nat) : Int) + o).toNat = pc1) (pc2 : Nat) (h2 : pc2 = pc + 3) (g1 : (¬ x < y) → Go p l e R s m args below meth c n0 Q h cells slots pc1 L st) (g2 : (x < y) → Go p l e R s m args below meth c n0 Q h cells slots pc2 L st) : Go p l e R s m args below meth c n0 Q h cells slots pc L (.int y :: .int x :: st) := by
  subst h2
  by_cases q : x < y
  · exact step (fun T locs X _ t k => XS.icmpNo X.here C.1 rfl (hb C.2.1 hd) rfl (tlt q).2.1 k) (g2 q)
  · exact step (fun T locs X _ t k => XS.icmpYes X.here C.1 rfl (pc0 := pc) (pc' := pc1) rfl (hb C.2.1 hd) rfl (flt q).2.1 h1.1 h1.2 k) (g1 q)
theorem g_ifge (C : Ctx p l e R s m args below meth c Z own nm bs ml rt) {x : Int32} {o : Int} (hd : decode bs pc = .ok (.ifCond .ge o, 3)) (pc1 : Nat) (h1 : 0 ≤ ((pc : Nat) : Int) + o ∧ (((pc : Nat) : Int) + o).toNat = pc1) (pc2 : Nat) (h2 : pc2 = pc + 3) (g1 : (¬ x < (0 : Int32)) → Go p l e R s m args below meth c n0 Q h cells slots pc1 L st) (g2 : (x < (0 : Int32)) → Go p l e R s m args below meth c n0 Q h cells slots pc2 L st) : Go p l e R s m args below meth c n0 Q h cells slots pc L (.int x :: st) := by
  subst h2
  by_cases q : x < (0 : Int32)
  · exact step (fun T locs X _ t k => XS.ifNo X.here C.1 rfl (hb C.2.1 hd) rfl ((if0 _ _).trans (tlt q).2.1) k) (g2 q)
  · exact step (fun T locs X _ t k => XS.ifYes X.here C.1 rfl (pc0 := pc) (pc' := pc1) rfl (hb C.2.1 hd) rfl ((if0 _ _).trans (flt q).2.1) h1.1 h1.2 k) (g1 q)
theorem g_lcmpge (C : Ctx p l e R s m args below meth c Z own nm bs ml rt) {x y : Int64} {o : Int} (hd0 : decode bs pc = .ok (.lcmp, 1)) (pcm : Nat) (hm : pcm = pc + 1) (hd : decode bs pcm = .ok (.ifCond .ge o, 3)) (pc1 : Nat) (h1 : 0 ≤ ((pcm : Nat) : Int) + o ∧ (((pcm : Nat) : Int) + o).toNat = pc1) (pc2 : Nat) (h2 : pc2 = pcm + 3) (g1 : (¬ x < y) → Go p l e R s m args below meth c n0 Q h cells slots pc1 L st) (g2 : (x < y) → Go p l e R s m args below meth c n0 Q h cells slots pc2 L st) : Go p l e R s m args below meth c n0 Q h cells slots pc L (.long y :: .long x :: st) := by
  subst hm
  have hw : ∀ (T : State) (locs : List Loc), Stand p l e R s m args below meth c T locs cells slots → ∀ t, Steps p.tables e below (T.setTop (mkF m (pc + 1) L (.int (lcmpW x y) :: st))) t → Steps p.tables e below (T.setTop (mkF m pc L (.long y :: .long x :: st))) t := fun T locs X t k => XS.lcmp X.here C.1 rfl (hb C.2.1 hd0) rfl k
  subst h2
  by_cases q : x < y
  · exact step (fun T locs X _ t k => hw T locs X t (XS.ifNo X.here C.1 rfl (hb C.2.1 hd) rfl ((if0 _ _).trans (tlt ((lw_lt x y).mpr q)).2.1) k)) (g2 q)
  · exact step (fun T locs X _ t k => hw T locs X t (XS.ifYes X.here C.1 rfl (pc0 := pc + 1) (pc' := pc1) rfl (hb C.2.1 hd) rfl ((if0 _ _).trans (flt (fun z => q ((lw_lt x y).mp z))).2.1) h1.1 h1.2 k)) (g1 q)
theorem g_if_icmpgt (C : Ctx p l e R s m args below meth c Z own nm bs ml rt) {x y : Int32} {o : Int} (hd : decode bs pc = .ok (.if_icmp .gt o, 3)) (pc1 : Nat) (h1 : 0 ≤ ((pc : Nat) : Int) + o ∧ (((pc : Nat) : Int) + o).toNat = pc1) (pc2 : Nat) (h2 : pc2 = pc + 3) (g1 : (y < x) → Go p l e R s m args below meth c n0 Q h cells slots pc1 L st) (g2 : (¬ y < x) → Go p l e R s m args below meth c n0 Q h cells slots pc2 L st) : Go p l e R s m args below meth c n0 Q h cells slots pc L (.int y :: .int x :: st) := by
  subst h2
  by_cases q : y < x
  · exact step (fun T locs X _ t k => XS.icmpYes X.here C.1 rfl (pc0 := pc) (pc' := pc1) rfl (hb C.2.1 hd) rfl (tlt q).2.2.1 h1.1 h1.2 k) (g1 q)
  · exact step (fun T locs X _ t k => XS.icmpNo X.here C.1 rfl (hb C.2.1 hd) rfl (flt q).2.2.1 k) (g2 q)
theorem g_ifgt (C : Ctx p l e R s m args below meth c Z own nm bs ml rt) {x : Int32} {o : Int} (hd : decode bs pc = .ok (.ifCond .gt o, 3)) (pc1 : Nat) (h1 : 0 ≤ ((pc : Nat) : Int) + o ∧ (((pc : Nat) : Int) + o).toNat = pc1) (pc2 : Nat) (h2 : pc2 = pc + 3) (g1 : ((0 : Int32) < x) → Go p l e R s m args below meth c n0 Q h cells slots pc1 L st) (g2 : (¬ (0 : Int32) < x) → Go p l e R s m args below meth c n0 Q h cells slots pc2 L st) : Go p l e R s m args below meth c n0 Q h cells slots pc L (.int x :: st) := by
  subst h2
  by_cases q : (0 : Int32) < x
  · exact step (fun T locs X _ t k => XS.ifYes X.here C.1 rfl (pc0 := pc) (pc' := pc1) rfl (hb C.2.1 hd) rfl ((if0 _ _).trans (tlt q).2.2.1) h1.1 h1.2 k) (g1 q)
  · exact step (fun T locs X _ t k => XS.ifNo X.here C.1 rfl (hb C.2.1 hd) rfl ((if0 _ _).trans (flt q).2.2.1) k) (g2 q)
theorem g_lcmpgt (C : Ctx p l e R s m args below meth c Z own nm bs ml rt) {x y : Int64} {o : Int} (hd0 : decode bs pc = .ok (.lcmp, 1)) (pcm : Nat) (hm : pcm = pc + 1) (hd : decode bs pcm = .ok (.ifCond .gt o, 3)) (pc1 : Nat) (h1 : 0 ≤ ((pcm : Nat) : Int) + o ∧ (((pcm : Nat) : Int) + o).toNat = pc1) (pc2 : Nat) (h2 : pc2 = pcm + 3) (g1 : (y < x) → Go p l e R s m args below meth c n0 Q h cells slots pc1 L st) (g2 : (¬ y < x) → Go p l e R s m args below meth c n0 Q h cells slots pc2 L st) : Go p l e R s m args below meth c n0 Q h cells slots pc L (.long y :: .long x :: st) := by
  subst hm
  have hw : ∀ (T : State) (locs : List Loc), Stand p l e R s m args below meth c T locs cells slots → ∀ t, Steps p.tables e below (T.setTop (mkF m (pc + 1) L (.int (lcmpW x y) :: st))) t → Steps p.tables e below (T.setTop (mkF m pc L (.long y :: .long x :: st))) t := fun T locs X t k => XS.lcmp X.here C.1 rfl (hb C.2.1 hd0) rfl k
  subst h2
  by_cases q : y < x
  · exact step (fun T locs X _ t k => hw T locs X t (XS.ifYes X.here C.1 rfl (pc0 := pc + 1) (pc' := pc1) rfl (hb C.2.1 hd) rfl ((if0 _ _).trans (tlt ((lw_gt x y).mpr q)).2.2.1) h1.1 h1.2 k)) (g1 q)
  · exact step (fun T locs X _ t k => hw T locs X t (XS.ifNo X.here C.1 rfl (hb C.2.1 hd) rfl ((if0 _ _).trans (flt (fun z => q ((lw_gt x y).mp z))).2.2.1) k)) (g2 q)
theorem g_if_icmple (C : Ctx p l e R s m args below meth c Z own nm bs ml rt) {x y : Int32} {o : Int} (hd : decode bs pc = .ok (.if_icmp .le o, 3)) (pc1 : Nat) (h1 : 0 ≤ ((pc : Nat) : Int) + o ∧ (((pc : Nat) : Int) + o).toNat = pc1) (pc2 : Nat) (h2 : pc2 = pc + 3) (g1 : (¬ y < x) → Go p l e R s m args below meth c n0 Q h cells slots pc1 L st) (g2 : (y < x) → Go p l e R s m args below meth c n0 Q h cells slots pc2 L st) : Go p l e R s m args below meth c n0 Q h cells slots pc L (.int y :: .int x :: st) := by
  subst h2
  by_cases q : y < x
  · exact step (fun T locs X _ t k => XS.icmpNo X.here C.1 rfl (hb C.2.1 hd) rfl (tlt q).2.2.2 k) (g2 q)
  · exact step (fun T locs X _ t k => XS.icmpYes X.here C.1 rfl (pc0 := pc) (pc' := pc1) rfl (hb C.2.1 hd) rfl (flt q).2.2.2 h1.1 h1.2 k) (g1 q)
theorem g_ifle (C : Ctx p l e R s m args below meth c Z own nm bs ml rt) {x : Int32} {o : Int} (hd : decode bs pc = .ok (.ifCond .le o, 3)) (pc1 : Nat) (h1 : 0 ≤ ((pc : Nat) : Int) + o ∧ (((pc : Nat) : Int) + o).toNat = pc1) (pc2 : Nat) (h2 : pc2 = pc + 3) (g1 : (¬ (0 : Int32) < x) → Go p l e R s m args below meth c n0 Q h cells slots pc1 L st) (g2 : ((0 : Int32) < x) → Go p l e R s m args below meth c n0 Q h cells slots pc2 L st) : Go p l e R s m args below meth c n0 Q h cells slots pc L (.int x :: st) := by
  subst h2
  by_cases q : (0 : Int32) < x
  · exact step (fun T locs X _ t k => XS.ifNo X.here C.1 rfl (hb C.2.1 hd) rfl ((if0 _ _).trans (tlt q).2.2.2) k) (g2 q)
  · exact step (fun T locs X _ t k => XS.ifYes X.here C.1 rfl (pc0 := pc) (pc' := pc1) rfl (hb C.2.1 hd) rfl ((if0 _ _).trans (flt q).2.2.2) h1.1 h1.2 k) (g1 q)
theorem g_lcmple (C : Ctx p l e R s m args below meth c Z own nm bs ml rt) {x y : Int64} {o : Int} (hd0 : decode bs pc = .ok (.lcmp, 1)) (pcm : Nat) (hm : pcm = pc + 1) (hd : decode bs pcm = .ok (.ifCond .le o, 3)) (pc1 : Nat) (h1 : 0 ≤ ((pcm : Nat) : Int) + o ∧ (((pcm : Nat) : Int) + o).toNat = pc1) (pc2 : Nat) (h2 : pc2 = pcm + 3) (g1 : (¬ y < x) → Go p l e R s m args below meth c n0 Q h cells slots pc1 L st) (g2 : (y < x) → Go p l e R s m args below meth c n0 Q h cells slots pc2 L st) : Go p l e R s m args below meth c n0 Q h cells slots pc L (.long y :: .long x :: st) := by
  subst hm
  have hw : ∀ (T : State) (locs : List Loc), Stand p l e R s m args below meth c T locs cells slots → ∀ t, Steps p.tables e below (T.setTop (mkF m (pc + 1) L (.int (lcmpW x y) :: st))) t → Steps p.tables e below (T.setTop (mkF m pc L (.long y :: .long x :: st))) t := fun T locs X t k => XS.lcmp X.here C.1 rfl (hb C.2.1 hd0) rfl k
  subst h2
  by_cases q : y < x
  · exact step (fun T locs X _ t k => hw T locs X t (XS.ifNo X.here C.1 rfl (hb C.2.1 hd) rfl ((if0 _ _).trans (tlt ((lw_gt x y).mpr q)).2.2.2) k)) (g2 q)
  · exact step (fun T locs X _ t k => hw T locs X t (XS.ifYes X.here C.1 rfl (pc0 := pc + 1) (pc' := pc1) rfl (hb C.2.1 hd) rfl ((if0 _ _).trans (flt (fun z => q ((lw_gt x y).mp z))).2.2.2) h1.1 h1.2 k)) (g1 q)
theorem fin {v : Option Value} (C : Ctx p l e R s m args below meth c Z own nm bs ml rt) (hc : cells ≤ R.cells) (hs : slots ≤ R.slots) (hv : rt = none → v = none) (k : ∀ (T : State) (locs : List Loc), Stand p l e R s m args below meth c T locs cells slots → ∀ fs, (∀ (f : JFrame) (acts : List Action), f.method = m → f.locked = none → f.entered = [] → (doReturn e (T.setTop f) acts v).1 = T.setFrames fs) → Steps p.tables e below (T.setTop (mkF m pc L st)) (T.setFrames fs)) (q : Q v h) : Go p l e R s m args below meth c n0 Q h cells slots pc L st := fun T locs X eh N => by
  obtain ⟨fs, hr, hrun, hended, hW, hsame⟩ := X.leave (v := v) (fun h => hv (C.2.2.2.2.2.1.symm.trans h)) C.2.2.2.2.2.2.1
  refine ⟨_, v, locs, k T locs X fs hr, hrun, hended, ?_, N, hW, hsame.mono hc hs⟩
  show Q v T.heap
  rw [eh]; exact q
theorem r_int {P : Int32 → Heap → Prop} {z : Int32} (C : Ctx p l e R s m args below meth c Z own nm bs ml (some .int)) (hd : decode bs pc = .ok (.ireturn, 1)) (hc : cells ≤ R.cells) (hs : slots ≤ R.slots) (q : P z h) : Go p l e R s m args below meth c n0 (qI P) h cells slots pc L (.int z :: st) :=
  fin C hc hs (fun h => by cases h) (fun T locs X fs hr => retI X C.1 C.2.2.2.2.2.1 (hb C.2.1 hd) hr) ⟨z, rfl, q⟩
theorem r_nar {P : Int32 → Heap → Prop} {z : Int32} {t : FieldType} (C : Ctx p l e R s m args below meth c Z own nm bs ml (some t)) (ht : t = .boolean ∨ t = .byte ∨ t = .char ∨ t = .short) (hd : decode bs pc = .ok (.ireturn, 1)) (hc : cells ≤ R.cells) (hs : slots ≤ R.slots) (q : P (nar t z) h) : Go p l e R s m args below meth c n0 (qI P) h cells slots pc L (.int z :: st) :=
  fin C hc hs (fun h => by cases h) (fun T locs X fs hr => retN X C.1 C.2.2.2.2.2.1 ht (hb C.2.1 hd) hr) ⟨_, rfl, q⟩
theorem r_long {P : Int64 → Heap → Prop} {z : Int64} (C : Ctx p l e R s m args below meth c Z own nm bs ml (some .long)) (hd : decode bs pc = .ok (.lreturn, 1)) (hc : cells ≤ R.cells) (hs : slots ≤ R.slots) (q : P z h) : Go p l e R s m args below meth c n0 (qJ P) h cells slots pc L (.long z :: st) :=
  fin C hc hs (fun h => by cases h) (fun T locs X fs hr => retOut X C.1 C.2.2.2.2.2.1 rfl (Or.inr (Or.inl ⟨rfl, rfl, z, rfl⟩)) (hb C.2.1 hd) hr) ⟨z, rfl, q⟩
theorem r_ref {P : Addr → Heap → Prop} {z : Addr} {t : FieldType} (C : Ctx p l e R s m args below meth c Z own nm bs ml (some t)) (ht : t.isReference = true) (hn : narrow t (.ref z) = .ref z) (hd : decode bs pc = .ok (.areturn, 1)) (hc : cells ≤ R.cells) (hs : slots ≤ R.slots) (q : P z h) : Go p l e R s m args below meth c n0 (qA P) h cells slots pc L (.ref z :: st) :=
  fin C hc hs (fun h => by cases h) (fun T locs X fs hr => retOut X C.1 C.2.2.2.2.2.1 hn (Or.inr (Or.inr (Or.inr (Or.inr ⟨rfl, ht, rfl⟩)))) (hb C.2.1 hd) hr) ⟨z, rfl, q⟩
theorem r_void {P : Heap → Prop} (C : Ctx p l e R s m args below meth c Z own nm bs ml none) (hd : decode bs pc = .ok (.return_, 1)) (hc : cells ≤ R.cells) (hs : slots ≤ R.slots) (q : P h) : Go p l e R s m args below meth c n0 (qV P) h cells slots pc L [] :=
  fin C hc hs (fun _ => rfl) (fun T locs X fs hr => X.returnOut C.1 C.2.2.2.2.2.1 (hb C.2.1 hd) hr) ⟨rfl, q⟩
theorem g_getfield (C : Ctx p l e R s m args below meth c Z own nm bs ml rt) {O n d host : String} {i : Nat} {a : Addr} {v : Value} (w : (Jvm.Cond.fieldLink own i O n d).before a0 Z = true) (F : Fld Z h a O n d v) (hd : decode bs pc = .ok (.getfield i, 3)) (pc' : Nat) (hp : pc' = pc + 3) (g : Go p l e R s m args below meth c n0 Q h cells slots pc' L (v :: st)) : Go p l e R s m args below meth c n0 Q h cells slots pc L (.ref a :: st) := fun T locs X eh N => by
  subst hp
  obtain ⟨T1, X1, e1, st1⟩ := getF X C.1 C.2.2.1 C.2.2.2.1 (host := "") (Or.inl w) Via.refl eh F (g := mkF m pc L (.ref a :: st)) rfl rfl (hb C.2.1 hd)
  obtain ⟨s2, u, L', x1, x2⟩ := g T1 locs X1 e1 N
  exact ⟨s2, u, L', st1 _ x1, x2⟩
theorem g_putfield (C : Ctx p l e R s m args below meth c Z own nm bs ml rt) {O n d K : String} {i kk : Nat} {ty : FieldType} {a : Addr} {v old : Value} (w : (Jvm.Cond.fieldLink own i O n d).before a0 Z = true) (F : Fld Z h a O n d old) (E : Exa Z h a K) (hL : (Jvm.Cond.lays K O n d).before a0 Z = true ∨ ((Jvm.Cond.laysFinal K O n d).before a0 Z = true ∧ own = O ∧ nm = "<init>")) (wi : (Jvm.Cond.instantiable K kk).before a0 Z = true) (hty : parseFieldDescriptor d = some ty) (hn : narrow ty v = v) (hf : fits ty v = true) (hd : decode bs pc = .ok (.putfield i, 3)) (pc' : Nat) (hp : pc' = pc + 3) (hna : n0 ≤ a) (g : ∀ h', Wr h h' a (Jvm.RoadKit.slotOf Z O n d) v → Go p l e R s m args below meth c n0 Q h' cells slots pc' L st) : Go p l e R s m args below meth c n0 Q h cells slots pc L (v :: .ref a :: st) := fun T locs X eh N => by
  subst hp
  obtain ⟨T1, h1, X1, e1, W1, st1⟩ := putF X C.1 C.2.2.1 C.2.2.2.1 (host := "") (Or.inl w) Via.refl eh F E (hL.imp id fun q => ⟨q.1, q.2.1, C.2.2.2.2.2.2.2.trans q.2.2⟩) wi hty hn hf (g := mkF m pc L (v :: .ref a :: st)) rfl rfl (hb C.2.1 hd)
  obtain ⟨s2, u, L', x1, x2⟩ := g h1 W1 T1 _ X1 e1 (Fr.snoc X1 N hna)
  exact ⟨s2, u, L', st1 _ x1, x2⟩
theorem g_new (C : Ctx p l e R s m args below meth c Z own nm bs ml rt) {K : String} {i n : Nat} (w : (Jvm.Cond.classLink own i K).before a0 Z = true) (wi : (Jvm.Cond.instantiable K n).before a0 Z = true) (wz : (Jvm.Cond.initialized K).before a0 Z = true) (hd : decode bs pc = .ok (.new i, 3)) (pc' : Nat) (hp : pc' = pc + 3) (cells' slots' : Nat) (hc' : cells' = cells + 1) (hs' : slots' = slots + n) (hc : cells' ≤ R.cells) (hs : slots' ≤ R.slots) (g : ∀ h' a, a = h.size → Ext h h' → Exa Z h' a K → (∀ {O nm d : String} {ty : FieldType}, Laid Z a0 K O nm d → parseFieldDescriptor d = some ty → Fld Z h' a O nm d (defaultValue ty)) → Go p l e R s m args below meth c n0 Q h' cells' slots' pc' L (.ref a :: st)) : Go p l e R s m args below meth c n0 Q h cells slots pc L st := fun T locs X eh N => by
  subst hp hc' hs'
  obtain ⟨T1, h1, X1, e1, E1, A1, D1, -, st1⟩ := newO X C.1 C.2.2.1 C.2.2.2.1 w wi wz eh (g := mkF m pc L st) rfl (hb C.2.1 hd) hc hs
  obtain ⟨s2, u, L', x1, x2⟩ := g h1 _ rfl E1 A1 D1 T1 _ X1 e1 N
  exact ⟨s2, u, L', st1 _ x1, x2⟩
theorem g_objinit (C : Ctx p l e R s m args below meth c Z own nm bs ml rt) {i : Nat} {a : Addr} (w1 : (Jvm.Cond.methodLink own i Lib.objectInit).before a0 Z = true) (w2 : (Jvm.Cond.instanceMethod Lib.objectInit).before a0 Z = true) (w3 : (Jvm.Cond.code Lib.objectInit ⟨#[0xb1]⟩ 1 none).before a0 Z = true) (hd : decode bs pc = .ok (.invokespecial i, 3)) (pc' : Nat) (hp : pc' = pc + 3) (hL : L.size = ml) (hf : 1 ≤ R.frames) (W : Nat) (hW : 2 * 0 + (st.map fun v => v.category).sum ≤ W) (hl : W + 12 ≤ R.locals) (g : Go p l e R s m args below meth c n0 Q h cells slots pc' L st) : Go p l e R s m args below meth c n0 Q h cells slots pc L (.ref a :: st) := fun T locs X eh N => by
  subst hp
  obtain ⟨T1, X1, e1, st1⟩ := initO X C.1 C.2.2.1 C.2.2.2.1 w1 w2 w3 eh (g := mkF m pc L (.ref a :: st)) rfl (hL.trans C.2.2.2.2.1.symm) rfl (hb C.2.1 hd) hf (W := W) hW hl
  obtain ⟨s2, u, L', x1, x2⟩ := g T1 locs X1 e1 N
  exact ⟨s2, u, L', st1 _ x1, x2⟩
theorem g_instY (C : Ctx p l e R s m args below meth c Z own nm bs ml rt) {K : String} {i : Nat} {a : Addr} (w : (Jvm.Cond.classLink own i K).before a0 Z = true) (F : Ins Z h a K true) (hd : decode bs pc = .ok (.instanceof i, 3)) (pc' : Nat) (hp : pc' = pc + 3) (g : Go p l e R s m args below meth c n0 Q h cells slots pc' L (.int 1 :: st)) : Go p l e R s m args below meth c n0 Q h cells slots pc L (.ref a :: st) := fun T locs X eh N => by
  subst hp
  obtain ⟨T1, X1, e1, st1⟩ := instY X C.1 C.2.2.1 C.2.2.2.1 w eh F (g := mkF m pc L (.ref a :: st)) rfl rfl (hb C.2.1 hd)
  obtain ⟨s2, u, L', x1, x2⟩ := g T1 locs X1 e1 N
  exact ⟨s2, u, L', st1 _ x1, x2⟩
theorem g_instNo (C : Ctx p l e R s m args below meth c Z own nm bs ml rt) {K K0 : String} {i : Nat} {a : Addr} (w : (Jvm.Cond.classLink own i K).before a0 Z = true) (E : Exa Z h a K0) (F : ∃ c t, Z.vm.findClass K0 = some c ∧ Z.vm.findClass K = some t ∧ Z.vm.assignable c t = false) (hd : decode bs pc = .ok (.instanceof i, 3)) (pc' : Nat) (hp : pc' = pc + 3) (g : Go p l e R s m args below meth c n0 Q h cells slots pc' L (.int 0 :: st)) : Go p l e R s m args below meth c n0 Q h cells slots pc L (.ref a :: st) := fun T locs X eh N => by
  subst hp
  obtain ⟨T1, X1, e1, st1⟩ := instNo X C.1 C.2.2.1 C.2.2.2.1 w eh E F (g := mkF m pc L (.ref a :: st)) rfl rfl (hb C.2.1 hd)
  obtain ⟨s2, u, L', x1, x2⟩ := g T1 locs X1 e1 N
  exact ⟨s2, u, L', st1 _ x1, x2⟩
theorem g_instNull (C : Ctx p l e R s m args below meth c Z own nm bs ml rt) {i : Nat} (hd : decode bs pc = .ok (.instanceof i, 3)) (pc' : Nat) (hp : pc' = pc + 3) (g : Go p l e R s m args below meth c n0 Q h cells slots pc' L (.int 0 :: st)) : Go p l e R s m args below meth c n0 Q h cells slots pc L (.null :: st) := by
  subst hp
  exact step (fun T locs X _ t k => X.instanceofNull C.1 (g := mkF m pc L (.null :: st)) rfl rfl (hb C.2.1 hd) _ k) g
theorem g_checkcast (C : Ctx p l e R s m args below meth c Z own nm bs ml rt) {K : String} {i : Nat} {a : Addr} (w : (Jvm.Cond.classLink own i K).before a0 Z = true) (F : Ins Z h a K true) (hd : decode bs pc = .ok (.checkcast i, 3)) (pc' : Nat) (hp : pc' = pc + 3) (g : Go p l e R s m args below meth c n0 Q h cells slots pc' L (.ref a :: st)) : Go p l e R s m args below meth c n0 Q h cells slots pc L (.ref a :: st) := fun T locs X eh N => by
  subst hp
  obtain ⟨T1, X1, e1, st1⟩ := castY X C.1 C.2.2.1 C.2.2.2.1 w eh F (g := mkF m pc L (.ref a :: st)) rfl rfl (hb C.2.1 hd)
  obtain ⟨s2, u, L', x1, x2⟩ := g T1 locs X1 e1 N
  exact ⟨s2, u, L', st1 _ x1, x2⟩
/-- a local that holds nothing or an int; two that hold nothing or a long -/
def OneS (s : Slot) : Prop := s = .unset ∨ ∃ x : Int32, s = .val (.int x)
def TwoS (s t : Slot) : Prop := (s = .unset ∧ t = .unset) ∨ ∃ x : Int64, s = .val (.long x) ∧ t = .second
theorem OneS.u : OneS .unset := Or.inl rfl
theorem OneS.i {x : Int32} : OneS (.val (.int x)) := Or.inr ⟨x, rfl⟩
theorem TwoS.u : TwoS .unset .unset := Or.inl ⟨rfl, rfl⟩
theorem TwoS.j {x : Int64} : TwoS (.val (.long x)) .second := Or.inr ⟨x, rfl, rfl⟩
/-- the array at a: N places, place j holds f j -/
def Ary (Z : State) (h : Heap) (a : Addr) (ty : FieldType) (N : Nat) (f : Nat → Value) : Prop := N < 2 ^ 31 ∧ ∃ cl : Cell, Arr Z h a cl ty ∧ cl.slots.size = N ∧ ∀ j, j < N → cl.slots[j]? = some (f j)
def updA (f : Nat → Value) (i : Nat) (v : Value) : Nat → Value := fun j => if j = i then v else f j
theorem Ary.lt {a : Addr} {ty : FieldType} {N : Nat} {f : Nat → Value} (A : Ary Z h a ty N f) : a < h.size := by obtain ⟨-, cl, A1, -⟩ := A; exact A1.lt
theorem Ary.ext {h' : Heap} {a : Addr} {ty : FieldType} {N : Nat} {f : Nat → Value} (A : Ary Z h a ty N f) (E : Ext h h') : Ary Z h' a ty N f := by obtain ⟨q, cl, A1, A2⟩ := A; exact ⟨q, cl, A1.ext E, A2⟩
theorem Ary.other {h' : Heap} {a b : Addr} {sl : Nat} {v : Value} {ty : FieldType} {N : Nat} {f : Nat → Value} (A : Ary Z h a ty N f) (W : Wr h h' b sl v) (q : a ≠ b) : Ary Z h' a ty N f := by obtain ⟨q0, cl, A1, A2⟩ := A; exact ⟨q0, cl, A1.other W q, A2⟩
theorem Ary.keep {h' : Heap} {a : Addr} {ws : List Addr} {ty : FieldType} {N : Nat} {f : Nat → Value} (A : Ary Z h a ty N f) (K : Keep h h' ws) (q : a ∉ ws) : Ary Z h' a ty N f := by obtain ⟨q0, cl, A1, A2⟩ := A; exact ⟨q0, cl, ⟨K.2.1 _ _ A1.1 q, A1.2⟩, A2⟩
theorem Ary.congr {a : Addr} {ty : FieldType} {N : Nat} {f f' : Nat → Value} (A : Ary Z h a ty N f) (q : ∀ j, j < N → f j = f' j) : Ary Z h a ty N f' := by obtain ⟨q0, cl, A1, A2, A3⟩ := A; exact ⟨q0, cl, A1, A2, fun j hj => by rw [A3 j hj, q j hj]⟩
theorem Ary.set {h' : Heap} {a : Addr} {i : Nat} {v : Value} {ty : FieldType} {N : Nat} {f : Nat → Value} (A : Ary Z h a ty N f) (W : Wr h h' a i v) : Ary Z h' a ty N (updA f i v) := by
  obtain ⟨q0, cl, A1, A2, A3⟩ := A
  refine ⟨q0, _, A1.same W, by rw [sz_set]; exact A2, fun j hj => ?_⟩
  obtain ⟨cell, w1, -, w3, -⟩ := W
  cases A1.1.symm.trans w1
  by_cases q : j = i
  · subst q; simp [updA, Cell.setSlot, w3]
  · rw [updA, if_neg q, ← A3 j hj]; simp [Cell.setSlot, Ne.symm q]
theorem Ary.wrlt {h' : Heap} {a : Addr} {i : Nat} {v : Value} {ty : FieldType} {N : Nat} {f : Nat → Value} (A : Ary Z h a ty N f) (W : Wr h h' a i v) : h'.size = h.size := W.size
def upn (f : Nat → Int32) (i : Nat) (v : Int32) : Nat → Int32 := fun j => if j = i then v else f j
theorem Ary.asI {a : Addr} {ty : FieldType} {N i : Nat} {f : Nat → Int32} {v : Int32} (A : Ary Z h a ty N (updA (fun j => .int (f j)) i (.int v))) : Ary Z h a ty N (fun j => .int (upn f i v j)) := A.congr (fun j _ => by
  show (if j = i then Value.int v else Value.int (f j)) = Value.int (if j = i then v else f j)
  split <;> rfl)
/-- the int j is the place i -/
def Ix (j : Int32) (i : Nat) : Prop := ¬ j < 0 ∧ j.toNatClampNeg = i
theorem Ix.inb {j : Int32} {i N : Nat} {cl : Cell} (x : Ix j i) (hi : i < N) (S : cl.slots.size = N) : ¬ (j < 0 ∨ cl.slots.size ≤ j.toNatClampNeg) := by
  rintro (q | q)
  · exact x.1 q
  · rw [x.2] at q; omega
theorem Ix.toInt {j : Int32} {i : Nat} (x : Ix j i) : j.toInt = (i : Int) := by
  obtain ⟨h1, h2⟩ := x
  rw [Int32.lt_iff_toInt_lt] at h1
  have h3 : j.toInt.toNat = i := h2
  have h4 : (0 : Int32).toInt = 0 := rfl
  omega
theorem Ix.of {j : Int32} {i : Nat} (h : j.toInt = (i : Int)) : Ix j i := by
  refine ⟨?_, ?_⟩
  · rw [Int32.lt_iff_toInt_lt]
    have h4 : (0 : Int32).toInt = 0 := rfl
    omega
  · show j.toInt.toNat = i
    omega
theorem Ix.lt {a b : Int32} {i j : Nat} (x : Ix a i) (y : Ix b j) : a < b ↔ i < j := by
  rw [Int32.lt_iff_toInt_lt, x.toInt, y.toInt]; omega
theorem Ix.eq {a b : Int32} {i j : Nat} (x : Ix a i) (y : Ix b j) : a = b ↔ i = j := by
  rw [← Int32.toInt_inj, x.toInt, y.toInt]; omega
theorem Ix.add {a b : Int32} {i j : Nat} (x : Ix a i) (y : Ix b j) (h : i + j < 2147483648) : Ix (a + b) (i + j) := by
  apply Ix.of
  rw [Int32.toInt_add, x.toInt, y.toInt]
  have h2 : ((i : Int) + (j : Int)).bmod (2 ^ 32) = (i : Int) + (j : Int) := Int.bmod_eq_of_le (by omega) (by omega)
  rw [h2]; omega
theorem Ix.sub {a b : Int32} {i j : Nat} (x : Ix a i) (y : Ix b j) (h : j ≤ i) (hi : i < 2147483648) : Ix (a - b) (i - j) := by
  apply Ix.of
  rw [Int32.toInt_sub, x.toInt, y.toInt]
  have h2 : ((i : Int) - (j : Int)).bmod (2 ^ 32) = (i : Int) - (j : Int) := Int.bmod_eq_of_le (by omega) (by omega)
  rw [h2]; omega
theorem Ix.mul {a b : Int32} {i j : Nat} (x : Ix a i) (y : Ix b j) (h : i * j < 2147483648) : Ix (a * b) (i * j) := by
  apply Ix.of
  rw [Int32.toInt_mul, x.toInt, y.toInt, ← Int.natCast_mul]
  exact Int.bmod_eq_of_le (by omega) (by omega)
theorem Ix.nz {y : Int32} {n : Nat} (x : Ix y n) (h : 0 < n) : y ≠ 0 := fun q => by
  have := x.toInt
  rw [q] at this
  have h0 : (0 : Int32).toInt = 0 := rfl
  omega
theorem nn31 (x : Int32) : 0 ≤ (x &&& 2147483647).toInt := (c_andS x 2147483647).2.2 (by decide)
theorem Ix.rem {x y : Int32} {n : Nat} (hx : 0 ≤ x.toInt) (hy : Ix y n) (hn : 0 < n) : ∃ i, i < n ∧ Ix (x % y) i := by
  have h0 : (x % y).toInt = x.toInt % (n : Int) := by
    rw [Int32.toInt_mod, hy.toInt]; exact Int.tmod_eq_emod_of_nonneg hx
  have h1 : 0 ≤ x.toInt % (n : Int) := Int.emod_nonneg _ (by omega)
  have h2 : x.toInt % (n : Int) < n := Int.emod_lt_of_pos _ (by omega)
  exact ⟨(x.toInt % (n : Int)).toNat, by omega, Ix.of (by omega)⟩
theorem Ix.succ {a : Int32} {i : Nat} (x : Ix a i) (h : i + 1 < 2147483648) : Ix (a + 1) (i + 1) := x.add (b := 1) (j := 1) ⟨by decide, by decide⟩ h
theorem g_iaload (C : Ctx p l e R s m args below meth c Z own nm bs ml rt) {a : Addr} {N : Nat} {f : Nat → Value} {j : Int32} (A : Ary Z h a .int N f) (i : Nat) (hj : Ix j i) (hi : i < N) (v : Value) (hv : f i = v) (hd : decode bs pc = .ok (.iaload, 1)) (pc' : Nat) (hp : pc' = pc + 1) (g : Go p l e R s m args below meth c n0 Q h cells slots pc' L (v :: st)) : Go p l e R s m args below meth c n0 Q h cells slots pc L (.int j :: .ref a :: st) := by
  subst hp hv
  obtain ⟨q0, cl, A1, A2, A3⟩ := A
  exact step (fun T locs X eh t k => X.iaload C.1 (j := j) (v := f i) (by rw [eh]; exact A1.1) (State.isArrayOf_alike C.2.2.1.alike A1.2.1) A1.2.2 (hj.inb hi A2) (by rw [hj.2]; exact A3 i hi) (g := mkF m pc L (.int j :: .ref a :: st)) rfl rfl (hb C.2.1 hd) _ k) g
theorem g_laload (C : Ctx p l e R s m args below meth c Z own nm bs ml rt) {a : Addr} {N : Nat} {f : Nat → Value} {j : Int32} (A : Ary Z h a .long N f) (i : Nat) (hj : Ix j i) (hi : i < N) (v : Value) (hv : f i = v) (hd : decode bs pc = .ok (.laload, 1)) (pc' : Nat) (hp : pc' = pc + 1) (g : Go p l e R s m args below meth c n0 Q h cells slots pc' L (v :: st)) : Go p l e R s m args below meth c n0 Q h cells slots pc L (.int j :: .ref a :: st) := by
  subst hp hv
  obtain ⟨q0, cl, A1, A2, A3⟩ := A
  exact step (fun T locs X eh t k => X.laload C.1 (j := j) (v := f i) (by rw [eh]; exact A1.1) (State.isArrayOf_alike C.2.2.1.alike A1.2.1) A1.2.2 (hj.inb hi A2) (by rw [hj.2]; exact A3 i hi) (g := mkF m pc L (.int j :: .ref a :: st)) rfl rfl (hb C.2.1 hd) _ k) g
theorem g_caload (C : Ctx p l e R s m args below meth c Z own nm bs ml rt) {a : Addr} {N : Nat} {f : Nat → Value} {j : Int32} (A : Ary Z h a .char N f) (i : Nat) (hj : Ix j i) (hi : i < N) (v : Value) (hv : f i = v) (hd : decode bs pc = .ok (.caload, 1)) (pc' : Nat) (hp : pc' = pc + 1) (g : Go p l e R s m args below meth c n0 Q h cells slots pc' L (v :: st)) : Go p l e R s m args below meth c n0 Q h cells slots pc L (.int j :: .ref a :: st) := by
  subst hp hv
  obtain ⟨q0, cl, A1, A2, A3⟩ := A
  exact step (fun T locs X eh t k => X.caload C.1 (j := j) (v := f i) (by rw [eh]; exact A1.1) (State.isArrayOf_alike C.2.2.1.alike A1.2.1) A1.2.2 (hj.inb hi A2) (by rw [hj.2]; exact A3 i hi) (g := mkF m pc L (.int j :: .ref a :: st)) rfl rfl (hb C.2.1 hd) _ k) g
theorem g_baload (C : Ctx p l e R s m args below meth c Z own nm bs ml rt) {a : Addr} {N : Nat} {f : Nat → Value} {j : Int32} (A : Ary Z h a .byte N f) (i : Nat) (hj : Ix j i) (hi : i < N) (v : Value) (hv : f i = v) (hd : decode bs pc = .ok (.baload, 1)) (pc' : Nat) (hp : pc' = pc + 1) (g : Go p l e R s m args below meth c n0 Q h cells slots pc' L (v :: st)) : Go p l e R s m args below meth c n0 Q h cells slots pc L (.int j :: .ref a :: st) := by
  subst hp hv
  obtain ⟨q0, cl, A1, A2, A3⟩ := A
  exact step (fun T locs X eh t k => X.baloadBytes C.1 (j := j) (v := f i) (by rw [eh]; exact A1.1) (State.isArrayOf_alike C.2.2.1.alike A1.2.1) A1.2.2 (hj.inb hi A2) (by rw [hj.2]; exact A3 i hi) (g := mkF m pc L (.int j :: .ref a :: st)) rfl rfl (hb C.2.1 hd) _ k) g
theorem g_iastore (C : Ctx p l e R s m args below meth c Z own nm bs ml rt) {a : Addr} {N : Nat} {f : Nat → Value} {j : Int32} {x : Int32} (A : Ary Z h a .int N f) (i : Nat) (hj : Ix j i) (hi : i < N) (hd : decode bs pc = .ok (.iastore, 1)) (pc' : Nat) (hp : pc' = pc + 1) (hna : n0 ≤ a) (g : ∀ h', Wr h h' a i (.int x) → Ary Z h' a .int N (updA f i (.int x)) → Go p l e R s m args below meth c n0 Q h' cells slots pc' L st) : Go p l e R s m args below meth c n0 Q h cells slots pc L (.int x :: .int j :: .ref a :: st) := fun T locs X eh N' => by
  subst hp
  have A0 := A
  obtain ⟨q0, cl, A1, A2, A3⟩ := A
  obtain ⟨T1, h1, X1, e1, W1, st1⟩ := stI X C.1 C.2.2.1 eh A1 (hj.inb hi A2) (g := mkF m pc L (.int x :: .int j :: .ref a :: st)) rfl rfl (hb C.2.1 hd)
  have W2 : Wr h h1 a i (.int x) := by have := W1; rw [hj.2] at this; exact this
  obtain ⟨s2, u, L', x1, x2⟩ := g h1 W2 (A0.set W2) T1 _ X1 e1 (Fr.snoc X1 N' hna)
  exact ⟨s2, u, L', st1 _ x1, x2⟩
theorem g_lastore (C : Ctx p l e R s m args below meth c Z own nm bs ml rt) {a : Addr} {N : Nat} {f : Nat → Value} {j : Int32} {x : Int64} (A : Ary Z h a .long N f) (i : Nat) (hj : Ix j i) (hi : i < N) (hd : decode bs pc = .ok (.lastore, 1)) (pc' : Nat) (hp : pc' = pc + 1) (hna : n0 ≤ a) (g : ∀ h', Wr h h' a i (.long x) → Ary Z h' a .long N (updA f i (.long x)) → Go p l e R s m args below meth c n0 Q h' cells slots pc' L st) : Go p l e R s m args below meth c n0 Q h cells slots pc L (.long x :: .int j :: .ref a :: st) := fun T locs X eh N' => by
  subst hp
  have A0 := A
  obtain ⟨q0, cl, A1, A2, A3⟩ := A
  obtain ⟨T1, h1, X1, e1, W1, st1⟩ := stJ X C.1 C.2.2.1 eh A1 (hj.inb hi A2) (g := mkF m pc L (.long x :: .int j :: .ref a :: st)) rfl rfl (hb C.2.1 hd)
  have W2 : Wr h h1 a i (.long x) := by have := W1; rw [hj.2] at this; exact this
  obtain ⟨s2, u, L', x1, x2⟩ := g h1 W2 (A0.set W2) T1 _ X1 e1 (Fr.snoc X1 N' hna)
  exact ⟨s2, u, L', st1 _ x1, x2⟩
theorem g_castore (C : Ctx p l e R s m args below meth c Z own nm bs ml rt) {a : Addr} {N : Nat} {f : Nat → Value} {j : Int32} {x : Int32} (A : Ary Z h a .char N f) (i : Nat) (hj : Ix j i) (hi : i < N) (hd : decode bs pc = .ok (.castore, 1)) (pc' : Nat) (hp : pc' = pc + 1) (hna : n0 ≤ a) (g : ∀ h', Wr h h' a i (.int (nar .char x)) → Ary Z h' a .char N (updA f i (.int (nar .char x))) → Go p l e R s m args below meth c n0 Q h' cells slots pc' L st) : Go p l e R s m args below meth c n0 Q h cells slots pc L (.int x :: .int j :: .ref a :: st) := fun T locs X eh N' => by
  subst hp
  have A0 := A
  obtain ⟨q0, cl, A1, A2, A3⟩ := A
  obtain ⟨T1, h1, X1, e1, W1, st1⟩ := stC X C.1 C.2.2.1 eh A1 (hj.inb hi A2) (g := mkF m pc L (.int x :: .int j :: .ref a :: st)) rfl rfl (hb C.2.1 hd)
  have W2 : Wr h h1 a i (.int (nar .char x)) := by have := W1; rw [hj.2] at this; exact this
  obtain ⟨s2, u, L', x1, x2⟩ := g h1 W2 (A0.set W2) T1 _ X1 e1 (Fr.snoc X1 N' hna)
  exact ⟨s2, u, L', st1 _ x1, x2⟩
theorem g_bastore (C : Ctx p l e R s m args below meth c Z own nm bs ml rt) {a : Addr} {N : Nat} {f : Nat → Value} {j : Int32} {x : Int32} (A : Ary Z h a .byte N f) (i : Nat) (hj : Ix j i) (hi : i < N) (hd : decode bs pc = .ok (.bastore, 1)) (pc' : Nat) (hp : pc' = pc + 1) (hna : n0 ≤ a) (g : ∀ h', Wr h h' a i (.int (nar .byte x)) → Ary Z h' a .byte N (updA f i (.int (nar .byte x))) → Go p l e R s m args below meth c n0 Q h' cells slots pc' L st) : Go p l e R s m args below meth c n0 Q h cells slots pc L (.int x :: .int j :: .ref a :: st) := fun T locs X eh N' => by
  subst hp
  have A0 := A
  obtain ⟨q0, cl, A1, A2, A3⟩ := A
  obtain ⟨T1, h1, X1, e1, W1, st1⟩ := stB X C.1 C.2.2.1 eh A1 (hj.inb hi A2) (g := mkF m pc L (.int x :: .int j :: .ref a :: st)) rfl rfl (hb C.2.1 hd)
  have W2 : Wr h h1 a i (.int (nar .byte x)) := by have := W1; rw [hj.2] at this; exact this
  obtain ⟨s2, u, L', x1, x2⟩ := g h1 W2 (A0.set W2) T1 _ X1 e1 (Fr.snoc X1 N' hna)
  exact ⟨s2, u, L', st1 _ x1, x2⟩
theorem g_arraylength (C : Ctx p l e R s m args below meth c Z own nm bs ml rt) {a : Addr} {ty : FieldType} {N : Nat} {f : Nat → Value} (A : Ary Z h a ty N f) (z : Int32) (hz : Ix z N) (hd : decode bs pc = .ok (.arraylength, 1)) (pc' : Nat) (hp : pc' = pc + 1) (g : Go p l e R s m args below meth c n0 Q h cells slots pc' L (.int z :: st)) : Go p l e R s m args below meth c n0 Q h cells slots pc L (.ref a :: st) := by
  subst hp
  obtain ⟨q0, cl, A1, A2, A3⟩ := A
  have hl : cl.slots.size.toInt32 = z := len_of (A2.trans hz.2.symm) hz.1
  exact step (fun T locs X eh t k => X.arraylength C.1 (by rw [eh]; exact A1.1) (State.isArrayOf_alike C.2.2.1.alike A1.2.1) (g := mkF m pc L (.ref a :: st)) rfl rfl (hb C.2.1 hd) _ (by rw [hl]; exact k)) g
theorem g_newarray (C : Ctx p l e R s m args below meth c Z own nm bs ml rt) {aty : ArrayType} {n : Int32} (w : (Jvm.Cond.arrayClass (newarray.typeOf aty)).before a0 Z = true) (N cap : Nat) (hn : Ix n N) (hN : N ≤ cap) (hb8 : cap * 8 ≤ 536870912) (hd : decode bs pc = .ok (.newarray aty, 2)) (pc' : Nat) (hp : pc' = pc + 2) (cells' slots' : Nat) (hc' : cells' = cells + 1) (hs' : slots' = slots + cap) (hc : cells' ≤ R.cells) (hs : slots' ≤ R.slots) (g : ∀ h' a, a = h.size → Ext h h' → Ary Z h' a (newarray.typeOf aty) N (fun _ => defaultValue (newarray.typeOf aty)) → Go p l e R s m args below meth c n0 Q h' cells' slots' pc' L (.ref a :: st)) : Go p l e R s m args below meth c n0 Q h cells slots pc L (.int n :: st) := fun T locs X eh N' => by
  subst hp hc' hs'
  obtain ⟨T1, h1, cA, X1, e1, E1, A1, st1⟩ := newP X C.1 C.2.2.1 w eh (g := mkF m pc L (.int n :: st)) rfl (hb C.2.1 hd) rfl hn.1 (cap := cap) (by rw [hn.2]; exact hN) hb8 hc hs
  obtain ⟨s2, u, L', x1, x2⟩ := g h1 _ rfl E1 ⟨by omega, _, A1, by rw [sz_new, hn.2], fun j hj => by simp [newA, hn.2, hj]⟩ T1 _ X1 e1 N'
  exact ⟨s2, u, L', st1 _ x1, x2⟩
theorem c_static0 (C : Ctx p l e R s m args below meth c Z own nm bs ml rt) {i : Nat} {y : MethodName} {cb : ByteArray} {cm : Nat} {cr : Option FieldType} {rm : Room} {Q' : Option Value → Heap → Prop} (argsL rest : List Value) (w1 : (Jvm.Cond.methodLink own i y).before a0 Z = true) (w2 : (Jvm.Cond.static y).before a0 Z = true) (w3 : (Jvm.Cond.initialized y.cls).before a0 Z = true) (w4 : (Jvm.Cond.code y cb cm cr).before a0 Z = true) (hy : y.cls ≠ "java/lang/invoke/MethodHandle" ∧ y.cls ≠ "java/lang/invoke/VarHandle") (hM : Met l Z y cb cm cr rm argsL.toArray h n0 Q') (hd : decode bs pc = .ok (.invokestatic i, 3)) (pc' : Nat) (hp : pc' = pc + 3) (hlen : ∀ sig, parseMethodDescriptor y.desc = some sig → argsL.length = sig.parameters.length) (hL : L.size = ml) (W : Nat) (hW : 2 * 0 + (rest.map fun v => v.category).sum ≤ W) (hf : rm.frames + 1 ≤ R.frames) (hl : W + (cm + 11) + rm.locals ≤ R.locals) (cells' slots' : Nat) (hc' : cells' = cells + rm.cells) (hs' : slots' = slots + rm.slots) (hc : cells' ≤ R.cells) (hs : slots' ≤ R.slots) (g : ∀ v h', Q' v h' → Go p l e R s m args below meth c n0 Q h' cells' slots' pc' L (v.toList ++ rest)) : Go p l e R s m args below meth c n0 Q h cells slots pc L (argsL.reverse ++ rest) := fun T locs X eh N => by
  subst hp hc' hs'
  obtain ⟨v, _, ⟨U1, L1, k1, n1⟩, -, X1, ⟨Lc, hQ, l1, y1, z1⟩, st1⟩ := Jvm.LawKit.callS X C.1 (y := y) C.2.2.2.1 (mvT C.2.2.1 w1) (mvT C.2.2.1 w2) (mvT C.2.2.1 w3) (mvT C.2.2.1 w4) hy (backOf (W := W) (Q := fun v h L => Q' v h ∧ Fr n0 L) (hM []) C.2.2.1 w4 w3 hf hl) (g := mkF m pc L (argsL.reverse ++ rest)) rfl (hL.trans C.2.2.2.2.1.symm) (argsL := argsL) (rest := rest) hlen rfl hW (hb C.2.1 hd) (fun _ _ => ⟨rfl, eh, hc, hs⟩)
  dsimp only [Pt.U, Pt.locs, Pt.cells, Pt.slots] at X1 l1 y1 z1 st1 hQ
  subst l1 y1 z1
  obtain ⟨s2, u, L', x1, x2⟩ := g v U1.heap hQ.1 U1 _ X1 rfl (Fr.app N hQ.2)
  exact ⟨s2, u, L', st1 _ x1, x2⟩
theorem c_special0 (C : Ctx p l e R s m args below meth c Z own nm bs ml rt) {i : Nat} {y : MethodName} {cb : ByteArray} {cm : Nat} {rm : Room} {Q' : Option Value → Heap → Prop} (a : Addr) (argsL rest : List Value) (hin : y.name = "<init>") (w1 : (Jvm.Cond.methodLink own i y).before a0 Z = true) (w2 : (Jvm.Cond.instanceMethod y).before a0 Z = true) (w3 : (Jvm.Cond.initialized y.cls).before a0 Z = true) (w4 : (Jvm.Cond.code y cb cm none).before a0 Z = true) (hy : y.cls ≠ "java/lang/invoke/MethodHandle" ∧ y.cls ≠ "java/lang/invoke/VarHandle") (hM : Met l Z y cb cm none rm (.ref a :: argsL).toArray h n0 Q') (hd : decode bs pc = .ok (.invokespecial i, 3)) (pc' : Nat) (hp : pc' = pc + 3) (hlen : ∀ sig, parseMethodDescriptor y.desc = some sig → argsL.length = sig.parameters.length) (hL : L.size = ml) (W : Nat) (hW : 2 * 0 + (rest.map fun v => v.category).sum ≤ W) (hf : rm.frames + 1 ≤ R.frames) (hl : W + (cm + 11) + rm.locals ≤ R.locals) (cells' slots' : Nat) (hc' : cells' = cells + rm.cells) (hs' : slots' = slots + rm.slots) (hc : cells' ≤ R.cells) (hs : slots' ≤ R.slots) (g : ∀ v h', Q' v h' → Go p l e R s m args below meth c n0 Q h' cells' slots' pc' L (v.toList ++ rest)) : Go p l e R s m args below meth c n0 Q h cells slots pc L (argsL.reverse ++ .ref a :: rest) := fun T locs X eh N => by
  subst hp hc' hs'
  obtain ⟨v, _, ⟨U1, L1, k1, n1⟩, -, X1, ⟨Lc, hQ, l1, y1, z1⟩, st1⟩ := X.specialBack C.1 (y := y) hin C.2.2.2.1 (mvT C.2.2.1 w1) (mvT C.2.2.1 w2) (mvT C.2.2.1 w4) hy (backOf (W := W) (Q := fun v h L => Q' v h ∧ Fr n0 L) (hM []) C.2.2.1 w4 w3 hf hl) (g := mkF m pc L (argsL.reverse ++ .ref a :: rest)) rfl (hL.trans C.2.2.2.2.1.symm) (Steps.refl _) (a := a) (argsL := argsL) (rest := rest) hlen rfl hW (hb C.2.1 hd) (fun _ _ => ⟨rfl, eh, hc, hs⟩)
  dsimp only [Pt.U, Pt.locs, Pt.cells, Pt.slots] at X1 l1 y1 z1 st1 hQ
  subst l1 y1 z1
  obtain ⟨s2, u, L', x1, x2⟩ := g v U1.heap hQ.1 U1 _ X1 rfl (Fr.app N hQ.2)
  exact ⟨s2, u, L', st1.trans x1, x2⟩
theorem c_virtual0 (C : Ctx p l e R s m args below meth c Z own nm bs ml rt) {i : Nat} {K : String} {y : MethodName} {cb : ByteArray} {cm : Nat} {cr : Option FieldType} {rm : Room} {Q' : Option Value → Heap → Prop} (a : Addr) (argsL rest : List Value) (w1 : (Jvm.Cond.methodLink own i y).before a0 Z = true) (wd : (Jvm.Cond.declares y).before a0 Z = true) (ws : (Jvm.Cond.selects K y y).before a0 Z = true) (w2 : (Jvm.Cond.instanceMethod y).before a0 Z = true) (w3 : (Jvm.Cond.initialized y.cls).before a0 Z = true) (w4 : (Jvm.Cond.code y cb cm cr).before a0 Z = true) (hy : y.cls ≠ "java/lang/invoke/MethodHandle" ∧ y.cls ≠ "java/lang/invoke/VarHandle") (E : Exa Z h a K) (hM : Met l Z y cb cm cr rm (.ref a :: argsL).toArray h n0 Q') (hd : decode bs pc = .ok (.invokevirtual i, 3)) (pc' : Nat) (hp : pc' = pc + 3) (hlen : ∀ sig, parseMethodDescriptor y.desc = some sig → argsL.length = sig.parameters.length) (hL : L.size = ml) (W : Nat) (hW : 2 * 0 + (rest.map fun v => v.category).sum ≤ W) (hf : rm.frames + 1 ≤ R.frames) (hl : W + (cm + 11) + rm.locals ≤ R.locals) (cells' slots' : Nat) (hc' : cells' = cells + rm.cells) (hs' : slots' = slots + rm.slots) (hc : cells' ≤ R.cells) (hs : slots' ≤ R.slots) (g : ∀ v h', Q' v h' → Go p l e R s m args below meth c n0 Q h' cells' slots' pc' L (v.toList ++ rest)) : Go p l e R s m args below meth c n0 Q h cells slots pc L (argsL.reverse ++ .ref a :: rest) := fun T locs X eh N => by
  subst hp hc' hs'
  obtain ⟨cq, kq, qa, qb, qc⟩ := isOf C.2.2.1 eh E
  obtain ⟨v, _, ⟨U1, L1, k1, n1⟩, -, X1, ⟨Lc, hQ, l1, y1, z1⟩, st1⟩ := X.virtualBack C.1 (y := y) (z := y) C.2.2.2.1 (mvT C.2.2.1 w1) (mvT C.2.2.1 wd) (notFace_of_selects (args := #[]) (mvT C.2.2.1 ws)) (mvT C.2.2.1 ws) (mvT C.2.2.1 w2) hy (backOf (W := W) (Q := fun v h L => Q' v h ∧ Fr n0 L) (hM []) C.2.2.1 w4 w3 hf hl) qa qc (g := mkF m pc L (argsL.reverse ++ .ref a :: rest)) rfl (hL.trans C.2.2.2.2.1.symm) (Steps.refl _) (argsL := argsL) (rest := rest) hlen rfl hW (hb C.2.1 hd) (fun _ _ => ⟨rfl, eh, hc, hs⟩)
  dsimp only [Pt.U, Pt.locs, Pt.cells, Pt.slots] at X1 l1 y1 z1 st1 hQ
  subst l1 y1 z1
  obtain ⟨s2, u, L', x1, x2⟩ := g v U1.heap hQ.1 U1 _ X1 rfl (Fr.app N hQ.2)
  exact ⟨s2, u, L', st1.trans x1, x2⟩
theorem c_staticI (C : Ctx p l e R s m args below meth c Z own nm bs ml rt) {i : Nat} {y : MethodName} {cb : ByteArray} {cm : Nat} {cr : Option FieldType} {rm : Room} {P' : Int32 → Heap → Prop} (argsL rest : List Value) (w1 : (Jvm.Cond.methodLink own i y).before a0 Z = true) (w2 : (Jvm.Cond.static y).before a0 Z = true) (w3 : (Jvm.Cond.initialized y.cls).before a0 Z = true) (w4 : (Jvm.Cond.code y cb cm cr).before a0 Z = true) (hy : y.cls ≠ "java/lang/invoke/MethodHandle" ∧ y.cls ≠ "java/lang/invoke/VarHandle") (hM : Met l Z y cb cm cr rm argsL.toArray h n0 (qI P')) (hd : decode bs pc = .ok (.invokestatic i, 3)) (pc' : Nat) (hp : pc' = pc + 3) (hlen : ∀ sig, parseMethodDescriptor y.desc = some sig → argsL.length = sig.parameters.length) (hL : L.size = ml) (W : Nat) (hW : 2 * 0 + (rest.map fun v => v.category).sum ≤ W) (hf : rm.frames + 1 ≤ R.frames) (hl : W + (cm + 11) + rm.locals ≤ R.locals) (cells' slots' : Nat) (hc' : cells' = cells + rm.cells) (hs' : slots' = slots + rm.slots) (hc : cells' ≤ R.cells) (hs : slots' ≤ R.slots) (hst : st = argsL.reverse ++ rest) (g : ∀ r h', P' r h' → Go p l e R s m args below meth c n0 Q h' cells' slots' pc' L (.int r :: rest)) : Go p l e R s m args below meth c n0 Q h cells slots pc L st := by
  subst hst
  exact c_static0 C argsL rest w1 w2 w3 w4 hy hM hd pc' hp hlen hL W hW hf hl cells' slots' hc' hs' hc hs (fun v h' hq => by obtain ⟨r, rfl, q⟩ := hq; exact g r h' q)
theorem c_staticJ (C : Ctx p l e R s m args below meth c Z own nm bs ml rt) {i : Nat} {y : MethodName} {cb : ByteArray} {cm : Nat} {cr : Option FieldType} {rm : Room} {P' : Int64 → Heap → Prop} (argsL rest : List Value) (w1 : (Jvm.Cond.methodLink own i y).before a0 Z = true) (w2 : (Jvm.Cond.static y).before a0 Z = true) (w3 : (Jvm.Cond.initialized y.cls).before a0 Z = true) (w4 : (Jvm.Cond.code y cb cm cr).before a0 Z = true) (hy : y.cls ≠ "java/lang/invoke/MethodHandle" ∧ y.cls ≠ "java/lang/invoke/VarHandle") (hM : Met l Z y cb cm cr rm argsL.toArray h n0 (qJ P')) (hd : decode bs pc = .ok (.invokestatic i, 3)) (pc' : Nat) (hp : pc' = pc + 3) (hlen : ∀ sig, parseMethodDescriptor y.desc = some sig → argsL.length = sig.parameters.length) (hL : L.size = ml) (W : Nat) (hW : 2 * 0 + (rest.map fun v => v.category).sum ≤ W) (hf : rm.frames + 1 ≤ R.frames) (hl : W + (cm + 11) + rm.locals ≤ R.locals) (cells' slots' : Nat) (hc' : cells' = cells + rm.cells) (hs' : slots' = slots + rm.slots) (hc : cells' ≤ R.cells) (hs : slots' ≤ R.slots) (hst : st = argsL.reverse ++ rest) (g : ∀ r h', P' r h' → Go p l e R s m args below meth c n0 Q h' cells' slots' pc' L (.long r :: rest)) : Go p l e R s m args below meth c n0 Q h cells slots pc L st := by
  subst hst
  exact c_static0 C argsL rest w1 w2 w3 w4 hy hM hd pc' hp hlen hL W hW hf hl cells' slots' hc' hs' hc hs (fun v h' hq => by obtain ⟨r, rfl, q⟩ := hq; exact g r h' q)
theorem c_staticA (C : Ctx p l e R s m args below meth c Z own nm bs ml rt) {i : Nat} {y : MethodName} {cb : ByteArray} {cm : Nat} {cr : Option FieldType} {rm : Room} {P' : Addr → Heap → Prop} (argsL rest : List Value) (w1 : (Jvm.Cond.methodLink own i y).before a0 Z = true) (w2 : (Jvm.Cond.static y).before a0 Z = true) (w3 : (Jvm.Cond.initialized y.cls).before a0 Z = true) (w4 : (Jvm.Cond.code y cb cm cr).before a0 Z = true) (hy : y.cls ≠ "java/lang/invoke/MethodHandle" ∧ y.cls ≠ "java/lang/invoke/VarHandle") (hM : Met l Z y cb cm cr rm argsL.toArray h n0 (qA P')) (hd : decode bs pc = .ok (.invokestatic i, 3)) (pc' : Nat) (hp : pc' = pc + 3) (hlen : ∀ sig, parseMethodDescriptor y.desc = some sig → argsL.length = sig.parameters.length) (hL : L.size = ml) (W : Nat) (hW : 2 * 0 + (rest.map fun v => v.category).sum ≤ W) (hf : rm.frames + 1 ≤ R.frames) (hl : W + (cm + 11) + rm.locals ≤ R.locals) (cells' slots' : Nat) (hc' : cells' = cells + rm.cells) (hs' : slots' = slots + rm.slots) (hc : cells' ≤ R.cells) (hs : slots' ≤ R.slots) (hst : st = argsL.reverse ++ rest) (g : ∀ r h', P' r h' → Go p l e R s m args below meth c n0 Q h' cells' slots' pc' L (.ref r :: rest)) : Go p l e R s m args below meth c n0 Q h cells slots pc L st := by
  subst hst
  exact c_static0 C argsL rest w1 w2 w3 w4 hy hM hd pc' hp hlen hL W hW hf hl cells' slots' hc' hs' hc hs (fun v h' hq => by obtain ⟨r, rfl, q⟩ := hq; exact g r h' q)
theorem c_staticV (C : Ctx p l e R s m args below meth c Z own nm bs ml rt) {i : Nat} {y : MethodName} {cb : ByteArray} {cm : Nat} {cr : Option FieldType} {rm : Room} {P' : Heap → Prop} (argsL rest : List Value) (w1 : (Jvm.Cond.methodLink own i y).before a0 Z = true) (w2 : (Jvm.Cond.static y).before a0 Z = true) (w3 : (Jvm.Cond.initialized y.cls).before a0 Z = true) (w4 : (Jvm.Cond.code y cb cm cr).before a0 Z = true) (hy : y.cls ≠ "java/lang/invoke/MethodHandle" ∧ y.cls ≠ "java/lang/invoke/VarHandle") (hM : Met l Z y cb cm cr rm argsL.toArray h n0 (qV P')) (hd : decode bs pc = .ok (.invokestatic i, 3)) (pc' : Nat) (hp : pc' = pc + 3) (hlen : ∀ sig, parseMethodDescriptor y.desc = some sig → argsL.length = sig.parameters.length) (hL : L.size = ml) (W : Nat) (hW : 2 * 0 + (rest.map fun v => v.category).sum ≤ W) (hf : rm.frames + 1 ≤ R.frames) (hl : W + (cm + 11) + rm.locals ≤ R.locals) (cells' slots' : Nat) (hc' : cells' = cells + rm.cells) (hs' : slots' = slots + rm.slots) (hc : cells' ≤ R.cells) (hs : slots' ≤ R.slots) (hst : st = argsL.reverse ++ rest) (g : ∀ h', P' h' → Go p l e R s m args below meth c n0 Q h' cells' slots' pc' L rest) : Go p l e R s m args below meth c n0 Q h cells slots pc L st := by
  subst hst
  exact c_static0 C argsL rest w1 w2 w3 w4 hy hM hd pc' hp hlen hL W hW hf hl cells' slots' hc' hs' hc hs (fun v h' hq => by obtain ⟨rfl, q⟩ := hq; exact g h' q)
theorem c_specialV (C : Ctx p l e R s m args below meth c Z own nm bs ml rt) {i : Nat} {y : MethodName} {cb : ByteArray} {cm : Nat} {rm : Room} {P' : Heap → Prop} (a : Addr) (argsL rest : List Value) (hin : y.name = "<init>") (w1 : (Jvm.Cond.methodLink own i y).before a0 Z = true) (w2 : (Jvm.Cond.instanceMethod y).before a0 Z = true) (w3 : (Jvm.Cond.initialized y.cls).before a0 Z = true) (w4 : (Jvm.Cond.code y cb cm none).before a0 Z = true) (hy : y.cls ≠ "java/lang/invoke/MethodHandle" ∧ y.cls ≠ "java/lang/invoke/VarHandle") (hM : Met l Z y cb cm none rm (.ref a :: argsL).toArray h n0 (qV P')) (hd : decode bs pc = .ok (.invokespecial i, 3)) (pc' : Nat) (hp : pc' = pc + 3) (hlen : ∀ sig, parseMethodDescriptor y.desc = some sig → argsL.length = sig.parameters.length) (hL : L.size = ml) (W : Nat) (hW : 2 * 0 + (rest.map fun v => v.category).sum ≤ W) (hf : rm.frames + 1 ≤ R.frames) (hl : W + (cm + 11) + rm.locals ≤ R.locals) (cells' slots' : Nat) (hc' : cells' = cells + rm.cells) (hs' : slots' = slots + rm.slots) (hc : cells' ≤ R.cells) (hs : slots' ≤ R.slots) (hst : st = argsL.reverse ++ .ref a :: rest) (g : ∀ h', P' h' → Go p l e R s m args below meth c n0 Q h' cells' slots' pc' L rest) : Go p l e R s m args below meth c n0 Q h cells slots pc L st := by
  subst hst
  exact c_special0 C a argsL rest hin w1 w2 w3 w4 hy hM hd pc' hp hlen hL W hW hf hl cells' slots' hc' hs' hc hs (fun v h' hq => by obtain ⟨rfl, q⟩ := hq; exact g h' q)
theorem c_virtualI (C : Ctx p l e R s m args below meth c Z own nm bs ml rt) {i : Nat} {K : String} {y : MethodName} {cb : ByteArray} {cm : Nat} {cr : Option FieldType} {rm : Room} {P' : Int32 → Heap → Prop} (a : Addr) (argsL rest : List Value) (w1 : (Jvm.Cond.methodLink own i y).before a0 Z = true) (wd : (Jvm.Cond.declares y).before a0 Z = true) (ws : (Jvm.Cond.selects K y y).before a0 Z = true) (w2 : (Jvm.Cond.instanceMethod y).before a0 Z = true) (w3 : (Jvm.Cond.initialized y.cls).before a0 Z = true) (w4 : (Jvm.Cond.code y cb cm cr).before a0 Z = true) (hy : y.cls ≠ "java/lang/invoke/MethodHandle" ∧ y.cls ≠ "java/lang/invoke/VarHandle") (E : Exa Z h a K) (hM : Met l Z y cb cm cr rm (.ref a :: argsL).toArray h n0 (qI P')) (hd : decode bs pc = .ok (.invokevirtual i, 3)) (pc' : Nat) (hp : pc' = pc + 3) (hlen : ∀ sig, parseMethodDescriptor y.desc = some sig → argsL.length = sig.parameters.length) (hL : L.size = ml) (W : Nat) (hW : 2 * 0 + (rest.map fun v => v.category).sum ≤ W) (hf : rm.frames + 1 ≤ R.frames) (hl : W + (cm + 11) + rm.locals ≤ R.locals) (cells' slots' : Nat) (hc' : cells' = cells + rm.cells) (hs' : slots' = slots + rm.slots) (hc : cells' ≤ R.cells) (hs : slots' ≤ R.slots) (hst : st = argsL.reverse ++ .ref a :: rest) (g : ∀ r h', P' r h' → Go p l e R s m args below meth c n0 Q h' cells' slots' pc' L (.int r :: rest)) : Go p l e R s m args below meth c n0 Q h cells slots pc L st := by
  subst hst
  exact c_virtual0 C a argsL rest w1 wd ws w2 w3 w4 hy E hM hd pc' hp hlen hL W hW hf hl cells' slots' hc' hs' hc hs (fun v h' hq => by obtain ⟨r, rfl, q⟩ := hq; exact g r h' q)
theorem c_virtualJ (C : Ctx p l e R s m args below meth c Z own nm bs ml rt) {i : Nat} {K : String} {y : MethodName} {cb : ByteArray} {cm : Nat} {cr : Option FieldType} {rm : Room} {P' : Int64 → Heap → Prop} (a : Addr) (argsL rest : List Value) (w1 : (Jvm.Cond.methodLink own i y).before a0 Z = true) (wd : (Jvm.Cond.declares y).before a0 Z = true) (ws : (Jvm.Cond.selects K y y).before a0 Z = true) (w2 : (Jvm.Cond.instanceMethod y).before a0 Z = true) (w3 : (Jvm.Cond.initialized y.cls).before a0 Z = true) (w4 : (Jvm.Cond.code y cb cm cr).before a0 Z = true) (hy : y.cls ≠ "java/lang/invoke/MethodHandle" ∧ y.cls ≠ "java/lang/invoke/VarHandle") (E : Exa Z h a K) (hM : Met l Z y cb cm cr rm (.ref a :: argsL).toArray h n0 (qJ P')) (hd : decode bs pc = .ok (.invokevirtual i, 3)) (pc' : Nat) (hp : pc' = pc + 3) (hlen : ∀ sig, parseMethodDescriptor y.desc = some sig → argsL.length = sig.parameters.length) (hL : L.size = ml) (W : Nat) (hW : 2 * 0 + (rest.map fun v => v.category).sum ≤ W) (hf : rm.frames + 1 ≤ R.frames) (hl : W + (cm + 11) + rm.locals ≤ R.locals) (cells' slots' : Nat) (hc' : cells' = cells + rm.cells) (hs' : slots' = slots + rm.slots) (hc : cells' ≤ R.cells) (hs : slots' ≤ R.slots) (hst : st = argsL.reverse ++ .ref a :: rest) (g : ∀ r h', P' r h' → Go p l e R s m args below meth c n0 Q h' cells' slots' pc' L (.long r :: rest)) : Go p l e R s m args below meth c n0 Q h cells slots pc L st := by
  subst hst
  exact c_virtual0 C a argsL rest w1 wd ws w2 w3 w4 hy E hM hd pc' hp hlen hL W hW hf hl cells' slots' hc' hs' hc hs (fun v h' hq => by obtain ⟨r, rfl, q⟩ := hq; exact g r h' q)
theorem c_virtualA (C : Ctx p l e R s m args below meth c Z own nm bs ml rt) {i : Nat} {K : String} {y : MethodName} {cb : ByteArray} {cm : Nat} {cr : Option FieldType} {rm : Room} {P' : Addr → Heap → Prop} (a : Addr) (argsL rest : List Value) (w1 : (Jvm.Cond.methodLink own i y).before a0 Z = true) (wd : (Jvm.Cond.declares y).before a0 Z = true) (ws : (Jvm.Cond.selects K y y).before a0 Z = true) (w2 : (Jvm.Cond.instanceMethod y).before a0 Z = true) (w3 : (Jvm.Cond.initialized y.cls).before a0 Z = true) (w4 : (Jvm.Cond.code y cb cm cr).before a0 Z = true) (hy : y.cls ≠ "java/lang/invoke/MethodHandle" ∧ y.cls ≠ "java/lang/invoke/VarHandle") (E : Exa Z h a K) (hM : Met l Z y cb cm cr rm (.ref a :: argsL).toArray h n0 (qA P')) (hd : decode bs pc = .ok (.invokevirtual i, 3)) (pc' : Nat) (hp : pc' = pc + 3) (hlen : ∀ sig, parseMethodDescriptor y.desc = some sig → argsL.length = sig.parameters.length) (hL : L.size = ml) (W : Nat) (hW : 2 * 0 + (rest.map fun v => v.category).sum ≤ W) (hf : rm.frames + 1 ≤ R.frames) (hl : W + (cm + 11) + rm.locals ≤ R.locals) (cells' slots' : Nat) (hc' : cells' = cells + rm.cells) (hs' : slots' = slots + rm.slots) (hc : cells' ≤ R.cells) (hs : slots' ≤ R.slots) (hst : st = argsL.reverse ++ .ref a :: rest) (g : ∀ r h', P' r h' → Go p l e R s m args below meth c n0 Q h' cells' slots' pc' L (.ref r :: rest)) : Go p l e R s m args below meth c n0 Q h cells slots pc L st := by
  subst hst
  exact c_virtual0 C a argsL rest w1 wd ws w2 w3 w4 hy E hM hd pc' hp hlen hL W hW hf hl cells' slots' hc' hs' hc hs (fun v h' hq => by obtain ⟨r, rfl, q⟩ := hq; exact g r h' q)
theorem c_virtualV (C : Ctx p l e R s m args below meth c Z own nm bs ml rt) {i : Nat} {K : String} {y : MethodName} {cb : ByteArray} {cm : Nat} {cr : Option FieldType} {rm : Room} {P' : Heap → Prop} (a : Addr) (argsL rest : List Value) (w1 : (Jvm.Cond.methodLink own i y).before a0 Z = true) (wd : (Jvm.Cond.declares y).before a0 Z = true) (ws : (Jvm.Cond.selects K y y).before a0 Z = true) (w2 : (Jvm.Cond.instanceMethod y).before a0 Z = true) (w3 : (Jvm.Cond.initialized y.cls).before a0 Z = true) (w4 : (Jvm.Cond.code y cb cm cr).before a0 Z = true) (hy : y.cls ≠ "java/lang/invoke/MethodHandle" ∧ y.cls ≠ "java/lang/invoke/VarHandle") (E : Exa Z h a K) (hM : Met l Z y cb cm cr rm (.ref a :: argsL).toArray h n0 (qV P')) (hd : decode bs pc = .ok (.invokevirtual i, 3)) (pc' : Nat) (hp : pc' = pc + 3) (hlen : ∀ sig, parseMethodDescriptor y.desc = some sig → argsL.length = sig.parameters.length) (hL : L.size = ml) (W : Nat) (hW : 2 * 0 + (rest.map fun v => v.category).sum ≤ W) (hf : rm.frames + 1 ≤ R.frames) (hl : W + (cm + 11) + rm.locals ≤ R.locals) (cells' slots' : Nat) (hc' : cells' = cells + rm.cells) (hs' : slots' = slots + rm.slots) (hc : cells' ≤ R.cells) (hs : slots' ≤ R.slots) (hst : st = argsL.reverse ++ .ref a :: rest) (g : ∀ h', P' h' → Go p l e R s m args below meth c n0 Q h' cells' slots' pc' L rest) : Go p l e R s m args below meth c n0 Q h cells slots pc L st := by
  subst hst
  exact c_virtual0 C a argsL rest w1 wd ws w2 w3 w4 hy E hM hd pc' hp hlen hL W hW hf hl cells' slots' hc' hs' hc hs (fun v h' hq => by obtain ⟨rfl, q⟩ := hq; exact g h' q)
end OwnBase
end Jvm.Pilot.@@N@@.OwnW
namespace Jvm.Pilot.@@N@@
open Jvm Jvm.ClassFile Sem Op Lib Jvm.Free Jvm.Stand Jvm.LawKit Jvm.RoadKit Jvm.Pilot.@@N@@.OwnW Bundle Jvm.Pilot.@@N@@.Jvm.D
abbrev nt (x : Int64) : Nat := x.toBitVec.toNat
def cmpS (L S c : Nat) : Nat := if L = S then c else if S < L then 1 else 0
def NB (wv : Nat → Int64) (k : Nat) : Nat := if k < 64 then nt (wv (k / 16)) / 16 ^ (k % 16) % 16 else 0
def cy (wv : Nat → Int64) : Nat → Nat
  | 0 => 0
  | k + 1 => if 8 ≤ NB wv k + cy wv k then 1 else 0
def sev : Nat → Nat
  | 0 => 0
  | r + 1 => 7 * 16 ^ r + sev r
theorem cy_le (wv : Nat → Int64) : ∀ k, cy wv k ≤ 1
  | 0 => Nat.zero_le 1
  | k + 1 => by rw [cy]; split <;> omega
theorem NB_lt (wv : Nat → Int64) (k : Nat) : NB wv k < 16 := by
  unfold NB; split
  · exact Nat.mod_lt _ (by decide)
  · decide
theorem sev_lt : ∀ r, sev r < 16 ^ r
  | 0 => by decide
  | r + 1 => by
    have := sev_lt r
    rw [sev, Nat.pow_succ]; omega
theorem cy_cmp {wv : Nat → Int64} {q : Nat} (hq : q < 4) : ∀ r, r ≤ 16 → cy wv (16 * q + r) = cmpS (nt (wv q) % 16 ^ r) (sev r) (cy wv (16 * q))
  | 0, _ => by
    rw [Nat.pow_zero, Nat.mod_one, sev, cmpS, if_pos rfl]; rfl
  | r + 1, h => by
    have ih := cy_cmp (wv := wv) hq r (by omega)
    have e1 : NB wv (16 * q + r) = nt (wv q) / 16 ^ r % 16 := by
      have a1 : (16 * q + r) / 16 = q := by omega
      have a2 : (16 * q + r) % 16 = r := by omega
      rw [NB, if_pos (by omega), a1, a2]
    have e2 : cy wv (16 * q + (r + 1)) = if 8 ≤ NB wv (16 * q + r) + cy wv (16 * q + r) then 1 else 0 := rfl
    have hn : nt (wv q) / 16 ^ r % 16 < 16 := Nat.mod_lt _ (by decide)
    have hL : nt (wv q) % 16 ^ r < 16 ^ r := Nat.mod_lt _ (Nat.pow_pos (by decide))
    have hS := sev_lt r
    have hc := cy_le wv (16 * q)
    rw [e2, e1, ih, Nat.mod_pow_succ, sev]
    generalize nt (wv q) / 16 ^ r % 16 = n at *
    generalize nt (wv q) % 16 ^ r = L at *
    generalize sev r = S at *
    generalize cy wv (16 * q) = c0 at *
    generalize hB : 16 ^ r = B at *
    unfold cmpS
    rcases Nat.lt_trichotomy n 7 with h7 | h7 | h7
    · have hm : B * n ≤ B * 6 := Nat.mul_le_mul_left B (by omega)
      rw [if_neg (show ¬ L + B * n = 7 * B + S by omega), if_neg (show ¬ 7 * B + S < L + B * n by omega)]
      split
      · rw [if_neg (by omega)]
      · split <;> (rw [if_neg (by omega)])
    · subst h7
      by_cases hLS : L = S
      · rw [if_pos hLS, if_pos (show L + B * 7 = 7 * B + S by omega)]
        split <;> omega
      · rw [if_neg hLS, if_neg (show ¬ L + B * 7 = 7 * B + S by omega)]
        by_cases hlt : S < L
        · rw [if_pos hlt, if_pos (by decide), if_pos (show 7 * B + S < L + B * 7 by omega)]
        · rw [if_neg hlt, if_neg (by decide), if_neg (show ¬ 7 * B + S < L + B * 7 by omega)]
    · have hm : B * 8 ≤ B * n := Nat.mul_le_mul_left B (by omega)
      rw [if_neg (show ¬ L + B * n = 7 * B + S by omega), if_pos (show 7 * B + S < L + B * n by omega)]
      split
      · rw [if_pos (by omega)]
      · split <;> (rw [if_pos (by omega)])
theorem sev_mod : ∀ r, r < 17 → 8608480567731124087 % 16 ^ r = sev r := by decide +kernel
theorem own_word {wv : Nat → Int64} {t : Nat} {r : Int32} (h : Ix r (cmpS (nt (wv t)) (nt (8608480567731124087 : Int64)) (cy wv (16 * t)))) (ht : t < 4 := by decide) : Ix r (cy wv (16 * (t + 1))) := by
  have e := cy_cmp (wv := wv) ht 16 (Nat.le_refl _)
  have h1 : nt (wv t) % 16 ^ 16 = nt (wv t) := Nat.mod_eq_of_lt (wv t).toBitVec.isLt
  have h2 : sev 16 = nt (8608480567731124087 : Int64) := by decide +kernel
  rw [h1, h2] at e
  have e3 : 16 * (t + 1) = 16 * t + 16 := by omega
  rw [e3, e]; exact h
theorem own_part {wv : Nat → Int64} {k q r : Nat} {x : Int32} (hq : q < 4) (h : Ix x (cmpS (nt (wv q) % 16 ^ r) (nt (8608480567731124087 : Int64) % 16 ^ r) (cy wv (16 * q)))) (hk : k = 16 * q + r) (hr : r < 16) : Ix x (cy wv k) := by
  have e := cy_cmp (wv := wv) hq r (by omega)
  have h2 : nt (8608480567731124087 : Int64) = 8608480567731124087 := by decide +kernel
  rw [h2, sev_mod r (by omega)] at h
  rw [hk, e]; exact h
theorem ixn {x : Int32} {k : Nat} (h : Ix x k) : x.toBitVec.toNat = k := by
  have h4 := h.toInt
  rw [← Int32.toInt_toBitVec, BitVec.toInt_eq_toNat_cond] at h4
  have h5 := x.toBitVec.isLt
  split at h4 <;> omega
theorem ix_of {x : Int32} {k : Nat} (h : x.toBitVec.toNat = k) (hk : k < 2147483648) : Ix x k := by
  apply Ix.of
  rw [← Int32.toInt_toBitVec, BitVec.toInt_eq_toNat_of_lt (by omega), h]
theorem own_shr4 {x : Int32} {k : Nat} (h : Ix x k) (hk : k < 1000) : Ix (x >>> ((4 : Int32) &&& 31)) (k / 16) := by
  apply Ix.of
  have h1 : (x >>> ((4 : Int32) &&& 31)).toBitVec = x.toBitVec.sshiftRight 4 := rfl
  rw [← Int32.toInt_toBitVec, h1, BitVec.toInt_sshiftRight, Int32.toInt_toBitVec, h.toInt, Int.shiftRight_eq_div_pow]
  omega
theorem own_and15 {x : Int32} {k : Nat} (h : Ix x k) : Ix (x &&& 15) (k % 16) := by
  refine ix_of ?_ (by omega)
  rw [Int32.toBitVec_and, BitVec.toNat_and, ixn h]
  exact Nat.and_two_pow_sub_one_eq_mod k 4
theorem own_lit {x : Int32} {r : Nat} (h : Ix x r) (y : Int32) (hy : Ix y r) : x = y := (h.eq hy).mpr rfl
theorem own_16 {r : Nat} (h : r < 16) : r = 0 ∨ r = 1 ∨ r = 2 ∨ r = 3 ∨ r = 4 ∨ r = 5 ∨ r = 6 ∨ r = 7 ∨ r = 8 ∨ r = 9 ∨ r = 10 ∨ r = 11 ∨ r = 12 ∨ r = 13 ∨ r = 14 ∨ r = 15 := by omega
theorem own_mask {x : Int32} {r : Nat} (h : Ix x r) (hr : r < 16) : ∀ y : Int64, nt (y &&& (shlL (1 : Int64) ((4 : Int32) * x) - (1 : Int64))) = nt y % 16 ^ r := by
  intro y
  have hm : (shlL (1 : Int64) ((4 : Int32) * x) - (1 : Int64)).toBitVec.toNat = 2 ^ (4 * r) - 1 := by
    rcases own_16 hr with rfl | rfl | rfl | rfl | rfl | rfl | rfl | rfl | rfl | rfl | rfl | rfl | rfl | rfl | rfl | rfl
    · rw [own_lit h 0 ⟨by decide, by decide⟩]; rfl
    · rw [own_lit h 1 ⟨by decide, by decide⟩]; rfl
    · rw [own_lit h 2 ⟨by decide, by decide⟩]; rfl
    · rw [own_lit h 3 ⟨by decide, by decide⟩]; rfl
    · rw [own_lit h 4 ⟨by decide, by decide⟩]; rfl
    · rw [own_lit h 5 ⟨by decide, by decide⟩]; rfl
    · rw [own_lit h 6 ⟨by decide, by decide⟩]; rfl
    · rw [own_lit h 7 ⟨by decide, by decide⟩]; rfl
    · rw [own_lit h 8 ⟨by decide, by decide⟩]; rfl
    · rw [own_lit h 9 ⟨by decide, by decide⟩]; rfl
    · rw [own_lit h 10 ⟨by decide, by decide⟩]; rfl
    · rw [own_lit h 11 ⟨by decide, by decide⟩]; rfl
    · rw [own_lit h 12 ⟨by decide, by decide⟩]; rfl
    · rw [own_lit h 13 ⟨by decide, by decide⟩]; rfl
    · rw [own_lit h 14 ⟨by decide, by decide⟩]; rfl
    · rw [own_lit h 15 ⟨by decide, by decide⟩]; rfl
  show (y &&& (shlL (1 : Int64) ((4 : Int32) * x) - (1 : Int64))).toBitVec.toNat = _
  rw [Int64.toBitVec_and, BitVec.toNat_and, hm, Nat.and_two_pow_sub_one_eq_mod, Nat.pow_mul]
theorem nt_and15 (x : Int64) : nt (x &&& 15) = nt x % 16 := by
  show (x &&& 15).toBitVec.toNat = _
  rw [Int64.toBitVec_and, BitVec.toNat_and]
  exact Nat.and_two_pow_sub_one_eq_mod _ 4
theorem own_ush4 {x : Int64} {p : Int32} {r : Nat} (h : Ix p r) (hr : r < 16) : nt (ushL x ((4 : Int32) * p)) = nt x / 16 ^ r := by
  have hm : (ushL x ((4 : Int32) * p)).toBitVec = x.toBitVec >>> (4 * r) := by
    rcases own_16 hr with rfl | rfl | rfl | rfl | rfl | rfl | rfl | rfl | rfl | rfl | rfl | rfl | rfl | rfl | rfl | rfl
    · rw [own_lit h 0 ⟨by decide, by decide⟩]; rfl
    · rw [own_lit h 1 ⟨by decide, by decide⟩]; rfl
    · rw [own_lit h 2 ⟨by decide, by decide⟩]; rfl
    · rw [own_lit h 3 ⟨by decide, by decide⟩]; rfl
    · rw [own_lit h 4 ⟨by decide, by decide⟩]; rfl
    · rw [own_lit h 5 ⟨by decide, by decide⟩]; rfl
    · rw [own_lit h 6 ⟨by decide, by decide⟩]; rfl
    · rw [own_lit h 7 ⟨by decide, by decide⟩]; rfl
    · rw [own_lit h 8 ⟨by decide, by decide⟩]; rfl
    · rw [own_lit h 9 ⟨by decide, by decide⟩]; rfl
    · rw [own_lit h 10 ⟨by decide, by decide⟩]; rfl
    · rw [own_lit h 11 ⟨by decide, by decide⟩]; rfl
    · rw [own_lit h 12 ⟨by decide, by decide⟩]; rfl
    · rw [own_lit h 13 ⟨by decide, by decide⟩]; rfl
    · rw [own_lit h 14 ⟨by decide, by decide⟩]; rfl
    · rw [own_lit h 15 ⟨by decide, by decide⟩]; rfl
  show (ushL x ((4 : Int32) * p)).toBitVec.toNat = _
  rw [hm, BitVec.toNat_ushiftRight, Nat.shiftRight_eq_div_pow, Nat.pow_mul]
theorem ix_low {z : Int64} {n : Nat} (h : nt z = n) (hn : n < 256) : Ix z.toInt32 n := by
  apply Ix.of
  have h' : z.toBitVec.toNat = n := h
  have h2 : z.toInt = (nt z : Int) := by
    rw [← Int64.toInt_toBitVec]; exact BitVec.toInt_eq_toNat_of_lt (by omega)
  rw [Int64.toInt_toInt32, h2, h]
  exact Int.bmod_eq_of_le (by omega) (by omega)
theorem own_nib {wv : Nat → Int64} {k : Nat} {p : Int32} (x : Ix p k) (hk : k < 64) : Ix (ushL (wv (k / 16)) ((4 : Int32) * (p &&& (15 : Int32))) &&& (15 : Int64)).toInt32 (NB wv k) := by
  refine ix_low ?_ (by have := NB_lt wv k; omega)
  rw [nt_and15, own_ush4 (own_and15 x) (Nat.mod_lt _ (by decide)), NB, if_pos hk]
theorem own_nb64 {wv : Nat → Int64} {k : Nat} (h : ¬ k < 64) : Ix (0 : Int32) (NB wv k) := by
  rw [NB, if_neg h]; exact ⟨by decide, by decide⟩
theorem own_pred {p : Int32} {N : Nat} (x : Ix p N) (h : 1 ≤ N) : Ix (p - 1) (N - 1) := x.sub (b := 1) (j := 1) ⟨by decide, by decide⟩ h (by have := x.toInt; have := Int32.toInt_lt p; omega)
theorem own_sum {wv : Nat → Int64} {k : Nat} {a b : Int32} (x : Ix a (NB wv k)) (y : Ix b (cy wv k)) : (a + b).toInt = (NB wv k : Int) + (cy wv k : Int) := by
  have h1 := NB_lt wv k
  have h2 := cy_le wv k
  rw [(x.add y (by omega)).toInt]; omega
theorem own_diff {wv : Nat → Int64} {k : Nat} {v r : Int32} (e : v.toInt = (NB wv k : Int) + (cy wv k : Int)) (y : Ix r (cy wv (k + 1))) : (v - (16 : Int32) * r).toInt = (NB wv k : Int) + (cy wv k : Int) - 16 * (cy wv (k + 1) : Int) := by
  have h1 := NB_lt wv k
  have h2 := cy_le wv k
  have h3 := cy_le wv (k + 1)
  have y2 : Ix ((16 : Int32) * r) (16 * cy wv (k + 1)) := Ix.mul ⟨by decide, by decide⟩ y (by omega)
  rw [Int32.toInt_sub, e, y2.toInt]
  have : ((16 * cy wv (k + 1) : Nat) : Int) = 16 * (cy wv (k + 1) : Int) := by omega
  rw [this]
  exact Int.bmod_eq_of_le (by omega) (by omega)
theorem own_cnt {v x : Int32} (q : v = (64 : Int32) + (x &&& (1 : Int32))) : ∃ N, (N = 64 ∨ N = 65) ∧ Ix v N := by
  rcases and_one x with h | h
  · exact ⟨64, Or.inl rfl, by rw [q, h]; exact ⟨by decide, by decide⟩⟩
  · exact ⟨65, Or.inr rfl, by rw [q, h]; exact ⟨by decide, by decide⟩⟩
/-! step -/
theorem own_flip (x : Int64) : (x ^^^ (-9223372036854775808 : Int64)).toInt = (nt x : Int) - 9223372036854775808 := by
  have hM : (-9223372036854775808 : Int64).toBitVec.toNat = 2 ^ 63 := rfl
  have hx : nt x < 18446744073709551616 := x.toBitVec.isLt
  have e : (x ^^^ (-9223372036854775808 : Int64)).toBitVec.toNat = nt x ^^^ 2 ^ 63 := by
    rw [Int64.toBitVec_xor, BitVec.toNat_xor, hM]
  have d1 : (nt x ^^^ 2 ^ 63) / 2 ^ 63 = (nt x / 2 ^ 63) ^^^ 1 := by
    rw [Nat.xor_div_two_pow]
  have d2 : (nt x ^^^ 2 ^ 63) % 2 ^ 63 = nt x % 2 ^ 63 := by
    rw [Nat.xor_mod_two_pow, Nat.mod_self, Nat.xor_zero]
  have ha : nt x / 2 ^ 63 = 0 ∨ nt x / 2 ^ 63 = 1 := by omega
  rw [← Int64.toInt_toBitVec, BitVec.toInt_eq_toNat_cond, e]
  rcases ha with ha | ha
  · rw [ha] at d1
    have d1' : (nt x ^^^ 2 ^ 63) / 2 ^ 63 = 1 := d1
    split <;> omega
  · rw [ha] at d1
    have d1' : (nt x ^^^ 2 ^ 63) / 2 ^ 63 = 0 := d1
    split <;> omega
theorem own_ult (x y : Int64) : (y ^^^ (-9223372036854775808 : Int64)) < (x ^^^ (-9223372036854775808 : Int64)) ↔ nt y < nt x := by
  rw [Int64.lt_iff_toInt_lt, own_flip, own_flip]; omega
theorem nt_inj {x y : Int64} (h : nt x = nt y) : x = y := Int64.toBitVec_inj.mp (BitVec.eq_of_toNat_eq h)
theorem own_st1 {p : Int32} {x y : Int64} {c : Nat} (h : Ix p c) (k : x = y) : Ix p (cmpS (nt x) (nt y) c) := by
  rw [cmpS, if_pos (by rw [k])]; exact h
theorem own_st2 {x y : Int64} {c : Nat} (k : ¬ x = y) (k2 : (y ^^^ (-9223372036854775808 : Int64)) < (x ^^^ (-9223372036854775808 : Int64))) : Ix (1 : Int32) (cmpS (nt x) (nt y) c) := by
  rw [cmpS, if_neg (fun e => k (nt_inj e)), if_pos ((own_ult x y).mp k2)]; exact ⟨by decide, by decide⟩
theorem own_st3 {x y : Int64} {c : Nat} (k : ¬ x = y) (k2 : ¬ (y ^^^ (-9223372036854775808 : Int64)) < (x ^^^ (-9223372036854775808 : Int64))) : Ix (0 : Int32) (cmpS (nt x) (nt y) c) := by
  rw [cmpS, if_neg (fun e => k (nt_inj e)), if_neg (fun e => k2 ((own_ult x y).mpr e))]; exact ⟨by decide, by decide⟩
/-! the bytes -/
def bt (v : Int64) (t : Nat) : Int32 := if t = 0 then nar .byte v.toInt32.toInt8.toInt32 else nar .byte (ushL v (Int32.ofNat (8 * t))).toInt32.toInt8.toInt32
def PUT (f : Nat → Int32) (t0 : Nat) (v : Int64) : Nat → Int32 := upn (upn (upn (upn (upn (upn (upn (upn f (t0 + 0) (bt v 0)) (t0 + 1) (bt v 1)) (t0 + 2) (bt v 2)) (t0 + 3) (bt v 3)) (t0 + 4) (bt v 4)) (t0 + 5) (bt v 5)) (t0 + 6) (bt v 6)) (t0 + 7) (bt v 7)
def g4 (a b c d : Int64) (j : Nat) : Int64 := if j = 0 then a else if j = 1 then b else if j = 2 then c else d
def scw (wv : Nat → Int64) (j : Nat) : Int32 := bt (wv (j / 8)) (j % 8)
theorem PUT_in {f : Nat → Int32} {t0 t : Nat} {v : Int64} (h : t < 8) : PUT f t0 v (t0 + t) = bt v t := by
  have : t = 0 ∨ t = 1 ∨ t = 2 ∨ t = 3 ∨ t = 4 ∨ t = 5 ∨ t = 6 ∨ t = 7 := by omega
  unfold PUT upn
  rcases this with rfl | rfl | rfl | rfl | rfl | rfl | rfl | rfl <;> simp
theorem PUT_out {f : Nat → Int32} {t0 j : Nat} {v : Int64} (h : j < t0 ∨ t0 + 8 ≤ j) : PUT f t0 v j = f j := by
  unfold PUT upn
  rw [if_neg (by omega), if_neg (by omega), if_neg (by omega), if_neg (by omega), if_neg (by omega), if_neg (by omega), if_neg (by omega), if_neg (by omega)]
theorem put_sc {a b c d : Int64} {j : Nat} (h : j < 32) : PUT (PUT (PUT (PUT (fun _ => (0 : Int32)) 0 a) 8 b) 16 c) 24 d j = scw (g4 a b c d) j := by
  unfold scw
  by_cases h3 : 24 ≤ j
  · have e : j = 24 + j % 8 := by omega
    have e2 : j / 8 = 3 := by omega
    have := PUT_in (f := PUT (PUT (PUT (fun _ => (0 : Int32)) 0 a) 8 b) 16 c) (t0 := 24) (v := d) (t := j % 8) (by omega)
    rw [← e] at this
    rw [this, e2]; rfl
  · rw [PUT_out (by omega)]
    by_cases h2 : 16 ≤ j
    · have e : j = 16 + j % 8 := by omega
      have e2 : j / 8 = 2 := by omega
      have := PUT_in (f := PUT (PUT (fun _ => (0 : Int32)) 0 a) 8 b) (t0 := 16) (v := c) (t := j % 8) (by omega)
      rw [← e] at this
      rw [this, e2]; rfl
    · rw [PUT_out (by omega)]
      by_cases h1 : 8 ≤ j
      · have e : j = 8 + j % 8 := by omega
        have e2 : j / 8 = 1 := by omega
        have := PUT_in (f := PUT (fun _ => (0 : Int32)) 0 a) (t0 := 8) (v := b) (t := j % 8) (by omega)
        rw [← e] at this
        rw [this, e2]; rfl
      · rw [PUT_out (by omega)]
        have e : j = 0 + j % 8 := by omega
        have e2 : j / 8 = 0 := by omega
        have := PUT_in (f := fun _ => (0 : Int32)) (t0 := 0) (v := a) (t := j % 8) (by omega)
        rw [← e] at this
        rw [this, e2]; rfl
def nbI (sc : Nat → Int32) (j : Nat) : Int32 := if j % 2 = 0 then sc (j / 2) &&& 15 else (sc (j / 2) >>> ((4 : Int32) &&& 31)) &&& 15
def dg1 (sc : Nat → Int32) (i j : Nat) : Int32 := if j < 2 * i then nbI sc j else 0
def nb0 (sc : Nat → Int32) (j : Nat) : Int32 := if j < 64 then nbI sc j else 0
def cI (sc : Nat → Int32) : Nat → Int32
  | 0 => 0
  | j + 1 => ((nb0 sc j + cI sc j) + 8) >>> ((4 : Int32) &&& 31)
def dI (sc : Nat → Int32) (j : Nat) : Int32 := (nb0 sc j + cI sc j) - (cI sc (j + 1) <<< ((4 : Int32) &&& 31))
def dg2 (sc : Nat → Int32) (y j : Nat) : Int32 := if j < y then dI sc j else nb0 sc j
def FD (sc : Nat → Int32) (N j : Nat) : Int32 := if j = N - 1 then nb0 sc (N - 1) + cI sc (N - 1) else dg2 sc (N - 1) j
theorem dg12 {sc : Nat → Int32} {j : Nat} : dg1 sc 32 j = dg2 sc 0 j := by
  unfold dg1 dg2 nb0
  rw [if_neg (Nat.not_lt_zero j)]
theorem dg1_up {sc : Nat → Int32} {i j : Nat} : upn (upn (dg1 sc i) (2 * i) (sc i &&& 15)) (2 * i + 1) ((sc i >>> ((4 : Int32) &&& 31)) &&& 15) j = dg1 sc (i + 1) j := by
  unfold upn dg1
  by_cases h1 : j = 2 * i + 1
  · rw [if_pos h1, if_pos (by omega), nbI, if_neg (by omega)]
    have : j / 2 = i := by omega
    rw [this]
  · rw [if_neg h1]
    by_cases h2 : j = 2 * i
    · rw [if_pos h2, if_pos (by omega), nbI, if_pos (by omega)]
      have : j / 2 = i := by omega
      rw [this]
    · rw [if_neg h2]
      by_cases h3 : j < 2 * i
      · rw [if_pos h3, if_pos (by omega)]
      · rw [if_neg h3, if_neg (by omega)]
theorem dg2_at {sc : Nat → Int32} {y : Nat} : dg2 sc y y = nb0 sc y := by rw [dg2, if_neg (Nat.lt_irrefl y)]
theorem dg2_up {sc : Nat → Int32} {y j : Nat} : updA (updA (fun j => Value.int (dg2 sc y j)) y (Value.int (nb0 sc y + cI sc y))) y (Value.int (nb0 sc y + cI sc y - (((nb0 sc y + cI sc y + (8 : Int32)) >>> ((4 : Int32) &&& 31)) <<< ((4 : Int32) &&& 31)))) j = Value.int (dg2 sc (y + 1) j) := by
  unfold updA
  by_cases h : j = y
  · rw [if_pos h, dg2, if_pos (by omega), h]; rfl
  · rw [if_neg h, if_neg h]
    show Value.int (dg2 sc y j) = _
    unfold dg2
    by_cases h2 : j < y
    · rw [if_pos h2, if_pos (by omega)]
    · rw [if_neg h2, if_neg (by omega)]
theorem FD_of {sc : Nat → Int32} {N j : Nat} : updA (fun j => Value.int (dg2 sc (N - 1) j)) (N - 1) (Value.int (nb0 sc (N - 1) + cI sc (N - 1))) j = Value.int (FD sc N j) := by
  unfold updA FD
  by_cases h : j = N - 1
  · rw [if_pos h, if_pos h]
  · rw [if_neg h, if_neg h]
/-! what the digits are -/
theorem nar2 (x : Int32) : nar .byte (x.toInt8.toInt32) = x.toInt8.toInt32 := by
  show x.toInt8.toInt32.toInt8.toInt32 = x.toInt8.toInt32
  rw [Int8.toInt8_toInt32]
theorem own_b32 (z : Int32) : z.toInt8.toInt32.toBitVec = (z.toBitVec.signExtend 8).signExtend 32 := rfl
theorem own_bit15 (i : Nat) : (15#32).getLsbD i = decide (i < 4) := by
  by_cases h : i < 4
  · have : i = 0 ∨ i = 1 ∨ i = 2 ∨ i = 3 := by omega
    rcases this with rfl | rfl | rfl | rfl <;> rfl
  · rw [decide_eq_false h]
    by_cases h2 : i < 32
    · have : ∀ k, k < 32 → ¬ k < 4 → (15#32).getLsbD k = false := by decide
      exact this i h2 h
    · exact BitVec.getLsbD_of_ge _ _ (by omega)
theorem own_lo (z : Int32) : (z.toInt8.toInt32 &&& 15).toBitVec.toNat = z.toBitVec.toNat % 16 := by
  have e : (z.toInt8.toInt32 &&& 15).toBitVec = z.toBitVec &&& 15#32 := by
    rw [Int32.toBitVec_and, own_b32]
    have h15 : (15 : Int32).toBitVec = 15#32 := rfl
    rw [h15]
    generalize z.toBitVec = X
    apply BitVec.eq_of_getLsbD_eq
    intro i hi
    rw [BitVec.getLsbD_and, BitVec.getLsbD_and, own_bit15]
    by_cases h : i < 4
    · rw [BitVec.getLsbD_signExtend, BitVec.getLsbD_signExtend]
      simp [h, hi, show i < 8 by omega]
    · simp [h]
  rw [e, BitVec.toNat_and]
  exact Nat.and_two_pow_sub_one_eq_mod _ 4
theorem own_hi (z : Int32) : ((z.toInt8.toInt32 >>> ((4 : Int32) &&& 31)) &&& 15).toBitVec.toNat = z.toBitVec.toNat / 16 % 16 := by
  have e : ((z.toInt8.toInt32 >>> ((4 : Int32) &&& 31)) &&& 15).toBitVec = (z.toBitVec >>> 4) &&& 15#32 := by
    rw [Int32.toBitVec_and]
    have h1 : (z.toInt8.toInt32 >>> ((4 : Int32) &&& 31)).toBitVec = ((z.toBitVec.signExtend 8).signExtend 32).sshiftRight 4 := rfl
    have h15 : (15 : Int32).toBitVec = 15#32 := rfl
    rw [h1, h15]
    generalize z.toBitVec = X
    apply BitVec.eq_of_getLsbD_eq
    intro i hi
    rw [BitVec.getLsbD_and, BitVec.getLsbD_and, own_bit15]
    by_cases h : i < 4
    · rw [BitVec.getLsbD_sshiftRight, BitVec.getLsbD_ushiftRight, BitVec.getLsbD_signExtend, BitVec.getLsbD_signExtend]
      simp [h, hi, show 4 + i < 8 by omega, show 4 + i < 32 by omega, show ¬ 32 ≤ i by omega]
    · simp [h]
  rw [e, BitVec.toNat_and, BitVec.toNat_ushiftRight, Nat.shiftRight_eq_div_pow]
  exact Nat.and_two_pow_sub_one_eq_mod _ 4
theorem own_z {v : Int64} {t : Nat} (ht : t < 8) : ∃ z : Int32, bt v t = z.toInt8.toInt32 ∧ z.toBitVec.toNat = nt v / 16 ^ (2 * t) % 4294967296 := by
  have key : ∀ w : Int64, w.toInt32.toBitVec.toNat = nt w % 4294967296 := fun w => by
    have h : w.toInt32.toBitVec = w.toBitVec.signExtend 32 := rfl
    rw [h, BitVec.signExtend_eq_setWidth_of_le _ (by decide), BitVec.toNat_setWidth]
  by_cases h0 : t = 0
  · refine ⟨v.toInt32, by rw [bt, if_pos h0, nar2], ?_⟩
    rw [key, h0, Nat.mul_zero, Nat.pow_zero, Nat.div_one]
  · refine ⟨(ushL v (Int32.ofNat (8 * t))).toInt32, by rw [bt, if_neg h0, nar2], ?_⟩
    have hs : (ushL v (Int32.ofNat (8 * t))).toBitVec = v.toBitVec >>> (8 * t) := by
      have : t = 1 ∨ t = 2 ∨ t = 3 ∨ t = 4 ∨ t = 5 ∨ t = 6 ∨ t = 7 := by omega
      rcases this with rfl | rfl | rfl | rfl | rfl | rfl | rfl <;> rfl
    have hn : nt (ushL v (Int32.ofNat (8 * t))) = nt v / 16 ^ (2 * t) := by
      show (ushL v (Int32.ofNat (8 * t))).toBitVec.toNat = _
      rw [hs, BitVec.toNat_ushiftRight, Nat.shiftRight_eq_div_pow, Nat.pow_mul, Nat.pow_mul 16 2 t]
    rw [key, hn]
theorem ix_nbI {wv : Nat → Int64} {k : Nat} (hk : k < 64) : Ix (nbI (scw wv) k) (NB wv k) := by
  have hlt := NB_lt wv k
  refine ix_of ?_ (by omega)
  rw [NB, if_pos hk]
  have a1 : k / 2 / 8 = k / 16 := by omega
  obtain ⟨z, z1, z2⟩ := own_z (v := wv (k / 16)) (t := k / 2 % 8) (Nat.mod_lt _ (by decide))
  unfold nbI scw
  rw [a1, z1]
  by_cases h : k % 2 = 0
  · rw [if_pos h, own_lo, z2]
    have a2 : 2 * (k / 2 % 8) = k % 16 := by omega
    rw [a2]; omega
  · rw [if_neg h, own_hi, z2]
    have a2 : k % 16 = 2 * (k / 2 % 8) + 1 := by omega
    rw [a2, Nat.pow_succ, ← Nat.div_div_eq_div_mul]; omega
theorem ix_nb0 {wv : Nat → Int64} {k : Nat} : Ix (nb0 (scw wv) k) (NB wv k) := by
  unfold nb0
  by_cases h : k < 64
  · rw [if_pos h]; exact ix_nbI h
  · rw [if_neg h]; exact own_nb64 h
theorem ix_cI {wv : Nat → Int64} (k : Nat) : Ix (cI (scw wv) k) (cy wv k) := by
  induction k with
  | zero =>
    have e1 : cI (scw wv) 0 = 0 := rfl
    have e2 : cy wv 0 = 0 := rfl
    rw [e1, e2]; exact ⟨by decide, by decide⟩
  | succ k ih =>
    have h1 := NB_lt wv k
    have h2 := cy_le wv k
    have x := own_shr4 (((ix_nb0 (wv := wv) (k := k)).add ih (by omega)).add (b := 8) (j := 8) ⟨by decide, by decide⟩ (by omega)) (by omega)
    have e : cy wv (k + 1) = (NB wv k + cy wv k + 8) / 16 := by
      rw [cy]; split <;> omega
    have e1 : cI (scw wv) (k + 1) = ((nb0 (scw wv) k + cI (scw wv) k) + 8) >>> ((4 : Int32) &&& 31) := rfl
    rw [e, e1]; exact x
theorem own_shl {c : Int32} {n : Nat} (h : Ix c n) (hn : n ≤ 1) : Ix (c <<< ((4 : Int32) &&& 31)) (16 * n) := by
  have : n = 0 ∨ n = 1 := by omega
  rcases this with rfl | rfl
  · rw [own_lit h 0 ⟨by decide, by decide⟩]; exact ⟨by decide, by decide⟩
  · rw [own_lit h 1 ⟨by decide, by decide⟩]; exact ⟨by decide, by decide⟩
theorem dI_int {wv : Nat → Int64} {k : Nat} : (dI (scw wv) k).toInt = (NB wv k : Int) + (cy wv k : Int) - 16 * (cy wv (k + 1) : Int) := by
  have h1 := NB_lt wv k
  have h2 := cy_le wv k
  have h3 := cy_le wv (k + 1)
  have s := own_sum (ix_nb0 (wv := wv) (k := k)) (ix_cI k)
  have d := own_shl (ix_cI (wv := wv) (k + 1)) h3
  unfold dI
  rw [Int32.toInt_sub, s, d.toInt]
  have : ((16 * cy wv (k + 1) : Nat) : Int) = 16 * (cy wv (k + 1) : Int) := by omega
  rw [this]
  exact Int.bmod_eq_of_le (by omega) (by omega)
theorem own_fin {wv : Nat → Int64} {k N : Nat} {r : Int32} (hN : N = 64 ∨ N = 65) (hk : k < N) (h : r.toInt = (NB wv k : Int) + (cy wv k : Int) - (if k < N - 1 then 16 * (cy wv (k + 1) : Int) else 0)) : FD (scw wv) N k = r := by
  apply Int32.toInt_inj.mp
  rw [h, FD]
  by_cases e : k = N - 1
  · rw [if_pos e, if_neg (by omega), ← e, own_sum (ix_nb0 (wv := wv) (k := k)) (ix_cI k)]; omega
  · rw [if_neg e, if_pos (by omega), dg2, if_pos (by omega), dI_int]
theorem d5_0 : decode method_5_code 0 = .ok (.lload_n 1, 1) := by decide +kernel
theorem d5_1 : decode method_5_code 1 = .ok (.lload_n 3, 1) := by decide +kernel
theorem d5_2 : decode method_5_code 2 = .ok (.lcmp, 1) := by decide +kernel
theorem d5_3 : decode method_5_code 3 = .ok (.ifCond .ne 5, 3) := by decide +kernel
theorem d5_6 : decode method_5_code 6 = .ok (.iload_n 0, 1) := by decide +kernel
theorem d5_7 : decode method_5_code 7 = .ok (.ireturn, 1) := by decide +kernel
theorem d5_8 : decode method_5_code 8 = .ok (.lload_n 1, 1) := by decide +kernel
theorem d5_9 : decode method_5_code 9 = .ok (.ldc2_w 30, 3) := by decide +kernel
theorem d5_12 : decode method_5_code 12 = .ok (.lxor, 1) := by decide +kernel
theorem d5_13 : decode method_5_code 13 = .ok (.lload_n 3, 1) := by decide +kernel
theorem d5_14 : decode method_5_code 14 = .ok (.ldc2_w 30, 3) := by decide +kernel
theorem d5_17 : decode method_5_code 17 = .ok (.lxor, 1) := by decide +kernel
theorem d5_18 : decode method_5_code 18 = .ok (.lcmp, 1) := by decide +kernel
theorem d5_19 : decode method_5_code 19 = .ok (.ifCond .le 7, 3) := by decide +kernel
theorem d5_22 : decode method_5_code 22 = .ok (.iconst 1, 1) := by decide +kernel
theorem d5_23 : decode method_5_code 23 = .ok (.goto 4, 3) := by decide +kernel
theorem d5_26 : decode method_5_code 26 = .ok (.iconst 0, 1) := by decide +kernel
theorem d5_27 : decode method_5_code 27 = .ok (.ireturn, 1) := by decide +kernel
theorem pn_com_example_curvehand_curvehand_crypto_FixedBaseTableDigitsPinLaw : plainName "com/example/curvehand/curvehand/crypto/FixedBaseTableDigitsPinLaw" = true := by first | (simp [plainName, overriddenIn]; done) | decide +kernel
theorem ef_5 (m : MethodId) (x0 : Int32) (x1 : Int64) (x2 : Int64) : entryFrame m #[(.int x0), (.long x1), (.long x2)] 5 = mkF m 0 #[.val (.int x0), .val (.long x1), .second, .val (.long x2), .second] [] := by first | (simp [entryFrame, mkF, argsToLocals, Value.category, maxLocals]; done) | rfl
set_option maxRecDepth 65536 in
set_option maxHeartbeats 40000000 in
theorem m5 (l : Launch) (Z : State) (a0 : Array Value) (hw : ∀ d ∈ tables_1, d.before a0 Z = true) (p0 : Int32) (p1 : Int64) (p2 : Int64) (h0 : Heap) (n0 : Nat) (cc : Nat) (x0 : Ix p0 cc) :
    Met l Z (⟨"com/example/curvehand/curvehand/crypto/FixedBaseTableDigitsPinLaw", "step", "(IJJ)I"⟩ : MethodName) method_5_code 5 (some (.int)) ({ frames := 0, cells := 0, slots := 0, locals := 0 } : Room) #[(.int p0), (.long p1), (.long p2)] h0 n0 (qI fun r h => Ix r (cmpS (nt p1) (nt p2) cc) ∧ h0 = h) := by
  refine met (plainFor_of_name pn_com_example_curvehand_curvehand_crypto_FixedBaseTableDigitsPinLaw) #[.val (.int p0), .val (.long p1), .second, .val (.long p2), .second] (fun m => ef_5 m p0 p1 p2) ?_
  intro p e s m below meth c C
  refine g_lloadN C d5_0 1 rfl rfl ?_
  refine g_lloadN C d5_1 2 rfl rfl ?_
  refine g_lcmpne C d5_2 3 rfl d5_3 8 (by decide) 6 rfl (fun k3 => ?_) (fun k3 => ?_)
  · refine g_lloadN C d5_8 9 rfl rfl ?_
    refine g_ldc2_w C (hw _ (List.mem_of_getElem? (i := 23) rfl)) d5_9 12 rfl ?_
    refine g_lxor C d5_12 13 rfl ?_
    refine g_lloadN C d5_13 14 rfl rfl ?_
    refine g_ldc2_w C (hw _ (List.mem_of_getElem? (i := 23) rfl)) d5_14 17 rfl ?_
    refine g_lxor C d5_17 18 rfl ?_
    refine g_lcmple C d5_18 19 rfl d5_19 26 (by decide) 22 rfl (fun k19 => ?_) (fun k19 => ?_)
    · refine g_iconst C d5_26 27 rfl (0 : Int32) (by decide) ?_
      refine r_int C d5_27 (by decide) (by decide) ⟨own_st3 k3 k19, rfl⟩
    · refine g_iconst C d5_22 23 rfl (1 : Int32) (by decide) ?_
      refine g_goto C d5_23 27 (by decide) ?_
      refine r_int C d5_27 (by decide) (by decide) ⟨own_st2 k3 k19, rfl⟩
  · refine g_iloadN C d5_6 7 rfl rfl ?_
    refine r_int C d5_7 (by decide) (by decide) ⟨own_st1 x0 k3, rfl⟩
theorem d4_0 : decode method_6_code 0 = .ok (.ldc2_w 32, 3) := by decide +kernel
theorem d4_3 : decode method_6_code 3 = .ok (.lstore_n 2, 1) := by decide +kernel
theorem d4_4 : decode method_6_code 4 = .ok (.iload_n 1, 1) := by decide +kernel
theorem d4_5 : decode method_6_code 5 = .ok (.iconst 4, 1) := by decide +kernel
theorem d4_6 : decode method_6_code 6 = .ok (.ishr, 1) := by decide +kernel
theorem d4_7 : decode method_6_code 7 = .ok (.istore 4, 2) := by decide +kernel
theorem d4_9 : decode method_6_code 9 = .ok (.iload_n 1, 1) := by decide +kernel
theorem d4_10 : decode method_6_code 10 = .ok (.bipush 15, 2) := by decide +kernel
theorem d4_12 : decode method_6_code 12 = .ok (.iand, 1) := by decide +kernel
theorem d4_13 : decode method_6_code 13 = .ok (.istore 5, 2) := by decide +kernel
theorem d4_15 : decode method_6_code 15 = .ok (.lconst 1, 1) := by decide +kernel
theorem d4_16 : decode method_6_code 16 = .ok (.iconst 4, 1) := by decide +kernel
theorem d4_17 : decode method_6_code 17 = .ok (.iload 5, 2) := by decide +kernel
theorem d4_19 : decode method_6_code 19 = .ok (.imul, 1) := by decide +kernel
theorem d4_20 : decode method_6_code 20 = .ok (.lshl, 1) := by decide +kernel
theorem d4_21 : decode method_6_code 21 = .ok (.lconst 1, 1) := by decide +kernel
theorem d4_22 : decode method_6_code 22 = .ok (.lsub, 1) := by decide +kernel
theorem d4_23 : decode method_6_code 23 = .ok (.lstore 6, 2) := by decide +kernel
theorem d4_25 : decode method_6_code 25 = .ok (.iconst 0, 1) := by decide +kernel
theorem d4_26 : decode method_6_code 26 = .ok (.istore 8, 2) := by decide +kernel
theorem d4_28 : decode method_6_code 28 = .ok (.iload 4, 2) := by decide +kernel
theorem d4_30 : decode method_6_code 30 = .ok (.ifCond .le 14, 3) := by decide +kernel
theorem d4_33 : decode method_6_code 33 = .ok (.iload 8, 2) := by decide +kernel
theorem d4_35 : decode method_6_code 35 = .ok (.aload_n 0, 1) := by decide +kernel
theorem d4_36 : decode method_6_code 36 = .ok (.iconst 0, 1) := by decide +kernel
theorem d4_37 : decode method_6_code 37 = .ok (.laload, 1) := by decide +kernel
theorem d4_38 : decode method_6_code 38 = .ok (.lload_n 2, 1) := by decide +kernel
theorem d4_39 : decode method_6_code 39 = .ok (.invokestatic 34, 3) := by decide +kernel
theorem d4_42 : decode method_6_code 42 = .ok (.istore 8, 2) := by decide +kernel
theorem d4_44 : decode method_6_code 44 = .ok (.iload 4, 2) := by decide +kernel
theorem d4_46 : decode method_6_code 46 = .ok (.iconst 1, 1) := by decide +kernel
theorem d4_47 : decode method_6_code 47 = .ok (.if_icmp .le 14, 3) := by decide +kernel
theorem d4_50 : decode method_6_code 50 = .ok (.iload 8, 2) := by decide +kernel
theorem d4_52 : decode method_6_code 52 = .ok (.aload_n 0, 1) := by decide +kernel
theorem d4_53 : decode method_6_code 53 = .ok (.iconst 1, 1) := by decide +kernel
theorem d4_54 : decode method_6_code 54 = .ok (.laload, 1) := by decide +kernel
theorem d4_55 : decode method_6_code 55 = .ok (.lload_n 2, 1) := by decide +kernel
theorem d4_56 : decode method_6_code 56 = .ok (.invokestatic 34, 3) := by decide +kernel
theorem d4_59 : decode method_6_code 59 = .ok (.istore 8, 2) := by decide +kernel
theorem d4_61 : decode method_6_code 61 = .ok (.iload 4, 2) := by decide +kernel
theorem d4_63 : decode method_6_code 63 = .ok (.iconst 2, 1) := by decide +kernel
theorem d4_64 : decode method_6_code 64 = .ok (.if_icmp .le 14, 3) := by decide +kernel
theorem d4_67 : decode method_6_code 67 = .ok (.iload 8, 2) := by decide +kernel
theorem d4_69 : decode method_6_code 69 = .ok (.aload_n 0, 1) := by decide +kernel
theorem d4_70 : decode method_6_code 70 = .ok (.iconst 2, 1) := by decide +kernel
theorem d4_71 : decode method_6_code 71 = .ok (.laload, 1) := by decide +kernel
theorem d4_72 : decode method_6_code 72 = .ok (.lload_n 2, 1) := by decide +kernel
theorem d4_73 : decode method_6_code 73 = .ok (.invokestatic 34, 3) := by decide +kernel
theorem d4_76 : decode method_6_code 76 = .ok (.istore 8, 2) := by decide +kernel
theorem d4_78 : decode method_6_code 78 = .ok (.iload 4, 2) := by decide +kernel
theorem d4_80 : decode method_6_code 80 = .ok (.iconst 3, 1) := by decide +kernel
theorem d4_81 : decode method_6_code 81 = .ok (.if_icmp .le 14, 3) := by decide +kernel
theorem d4_84 : decode method_6_code 84 = .ok (.iload 8, 2) := by decide +kernel
theorem d4_86 : decode method_6_code 86 = .ok (.aload_n 0, 1) := by decide +kernel
theorem d4_87 : decode method_6_code 87 = .ok (.iconst 3, 1) := by decide +kernel
theorem d4_88 : decode method_6_code 88 = .ok (.laload, 1) := by decide +kernel
theorem d4_89 : decode method_6_code 89 = .ok (.lload_n 2, 1) := by decide +kernel
theorem d4_90 : decode method_6_code 90 = .ok (.invokestatic 34, 3) := by decide +kernel
theorem d4_93 : decode method_6_code 93 = .ok (.istore 8, 2) := by decide +kernel
theorem d4_95 : decode method_6_code 95 = .ok (.iload 4, 2) := by decide +kernel
theorem d4_97 : decode method_6_code 97 = .ok (.iconst 4, 1) := by decide +kernel
theorem d4_98 : decode method_6_code 98 = .ok (.if_icmp .ge 21, 3) := by decide +kernel
theorem d4_101 : decode method_6_code 101 = .ok (.iload 8, 2) := by decide +kernel
theorem d4_103 : decode method_6_code 103 = .ok (.aload_n 0, 1) := by decide +kernel
theorem d4_104 : decode method_6_code 104 = .ok (.iload 4, 2) := by decide +kernel
theorem d4_106 : decode method_6_code 106 = .ok (.laload, 1) := by decide +kernel
theorem d4_107 : decode method_6_code 107 = .ok (.lload 6, 2) := by decide +kernel
theorem d4_109 : decode method_6_code 109 = .ok (.land, 1) := by decide +kernel
theorem d4_110 : decode method_6_code 110 = .ok (.lload_n 2, 1) := by decide +kernel
theorem d4_111 : decode method_6_code 111 = .ok (.lload 6, 2) := by decide +kernel
theorem d4_113 : decode method_6_code 113 = .ok (.land, 1) := by decide +kernel
theorem d4_114 : decode method_6_code 114 = .ok (.invokestatic 34, 3) := by decide +kernel
theorem d4_117 : decode method_6_code 117 = .ok (.istore 8, 2) := by decide +kernel
theorem d4_119 : decode method_6_code 119 = .ok (.iload 8, 2) := by decide +kernel
theorem d4_121 : decode method_6_code 121 = .ok (.ireturn, 1) := by decide +kernel
theorem pd_0 : parseMethodDescriptor "(IJJ)I" = some ⟨[.int, .long, .long], some (.int)⟩ := by decide +kernel
theorem ef_4 (m : MethodId) (x0 : Addr) (x1 : Int32) : entryFrame m #[(.ref x0), (.int x1)] 9 = mkF m 0 #[.val (.ref x0), .val (.int x1), .unset, .unset, .unset, .unset, .unset, .unset, .unset] [] := by first | (simp [entryFrame, mkF, argsToLocals, Value.category, maxLocals]; done) | rfl
set_option maxRecDepth 65536 in
set_option maxHeartbeats 40000000 in
theorem m4 (l : Launch) (Z : State) (a0 : Array Value) (hw : ∀ d ∈ tables_1, d.before a0 Z = true) (a : Addr) (p1 : Int32) (h0 : Heap) (n0 : Nat) (wv : Nat → Int64) (k q r : Nat) (A : Ary Z h0 a .long 4 (fun j => .long (wv j))) (x1 : Ix p1 k) (hk : k ≤ 64) (hq : q = k / 16) (hr : r = k % 16) (hkq : k = 16 * q + r) (hr15 : r < 16) :
    Met l Z (⟨"com/example/curvehand/curvehand/crypto/FixedBaseTableDigitsPinLaw", "carryInto", "([JI)I"⟩ : MethodName) method_6_code 9 (some (.int)) ({ frames := 1, cells := 0, slots := 0, locals := 19 } : Room) #[(.ref a), (.int p1)] h0 n0 (qI fun r h => Ix r (cy wv k) ∧ h0 = h) := by
  refine met (plainFor_of_name pn_com_example_curvehand_curvehand_crypto_FixedBaseTableDigitsPinLaw) #[.val (.ref a), .val (.int p1), .unset, .unset, .unset, .unset, .unset, .unset, .unset] (fun m => ef_4 m a p1) ?_
  intro p e s m below meth c C
  refine g_ldc2_w C (hw _ (List.mem_of_getElem? (i := 19) rfl)) d4_0 3 rfl ?_
  refine g_lstoreN C d4_3 4 rfl (fun z' => #[.val (.ref a), .val (.int p1), .val (.long z'), .second, .unset, .unset, .unset, .unset, .unset]) (fun _ => rfl) (fun v3 ev3 => ?_)
  obtain rfl := ev3.symm
  refine g_iloadN C d4_4 5 rfl rfl ?_
  refine g_iconst C d4_5 6 rfl (4 : Int32) (by decide) ?_
  refine g_ishr C d4_6 7 rfl ?_
  refine g_istore C d4_7 9 rfl (fun z' => #[.val (.ref a), .val (.int p1), .val (.long (8608480567731124087 : Int64)), .second, .val (.int z'), .unset, .unset, .unset, .unset]) (fun _ => rfl) (fun v7 ev7 => ?_)
  have xq : Ix v7 q := by rw [ev7, hq]; exact own_shr4 x1 (by omega)
  refine g_iloadN C d4_9 10 rfl rfl ?_
  refine g_bipush C d4_10 12 rfl (15 : Int32) (by decide) ?_
  refine g_iand C d4_12 13 rfl ?_
  refine g_istore C d4_13 15 rfl (fun z' => #[.val (.ref a), .val (.int p1), .val (.long (8608480567731124087 : Int64)), .second, .val (.int v7), .val (.int z'), .unset, .unset, .unset]) (fun _ => rfl) (fun v13 ev13 => ?_)
  have xr : Ix v13 r := by rw [ev13, hr]; exact own_and15 x1
  refine g_lconst C d4_15 16 rfl (1 : Int64) (by decide) ?_
  refine g_iconst C d4_16 17 rfl (4 : Int32) (by decide) ?_
  refine g_iload C d4_17 19 rfl rfl ?_
  refine g_imul C d4_19 20 rfl ?_
  refine g_lshl C d4_20 21 rfl ?_
  refine g_lconst C d4_21 22 rfl (1 : Int64) (by decide) ?_
  refine g_lsub C d4_22 23 rfl ?_
  refine g_lstore C d4_23 25 rfl (fun z' => #[.val (.ref a), .val (.int p1), .val (.long (8608480567731124087 : Int64)), .second, .val (.int v7), .val (.int v13), .val (.long z'), .second, .unset]) (fun _ => rfl) (fun v23 ev23 => ?_)
  have hmask : ∀ y : Int64, nt (y &&& v23) = nt y % 16 ^ r := by rw [ev23]; exact own_mask xr hr15
  refine g_iconst C d4_25 26 rfl (0 : Int32) (by decide) ?_
  refine g_istore C d4_26 28 rfl (fun z' => #[.val (.ref a), .val (.int p1), .val (.long (8608480567731124087 : Int64)), .second, .val (.int v7), .val (.int v13), .val (.long v23), .second, .val (.int z')]) (fun _ => rfl) (fun v26 ev26 => ?_)
  obtain rfl := ev26.symm
  have J119 : ∀ x : Int32, Ix x (cy wv k) → Go p l e ({ frames := 1, cells := 0, slots := 0, locals := 19 } : Room) s m #[(.ref a), (.int p1)] below meth c n0 (qI fun r h => Ix r (cy wv k) ∧ h0 = h) h0 0 0 119 #[.val (.ref a), .val (.int p1), .val (.long (8608480567731124087 : Int64)), .second, .val (.int v7), .val (.int v13), .val (.long v23), .second, .val (.int x)] [] := by
    intro x hx
    refine g_iload C d4_119 121 rfl rfl ?_
    refine r_int C d4_121 (by decide) (by decide) ⟨hx, rfl⟩
  have J95 : ∀ x : Int32, Ix x (cy wv (16 * min q 4)) → Go p l e ({ frames := 1, cells := 0, slots := 0, locals := 19 } : Room) s m #[(.ref a), (.int p1)] below meth c n0 (qI fun r h => Ix r (cy wv k) ∧ h0 = h) h0 0 0 95 #[.val (.ref a), .val (.int p1), .val (.long (8608480567731124087 : Int64)), .second, .val (.int v7), .val (.int v13), .val (.long v23), .second, .val (.int x)] [] := by
    intro x hx
    refine g_iload C d4_95 97 rfl rfl ?_
    refine g_iconst C d4_97 98 rfl (4 : Int32) (by decide) ?_
    refine g_if_icmpge C d4_98 119 (by decide) 101 rfl (fun k98 => ?_) (fun k98 => ?_)
    · have hq4 := mt (xq.lt (b := 4) (j := 4) ⟨by decide, by decide⟩).mpr k98
      exact J119 _ (by
        have e : min q 4 = 4 := by omega
        rw [e] at hx
        have ek : k = 16 * 4 := by omega
        rw [ek]; exact hx)
    · have hq4 := (xq.lt (b := 4) (j := 4) ⟨by decide, by decide⟩).mp k98
      refine g_iload C d4_101 103 rfl rfl ?_
      refine g_aloadN C d4_103 104 rfl rfl rfl ?_
      refine g_iload C d4_104 106 rfl rfl ?_
      refine g_laload C A q xq hq4 (.long (wv q)) rfl d4_106 107 rfl ?_
      refine g_lload C d4_107 109 rfl rfl ?_
      refine g_land C d4_109 110 rfl ?_
      refine g_lloadN C d4_110 111 rfl rfl ?_
      refine g_lload C d4_111 113 rfl rfl ?_
      refine g_land C d4_113 114 rfl ?_
      refine c_staticI C [(.int x), (.long ((wv q) &&& v23)), (.long ((8608480567731124087 : Int64) &&& v23))] [] (hw _ (List.mem_of_getElem? (i := 20) rfl)) (hw _ (List.mem_of_getElem? (i := 21) rfl)) (hw _ (List.mem_of_getElem? (i := 4) rfl)) (hw _ (List.mem_of_getElem? (i := 22) rfl)) (by decide) (m5 l Z a0 hw x (wv q &&& v23) ((8608480567731124087 : Int64) &&& v23) h0 n0 _ hx) d4_114 117 rfl (lenOf pd_0 rfl) rfl 0 (Nat.le_of_eq rfl) (by decide) (by decide) 0 0 rfl rfl (by decide) (by decide) rfl (fun r114 h114 q114 => ?_)
      obtain ⟨hr114, rfl⟩ := q114
      refine g_istore C d4_117 119 rfl (fun z' => #[.val (.ref a), .val (.int p1), .val (.long (8608480567731124087 : Int64)), .second, .val (.int v7), .val (.int v13), .val (.long v23), .second, .val (.int z')]) (fun _ => rfl) (fun v117 ev117 => ?_)
      exact J119 _ (by
        have e : min q 4 = q := by omega
        rw [ev117]; rw [e, hmask, hmask] at hr114; exact own_part hq4 hr114 hkq hr15)
  have J78 : ∀ x : Int32, Ix x (cy wv (16 * min q 3)) → Go p l e ({ frames := 1, cells := 0, slots := 0, locals := 19 } : Room) s m #[(.ref a), (.int p1)] below meth c n0 (qI fun r h => Ix r (cy wv k) ∧ h0 = h) h0 0 0 78 #[.val (.ref a), .val (.int p1), .val (.long (8608480567731124087 : Int64)), .second, .val (.int v7), .val (.int v13), .val (.long v23), .second, .val (.int x)] [] := by
    intro x hx
    refine g_iload C d4_78 80 rfl rfl ?_
    refine g_iconst C d4_80 81 rfl (3 : Int32) (by decide) ?_
    refine g_if_icmple C d4_81 95 (by decide) 84 rfl (fun k81 => ?_) (fun k81 => ?_)
    · exact J95 _ (by
        have := mt (Ix.lt (a := 3) (i := 3) ⟨by decide, by decide⟩ xq).mpr k81
        have e : min q 4 = min q 3 := by omega
        rw [e]; exact hx)
    · refine g_iload C d4_84 86 rfl rfl ?_
      refine g_aloadN C d4_86 87 rfl rfl rfl ?_
      refine g_iconst C d4_87 88 rfl (3 : Int32) (by decide) ?_
      refine g_laload C A 3 ⟨by decide, by decide⟩ (by decide) (.long (wv 3)) rfl d4_88 89 rfl ?_
      refine g_lloadN C d4_89 90 rfl rfl ?_
      refine c_staticI C [(.int x), (.long (wv 3)), (.long (8608480567731124087 : Int64))] [] (hw _ (List.mem_of_getElem? (i := 20) rfl)) (hw _ (List.mem_of_getElem? (i := 21) rfl)) (hw _ (List.mem_of_getElem? (i := 4) rfl)) (hw _ (List.mem_of_getElem? (i := 22) rfl)) (by decide) (m5 l Z a0 hw x (wv 3) (8608480567731124087 : Int64) h0 n0 _ hx) d4_90 93 rfl (lenOf pd_0 rfl) rfl 0 (Nat.le_of_eq rfl) (by decide) (by decide) 0 0 rfl rfl (by decide) (by decide) rfl (fun r90 h90 q90 => ?_)
      obtain ⟨hr90, rfl⟩ := q90
      refine g_istore C d4_93 95 rfl (fun z' => #[.val (.ref a), .val (.int p1), .val (.long (8608480567731124087 : Int64)), .second, .val (.int v7), .val (.int v13), .val (.long v23), .second, .val (.int z')]) (fun _ => rfl) (fun v93 ev93 => ?_)
      exact J95 _ (by
        have hlt := (Ix.lt (a := 3) (i := 3) ⟨by decide, by decide⟩ xq).mp k81
        have e1 : min q 4 = 4 := by omega
        have e0 : min q 3 = 3 := by omega
        rw [ev93, e1]; rw [e0] at hr90; exact own_word hr90)
  have J61 : ∀ x : Int32, Ix x (cy wv (16 * min q 2)) → Go p l e ({ frames := 1, cells := 0, slots := 0, locals := 19 } : Room) s m #[(.ref a), (.int p1)] below meth c n0 (qI fun r h => Ix r (cy wv k) ∧ h0 = h) h0 0 0 61 #[.val (.ref a), .val (.int p1), .val (.long (8608480567731124087 : Int64)), .second, .val (.int v7), .val (.int v13), .val (.long v23), .second, .val (.int x)] [] := by
    intro x hx
    refine g_iload C d4_61 63 rfl rfl ?_
    refine g_iconst C d4_63 64 rfl (2 : Int32) (by decide) ?_
    refine g_if_icmple C d4_64 78 (by decide) 67 rfl (fun k64 => ?_) (fun k64 => ?_)
    · exact J78 _ (by
        have := mt (Ix.lt (a := 2) (i := 2) ⟨by decide, by decide⟩ xq).mpr k64
        have e : min q 3 = min q 2 := by omega
        rw [e]; exact hx)
    · refine g_iload C d4_67 69 rfl rfl ?_
      refine g_aloadN C d4_69 70 rfl rfl rfl ?_
      refine g_iconst C d4_70 71 rfl (2 : Int32) (by decide) ?_
      refine g_laload C A 2 ⟨by decide, by decide⟩ (by decide) (.long (wv 2)) rfl d4_71 72 rfl ?_
      refine g_lloadN C d4_72 73 rfl rfl ?_
      refine c_staticI C [(.int x), (.long (wv 2)), (.long (8608480567731124087 : Int64))] [] (hw _ (List.mem_of_getElem? (i := 20) rfl)) (hw _ (List.mem_of_getElem? (i := 21) rfl)) (hw _ (List.mem_of_getElem? (i := 4) rfl)) (hw _ (List.mem_of_getElem? (i := 22) rfl)) (by decide) (m5 l Z a0 hw x (wv 2) (8608480567731124087 : Int64) h0 n0 _ hx) d4_73 76 rfl (lenOf pd_0 rfl) rfl 0 (Nat.le_of_eq rfl) (by decide) (by decide) 0 0 rfl rfl (by decide) (by decide) rfl (fun r73 h73 q73 => ?_)
      obtain ⟨hr73, rfl⟩ := q73
      refine g_istore C d4_76 78 rfl (fun z' => #[.val (.ref a), .val (.int p1), .val (.long (8608480567731124087 : Int64)), .second, .val (.int v7), .val (.int v13), .val (.long v23), .second, .val (.int z')]) (fun _ => rfl) (fun v76 ev76 => ?_)
      exact J78 _ (by
        have hlt := (Ix.lt (a := 2) (i := 2) ⟨by decide, by decide⟩ xq).mp k64
        have e1 : min q 3 = 3 := by omega
        have e0 : min q 2 = 2 := by omega
        rw [ev76, e1]; rw [e0] at hr73; exact own_word hr73)
  have J44 : ∀ x : Int32, Ix x (cy wv (16 * min q 1)) → Go p l e ({ frames := 1, cells := 0, slots := 0, locals := 19 } : Room) s m #[(.ref a), (.int p1)] below meth c n0 (qI fun r h => Ix r (cy wv k) ∧ h0 = h) h0 0 0 44 #[.val (.ref a), .val (.int p1), .val (.long (8608480567731124087 : Int64)), .second, .val (.int v7), .val (.int v13), .val (.long v23), .second, .val (.int x)] [] := by
    intro x hx
    refine g_iload C d4_44 46 rfl rfl ?_
    refine g_iconst C d4_46 47 rfl (1 : Int32) (by decide) ?_
    refine g_if_icmple C d4_47 61 (by decide) 50 rfl (fun k47 => ?_) (fun k47 => ?_)
    · exact J61 _ (by
        have := mt (Ix.lt (a := 1) (i := 1) ⟨by decide, by decide⟩ xq).mpr k47
        have e : min q 2 = min q 1 := by omega
        rw [e]; exact hx)
    · refine g_iload C d4_50 52 rfl rfl ?_
      refine g_aloadN C d4_52 53 rfl rfl rfl ?_
      refine g_iconst C d4_53 54 rfl (1 : Int32) (by decide) ?_
      refine g_laload C A 1 ⟨by decide, by decide⟩ (by decide) (.long (wv 1)) rfl d4_54 55 rfl ?_
      refine g_lloadN C d4_55 56 rfl rfl ?_
      refine c_staticI C [(.int x), (.long (wv 1)), (.long (8608480567731124087 : Int64))] [] (hw _ (List.mem_of_getElem? (i := 20) rfl)) (hw _ (List.mem_of_getElem? (i := 21) rfl)) (hw _ (List.mem_of_getElem? (i := 4) rfl)) (hw _ (List.mem_of_getElem? (i := 22) rfl)) (by decide) (m5 l Z a0 hw x (wv 1) (8608480567731124087 : Int64) h0 n0 _ hx) d4_56 59 rfl (lenOf pd_0 rfl) rfl 0 (Nat.le_of_eq rfl) (by decide) (by decide) 0 0 rfl rfl (by decide) (by decide) rfl (fun r56 h56 q56 => ?_)
      obtain ⟨hr56, rfl⟩ := q56
      refine g_istore C d4_59 61 rfl (fun z' => #[.val (.ref a), .val (.int p1), .val (.long (8608480567731124087 : Int64)), .second, .val (.int v7), .val (.int v13), .val (.long v23), .second, .val (.int z')]) (fun _ => rfl) (fun v59 ev59 => ?_)
      exact J61 _ (by
        have hlt := (Ix.lt (a := 1) (i := 1) ⟨by decide, by decide⟩ xq).mp k47
        have e1 : min q 2 = 2 := by omega
        have e0 : min q 1 = 1 := by omega
        rw [ev59, e1]; rw [e0] at hr56; exact own_word hr56)
  have hx : Ix (0 : Int32) (cy wv (16 * min q 0)) := by rw [Nat.min_zero]; exact (⟨by decide, by decide⟩ : Ix (0 : Int32) 0)
  refine g_iload C d4_28 30 rfl rfl ?_
  refine g_ifle C d4_30 44 (by decide) 33 rfl (fun k30 => ?_) (fun k30 => ?_)
  · exact J44 _ (by
      have := mt (Ix.lt (a := 0) (i := 0) ⟨by decide, by decide⟩ xq).mpr k30
      have e : min q 1 = min q 0 := by omega
      rw [e]; exact hx)
  · refine g_iload C d4_33 35 rfl rfl ?_
    refine g_aloadN C d4_35 36 rfl rfl rfl ?_
    refine g_iconst C d4_36 37 rfl (0 : Int32) (by decide) ?_
    refine g_laload C A 0 ⟨by decide, by decide⟩ (by decide) (.long (wv 0)) rfl d4_37 38 rfl ?_
    refine g_lloadN C d4_38 39 rfl rfl ?_
    refine c_staticI C [(.int (0 : Int32)), (.long (wv 0)), (.long (8608480567731124087 : Int64))] [] (hw _ (List.mem_of_getElem? (i := 20) rfl)) (hw _ (List.mem_of_getElem? (i := 21) rfl)) (hw _ (List.mem_of_getElem? (i := 4) rfl)) (hw _ (List.mem_of_getElem? (i := 22) rfl)) (by decide) (m5 l Z a0 hw (0 : Int32) (wv 0) (8608480567731124087 : Int64) h0 n0 _ hx) d4_39 42 rfl (lenOf pd_0 rfl) rfl 0 (Nat.le_of_eq rfl) (by decide) (by decide) 0 0 rfl rfl (by decide) (by decide) rfl (fun r39 h39 q39 => ?_)
    obtain ⟨hr39, rfl⟩ := q39
    refine g_istore C d4_42 44 rfl (fun z' => #[.val (.ref a), .val (.int p1), .val (.long (8608480567731124087 : Int64)), .second, .val (.int v7), .val (.int v13), .val (.long v23), .second, .val (.int z')]) (fun _ => rfl) (fun v42 ev42 => ?_)
    exact J44 _ (by
      have hlt := (Ix.lt (a := 0) (i := 0) ⟨by decide, by decide⟩ xq).mp k30
      have e1 : min q 1 = 1 := by omega
      have e0 : min q 0 = 0 := by omega
      rw [ev42, e1]; rw [e0] at hr39; exact own_word hr39)
theorem d3_0 : decode method_4_code 0 = .ok (.iconst 0, 1) := by decide +kernel
theorem d3_1 : decode method_4_code 1 = .ok (.istore_n 3, 1) := by decide +kernel
theorem d3_2 : decode method_4_code 2 = .ok (.iload_n 1, 1) := by decide +kernel
theorem d3_3 : decode method_4_code 3 = .ok (.bipush 64, 2) := by decide +kernel
theorem d3_5 : decode method_4_code 5 = .ok (.if_icmp .ge 21, 3) := by decide +kernel
theorem d3_8 : decode method_4_code 8 = .ok (.aload_n 0, 1) := by decide +kernel
theorem d3_9 : decode method_4_code 9 = .ok (.iload_n 1, 1) := by decide +kernel
theorem d3_10 : decode method_4_code 10 = .ok (.iconst 4, 1) := by decide +kernel
theorem d3_11 : decode method_4_code 11 = .ok (.ishr, 1) := by decide +kernel
theorem d3_12 : decode method_4_code 12 = .ok (.laload, 1) := by decide +kernel
theorem d3_13 : decode method_4_code 13 = .ok (.iconst 4, 1) := by decide +kernel
theorem d3_14 : decode method_4_code 14 = .ok (.iload_n 1, 1) := by decide +kernel
theorem d3_15 : decode method_4_code 15 = .ok (.bipush 15, 2) := by decide +kernel
theorem d3_17 : decode method_4_code 17 = .ok (.iand, 1) := by decide +kernel
theorem d3_18 : decode method_4_code 18 = .ok (.imul, 1) := by decide +kernel
theorem d3_19 : decode method_4_code 19 = .ok (.lushr, 1) := by decide +kernel
theorem d3_20 : decode method_4_code 20 = .ok (.ldc2_w 24, 3) := by decide +kernel
theorem d3_23 : decode method_4_code 23 = .ok (.land, 1) := by decide +kernel
theorem d3_24 : decode method_4_code 24 = .ok (.l2i, 1) := by decide +kernel
theorem d3_25 : decode method_4_code 25 = .ok (.istore_n 3, 1) := by decide +kernel
theorem d3_26 : decode method_4_code 26 = .ok (.iload_n 3, 1) := by decide +kernel
theorem d3_27 : decode method_4_code 27 = .ok (.aload_n 0, 1) := by decide +kernel
theorem d3_28 : decode method_4_code 28 = .ok (.iload_n 1, 1) := by decide +kernel
theorem d3_29 : decode method_4_code 29 = .ok (.invokestatic 26, 3) := by decide +kernel
theorem d3_32 : decode method_4_code 32 = .ok (.iadd, 1) := by decide +kernel
theorem d3_33 : decode method_4_code 33 = .ok (.istore 4, 2) := by decide +kernel
theorem d3_35 : decode method_4_code 35 = .ok (.iload_n 1, 1) := by decide +kernel
theorem d3_36 : decode method_4_code 36 = .ok (.iload_n 2, 1) := by decide +kernel
theorem d3_37 : decode method_4_code 37 = .ok (.iconst 1, 1) := by decide +kernel
theorem d3_38 : decode method_4_code 38 = .ok (.isub, 1) := by decide +kernel
theorem d3_39 : decode method_4_code 39 = .ok (.if_icmp .ge 18, 3) := by decide +kernel
theorem d3_42 : decode method_4_code 42 = .ok (.iload 4, 2) := by decide +kernel
theorem d3_44 : decode method_4_code 44 = .ok (.bipush 16, 2) := by decide +kernel
theorem d3_46 : decode method_4_code 46 = .ok (.aload_n 0, 1) := by decide +kernel
theorem d3_47 : decode method_4_code 47 = .ok (.iload_n 1, 1) := by decide +kernel
theorem d3_48 : decode method_4_code 48 = .ok (.iconst 1, 1) := by decide +kernel
theorem d3_49 : decode method_4_code 49 = .ok (.iadd, 1) := by decide +kernel
theorem d3_50 : decode method_4_code 50 = .ok (.invokestatic 26, 3) := by decide +kernel
theorem d3_53 : decode method_4_code 53 = .ok (.imul, 1) := by decide +kernel
theorem d3_54 : decode method_4_code 54 = .ok (.isub, 1) := by decide +kernel
theorem d3_55 : decode method_4_code 55 = .ok (.istore 4, 2) := by decide +kernel
theorem d3_57 : decode method_4_code 57 = .ok (.iload 4, 2) := by decide +kernel
theorem d3_59 : decode method_4_code 59 = .ok (.ireturn, 1) := by decide +kernel
theorem pd_1 : parseMethodDescriptor "([JI)I" = some ⟨[.array .long, .int], some (.int)⟩ := by decide +kernel
theorem ef_3 (m : MethodId) (x0 : Addr) (x1 : Int32) (x2 : Int32) : entryFrame m #[(.ref x0), (.int x1), (.int x2)] 5 = mkF m 0 #[.val (.ref x0), .val (.int x1), .val (.int x2), .unset, .unset] [] := by first | (simp [entryFrame, mkF, argsToLocals, Value.category, maxLocals]; done) | rfl
set_option maxRecDepth 65536 in
set_option maxHeartbeats 40000000 in
theorem m3 (l : Launch) (Z : State) (a0 : Array Value) (hw : ∀ d ∈ tables_1, d.before a0 Z = true) (a : Addr) (p1 : Int32) (p2 : Int32) (h0 : Heap) (n0 : Nat) (wv : Nat → Int64) (k N : Nat) (A : Ary Z h0 a .long 4 (fun j => .long (wv j))) (x1 : Ix p1 k) (x2 : Ix p2 N) (hk : k < N) (hN : N = 64 ∨ N = 65) :
    Met l Z (⟨"com/example/curvehand/curvehand/crypto/FixedBaseTableDigitsPinLaw", "expected", "([JII)I"⟩ : MethodName) method_4_code 5 (some (.int)) ({ frames := 2, cells := 0, slots := 0, locals := 41 } : Room) #[(.ref a), (.int p1), (.int p2)] h0 n0 (qI fun r h => r.toInt = (NB wv k : Int) + (cy wv k : Int) - (if k < N - 1 then 16 * (cy wv (k + 1) : Int) else 0) ∧ h0 = h) := by
  refine met (plainFor_of_name pn_com_example_curvehand_curvehand_crypto_FixedBaseTableDigitsPinLaw) #[.val (.ref a), .val (.int p1), .val (.int p2), .unset, .unset] (fun m => ef_3 m a p1 p2) ?_
  intro p e s m below meth c C
  refine g_iconst C d3_0 1 rfl (0 : Int32) (by decide) ?_
  refine g_istoreN C d3_1 2 rfl (fun z' => #[.val (.ref a), .val (.int p1), .val (.int p2), .val (.int z'), .unset]) (fun _ => rfl) (fun v1 ev1 => ?_)
  obtain rfl := ev1.symm
  refine g_iloadN C d3_2 3 rfl rfl ?_
  refine g_bipush C d3_3 5 rfl (64 : Int32) (by decide) ?_
  refine g_if_icmpge C d3_5 26 (by decide) 8 rfl (fun k5 => ?_) (fun k5 => ?_)
  · have hge := mt (x1.lt (b := 64) (j := 64) ⟨by decide, by decide⟩).mpr k5
    have xn : Ix (0 : Int32) (NB wv k) := own_nb64 hge
    refine g_iloadN C d3_26 27 rfl rfl ?_
    refine g_aloadN C d3_27 28 rfl rfl rfl ?_
    refine g_iloadN C d3_28 29 rfl rfl ?_
    refine c_staticI C [(.ref a), (.int p1)] [(.int (0 : Int32))] (hw _ (List.mem_of_getElem? (i := 16) rfl)) (hw _ (List.mem_of_getElem? (i := 17) rfl)) (hw _ (List.mem_of_getElem? (i := 4) rfl)) (hw _ (List.mem_of_getElem? (i := 18) rfl)) (by decide) (m4 l Z a0 hw a p1 h0 n0 wv k (k / 16) (k % 16) A x1 (by omega) rfl rfl (by omega) (by omega)) d3_29 32 rfl (lenOf pd_1 rfl) rfl 1 (Nat.le_of_eq rfl) (by decide) (by decide) 0 0 rfl rfl (by decide) (by decide) rfl (fun r29 h29 q29 => ?_)
    obtain ⟨hr29, rfl⟩ := q29
    refine g_iadd C d3_32 33 rfl ?_
    refine g_istore C d3_33 35 rfl (fun z' => #[.val (.ref a), .val (.int p1), .val (.int p2), .val (.int (0 : Int32)), .val (.int z')]) (fun _ => rfl) (fun v33 ev33 => ?_)
    have e33 : v33.toInt = (NB wv k : Int) + (cy wv k : Int) := by rw [ev33]; exact own_sum xn hr29
    refine g_iloadN C d3_35 36 rfl rfl ?_
    refine g_iloadN C d3_36 37 rfl rfl ?_
    refine g_iconst C d3_37 38 rfl (1 : Int32) (by decide) ?_
    refine g_isub C d3_38 39 rfl ?_
    refine g_if_icmpge C d3_39 57 (by decide) 42 rfl (fun k39 => ?_) (fun k39 => ?_)
    · have hl := mt (x1.lt (own_pred x2 (by omega))).mpr k39
      refine g_iload C d3_57 59 rfl rfl ?_
      refine r_int C d3_59 (by decide) (by decide) ⟨by rw [e33, if_neg hl]; omega, rfl⟩
    · have hl := (x1.lt (own_pred x2 (by omega))).mp k39
      refine g_iload C d3_42 44 rfl rfl ?_
      refine g_bipush C d3_44 46 rfl (16 : Int32) (by decide) ?_
      refine g_aloadN C d3_46 47 rfl rfl rfl ?_
      refine g_iloadN C d3_47 48 rfl rfl ?_
      refine g_iconst C d3_48 49 rfl (1 : Int32) (by decide) ?_
      refine g_iadd C d3_49 50 rfl ?_
      refine c_staticI C [(.ref a), (.int (p1 + (1 : Int32)))] [(.int (16 : Int32)), (.int v33)] (hw _ (List.mem_of_getElem? (i := 16) rfl)) (hw _ (List.mem_of_getElem? (i := 17) rfl)) (hw _ (List.mem_of_getElem? (i := 4) rfl)) (hw _ (List.mem_of_getElem? (i := 18) rfl)) (by decide) (m4 l Z a0 hw a (p1 + (1 : Int32)) h0 n0 wv (k + 1) ((k + 1) / 16) ((k + 1) % 16) A (x1.succ (by omega)) (by omega) rfl rfl (by omega) (by omega)) d3_50 53 rfl (lenOf pd_1 rfl) rfl 2 (Nat.le_of_eq rfl) (by decide) (by decide) 0 0 rfl rfl (by decide) (by decide) rfl (fun r50 h50 q50 => ?_)
      obtain ⟨hr50, rfl⟩ := q50
      refine g_imul C d3_53 54 rfl ?_
      refine g_isub C d3_54 55 rfl ?_
      refine g_istore C d3_55 57 rfl (fun z' => #[.val (.ref a), .val (.int p1), .val (.int p2), .val (.int (0 : Int32)), .val (.int z')]) (fun _ => rfl) (fun v55 ev55 => ?_)
      refine g_iload C d3_57 59 rfl rfl ?_
      refine r_int C d3_59 (by decide) (by decide) ⟨by rw [ev55, if_pos hl]; exact own_diff e33 hr50, rfl⟩
  · have hlt := (x1.lt (b := 64) (j := 64) ⟨by decide, by decide⟩).mp k5
    refine g_aloadN C d3_8 9 rfl rfl rfl ?_
    refine g_iloadN C d3_9 10 rfl rfl ?_
    refine g_iconst C d3_10 11 rfl (4 : Int32) (by decide) ?_
    refine g_ishr C d3_11 12 rfl ?_
    refine g_laload C A (k / 16) (own_shr4 x1 (by omega)) (by omega) (.long (wv (k / 16))) rfl d3_12 13 rfl ?_
    refine g_iconst C d3_13 14 rfl (4 : Int32) (by decide) ?_
    refine g_iloadN C d3_14 15 rfl rfl ?_
    refine g_bipush C d3_15 17 rfl (15 : Int32) (by decide) ?_
    refine g_iand C d3_17 18 rfl ?_
    refine g_imul C d3_18 19 rfl ?_
    refine g_lushr C d3_19 20 rfl ?_
    refine g_ldc2_w C (hw _ (List.mem_of_getElem? (i := 15) rfl)) d3_20 23 rfl ?_
    refine g_land C d3_23 24 rfl ?_
    refine g_l2i C d3_24 25 rfl ?_
    refine g_istoreN C d3_25 26 rfl (fun z' => #[.val (.ref a), .val (.int p1), .val (.int p2), .val (.int z'), .unset]) (fun _ => rfl) (fun v25 ev25 => ?_)
    have xn : Ix v25 (NB wv k) := by rw [ev25]; exact own_nib x1 hlt
    refine g_iloadN C d3_26 27 rfl rfl ?_
    refine g_aloadN C d3_27 28 rfl rfl rfl ?_
    refine g_iloadN C d3_28 29 rfl rfl ?_
    refine c_staticI C [(.ref a), (.int p1)] [(.int v25)] (hw _ (List.mem_of_getElem? (i := 16) rfl)) (hw _ (List.mem_of_getElem? (i := 17) rfl)) (hw _ (List.mem_of_getElem? (i := 4) rfl)) (hw _ (List.mem_of_getElem? (i := 18) rfl)) (by decide) (m4 l Z a0 hw a p1 h0 n0 wv k (k / 16) (k % 16) A x1 (by omega) rfl rfl (by omega) (by omega)) d3_29 32 rfl (lenOf pd_1 rfl) rfl 1 (Nat.le_of_eq rfl) (by decide) (by decide) 0 0 rfl rfl (by decide) (by decide) rfl (fun r29 h29 q29 => ?_)
    obtain ⟨hr29, rfl⟩ := q29
    refine g_iadd C d3_32 33 rfl ?_
    refine g_istore C d3_33 35 rfl (fun z' => #[.val (.ref a), .val (.int p1), .val (.int p2), .val (.int v25), .val (.int z')]) (fun _ => rfl) (fun v33 ev33 => ?_)
    have e33 : v33.toInt = (NB wv k : Int) + (cy wv k : Int) := by rw [ev33]; exact own_sum xn hr29
    refine g_iloadN C d3_35 36 rfl rfl ?_
    refine g_iloadN C d3_36 37 rfl rfl ?_
    refine g_iconst C d3_37 38 rfl (1 : Int32) (by decide) ?_
    refine g_isub C d3_38 39 rfl ?_
    refine g_if_icmpge C d3_39 57 (by decide) 42 rfl (fun k39 => ?_) (fun k39 => ?_)
    · have hl := mt (x1.lt (own_pred x2 (by omega))).mpr k39
      refine g_iload C d3_57 59 rfl rfl ?_
      refine r_int C d3_59 (by decide) (by decide) ⟨by rw [e33, if_neg hl]; omega, rfl⟩
    · have hl := (x1.lt (own_pred x2 (by omega))).mp k39
      refine g_iload C d3_42 44 rfl rfl ?_
      refine g_bipush C d3_44 46 rfl (16 : Int32) (by decide) ?_
      refine g_aloadN C d3_46 47 rfl rfl rfl ?_
      refine g_iloadN C d3_47 48 rfl rfl ?_
      refine g_iconst C d3_48 49 rfl (1 : Int32) (by decide) ?_
      refine g_iadd C d3_49 50 rfl ?_
      refine c_staticI C [(.ref a), (.int (p1 + (1 : Int32)))] [(.int (16 : Int32)), (.int v33)] (hw _ (List.mem_of_getElem? (i := 16) rfl)) (hw _ (List.mem_of_getElem? (i := 17) rfl)) (hw _ (List.mem_of_getElem? (i := 4) rfl)) (hw _ (List.mem_of_getElem? (i := 18) rfl)) (by decide) (m4 l Z a0 hw a (p1 + (1 : Int32)) h0 n0 wv (k + 1) ((k + 1) / 16) ((k + 1) % 16) A (x1.succ (by omega)) (by omega) rfl rfl (by omega) (by omega)) d3_50 53 rfl (lenOf pd_1 rfl) rfl 2 (Nat.le_of_eq rfl) (by decide) (by decide) 0 0 rfl rfl (by decide) (by decide) rfl (fun r50 h50 q50 => ?_)
      obtain ⟨hr50, rfl⟩ := q50
      refine g_imul C d3_53 54 rfl ?_
      refine g_isub C d3_54 55 rfl ?_
      refine g_istore C d3_55 57 rfl (fun z' => #[.val (.ref a), .val (.int p1), .val (.int p2), .val (.int v25), .val (.int z')]) (fun _ => rfl) (fun v55 ev55 => ?_)
      refine g_iload C d3_57 59 rfl rfl ?_
      refine r_int C d3_59 (by decide) (by decide) ⟨by rw [ev55, if_pos hl]; exact own_diff e33 hr50, rfl⟩
theorem d1_0 : decode method_3_code 0 = .ok (.aload_n 0, 1) := by decide +kernel
theorem d1_1 : decode method_3_code 1 = .ok (.iload_n 1, 1) := by decide +kernel
theorem d1_2 : decode method_3_code 2 = .ok (.lload_n 2, 1) := by decide +kernel
theorem d1_3 : decode method_3_code 3 = .ok (.l2i, 1) := by decide +kernel
theorem d1_4 : decode method_3_code 4 = .ok (.i2b, 1) := by decide +kernel
theorem d1_5 : decode method_3_code 5 = .ok (.bastore, 1) := by decide +kernel
theorem d1_6 : decode method_3_code 6 = .ok (.aload_n 0, 1) := by decide +kernel
theorem d1_7 : decode method_3_code 7 = .ok (.iload_n 1, 1) := by decide +kernel
theorem d1_8 : decode method_3_code 8 = .ok (.iconst 1, 1) := by decide +kernel
theorem d1_9 : decode method_3_code 9 = .ok (.iadd, 1) := by decide +kernel
theorem d1_10 : decode method_3_code 10 = .ok (.lload_n 2, 1) := by decide +kernel
theorem d1_11 : decode method_3_code 11 = .ok (.bipush 8, 2) := by decide +kernel
theorem d1_13 : decode method_3_code 13 = .ok (.lushr, 1) := by decide +kernel
theorem d1_14 : decode method_3_code 14 = .ok (.l2i, 1) := by decide +kernel
theorem d1_15 : decode method_3_code 15 = .ok (.i2b, 1) := by decide +kernel
theorem d1_16 : decode method_3_code 16 = .ok (.bastore, 1) := by decide +kernel
theorem d1_17 : decode method_3_code 17 = .ok (.aload_n 0, 1) := by decide +kernel
theorem d1_18 : decode method_3_code 18 = .ok (.iload_n 1, 1) := by decide +kernel
theorem d1_19 : decode method_3_code 19 = .ok (.iconst 2, 1) := by decide +kernel
theorem d1_20 : decode method_3_code 20 = .ok (.iadd, 1) := by decide +kernel
theorem d1_21 : decode method_3_code 21 = .ok (.lload_n 2, 1) := by decide +kernel
theorem d1_22 : decode method_3_code 22 = .ok (.bipush 16, 2) := by decide +kernel
theorem d1_24 : decode method_3_code 24 = .ok (.lushr, 1) := by decide +kernel
theorem d1_25 : decode method_3_code 25 = .ok (.l2i, 1) := by decide +kernel
theorem d1_26 : decode method_3_code 26 = .ok (.i2b, 1) := by decide +kernel
theorem d1_27 : decode method_3_code 27 = .ok (.bastore, 1) := by decide +kernel
theorem d1_28 : decode method_3_code 28 = .ok (.aload_n 0, 1) := by decide +kernel
theorem d1_29 : decode method_3_code 29 = .ok (.iload_n 1, 1) := by decide +kernel
theorem d1_30 : decode method_3_code 30 = .ok (.iconst 3, 1) := by decide +kernel
theorem d1_31 : decode method_3_code 31 = .ok (.iadd, 1) := by decide +kernel
theorem d1_32 : decode method_3_code 32 = .ok (.lload_n 2, 1) := by decide +kernel
theorem d1_33 : decode method_3_code 33 = .ok (.bipush 24, 2) := by decide +kernel
theorem d1_35 : decode method_3_code 35 = .ok (.lushr, 1) := by decide +kernel
theorem d1_36 : decode method_3_code 36 = .ok (.l2i, 1) := by decide +kernel
theorem d1_37 : decode method_3_code 37 = .ok (.i2b, 1) := by decide +kernel
theorem d1_38 : decode method_3_code 38 = .ok (.bastore, 1) := by decide +kernel
theorem d1_39 : decode method_3_code 39 = .ok (.aload_n 0, 1) := by decide +kernel
theorem d1_40 : decode method_3_code 40 = .ok (.iload_n 1, 1) := by decide +kernel
theorem d1_41 : decode method_3_code 41 = .ok (.iconst 4, 1) := by decide +kernel
theorem d1_42 : decode method_3_code 42 = .ok (.iadd, 1) := by decide +kernel
theorem d1_43 : decode method_3_code 43 = .ok (.lload_n 2, 1) := by decide +kernel
theorem d1_44 : decode method_3_code 44 = .ok (.bipush 32, 2) := by decide +kernel
theorem d1_46 : decode method_3_code 46 = .ok (.lushr, 1) := by decide +kernel
theorem d1_47 : decode method_3_code 47 = .ok (.l2i, 1) := by decide +kernel
theorem d1_48 : decode method_3_code 48 = .ok (.i2b, 1) := by decide +kernel
theorem d1_49 : decode method_3_code 49 = .ok (.bastore, 1) := by decide +kernel
theorem d1_50 : decode method_3_code 50 = .ok (.aload_n 0, 1) := by decide +kernel
theorem d1_51 : decode method_3_code 51 = .ok (.iload_n 1, 1) := by decide +kernel
theorem d1_52 : decode method_3_code 52 = .ok (.iconst 5, 1) := by decide +kernel
theorem d1_53 : decode method_3_code 53 = .ok (.iadd, 1) := by decide +kernel
theorem d1_54 : decode method_3_code 54 = .ok (.lload_n 2, 1) := by decide +kernel
theorem d1_55 : decode method_3_code 55 = .ok (.bipush 40, 2) := by decide +kernel
theorem d1_57 : decode method_3_code 57 = .ok (.lushr, 1) := by decide +kernel
theorem d1_58 : decode method_3_code 58 = .ok (.l2i, 1) := by decide +kernel
theorem d1_59 : decode method_3_code 59 = .ok (.i2b, 1) := by decide +kernel
theorem d1_60 : decode method_3_code 60 = .ok (.bastore, 1) := by decide +kernel
theorem d1_61 : decode method_3_code 61 = .ok (.aload_n 0, 1) := by decide +kernel
theorem d1_62 : decode method_3_code 62 = .ok (.iload_n 1, 1) := by decide +kernel
theorem d1_63 : decode method_3_code 63 = .ok (.bipush 6, 2) := by decide +kernel
theorem d1_65 : decode method_3_code 65 = .ok (.iadd, 1) := by decide +kernel
theorem d1_66 : decode method_3_code 66 = .ok (.lload_n 2, 1) := by decide +kernel
theorem d1_67 : decode method_3_code 67 = .ok (.bipush 48, 2) := by decide +kernel
theorem d1_69 : decode method_3_code 69 = .ok (.lushr, 1) := by decide +kernel
theorem d1_70 : decode method_3_code 70 = .ok (.l2i, 1) := by decide +kernel
theorem d1_71 : decode method_3_code 71 = .ok (.i2b, 1) := by decide +kernel
theorem d1_72 : decode method_3_code 72 = .ok (.bastore, 1) := by decide +kernel
theorem d1_73 : decode method_3_code 73 = .ok (.aload_n 0, 1) := by decide +kernel
theorem d1_74 : decode method_3_code 74 = .ok (.iload_n 1, 1) := by decide +kernel
theorem d1_75 : decode method_3_code 75 = .ok (.bipush 7, 2) := by decide +kernel
theorem d1_77 : decode method_3_code 77 = .ok (.iadd, 1) := by decide +kernel
theorem d1_78 : decode method_3_code 78 = .ok (.lload_n 2, 1) := by decide +kernel
theorem d1_79 : decode method_3_code 79 = .ok (.bipush 56, 2) := by decide +kernel
theorem d1_81 : decode method_3_code 81 = .ok (.lushr, 1) := by decide +kernel
theorem d1_82 : decode method_3_code 82 = .ok (.l2i, 1) := by decide +kernel
theorem d1_83 : decode method_3_code 83 = .ok (.i2b, 1) := by decide +kernel
theorem d1_84 : decode method_3_code 84 = .ok (.bastore, 1) := by decide +kernel
theorem d1_85 : decode method_3_code 85 = .ok (.return_, 1) := by decide +kernel
theorem ef_1 (m : MethodId) (x0 : Addr) (x1 : Int32) (x2 : Int64) : entryFrame m #[(.ref x0), (.int x1), (.long x2)] 4 = mkF m 0 #[.val (.ref x0), .val (.int x1), .val (.long x2), .second] [] := by first | (simp [entryFrame, mkF, argsToLocals, Value.category, maxLocals]; done) | rfl
set_option maxRecDepth 65536 in
set_option maxHeartbeats 40000000 in
theorem m1 (l : Launch) (Z : State) (a0 : Array Value) (hw : ∀ d ∈ tables_1, d.before a0 Z = true) (a : Addr) (p1 : Int32) (p2 : Int64) (h0 : Heap) (n0 : Nat) (f : Nat → Int32) (t0 : Nat) (na : n0 ≤ a) (A : Ary Z h0 a .byte 32 (fun j => .int (f j))) (x1 : Ix p1 t0) (ht : t0 + 8 ≤ 32) :
    Met l Z (⟨"com/example/curvehand/curvehand/crypto/FixedBaseTableDigitsPinLaw", "put", "([BIJ)V"⟩ : MethodName) method_3_code 4 none ({ frames := 0, cells := 0, slots := 0, locals := 0 } : Room) #[(.ref a), (.int p1), (.long p2)] h0 n0 (qV fun h => Ary Z h a .byte 32 (fun j => .int (PUT f t0 p2 j)) ∧ Keep h0 h [a]) := by
  refine met (plainFor_of_name pn_com_example_curvehand_curvehand_crypto_FixedBaseTableDigitsPinLaw) #[.val (.ref a), .val (.int p1), .val (.long p2), .second] (fun m => ef_1 m a p1 p2) ?_
  intro p e s m below meth c C
  refine g_aloadN C d1_0 1 rfl rfl rfl ?_
  refine g_iloadN C d1_1 2 rfl rfl ?_
  refine g_lloadN C d1_2 3 rfl rfl ?_
  refine g_l2i C d1_3 4 rfl ?_
  refine g_i2b C d1_4 5 rfl ?_
  refine g_bastore C A (t0 + 0) (by rw [Nat.add_zero]; exact x1) (by omega) d1_5 6 rfl na (fun h5 W5 A5 => ?_)
  have A5' : Ary Z h5 a .byte 32 (fun j => .int ((upn f (t0 + 0) (bt p2 0)) j)) := A5.asI
  have K5 := (Keep.refl h0 [a]).wr W5 (Or.inl (List.mem_of_getElem? (i := 0) rfl))
  refine g_aloadN C d1_6 7 rfl rfl rfl ?_
  refine g_iloadN C d1_7 8 rfl rfl ?_
  refine g_iconst C d1_8 9 rfl (1 : Int32) (by decide) ?_
  refine g_iadd C d1_9 10 rfl ?_
  refine g_lloadN C d1_10 11 rfl rfl ?_
  refine g_bipush C d1_11 13 rfl (8 : Int32) (by decide) ?_
  refine g_lushr C d1_13 14 rfl ?_
  refine g_l2i C d1_14 15 rfl ?_
  refine g_i2b C d1_15 16 rfl ?_
  refine g_bastore C A5' (t0 + 1) (x1.add (b := 1) (j := 1) ⟨by decide, by decide⟩ (by omega)) (by omega) d1_16 17 rfl na (fun h16 W16 A16 => ?_)
  have A16' : Ary Z h16 a .byte 32 (fun j => .int ((upn (upn f (t0 + 0) (bt p2 0)) (t0 + 1) (bt p2 1)) j)) := A16.asI
  have K16 := K5.wr W16 (Or.inl (List.mem_of_getElem? (i := 0) rfl))
  refine g_aloadN C d1_17 18 rfl rfl rfl ?_
  refine g_iloadN C d1_18 19 rfl rfl ?_
  refine g_iconst C d1_19 20 rfl (2 : Int32) (by decide) ?_
  refine g_iadd C d1_20 21 rfl ?_
  refine g_lloadN C d1_21 22 rfl rfl ?_
  refine g_bipush C d1_22 24 rfl (16 : Int32) (by decide) ?_
  refine g_lushr C d1_24 25 rfl ?_
  refine g_l2i C d1_25 26 rfl ?_
  refine g_i2b C d1_26 27 rfl ?_
  refine g_bastore C A16' (t0 + 2) (x1.add (b := 2) (j := 2) ⟨by decide, by decide⟩ (by omega)) (by omega) d1_27 28 rfl na (fun h27 W27 A27 => ?_)
  have A27' : Ary Z h27 a .byte 32 (fun j => .int ((upn (upn (upn f (t0 + 0) (bt p2 0)) (t0 + 1) (bt p2 1)) (t0 + 2) (bt p2 2)) j)) := A27.asI
  have K27 := K16.wr W27 (Or.inl (List.mem_of_getElem? (i := 0) rfl))
  refine g_aloadN C d1_28 29 rfl rfl rfl ?_
  refine g_iloadN C d1_29 30 rfl rfl ?_
  refine g_iconst C d1_30 31 rfl (3 : Int32) (by decide) ?_
  refine g_iadd C d1_31 32 rfl ?_
  refine g_lloadN C d1_32 33 rfl rfl ?_
  refine g_bipush C d1_33 35 rfl (24 : Int32) (by decide) ?_
  refine g_lushr C d1_35 36 rfl ?_
  refine g_l2i C d1_36 37 rfl ?_
  refine g_i2b C d1_37 38 rfl ?_
  refine g_bastore C A27' (t0 + 3) (x1.add (b := 3) (j := 3) ⟨by decide, by decide⟩ (by omega)) (by omega) d1_38 39 rfl na (fun h38 W38 A38 => ?_)
  have A38' : Ary Z h38 a .byte 32 (fun j => .int ((upn (upn (upn (upn f (t0 + 0) (bt p2 0)) (t0 + 1) (bt p2 1)) (t0 + 2) (bt p2 2)) (t0 + 3) (bt p2 3)) j)) := A38.asI
  have K38 := K27.wr W38 (Or.inl (List.mem_of_getElem? (i := 0) rfl))
  refine g_aloadN C d1_39 40 rfl rfl rfl ?_
  refine g_iloadN C d1_40 41 rfl rfl ?_
  refine g_iconst C d1_41 42 rfl (4 : Int32) (by decide) ?_
  refine g_iadd C d1_42 43 rfl ?_
  refine g_lloadN C d1_43 44 rfl rfl ?_
  refine g_bipush C d1_44 46 rfl (32 : Int32) (by decide) ?_
  refine g_lushr C d1_46 47 rfl ?_
  refine g_l2i C d1_47 48 rfl ?_
  refine g_i2b C d1_48 49 rfl ?_
  refine g_bastore C A38' (t0 + 4) (x1.add (b := 4) (j := 4) ⟨by decide, by decide⟩ (by omega)) (by omega) d1_49 50 rfl na (fun h49 W49 A49 => ?_)
  have A49' : Ary Z h49 a .byte 32 (fun j => .int ((upn (upn (upn (upn (upn f (t0 + 0) (bt p2 0)) (t0 + 1) (bt p2 1)) (t0 + 2) (bt p2 2)) (t0 + 3) (bt p2 3)) (t0 + 4) (bt p2 4)) j)) := A49.asI
  have K49 := K38.wr W49 (Or.inl (List.mem_of_getElem? (i := 0) rfl))
  refine g_aloadN C d1_50 51 rfl rfl rfl ?_
  refine g_iloadN C d1_51 52 rfl rfl ?_
  refine g_iconst C d1_52 53 rfl (5 : Int32) (by decide) ?_
  refine g_iadd C d1_53 54 rfl ?_
  refine g_lloadN C d1_54 55 rfl rfl ?_
  refine g_bipush C d1_55 57 rfl (40 : Int32) (by decide) ?_
  refine g_lushr C d1_57 58 rfl ?_
  refine g_l2i C d1_58 59 rfl ?_
  refine g_i2b C d1_59 60 rfl ?_
  refine g_bastore C A49' (t0 + 5) (x1.add (b := 5) (j := 5) ⟨by decide, by decide⟩ (by omega)) (by omega) d1_60 61 rfl na (fun h60 W60 A60 => ?_)
  have A60' : Ary Z h60 a .byte 32 (fun j => .int ((upn (upn (upn (upn (upn (upn f (t0 + 0) (bt p2 0)) (t0 + 1) (bt p2 1)) (t0 + 2) (bt p2 2)) (t0 + 3) (bt p2 3)) (t0 + 4) (bt p2 4)) (t0 + 5) (bt p2 5)) j)) := A60.asI
  have K60 := K49.wr W60 (Or.inl (List.mem_of_getElem? (i := 0) rfl))
  refine g_aloadN C d1_61 62 rfl rfl rfl ?_
  refine g_iloadN C d1_62 63 rfl rfl ?_
  refine g_bipush C d1_63 65 rfl (6 : Int32) (by decide) ?_
  refine g_iadd C d1_65 66 rfl ?_
  refine g_lloadN C d1_66 67 rfl rfl ?_
  refine g_bipush C d1_67 69 rfl (48 : Int32) (by decide) ?_
  refine g_lushr C d1_69 70 rfl ?_
  refine g_l2i C d1_70 71 rfl ?_
  refine g_i2b C d1_71 72 rfl ?_
  refine g_bastore C A60' (t0 + 6) (x1.add (b := 6) (j := 6) ⟨by decide, by decide⟩ (by omega)) (by omega) d1_72 73 rfl na (fun h72 W72 A72 => ?_)
  have A72' : Ary Z h72 a .byte 32 (fun j => .int ((upn (upn (upn (upn (upn (upn (upn f (t0 + 0) (bt p2 0)) (t0 + 1) (bt p2 1)) (t0 + 2) (bt p2 2)) (t0 + 3) (bt p2 3)) (t0 + 4) (bt p2 4)) (t0 + 5) (bt p2 5)) (t0 + 6) (bt p2 6)) j)) := A72.asI
  have K72 := K60.wr W72 (Or.inl (List.mem_of_getElem? (i := 0) rfl))
  refine g_aloadN C d1_73 74 rfl rfl rfl ?_
  refine g_iloadN C d1_74 75 rfl rfl ?_
  refine g_bipush C d1_75 77 rfl (7 : Int32) (by decide) ?_
  refine g_iadd C d1_77 78 rfl ?_
  refine g_lloadN C d1_78 79 rfl rfl ?_
  refine g_bipush C d1_79 81 rfl (56 : Int32) (by decide) ?_
  refine g_lushr C d1_81 82 rfl ?_
  refine g_l2i C d1_82 83 rfl ?_
  refine g_i2b C d1_83 84 rfl ?_
  refine g_bastore C A72' (t0 + 7) (x1.add (b := 7) (j := 7) ⟨by decide, by decide⟩ (by omega)) (by omega) d1_84 85 rfl na (fun h84 W84 A84 => ?_)
  have A84' : Ary Z h84 a .byte 32 (fun j => .int ((upn (upn (upn (upn (upn (upn (upn (upn f (t0 + 0) (bt p2 0)) (t0 + 1) (bt p2 1)) (t0 + 2) (bt p2 2)) (t0 + 3) (bt p2 3)) (t0 + 4) (bt p2 4)) (t0 + 5) (bt p2 5)) (t0 + 6) (bt p2 6)) (t0 + 7) (bt p2 7)) j)) := A84.asI
  have K84 := K72.wr W84 (Or.inl (List.mem_of_getElem? (i := 0) rfl))
  refine r_void C d1_85 (by decide) (by decide) ⟨A84', K84⟩
theorem d2_0 : decode prog_17_method_6_code 0 = .ok (.iload_n 1, 1) := by decide +kernel
theorem d2_1 : decode prog_17_method_6_code 1 = .ok (.newarray .int, 2) := by decide +kernel
theorem d2_3 : decode prog_17_method_6_code 3 = .ok (.astore_n 2, 1) := by decide +kernel
theorem d2_4 : decode prog_17_method_6_code 4 = .ok (.iconst 0, 1) := by decide +kernel
theorem d2_5 : decode prog_17_method_6_code 5 = .ok (.istore_n 3, 1) := by decide +kernel
theorem d2_6 : decode prog_17_method_6_code 6 = .ok (.iload_n 3, 1) := by decide +kernel
theorem d2_7 : decode prog_17_method_6_code 7 = .ok (.bipush 32, 2) := by decide +kernel
theorem d2_9 : decode prog_17_method_6_code 9 = .ok (.if_icmp .ge 35, 3) := by decide +kernel
theorem d2_12 : decode prog_17_method_6_code 12 = .ok (.aload_n 2, 1) := by decide +kernel
theorem d2_13 : decode prog_17_method_6_code 13 = .ok (.iconst 2, 1) := by decide +kernel
theorem d2_14 : decode prog_17_method_6_code 14 = .ok (.iload_n 3, 1) := by decide +kernel
theorem d2_15 : decode prog_17_method_6_code 15 = .ok (.imul, 1) := by decide +kernel
theorem d2_16 : decode prog_17_method_6_code 16 = .ok (.aload_n 0, 1) := by decide +kernel
theorem d2_17 : decode prog_17_method_6_code 17 = .ok (.iload_n 3, 1) := by decide +kernel
theorem d2_18 : decode prog_17_method_6_code 18 = .ok (.baload, 1) := by decide +kernel
theorem d2_19 : decode prog_17_method_6_code 19 = .ok (.bipush 15, 2) := by decide +kernel
theorem d2_21 : decode prog_17_method_6_code 21 = .ok (.iand, 1) := by decide +kernel
theorem d2_22 : decode prog_17_method_6_code 22 = .ok (.iastore, 1) := by decide +kernel
theorem d2_23 : decode prog_17_method_6_code 23 = .ok (.aload_n 2, 1) := by decide +kernel
theorem d2_24 : decode prog_17_method_6_code 24 = .ok (.iconst 2, 1) := by decide +kernel
theorem d2_25 : decode prog_17_method_6_code 25 = .ok (.iload_n 3, 1) := by decide +kernel
theorem d2_26 : decode prog_17_method_6_code 26 = .ok (.imul, 1) := by decide +kernel
theorem d2_27 : decode prog_17_method_6_code 27 = .ok (.iconst 1, 1) := by decide +kernel
theorem d2_28 : decode prog_17_method_6_code 28 = .ok (.iadd, 1) := by decide +kernel
theorem d2_29 : decode prog_17_method_6_code 29 = .ok (.aload_n 0, 1) := by decide +kernel
theorem d2_30 : decode prog_17_method_6_code 30 = .ok (.iload_n 3, 1) := by decide +kernel
theorem d2_31 : decode prog_17_method_6_code 31 = .ok (.baload, 1) := by decide +kernel
theorem d2_32 : decode prog_17_method_6_code 32 = .ok (.iconst 4, 1) := by decide +kernel
theorem d2_33 : decode prog_17_method_6_code 33 = .ok (.ishr, 1) := by decide +kernel
theorem d2_34 : decode prog_17_method_6_code 34 = .ok (.bipush 15, 2) := by decide +kernel
theorem d2_36 : decode prog_17_method_6_code 36 = .ok (.iand, 1) := by decide +kernel
theorem d2_37 : decode prog_17_method_6_code 37 = .ok (.iastore, 1) := by decide +kernel
theorem d2_38 : decode prog_17_method_6_code 38 = .ok (.iinc 3 1, 3) := by decide +kernel
theorem d2_41 : decode prog_17_method_6_code 41 = .ok (.goto (-35), 3) := by decide +kernel
theorem d2_44 : decode prog_17_method_6_code 44 = .ok (.iconst 0, 1) := by decide +kernel
theorem d2_45 : decode prog_17_method_6_code 45 = .ok (.istore_n 3, 1) := by decide +kernel
theorem d2_46 : decode prog_17_method_6_code 46 = .ok (.iconst 0, 1) := by decide +kernel
theorem d2_47 : decode prog_17_method_6_code 47 = .ok (.istore 4, 2) := by decide +kernel
theorem d2_49 : decode prog_17_method_6_code 49 = .ok (.iload 4, 2) := by decide +kernel
theorem d2_51 : decode prog_17_method_6_code 51 = .ok (.iload_n 1, 1) := by decide +kernel
theorem d2_52 : decode prog_17_method_6_code 52 = .ok (.iconst 1, 1) := by decide +kernel
theorem d2_53 : decode prog_17_method_6_code 53 = .ok (.isub, 1) := by decide +kernel
theorem d2_54 : decode prog_17_method_6_code 54 = .ok (.if_icmp .ge 37, 3) := by decide +kernel
theorem d2_57 : decode prog_17_method_6_code 57 = .ok (.aload_n 2, 1) := by decide +kernel
theorem d2_58 : decode prog_17_method_6_code 58 = .ok (.iload 4, 2) := by decide +kernel
theorem d2_60 : decode prog_17_method_6_code 60 = .ok (.dup2, 1) := by decide +kernel
theorem d2_61 : decode prog_17_method_6_code 61 = .ok (.iaload, 1) := by decide +kernel
theorem d2_62 : decode prog_17_method_6_code 62 = .ok (.iload_n 3, 1) := by decide +kernel
theorem d2_63 : decode prog_17_method_6_code 63 = .ok (.iadd, 1) := by decide +kernel
theorem d2_64 : decode prog_17_method_6_code 64 = .ok (.iastore, 1) := by decide +kernel
theorem d2_65 : decode prog_17_method_6_code 65 = .ok (.aload_n 2, 1) := by decide +kernel
theorem d2_66 : decode prog_17_method_6_code 66 = .ok (.iload 4, 2) := by decide +kernel
theorem d2_68 : decode prog_17_method_6_code 68 = .ok (.iaload, 1) := by decide +kernel
theorem d2_69 : decode prog_17_method_6_code 69 = .ok (.bipush 8, 2) := by decide +kernel
theorem d2_71 : decode prog_17_method_6_code 71 = .ok (.iadd, 1) := by decide +kernel
theorem d2_72 : decode prog_17_method_6_code 72 = .ok (.iconst 4, 1) := by decide +kernel
theorem d2_73 : decode prog_17_method_6_code 73 = .ok (.ishr, 1) := by decide +kernel
theorem d2_74 : decode prog_17_method_6_code 74 = .ok (.istore_n 3, 1) := by decide +kernel
theorem d2_75 : decode prog_17_method_6_code 75 = .ok (.aload_n 2, 1) := by decide +kernel
theorem d2_76 : decode prog_17_method_6_code 76 = .ok (.iload 4, 2) := by decide +kernel
theorem d2_78 : decode prog_17_method_6_code 78 = .ok (.dup2, 1) := by decide +kernel
theorem d2_79 : decode prog_17_method_6_code 79 = .ok (.iaload, 1) := by decide +kernel
theorem d2_80 : decode prog_17_method_6_code 80 = .ok (.iload_n 3, 1) := by decide +kernel
theorem d2_81 : decode prog_17_method_6_code 81 = .ok (.iconst 4, 1) := by decide +kernel
theorem d2_82 : decode prog_17_method_6_code 82 = .ok (.ishl, 1) := by decide +kernel
theorem d2_83 : decode prog_17_method_6_code 83 = .ok (.isub, 1) := by decide +kernel
theorem d2_84 : decode prog_17_method_6_code 84 = .ok (.iastore, 1) := by decide +kernel
theorem d2_85 : decode prog_17_method_6_code 85 = .ok (.iinc 4 1, 3) := by decide +kernel
theorem d2_88 : decode prog_17_method_6_code 88 = .ok (.goto (-39), 3) := by decide +kernel
theorem d2_91 : decode prog_17_method_6_code 91 = .ok (.aload_n 2, 1) := by decide +kernel
theorem d2_92 : decode prog_17_method_6_code 92 = .ok (.iload_n 1, 1) := by decide +kernel
theorem d2_93 : decode prog_17_method_6_code 93 = .ok (.iconst 1, 1) := by decide +kernel
theorem d2_94 : decode prog_17_method_6_code 94 = .ok (.isub, 1) := by decide +kernel
theorem d2_95 : decode prog_17_method_6_code 95 = .ok (.dup2, 1) := by decide +kernel
theorem d2_96 : decode prog_17_method_6_code 96 = .ok (.iaload, 1) := by decide +kernel
theorem d2_97 : decode prog_17_method_6_code 97 = .ok (.iload_n 3, 1) := by decide +kernel
theorem d2_98 : decode prog_17_method_6_code 98 = .ok (.iadd, 1) := by decide +kernel
theorem d2_99 : decode prog_17_method_6_code 99 = .ok (.iastore, 1) := by decide +kernel
theorem d2_100 : decode prog_17_method_6_code 100 = .ok (.aload_n 2, 1) := by decide +kernel
theorem d2_101 : decode prog_17_method_6_code 101 = .ok (.areturn, 1) := by decide +kernel
theorem pn_com_example_curvehand_curvehand_crypto_FixedBaseTable : plainName "com/example/curvehand/curvehand/crypto/FixedBaseTable" = true := by first | (simp [plainName, overriddenIn]; done) | decide +kernel
theorem ef_2 (m : MethodId) (x0 : Addr) (x1 : Int32) : entryFrame m #[(.ref x0), (.int x1)] 5 = mkF m 0 #[.val (.ref x0), .val (.int x1), .unset, .unset, .unset] [] := by first | (simp [entryFrame, mkF, argsToLocals, Value.category, maxLocals]; done) | rfl
set_option maxRecDepth 65536 in
set_option maxHeartbeats 40000000 in
theorem m2 (l : Launch) (Z : State) (a0 : Array Value) (hw : ∀ d ∈ tables_1, d.before a0 Z = true) (a : Addr) (p1 : Int32) (h0 : Heap) (n0 : Nat) (sc : Nat → Int32) (N : Nat) (Z0 : n0 ≤ h0.size) (B : Ary Z h0 a .byte 32 (fun j => .int (sc j))) (x1 : Ix p1 N) (hN : N = 64 ∨ N = 65) :
    Met l Z (⟨"com/example/curvehand/curvehand/crypto/FixedBaseTable", "digits", "([BI)[I"⟩ : MethodName) prog_17_method_6_code 5 (some (.array .int)) ({ frames := 0, cells := 1, slots := 65, locals := 0 } : Room) #[(.ref a), (.int p1)] h0 n0 (qA fun r h => Ary Z h r .int N (fun j => .int (FD sc N j)) ∧ Keep h0 h []) := by
  refine met (plainFor_of_name pn_com_example_curvehand_curvehand_crypto_FixedBaseTable) #[.val (.ref a), .val (.int p1), .unset, .unset, .unset] (fun m => ef_2 m a p1) ?_
  intro p e s m below meth c C
  refine g_iloadN C d2_0 1 rfl rfl ?_
  refine g_newarray C (hw _ (List.mem_of_getElem? (i := 10) rfl)) N 65 x1 (by omega) (by decide) d2_1 3 rfl 1 65 rfl rfl (by decide) (by decide) (fun h1 a1 ga1 E1 A1 => ?_)
  have n1 : n0 ≤ a1 := by rw [ga1]; exact Z0
  have K1 : Keep h0 h1 [] := (Keep.refl _ _).ext E1
  have B1 := B.ext E1
  have nb : a ≠ a1 := by rw [ga1]; exact Nat.ne_of_lt B.lt
  refine g_astoreN C d2_3 4 rfl #[.val (.ref a), .val (.int p1), .val (.ref a1), .unset, .unset] rfl rfl ?_
  refine g_iconst C d2_4 5 rfl (0 : Int32) (by decide) ?_
  refine g_istoreN C d2_5 6 rfl (fun z' => #[.val (.ref a), .val (.int p1), .val (.ref a1), .val (.int z'), .unset]) (fun _ => rfl) (fun v5 ev5 => ?_)
  obtain rfl := ev5.symm
  have loop1 : ∀ (d i : Nat) (i' : Int32) (h : Heap), Ix i' i → 32 - i = d → i ≤ 32 → Ary Z h a1 .int N (fun j => .int (dg1 sc i j)) → Ary Z h a .byte 32 (fun j => .int (sc j)) → Keep h0 h [] → Go p l e ({ frames := 0, cells := 1, slots := 65, locals := 0 } : Room) s m #[(.ref a), (.int p1)] below meth c n0 (qA fun r h => Ary Z h r .int N (fun j => .int (FD sc N j)) ∧ Keep h0 h []) h 1 65 6 #[.val (.ref a), .val (.int p1), .val (.ref a1), .val (.int i'), .unset] [] := by
    intro d
    induction d using Nat.strongRecOn with
    | _ d ih =>
      intro i i' h xi hd hi A2 B2 K2
      refine g_iloadN C d2_6 7 rfl rfl ?_
      refine g_bipush C d2_7 9 rfl (32 : Int32) (by decide) ?_
      refine g_if_icmpge C d2_9 44 (by decide) 12 rfl (fun k9 => ?_) (fun k9 => ?_)
      · have hin : i = 32 := by
          have := mt (xi.lt (b := 32) (j := 32) ⟨by decide, by decide⟩).mpr k9; omega
        refine g_iconst C d2_44 45 rfl (0 : Int32) (by decide) ?_
        refine g_istoreN C d2_45 46 rfl (fun z' => #[.val (.ref a), .val (.int p1), .val (.ref a1), .val (.int z'), .unset]) (fun _ => rfl) (fun v45 ev45 => ?_)
        obtain rfl := ev45.symm
        refine g_iconst C d2_46 47 rfl (0 : Int32) (by decide) ?_
        refine g_istore C d2_47 49 rfl (fun z' => #[.val (.ref a), .val (.int p1), .val (.ref a1), .val (.int (0 : Int32)), .val (.int z')]) (fun _ => rfl) (fun v47 ev47 => ?_)
        obtain rfl := ev47.symm
        have loop2 : ∀ (d y : Nat) (y' c' : Int32) (h : Heap), Ix y' y → c' = cI sc y → N - 1 - y = d → y ≤ N - 1 → Ary Z h a1 .int N (fun j => .int (dg2 sc y j)) → Keep h0 h [] → Go p l e ({ frames := 0, cells := 1, slots := 65, locals := 0 } : Room) s m #[(.ref a), (.int p1)] below meth c n0 (qA fun r h => Ary Z h r .int N (fun j => .int (FD sc N j)) ∧ Keep h0 h []) h 1 65 49 #[.val (.ref a), .val (.int p1), .val (.ref a1), .val (.int c'), .val (.int y')] [] := by
          intro d
          induction d using Nat.strongRecOn with
          | _ d ih2 =>
            intro y y' c' h xy hc hd hy A3 K3
            refine g_iload C d2_49 51 rfl rfl ?_
            refine g_iloadN C d2_51 52 rfl rfl ?_
            refine g_iconst C d2_52 53 rfl (1 : Int32) (by decide) ?_
            refine g_isub C d2_53 54 rfl ?_
            refine g_if_icmpge C d2_54 91 (by decide) 57 rfl (fun k54 => ?_) (fun k54 => ?_)
            · have hyn : y = N - 1 := by
                have := mt (xy.lt (own_pred x1 (by omega))).mpr k54; omega
              refine g_aloadN C d2_91 92 rfl rfl rfl ?_
              refine g_iloadN C d2_92 93 rfl rfl ?_
              refine g_iconst C d2_93 94 rfl (1 : Int32) (by decide) ?_
              refine g_isub C d2_94 95 rfl ?_
              refine g_dup2 C d2_95 96 rfl rfl rfl ?_
              refine g_iaload C A3 (N - 1) (own_pred x1 (by omega)) (by omega) (.int (nb0 sc (N - 1))) (by show Value.int (dg2 sc y (N - 1)) = _; rw [← hyn, dg2_at]) d2_96 97 rfl ?_
              refine g_iloadN C d2_97 98 rfl rfl ?_
              refine g_iadd C d2_98 99 rfl ?_
              refine g_iastore C A3 (N - 1) (own_pred x1 (by omega)) (by omega) d2_99 100 rfl n1 (fun h99 W99 A99 => ?_)
              have K99 := K3.wr W99 (Or.inr (Nat.le_of_eq ga1.symm))
              have A99' : Ary Z h99 a1 .int N (fun j => .int (FD sc N j)) := A99.congr (fun j hj => by rw [hc, hyn]; exact FD_of)
              refine g_aloadN C d2_100 101 rfl rfl rfl ?_
              refine r_ref C rfl rfl d2_101 (by decide) (by decide) ⟨A99', K99⟩
            · have hlt2 : y < N - 1 := (xy.lt (own_pred x1 (by omega))).mp k54
              refine g_aloadN C d2_57 58 rfl rfl rfl ?_
              refine g_iload C d2_58 60 rfl rfl ?_
              refine g_dup2 C d2_60 61 rfl rfl rfl ?_
              refine g_iaload C A3 y xy (by omega) (.int (nb0 sc y)) (by show Value.int (dg2 sc y y) = _; rw [dg2_at]) d2_61 62 rfl ?_
              refine g_iloadN C d2_62 63 rfl rfl ?_
              refine g_iadd C d2_63 64 rfl ?_
              refine g_iastore C A3 y xy (by omega) d2_64 65 rfl n1 (fun h64 W64 A64 => ?_)
              have K64 := K3.wr W64 (Or.inr (Nat.le_of_eq ga1.symm))
              refine g_aloadN C d2_65 66 rfl rfl rfl ?_
              refine g_iload C d2_66 68 rfl rfl ?_
              refine g_iaload C A64 y xy (by omega) (.int (nb0 sc y + c')) (if_pos rfl) d2_68 69 rfl ?_
              refine g_bipush C d2_69 71 rfl (8 : Int32) (by decide) ?_
              refine g_iadd C d2_71 72 rfl ?_
              refine g_iconst C d2_72 73 rfl (4 : Int32) (by decide) ?_
              refine g_ishr C d2_73 74 rfl ?_
              refine g_istoreN C d2_74 75 rfl (fun z' => #[.val (.ref a), .val (.int p1), .val (.ref a1), .val (.int z'), .val (.int y')]) (fun _ => rfl) (fun v74 ev74 => ?_)
              refine g_aloadN C d2_75 76 rfl rfl rfl ?_
              refine g_iload C d2_76 78 rfl rfl ?_
              refine g_dup2 C d2_78 79 rfl rfl rfl ?_
              refine g_iaload C A64 y xy (by omega) (.int (nb0 sc y + c')) (if_pos rfl) d2_79 80 rfl ?_
              refine g_iloadN C d2_80 81 rfl rfl ?_
              refine g_iconst C d2_81 82 rfl (4 : Int32) (by decide) ?_
              refine g_ishl C d2_82 83 rfl ?_
              refine g_isub C d2_83 84 rfl ?_
              refine g_iastore C A64 y xy (by omega) d2_84 85 rfl n1 (fun h84 W84 A84 => ?_)
              have K84 := K64.wr W84 (Or.inr (Nat.le_of_eq ga1.symm))
              have A84' : Ary Z h84 a1 .int N (fun j => .int (dg2 sc (y + 1) j)) := A84.congr (fun j hj => by rw [ev74, hc]; exact dg2_up)
              refine g_iinc C d2_85 88 rfl rfl (1 : Int32) (by decide) (fun z' => #[.val (.ref a), .val (.int p1), .val (.ref a1), .val (.int v74), .val (.int z')]) (fun _ => rfl) (fun v85 ev85 => ?_)
              refine g_goto C d2_88 49 (by decide) ?_
              exact ih2 (N - 1 - (y + 1)) (by omega) (y + 1) _ _ h84 (by rw [ev85]; exact xy.succ (by omega)) (by rw [ev74, hc]; rfl) rfl (by omega) A84' K84
        exact loop2 (N - 1) 0 _ _ h ⟨by decide, by decide⟩ rfl rfl (by omega) (A2.congr (fun j hj => by rw [hin, dg12])) K2
      · have hlt : i < 32 := (xi.lt (b := 32) (j := 32) ⟨by decide, by decide⟩).mp k9
        refine g_aloadN C d2_12 13 rfl rfl rfl ?_
        refine g_iconst C d2_13 14 rfl (2 : Int32) (by decide) ?_
        refine g_iloadN C d2_14 15 rfl rfl ?_
        refine g_imul C d2_15 16 rfl ?_
        refine g_aloadN C d2_16 17 rfl rfl rfl ?_
        refine g_iloadN C d2_17 18 rfl rfl ?_
        refine g_baload C B2 i xi hlt (.int (sc i)) rfl d2_18 19 rfl ?_
        refine g_bipush C d2_19 21 rfl (15 : Int32) (by decide) ?_
        refine g_iand C d2_21 22 rfl ?_
        refine g_iastore C A2 (2 * i) (Ix.mul ⟨by decide, by decide⟩ xi (by omega)) (by omega) d2_22 23 rfl n1 (fun h22 W22 A22 => ?_)
        have B22 := B2.other W22 nb
        have K22 := K2.wr W22 (Or.inr (Nat.le_of_eq ga1.symm))
        refine g_aloadN C d2_23 24 rfl rfl rfl ?_
        refine g_iconst C d2_24 25 rfl (2 : Int32) (by decide) ?_
        refine g_iloadN C d2_25 26 rfl rfl ?_
        refine g_imul C d2_26 27 rfl ?_
        refine g_iconst C d2_27 28 rfl (1 : Int32) (by decide) ?_
        refine g_iadd C d2_28 29 rfl ?_
        refine g_aloadN C d2_29 30 rfl rfl rfl ?_
        refine g_iloadN C d2_30 31 rfl rfl ?_
        refine g_baload C B22 i xi hlt (.int (sc i)) rfl d2_31 32 rfl ?_
        refine g_iconst C d2_32 33 rfl (4 : Int32) (by decide) ?_
        refine g_ishr C d2_33 34 rfl ?_
        refine g_bipush C d2_34 36 rfl (15 : Int32) (by decide) ?_
        refine g_iand C d2_36 37 rfl ?_
        refine g_iastore C A22.asI (2 * i + 1) ((Ix.mul ⟨by decide, by decide⟩ xi (by omega)).succ (by omega)) (by omega) d2_37 38 rfl n1 (fun h37 W37 A37 => ?_)
        have B37 := B22.other W37 nb
        have K37 := K22.wr W37 (Or.inr (Nat.le_of_eq ga1.symm))
        have A37' : Ary Z h37 a1 .int N (fun j => .int (dg1 sc (i + 1) j)) := A37.asI.congr (fun j hj => by rw [dg1_up])
        refine g_iinc C d2_38 41 rfl rfl (1 : Int32) (by decide) (fun z' => #[.val (.ref a), .val (.int p1), .val (.ref a1), .val (.int z'), .unset]) (fun _ => rfl) (fun v38 ev38 => ?_)
        refine g_goto C d2_41 6 (by decide) ?_
        exact ih (32 - (i + 1)) (by omega) (i + 1) _ h37 (by rw [ev38]; exact xi.succ (by omega)) rfl (by omega) A37' B37 K37
  exact loop1 32 0 _ h1 ⟨by decide, by decide⟩ rfl (by omega) (A1.congr (fun j hj => rfl)) B1 K1
theorem pd_2 : parseMethodDescriptor "([BIJ)V" = some ⟨[.array .byte, .int, .long], none⟩ := by decide +kernel
theorem pd_3 : parseMethodDescriptor "([BI)[I" = some ⟨[.array .byte, .int], some (.array .int)⟩ := by decide +kernel
theorem pd_4 : parseMethodDescriptor "([JII)I" = some ⟨[.array .long, .int, .int], some (.int)⟩ := by decide +kernel
theorem ef_0 (m : MethodId) (x0 : Int64) (x1 : Int64) (x2 : Int64) (x3 : Int64) (x4 : Int32) (x5 : Int32) : entryFrame m #[(.long x0), (.long x1), (.long x2), (.long x3), (.int x4), (.int x5)] maxLocals = mkF m 0 #[.val (.long x0), .second, .val (.long x1), .second, .val (.long x2), .second, .val (.long x3), .second, .val (.int x4), .val (.int x5), .unset, .unset, .unset, .unset, .unset, .unset] [] := by first | (simp [entryFrame, mkF, argsToLocals, Value.category, maxLocals]; done) | rfl
set_option maxRecDepth 65536 in
set_option maxHeartbeats 40000000 in
theorem m0 (l : Launch) (Z : State) (a0 : Array Value) (hw : ∀ d ∈ tables_1, d.before a0 Z = true) (p0 : Int64) (p1 : Int64) (p2 : Int64) (p3 : Int64) (p4 : Int32) (p5 : Int32) (h0 : Heap) (n0 : Nat) (Z0 : n0 ≤ h0.size) :
    Met l Z x code maxLocals ret room_1 #[(.long p0), (.long p1), (.long p2), (.long p3), (.int p4), (.int p5)] h0 n0 (qI fun r h => r = 1) := by
  refine met (plainFor_of_name pn_com_example_curvehand_curvehand_crypto_FixedBaseTableDigitsPinLaw) #[.val (.long p0), .second, .val (.long p1), .second, .val (.long p2), .second, .val (.long p3), .second, .val (.int p4), .val (.int p5), .unset, .unset, .unset, .unset, .unset, .unset] (fun m => ef_0 m p0 p1 p2 p3 p4 p5) ?_
  intro p e s m below meth c C
  have C : Ctx p l e room_1 s m #[(.long p0), (.long p1), (.long p2), (.long p3), (.int p4), (.int p5)] below meth c Z "com/example/curvehand/curvehand/crypto/FixedBaseTableDigitsPinLaw" "law" code 16 (some (.boolean)) := C
  refine g_bipush C at_0 2 rfl (64 : Int32) (by decide) ?_
  refine g_iload C at_2 4 rfl rfl ?_
  refine g_iconst C at_4 5 rfl (1 : Int32) (by decide) ?_
  refine g_iand C at_5 6 rfl ?_
  refine g_iadd C at_6 7 rfl ?_
  refine g_istore C at_7 9 rfl (fun z' => #[.val (.long p0), .second, .val (.long p1), .second, .val (.long p2), .second, .val (.long p3), .second, .val (.int p4), .val (.int p5), .val (.int z'), .unset, .unset, .unset, .unset, .unset]) (fun _ => rfl) (fun v7 ev7 => ?_)
  obtain ⟨N, hN, xN⟩ := own_cnt ev7
  refine g_iconst C at_9 10 rfl (4 : Int32) (by decide) ?_
  refine g_newarray C (hw _ (List.mem_of_getElem? (i := 0) rfl)) 4 4 ⟨by decide, by decide⟩ (by decide) (by decide) at_10 12 rfl 1 4 rfl rfl (by decide) (by decide) (fun h10 a10 ga10 E10 A10 => ?_)
  have n10 : n0 ≤ a10 := by rw [ga10]; exact Z0
  have Z10 : n0 ≤ h10.size := Nat.le_trans Z0 E10.1
  refine g_astore C at_12 14 rfl #[.val (.long p0), .second, .val (.long p1), .second, .val (.long p2), .second, .val (.long p3), .second, .val (.int p4), .val (.int p5), .val (.int v7), .val (.ref a10), .unset, .unset, .unset, .unset] rfl rfl ?_
  refine g_aload C at_14 16 rfl rfl rfl ?_
  refine g_iconst C at_16 17 rfl (0 : Int32) (by decide) ?_
  refine g_lloadN C at_17 18 rfl rfl ?_
  refine g_lastore C A10 0 ⟨by decide, by decide⟩ (by decide) at_18 19 rfl n10 (fun h18 W18 A18 => ?_)
  refine g_aload C at_19 21 rfl rfl rfl ?_
  refine g_iconst C at_21 22 rfl (1 : Int32) (by decide) ?_
  refine g_lloadN C at_22 23 rfl rfl ?_
  refine g_lastore C A18 1 ⟨by decide, by decide⟩ (by decide) at_23 24 rfl n10 (fun h23 W23 A23 => ?_)
  refine g_aload C at_24 26 rfl rfl rfl ?_
  refine g_iconst C at_26 27 rfl (2 : Int32) (by decide) ?_
  refine g_lload C at_27 29 rfl rfl ?_
  refine g_lastore C A23 2 ⟨by decide, by decide⟩ (by decide) at_29 30 rfl n10 (fun h29 W29 A29 => ?_)
  refine g_aload C at_30 32 rfl rfl rfl ?_
  refine g_iconst C at_32 33 rfl (3 : Int32) (by decide) ?_
  refine g_lload C at_33 35 rfl rfl ?_
  refine g_lastore C A29 3 ⟨by decide, by decide⟩ (by decide) at_35 36 rfl n10 (fun h35 W35 A35 => ?_)
  have Z35 : n0 ≤ h35.size := by rw [W35.size, W29.size, W23.size, W18.size]; exact Z10
  have W35' : Ary Z h35 a10 .long 4 (fun j => .long ((g4 p0 p1 p2 p3) j)) := A35.congr (fun j hj => by
    have : j = 0 ∨ j = 1 ∨ j = 2 ∨ j = 3 := by omega
    rcases this with rfl | rfl | rfl | rfl <;> rfl)
  refine g_bipush C at_36 38 rfl (32 : Int32) (by decide) ?_
  refine g_newarray C (hw _ (List.mem_of_getElem? (i := 1) rfl)) 32 32 ⟨by decide, by decide⟩ (by decide) (by decide) at_38 40 rfl 2 36 rfl rfl (by decide) (by decide) (fun h38 a38 ga38 E38 A38 => ?_)
  have n38 : n0 ≤ a38 := by rw [ga38]; exact Z35
  have Z38 : n0 ≤ h38.size := Nat.le_trans Z35 E38.1
  have V38 := W35'.ext E38
  have ne : a10 ≠ a38 := by rw [ga38]; exact Nat.ne_of_lt W35'.lt
  have A38' : Ary Z h38 a38 .byte 32 (fun j => .int ((fun _ => (0 : Int32)) j)) := A38.congr (fun j hj => rfl)
  refine g_astore C at_40 42 rfl #[.val (.long p0), .second, .val (.long p1), .second, .val (.long p2), .second, .val (.long p3), .second, .val (.int p4), .val (.int p5), .val (.int v7), .val (.ref a10), .val (.ref a38), .unset, .unset, .unset] rfl rfl ?_
  refine g_aload C at_42 44 rfl rfl rfl ?_
  refine g_iconst C at_44 45 rfl (0 : Int32) (by decide) ?_
  refine g_lloadN C at_45 46 rfl rfl ?_
  refine c_staticV C [(.ref a38), (.int (0 : Int32)), (.long p0)] [] (hw _ (List.mem_of_getElem? (i := 2) rfl)) (hw _ (List.mem_of_getElem? (i := 3) rfl)) (hw _ (List.mem_of_getElem? (i := 4) rfl)) (hw _ (List.mem_of_getElem? (i := 5) rfl)) (by decide) (m1 l Z a0 hw a38 (0 : Int32) p0 h38 n0 (fun _ => (0 : Int32)) 0 n38 A38' ⟨by decide, by decide⟩ (by decide)) at_46 49 rfl (lenOf pd_2 rfl) rfl 0 (Nat.le_of_eq rfl) (by decide) (by decide) 2 36 rfl rfl (by decide) (by decide) rfl (fun h46 q46 => ?_)
  have V46 := V38.keep q46.2 (by simpa using ne)
  have Z46 : n0 ≤ h46.size := Nat.le_trans Z38 q46.2.1
  refine g_aload C at_49 51 rfl rfl rfl ?_
  refine g_bipush C at_51 53 rfl (8 : Int32) (by decide) ?_
  refine g_lloadN C at_53 54 rfl rfl ?_
  refine c_staticV C [(.ref a38), (.int (8 : Int32)), (.long p1)] [] (hw _ (List.mem_of_getElem? (i := 2) rfl)) (hw _ (List.mem_of_getElem? (i := 3) rfl)) (hw _ (List.mem_of_getElem? (i := 4) rfl)) (hw _ (List.mem_of_getElem? (i := 5) rfl)) (by decide) (m1 l Z a0 hw a38 (8 : Int32) p1 h46 n0 (PUT (fun _ => (0 : Int32)) 0 p0) 8 n38 q46.1 ⟨by decide, by decide⟩ (by decide)) at_54 57 rfl (lenOf pd_2 rfl) rfl 0 (Nat.le_of_eq rfl) (by decide) (by decide) 2 36 rfl rfl (by decide) (by decide) rfl (fun h54 q54 => ?_)
  have V54 := V46.keep q54.2 (by simpa using ne)
  have Z54 : n0 ≤ h54.size := Nat.le_trans Z46 q54.2.1
  refine g_aload C at_57 59 rfl rfl rfl ?_
  refine g_bipush C at_59 61 rfl (16 : Int32) (by decide) ?_
  refine g_lload C at_61 63 rfl rfl ?_
  refine c_staticV C [(.ref a38), (.int (16 : Int32)), (.long p2)] [] (hw _ (List.mem_of_getElem? (i := 2) rfl)) (hw _ (List.mem_of_getElem? (i := 3) rfl)) (hw _ (List.mem_of_getElem? (i := 4) rfl)) (hw _ (List.mem_of_getElem? (i := 5) rfl)) (by decide) (m1 l Z a0 hw a38 (16 : Int32) p2 h54 n0 (PUT (PUT (fun _ => (0 : Int32)) 0 p0) 8 p1) 16 n38 q54.1 ⟨by decide, by decide⟩ (by decide)) at_63 66 rfl (lenOf pd_2 rfl) rfl 0 (Nat.le_of_eq rfl) (by decide) (by decide) 2 36 rfl rfl (by decide) (by decide) rfl (fun h63 q63 => ?_)
  have V63 := V54.keep q63.2 (by simpa using ne)
  have Z63 : n0 ≤ h63.size := Nat.le_trans Z54 q63.2.1
  refine g_aload C at_66 68 rfl rfl rfl ?_
  refine g_bipush C at_68 70 rfl (24 : Int32) (by decide) ?_
  refine g_lload C at_70 72 rfl rfl ?_
  refine c_staticV C [(.ref a38), (.int (24 : Int32)), (.long p3)] [] (hw _ (List.mem_of_getElem? (i := 2) rfl)) (hw _ (List.mem_of_getElem? (i := 3) rfl)) (hw _ (List.mem_of_getElem? (i := 4) rfl)) (hw _ (List.mem_of_getElem? (i := 5) rfl)) (by decide) (m1 l Z a0 hw a38 (24 : Int32) p3 h63 n0 (PUT (PUT (PUT (fun _ => (0 : Int32)) 0 p0) 8 p1) 16 p2) 24 n38 q63.1 ⟨by decide, by decide⟩ (by decide)) at_72 75 rfl (lenOf pd_2 rfl) rfl 0 (Nat.le_of_eq rfl) (by decide) (by decide) 2 36 rfl rfl (by decide) (by decide) rfl (fun h72 q72 => ?_)
  have V72 := V63.keep q72.2 (by simpa using ne)
  have Z72 : n0 ≤ h72.size := Nat.le_trans Z63 q72.2.1
  have S72 : Ary Z h72 a38 .byte 32 (fun j => .int ((scw (g4 p0 p1 p2 p3)) j)) := q72.1.congr (fun j hj => congrArg Value.int (put_sc hj))
  refine g_aload C at_75 77 rfl rfl rfl ?_
  refine g_iload C at_77 79 rfl rfl ?_
  refine c_staticA C [(.ref a38), (.int v7)] [] (hw _ (List.mem_of_getElem? (i := 6) rfl)) (hw _ (List.mem_of_getElem? (i := 7) rfl)) (hw _ (List.mem_of_getElem? (i := 8) rfl)) (hw _ (List.mem_of_getElem? (i := 9) rfl)) (by decide) (m2 l Z a0 hw a38 v7 h72 n0 (scw (g4 p0 p1 p2 p3)) N Z72 S72 xN hN) at_79 82 rfl (lenOf pd_3 rfl) rfl 0 (Nat.le_of_eq rfl) (by decide) (by decide) 3 101 rfl rfl (by decide) (by decide) rfl (fun r79 h79 q79 => ?_)
  have V79 := V72.keep q79.2 (by simp)
  refine g_astore C at_82 84 rfl #[.val (.long p0), .second, .val (.long p1), .second, .val (.long p2), .second, .val (.long p3), .second, .val (.int p4), .val (.int p5), .val (.int v7), .val (.ref a10), .val (.ref a38), .val (.ref r79), .unset, .unset] rfl rfl ?_
  refine g_aload C at_84 86 rfl rfl rfl ?_
  refine g_arraylength C q79.1 v7 xN at_86 87 rfl ?_
  refine g_iload C at_87 89 rfl rfl ?_
  refine g_if_icmpeq C at_89 94 (by decide) 92 rfl (fun k89 => ?_) (fun k89 => ?_)
  · refine g_iload C at_94 96 rfl rfl ?_
    refine g_ldc C (hw _ (List.mem_of_getElem? (i := 11) rfl)) at_96 98 rfl ?_
    refine g_iand C at_98 99 rfl ?_
    refine g_iload C at_99 101 rfl rfl ?_
    refine g_irem C at_101 102 rfl (xN.nz (by omega)) ?_
    refine g_istore C at_102 104 rfl (fun z' => #[.val (.long p0), .second, .val (.long p1), .second, .val (.long p2), .second, .val (.long p3), .second, .val (.int p4), .val (.int p5), .val (.int v7), .val (.ref a10), .val (.ref a38), .val (.ref r79), .val (.int z'), .unset]) (fun _ => rfl) (fun v102 ev102 => ?_)
    obtain ⟨k, hk, xk⟩ : ∃ i, i < N ∧ Ix v102 i := by rw [ev102]; exact Ix.rem (nn31 _) xN (by omega)
    refine g_aload C at_104 106 rfl rfl rfl ?_
    refine g_iload C at_106 108 rfl rfl ?_
    refine g_iaload C q79.1 k xk hk (.int (FD (scw (g4 p0 p1 p2 p3)) N k)) rfl at_108 109 rfl ?_
    refine g_aload C at_109 111 rfl rfl rfl ?_
    refine g_iload C at_111 113 rfl rfl ?_
    refine g_iload C at_113 115 rfl rfl ?_
    refine c_staticI C [(.ref a10), (.int v102), (.int v7)] [(.int (FD (scw (g4 p0 p1 p2 p3)) N k))] (hw _ (List.mem_of_getElem? (i := 12) rfl)) (hw _ (List.mem_of_getElem? (i := 13) rfl)) (hw _ (List.mem_of_getElem? (i := 4) rfl)) (hw _ (List.mem_of_getElem? (i := 14) rfl)) (by decide) (m3 l Z a0 hw a10 v102 v7 h79 n0 (g4 p0 p1 p2 p3) k N V79 xk xN hk hN) at_115 118 rfl (lenOf pd_4 rfl) rfl 1 (Nat.le_of_eq rfl) (by decide) (by decide) 3 101 rfl rfl (by decide) (by decide) rfl (fun r115 h115 q115 => ?_)
    obtain ⟨hr115, rfl⟩ := q115
    refine g_if_icmpeq C at_118 123 (by decide) 121 rfl (fun k118 => ?_) (fun k118 => ?_)
    · refine g_iload C at_123 125 rfl rfl ?_
      refine g_iconst C at_125 126 rfl (1 : Int32) (by decide) ?_
      refine g_isub C at_126 127 rfl ?_
      refine g_istore C at_127 129 rfl (fun z' => #[.val (.long p0), .second, .val (.long p1), .second, .val (.long p2), .second, .val (.long p3), .second, .val (.int p4), .val (.int p5), .val (.int v7), .val (.ref a10), .val (.ref a38), .val (.ref r79), .val (.int v102), .val (.int z')]) (fun _ => rfl) (fun v127 ev127 => ?_)
      have xl : Ix v127 (N - 1) := by rw [ev127]; exact own_pred xN (by omega)
      refine g_aload C at_129 131 rfl rfl rfl ?_
      refine g_iload C at_131 133 rfl rfl ?_
      refine g_iaload C q79.1 (N - 1) xl (by omega) (.int (FD (scw (g4 p0 p1 p2 p3)) N (N - 1))) rfl at_133 134 rfl ?_
      refine g_aload C at_134 136 rfl rfl rfl ?_
      refine g_iload C at_136 138 rfl rfl ?_
      refine g_iload C at_138 140 rfl rfl ?_
      refine c_staticI C [(.ref a10), (.int v127), (.int v7)] [(.int (FD (scw (g4 p0 p1 p2 p3)) N (N - 1)))] (hw _ (List.mem_of_getElem? (i := 12) rfl)) (hw _ (List.mem_of_getElem? (i := 13) rfl)) (hw _ (List.mem_of_getElem? (i := 4) rfl)) (hw _ (List.mem_of_getElem? (i := 14) rfl)) (by decide) (m3 l Z a0 hw a10 v127 v7 h79 n0 (g4 p0 p1 p2 p3) (N - 1) N V79 xl xN (by omega) hN) at_140 143 rfl (lenOf pd_4 rfl) rfl 1 (Nat.le_of_eq rfl) (by decide) (by decide) 3 101 rfl rfl (by decide) (by decide) rfl (fun r140 h140 q140 => ?_)
      obtain ⟨hr140, rfl⟩ := q140
      refine g_if_icmpne C at_143 150 (by decide) 146 rfl (fun k143 => ?_) (fun k143 => ?_)
      · exact absurd (own_fin hN (by omega) hr140) k143
      · refine g_iconst C at_146 147 rfl (1 : Int32) (by decide) ?_
        refine g_goto C at_147 151 (by decide) ?_
        refine r_nar C (by simp) at_151 (by decide) (by decide) rfl
    · exact absurd (own_fin hN hk hr115) k118
  · exact absurd rfl k89
set_option maxRecDepth 65536 in
set_option maxHeartbeats 40000000 in
theorem comes_1 {Post : Tables → Env → Array Value → State → Outcome → State → Prop} (hpost : ∀ tb e args s v u, (limb_1_1.after args s (.returned v) u = true ∧ limb_1_2.after args s (.returned v) u = true ∧ True) → FrameEnd s (.returned v) u (Jvm.fieldLocs frame_1_writes args s ++ Jvm.arrayLocs frame_1_arrays args s ++ Jvm.staticLocs frame_1_statics s) 16 320 → Post tb e args s (.returned v) u) :
    ArmFor flags0 classFile x code maxLocals ret World_1 tables_1 room_1 Calls_1 rest_1 Pre_1 Post := by
  intro l hfl _ _ p e ha hc hk s m args below hf hA hF happ hP
  obtain ⟨hcalls, hrest, hpre⟩ := hP
  obtain ⟨-, -, -, hnamed, -, -, -, hat⟩ := (Spec.applies_iff hf).mp happ
  obtain ⟨hg, hn⟩ := and_e (Cond.before_iff.mp (show (Jvm.Cond.and given_1 narrow_1).before args s = true from hpre))
  obtain ⟨h1, g0⟩ := and_e hg
  obtain ⟨w0, w1, w2, w3, w4, w5, rfl⟩ : ∃ w0 w1 w2 w3 w4 w5 : Value, args = #[w0, w1, w2, w3, w4, w5] := by
    have hs : args.size = 6 := by simpa [Cond.value, given_1] using h1
    obtain ⟨L⟩ := args
    match L, hs with
    | [w0, w1, w2, w3, w4, w5], _ => exact ⟨w0, w1, w2, w3, w4, w5, rfl⟩
  have hw := fun d (hd : d ∈ tables_1) => atoms_spec (ws := Jvm.Cond.code x code maxLocals ret :: tables_1) hat d (List.mem_cons_of_mem _ hd)
  obtain ⟨b0, g1⟩ := and_e g0
  obtain ⟨i0, q0⟩ := isL_v b0
  obtain rfl : w0 = (.long i0) := Option.some.inj q0
  obtain ⟨b1, g2⟩ := and_e g1
  obtain ⟨i1, q1⟩ := isL_v b1
  obtain rfl : w1 = (.long i1) := Option.some.inj q1
  obtain ⟨b2, g3⟩ := and_e g2
  obtain ⟨i2, q2⟩ := isL_v b2
  obtain rfl : w2 = (.long i2) := Option.some.inj q2
  obtain ⟨b3, g4⟩ := and_e g3
  obtain ⟨i3, q3⟩ := isL_v b3
  obtain rfl : w3 = (.long i3) := Option.some.inj q3
  obtain ⟨b4, g5⟩ := and_e g4
  obtain ⟨i4, q4⟩ := is_v b4
  obtain rfl : w4 = (.int i4) := Option.some.inj q4
  obtain ⟨i5, q5⟩ := is_v g5
  obtain rfl : w5 = (.int i5) := Option.some.inj q5
  obtain ⟨n, o, h1, h2, h3, _, L, rfl, ⟨⟨r, rfl, rfl⟩, N⟩, hq⟩ := m0 l s _ hw i0 i1 i2 i3 i4 i5 s.heap s.heap.size (Nat.le_refl _) tables_1 p e ha hc hk s m _ below hf ((Spec.applies_iff_loose hf).mp happ).1 ⟨rfl, State.Warmed39.refl s, rfl⟩ trivial
  refine ⟨n, _, h1, h2, h3, hpost _ _ _ _ _ _ ⟨Cond.after_iff.mpr rfl, Cond.after_iff.mpr (eq_i res_at (Term.int_eval (1)) rfl), trivial⟩ ⟨hq.1, hq.2.1, (hq.2.2.sift fun y hy => Or.inr (N y hy)).mono (by decide) (by decide)⟩⟩
theorem main_1_1 : Claimed_1_1 := comes_1 fun _ _ _ _ _ _ h hF => ⟨h.1, hF⟩
theorem main_1_2 : Claimed_1_2 := comes_1 fun _ _ _ _ _ _ h hF => ⟨h.2.1, hF⟩
end Jvm.Pilot.@@N@@
namespace Jvm.Pilot.@@N@@
open Jvm Jvm.ClassFile Sem Op Lib Jvm.Free Jvm.Stand Jvm.Pilot.@@N@@.Jvm.D
/-! MADE BY PROGRAM (witnessworld.py) out of the Statement's table words and the real class files: 11 classes; the members and pool entries that the words name. The judged class is class 1, her method 1. -/
namespace start1
open Jvm.ClassFile
def u (s : String) : CpInfo := .utf8 (stringToUtf16 s)
/-- a pool by its gaps: so many unusable entries, then the entry; so many at the end -/
def gap : Nat → List CpInfo → List CpInfo
  | 0, r => r
  | n + 1, r => .unusable :: gap n r
def poolList (es : List (Nat × CpInfo)) (last : Nat) : List CpInfo := es.foldr (fun e r => gap e.1 (e.2 :: r)) (gap last [])
def pool (es : List (Nat × CpInfo)) (last : Nat) : Array CpInfo := ⟨poolList es last⟩
def fileOf (pool : Array CpInfo) (this : Nat) (attrs : Array Attribute := #[]) (ms : Array MethodInfo := #[]) (fl : Nat := 33) (sup : Nat := 0) (ifs : Array Nat := #[]) (fds : Array FieldInfo := #[]) : ClassFile where
  minorVersion := 0
  majorVersion := 65
  constantPool := pool
  accessFlags := fl
  thisClass := this
  superClass := sup
  interfaces := ifs
  fields := fds
  methods := ms
  attributes := attrs
def plain (name : String) (sup : Option ClassId) : Class where
  name := name
  kind := .ordinary
  loader := none
  accessFlags := 33
  super := sup
  interfaces := #[]
  cf := none
  fields := #[]
  methods := #[]
  instanceTypes := #[]
  staticTypes := #[]
  resolved := #[]
  callSites := []
  init := .initialized
  statics := none
  mirror := none

def pool0 : Array CpInfo := pool [(5, u "<init>"), (0, u "()V"), (1, .class_ 10), (1, u "java/lang/Object")] 113

def k0m0 : Method := { name := "<init>", desc := "()V", sig := { parameters := [], returnType := none }, accessFlags := 1, code := none }
/-- java/lang/Object -/
def k0 : Class := { plain "java/lang/Object" none with
  accessFlags := 33
  interfaces := #[]
  cf := some (fileOf pool0 8 #[] #[{ accessFlags := 1, nameIndex := 5, descriptorIndex := 6, attributes := #[] }] 33 0 #[] #[])
  fields := #[]
  methods := #[k0m0]
  instanceTypes := #[]
  staticTypes := #[]
  resolved := Array.replicate 124 none
  statics := none }

def pool1 : Array CpInfo := pool [(2, .class_ 4), (1, u "java/lang/Object"), (0, u "<init>"), (0, u "()V"), (0, .methodref 8 9), (0, .class_ 10), (0, .nameAndType 11 12), (0, u "com/example/curvehand/curvehand/crypto/FixedBaseTableDigitsPinLaw"), (0, u "put"), (0, u "([BIJ)V"), (0, .methodref 14 15), (0, .class_ 16), (0, .nameAndType 17 18), (0, u "com/example/curvehand/curvehand/crypto/FixedBaseTable"), (0, u "digits"), (0, u "([BI)[I"), (0, .integer 2147483647), (0, .methodref 8 21), (0, .nameAndType 22 23), (0, u "expected"), (0, u "([JII)I"), (0, .long 15), (1, .methodref 8 27), (0, .nameAndType 28 29), (0, u "carryInto"), (0, u "([JI)I"), (0, .long 9223372036854775808), (1, .long 8608480567731124087), (1, .methodref 8 35), (0, .nameAndType 36 37), (0, u "step"), (0, u "(IJJ)I"), (2, u "law"), (0, u "(JJJJII)Z")] 9

def k1m0 : Method := { name := "<init>", desc := "()V", sig := { parameters := [], returnType := none }, accessFlags := 1, code := none }
def k1c1 : Code := { maxStack := 4, maxLocals := 16, code := code, exceptionTable := #[], attributes := #[] }
def k1m1 : Method := { name := "law", desc := "(JJJJII)Z", sig := { parameters := [.long, .long, .long, .long, .int, .int], returnType := some .boolean }, accessFlags := 9, code := some k1c1 }
def k1c2 : Code := { maxStack := 5, maxLocals := 4, code := method_3_code, exceptionTable := #[], attributes := #[] }
def k1m2 : Method := { name := "put", desc := "([BIJ)V", sig := { parameters := [(.array .byte), .int, .long], returnType := none }, accessFlags := 10, code := some k1c2 }
def k1c3 : Code := { maxStack := 5, maxLocals := 5, code := method_4_code, exceptionTable := #[], attributes := #[] }
def k1m3 : Method := { name := "expected", desc := "([JII)I", sig := { parameters := [(.array .long), .int, .int], returnType := some .int }, accessFlags := 10, code := some k1c3 }
def k1c4 : Code := { maxStack := 6, maxLocals := 5, code := method_5_code, exceptionTable := #[], attributes := #[] }
def k1m4 : Method := { name := "step", desc := "(IJJ)I", sig := { parameters := [.int, .long, .long], returnType := some .int }, accessFlags := 10, code := some k1c4 }
def k1c5 : Code := { maxStack := 7, maxLocals := 9, code := method_6_code, exceptionTable := #[], attributes := #[] }
def k1m5 : Method := { name := "carryInto", desc := "([JI)I", sig := { parameters := [(.array .long), .int], returnType := some .int }, accessFlags := 10, code := some k1c5 }
/-- com/example/curvehand/curvehand/crypto/FixedBaseTableDigitsPinLaw -/
def k1 : Class := { plain "com/example/curvehand/curvehand/crypto/FixedBaseTableDigitsPinLaw" (some 0) with
  accessFlags := 49
  interfaces := #[]
  cf := some (fileOf pool1 8 #[] #[{ accessFlags := 1, nameIndex := 5, descriptorIndex := 6, attributes := #[] }, { accessFlags := 9, nameIndex := 40, descriptorIndex := 41, attributes := #[] }, { accessFlags := 10, nameIndex := 11, descriptorIndex := 12, attributes := #[] }, { accessFlags := 10, nameIndex := 22, descriptorIndex := 23, attributes := #[] }, { accessFlags := 10, nameIndex := 36, descriptorIndex := 37, attributes := #[] }, { accessFlags := 10, nameIndex := 28, descriptorIndex := 29, attributes := #[] }] 49 2 #[] #[])
  fields := #[]
  methods := #[k1m0, k1m1, k1m2, k1m3, k1m4, k1m5]
  instanceTypes := #[]
  staticTypes := #[]
  resolved := Array.replicate 51 none
  statics := none }

def pool2 : Array CpInfo := pool [(2, .class_ 4), (1, u "java/lang/Object"), (3, .class_ 10), (1, u "com/example/curvehand/curvehand/crypto/FixedBaseTable"), (0, u "rows"), (0, u "I"), (2, u "coordinates"), (4, u "table"), (0, u "[J"), (24, u "ENTRIES"), (11, u "digits"), (0, u "([BI)[I")] 4

def k2c0 : Code := { maxStack := 5, maxLocals := 5, code := prog_17_method_6_code, exceptionTable := #[], attributes := #[] }
def k2m0 : Method := { name := "digits", desc := "([BI)[I", sig := { parameters := [(.array .byte), .int], returnType := some (.array .int) }, accessFlags := 8, code := some k2c0 }
/-- com/example/curvehand/curvehand/crypto/FixedBaseTable -/
def k2 : Class := { plain "com/example/curvehand/curvehand/crypto/FixedBaseTable" (some 0) with
  accessFlags := 48
  interfaces := #[]
  cf := some (fileOf pool2 8 #[] #[{ accessFlags := 8, nameIndex := 58, descriptorIndex := 59, attributes := #[] }] 48 2 #[] #[{ accessFlags := 24, nameIndex := 46, descriptorIndex := 12, attributes := #[] }, { accessFlags := 18, nameIndex := 11, descriptorIndex := 12, attributes := #[] }, { accessFlags := 18, nameIndex := 15, descriptorIndex := 12, attributes := #[] }, { accessFlags := 18, nameIndex := 20, descriptorIndex := 21, attributes := #[] }])
  fields := #[{ name := "ENTRIES", type := .int, accessFlags := 24, slot := 0, constantValue := 0 }, { name := "rows", type := .int, accessFlags := 18, slot := 0, constantValue := 0 }, { name := "coordinates", type := .int, accessFlags := 18, slot := 1, constantValue := 0 }, { name := "table", type := (.array .long), accessFlags := 18, slot := 2, constantValue := 0 }]
  methods := #[k2m0]
  instanceTypes := #[.int, .int, (.array .long)]
  staticTypes := #[.int]
  resolved := Array.replicate 64 none
  statics := none }

def pool3 : Array CpInfo := pool [(1, u "java/lang/Cloneable"), (0, .class_ 1), (0, u "java/lang/Object"), (0, .class_ 3)] 3

/-- java/lang/Cloneable -/
def k3 : Class := { plain "java/lang/Cloneable" (some 0) with
  accessFlags := 1537
  interfaces := #[]
  cf := some (fileOf pool3 2 #[] #[] 1537 4 #[] #[])
  fields := #[]
  methods := #[]
  instanceTypes := #[]
  staticTypes := #[]
  resolved := Array.replicate 8 none
  statics := none }

def pool4 : Array CpInfo := pool [(1, u "java/io/Serializable"), (0, .class_ 1), (0, u "java/lang/Object"), (0, .class_ 3)] 3

/-- java/io/Serializable -/
def k4 : Class := { plain "java/io/Serializable" (some 0) with
  accessFlags := 1537
  interfaces := #[]
  cf := some (fileOf pool4 2 #[] #[] 1537 4 #[] #[])
  fields := #[]
  methods := #[]
  instanceTypes := #[]
  staticTypes := #[]
  resolved := Array.replicate 8 none
  statics := none }

/-- the primitive byte -/
def k5 : Class := { plain "byte" none with kind := .primitive 'B', accessFlags := 0x411 }
/-- [B -/
def k6 : Class := { plain "[B" (some 0) with kind := .array 5 .byte, interfaces := #[3, 4], accessFlags := 1041 }

/-- the primitive int -/
def k7 : Class := { plain "int" none with kind := .primitive 'I', accessFlags := 0x411 }
/-- [I -/
def k8 : Class := { plain "[I" (some 0) with kind := .array 7 .int, interfaces := #[3, 4], accessFlags := 1041 }

/-- the primitive long -/
def k9 : Class := { plain "long" none with kind := .primitive 'J', accessFlags := 0x411 }
/-- [J -/
def k10 : Class := { plain "[J" (some 0) with kind := .array 9 .long, interfaces := #[3, 4], accessFlags := 1041 }

def heap : Heap := #[]
def classes : Array Class := #[k0, k1, k2, k3, k4, k5, k6, k7, k8, k9, k10]
def interned : List (Array UInt16 × Addr) := []
def slotsUsed : Nat := 0
def theMethod : MethodId := ⟨1, 1⟩
def args0 : Array Value := #[.long 5, .long 5, .long 5, .long 5, .int 5, .int 5]
def aboutOver (below : List Frame) : State where
  vm := { classes := classes, interned := interned.toArray }
  heap := heap
  slotsUsed := slotsUsed
  threads := #[{ frames := .invoking theMethod args0 :: below }]
def below0 : List Frame := [.native { method := ⟨0, 0⟩, args := #[] }]
def about1 : State := aboutOver below0
def p0 : Program := .bare "" "" ""
def e0 : Env := launch0.env 0 0 0
theorem w_frames : about1.frames = Frame.invoking theMethod args0 :: below0 := rfl
set_option maxRecDepth 65536 in
theorem w_args : argsFit about1.vm theMethod args0 = true := by decide +kernel
set_option maxRecDepth 65536 in
theorem w_heap : heapFits about1 = true := by decide +kernel
set_option maxRecDepth 65536 in
theorem w_runnable : about1.curStatus? = some .runnable := by decide +kernel
set_option maxRecDepth 65536 in
theorem w_alone : about1.alone = true := by decide +kernel
set_option maxRecDepth 65536 in
theorem w_named : about1.methodNamed? x = some theMethod := by decide +kernel
set_option maxRecDepth 65536 in
theorem w_hears : about1.hears theMethod below0 = true := by decide +kernel
set_option maxRecDepth 65536 in
theorem w_ripe : about1.ripe theMethod args0 below0 = true := by decide +kernel
theorem w_running : about1.status = .running := rfl
set_option maxRecDepth 65536 in
theorem w_room : about1.hasRoom e0.platform room_1 = true :=
  launch0.hasRoom_least _ room_1 (by decide +kernel) (by decide +kernel) (by decide +kernel) (by decide +kernel) (by decide +kernel) (by decide +kernel)
theorem allAtoms_all (ts : List Jvm.Cond) (a : Array Jvm.Value) (st : Jvm.State) : (allAtoms ts).before a st = ts.all (fun c => c.before a st) := by
  induction ts with
  | nil => rfl
  | cons c t ih =>
    show (Jvm.Cond.and c (allAtoms t)).before a st = _
    rw [Jvm.Cond.before_and, ih, List.all_cons]
def words1 : List Jvm.Cond := Jvm.Cond.code x code maxLocals ret :: tables_1
/-- a 'code' word, met by the world's own term for the bytes: nothing is compared byte by byte -/
theorem code_word {y : MethodName} {bytes : ByteArray} {mx : Nat} {rt : Option FieldType} {a : Array Value} {s : State} {m : MethodId} {meth : Method} {c : Code} (h1 : s.methodNamed? y = some m) (h2 : s.vm.method? m = some meth) (h3 : meth.code = some c) (h4 : c.code = bytes)
    (h5 : (c.maxLocals == mx && c.exceptionTable.isEmpty && decide (c.maxStack ≤ mostOperands) && decide (meth.sig.returnType = rt) && !meth.locks && decide (parseMethodDescriptor y.desc = some meth.sig)) = true) : (Jvm.Cond.code y bytes mx rt).before a s = true := by
  simp only [Bool.and_eq_true, beq_iff_eq, Bool.not_eq_true', decide_eq_true_eq] at h5
  obtain ⟨⟨⟨⟨⟨g1, g2⟩, g3⟩, g4⟩, g5⟩, g6⟩ := h5
  simp [Cond.before, Cond.holds, Cond.value, h1, h2, h3, h4, g1, g2, g3, g4, g5, g6]
def isCode : Jvm.Cond → Bool
  | .code _ _ _ _ => true
  | _ => false
theorem all_split {L : List Jvm.Cond} {P : Jvm.Cond → Bool} (h1 : L.all (fun c => isCode c || P c) = true) (h2 : ∀ c ∈ L.filter isCode, P c = true) : L.all P = true := by
  refine List.all_eq_true.mpr fun c hc => ?_
  have h := List.all_eq_true.mp h1 c hc
  rcases Bool.eq_false_or_eq_true (isCode c) with hi | hi
  · exact h2 c (List.mem_filter.mpr ⟨hc, hi⟩)
  · simpa [hi] using h
set_option maxRecDepth 65536 in
theorem w_c0 : (Jvm.Cond.code x code maxLocals ret).before args0 about1 = true := code_word (m := ⟨1, 1⟩) (meth := k1m1) (c := k1c1) (by decide +kernel) rfl rfl rfl (by decide +kernel)
set_option maxRecDepth 65536 in
theorem w_c1 : (Jvm.Cond.code ({ cls := "com/example/curvehand/curvehand/crypto/FixedBaseTableDigitsPinLaw", name := "put", desc := "([BIJ)V" } : Jvm.MethodName) method_3_code (4 : Nat) (Option.none : Option Jvm.ClassFile.FieldType)).before args0 about1 = true := code_word (m := ⟨1, 2⟩) (meth := k1m2) (c := k1c2) (by decide +kernel) rfl rfl rfl (by decide +kernel)
set_option maxRecDepth 65536 in
theorem w_c2 : (Jvm.Cond.code ({ cls := "com/example/curvehand/curvehand/crypto/FixedBaseTable", name := "digits", desc := "([BI)[I" } : Jvm.MethodName) prog_17_method_6_code (5 : Nat) (Option.some (Jvm.ClassFile.FieldType.array Jvm.ClassFile.FieldType.int))).before args0 about1 = true := code_word (m := ⟨2, 0⟩) (meth := k2m0) (c := k2c0) (by decide +kernel) rfl rfl rfl (by decide +kernel)
set_option maxRecDepth 65536 in
theorem w_c3 : (Jvm.Cond.code ({ cls := "com/example/curvehand/curvehand/crypto/FixedBaseTableDigitsPinLaw", name := "expected", desc := "([JII)I" } : Jvm.MethodName) method_4_code (5 : Nat) (Option.some Jvm.ClassFile.FieldType.int)).before args0 about1 = true := code_word (m := ⟨1, 3⟩) (meth := k1m3) (c := k1c3) (by decide +kernel) rfl rfl rfl (by decide +kernel)
set_option maxRecDepth 65536 in
theorem w_c4 : (Jvm.Cond.code ({ cls := "com/example/curvehand/curvehand/crypto/FixedBaseTableDigitsPinLaw", name := "carryInto", desc := "([JI)I" } : Jvm.MethodName) method_6_code (9 : Nat) (Option.some Jvm.ClassFile.FieldType.int)).before args0 about1 = true := code_word (m := ⟨1, 5⟩) (meth := k1m5) (c := k1c5) (by decide +kernel) rfl rfl rfl (by decide +kernel)
set_option maxRecDepth 65536 in
theorem w_c5 : (Jvm.Cond.code ({ cls := "com/example/curvehand/curvehand/crypto/FixedBaseTableDigitsPinLaw", name := "step", desc := "(IJJ)I" } : Jvm.MethodName) method_5_code (5 : Nat) (Option.some Jvm.ClassFile.FieldType.int)).before args0 about1 = true := code_word (m := ⟨1, 4⟩) (meth := k1m4) (c := k1c4) (by decide +kernel) rfl rfl rfl (by decide +kernel)
def codes1 : List Jvm.Cond := [Jvm.Cond.code x code maxLocals ret, Jvm.Cond.code ({ cls := "com/example/curvehand/curvehand/crypto/FixedBaseTableDigitsPinLaw", name := "put", desc := "([BIJ)V" } : Jvm.MethodName) method_3_code (4 : Nat) (Option.none : Option Jvm.ClassFile.FieldType), Jvm.Cond.code ({ cls := "com/example/curvehand/curvehand/crypto/FixedBaseTable", name := "digits", desc := "([BI)[I" } : Jvm.MethodName) prog_17_method_6_code (5 : Nat) (Option.some (Jvm.ClassFile.FieldType.array Jvm.ClassFile.FieldType.int)), Jvm.Cond.code ({ cls := "com/example/curvehand/curvehand/crypto/FixedBaseTableDigitsPinLaw", name := "expected", desc := "([JII)I" } : Jvm.MethodName) method_4_code (5 : Nat) (Option.some Jvm.ClassFile.FieldType.int), Jvm.Cond.code ({ cls := "com/example/curvehand/curvehand/crypto/FixedBaseTableDigitsPinLaw", name := "carryInto", desc := "([JI)I" } : Jvm.MethodName) method_6_code (9 : Nat) (Option.some Jvm.ClassFile.FieldType.int), Jvm.Cond.code ({ cls := "com/example/curvehand/curvehand/crypto/FixedBaseTableDigitsPinLaw", name := "step", desc := "(IJJ)I" } : Jvm.MethodName) method_5_code (5 : Nat) (Option.some Jvm.ClassFile.FieldType.int)]
set_option maxRecDepth 65536 in
theorem codes_eq : words1.filter isCode = codes1 := rfl
theorem w_codes : ∀ c ∈ words1.filter isCode, c.before args0 about1 = true := by
  rw [codes_eq]
  intro c hc
  simp only [codes1, List.mem_cons, List.not_mem_nil, or_false] at hc
  rcases hc with rfl | rfl | rfl | rfl | rfl | rfl
  · exact w_c0
  · exact w_c1
  · exact w_c2
  · exact w_c3
  · exact w_c4
  · exact w_c5
set_option maxRecDepth 65536 in
theorem w_t1 : (words1.take 24).all (fun c => isCode c || c.before args0 about1) = true := by decide +kernel
set_option maxRecDepth 65536 in
theorem w_t2 : (words1.drop 24).all (fun c => isCode c || c.before args0 about1) = true := by decide +kernel
theorem w_tables : (allAtoms (Jvm.Cond.code x code maxLocals ret :: tables_1)).before args0 about1 = true := by
  rw [allAtoms_all]
  show words1.all (fun c => c.before args0 about1) = true
  refine all_split ?_ w_codes
  rw [← List.take_append_drop 24 words1, List.all_append, w_t1, w_t2]
  rfl
set_option maxRecDepth 65536 in
theorem w_case : (Jvm.Cond.and given_1 narrow_1).before args0 about1 = true := by decide +kernel
theorem w_applies : (headSpec (Jvm.Cond.code x code maxLocals ret :: tables_1) room_1).applies x e0.platform about1 = true :=
  (Spec.applies_iff w_frames).mpr ⟨w_running, w_runnable, w_alone, w_named, w_hears, w_ripe, w_room, w_tables⟩
theorem atStart : AtStart classFile x code maxLocals ret World_1 tables_1 room_1 Calls_1 rest_1 Pre_1 launch0 p0 e0 about1 theMethod args0 below0 :=
  ⟨lists_1, trivial, launch0.admits_env _ _ _, launch0.least_env, fairChoices_fair.cas, fairChoices_fair.clock, w_frames, w_args, w_heap, w_applies, trivial, trivial, w_case⟩
end start1
theorem witness_1 : WitnessClaimed_1 := ⟨start1.p0, start1.e0, start1.about1, start1.theMethod, start1.args0, start1.below0, start1.atStart⟩
end Jvm.Pilot.@@N@@
