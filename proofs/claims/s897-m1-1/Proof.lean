import JvmDerived
import JvmDerived.Pilot.@@N@@Statement
import JvmDerived.Pilot.@@N@@Code
set_option linter.unusedVariables false
set_option linter.unusedSimpArgs false

namespace Jvm.OwnW
open Sem ClassFile Op Lib Jvm.Stand Jvm.Free Jvm.LawKit Jvm.RoadKit
/-- what the walk of one body stands on -/
def Ctx (p : Program) (l : Launch) (e : Env) (R : Room) (s : State) (m : MethodId) (args : Array Value) (below : List Frame) (meth : Method) (c : Code) (Z : State) (own : String) (code : ByteArray) (maxL : Nat) (ret : Option FieldType) (nm : String) : Prop :=
  p.tables.exec = Jvm.exec ∧ c.code = code ∧ c.maxLocals = maxL ∧ s.vm.findClass own = some m.cls ∧ Z.Warmed39 s.vm ∧ meth.sig.returnType = ret ∧ meth.locks = false ∧ meth.name = nm
/-- from here the body returns, and G holds of what it returns and of the heap -/
def WP (p : Program) (l : Launch) (e : Env) (R : Room) (s : State) (m : MethodId) (args : Array Value) (below : List Frame) (meth : Method) (c : Code) (n0 : Nat) (G : Option Value → Heap → Prop)
    (h : Heap) (k n pc : Nat) (Ls : Array Slot) (st : List Value) : Prop :=
  ∀ (T : State) (locs : List Loc) (k' n' : Nat), k' ≤ k → n' ≤ n → Stand p l e R s m args below meth c T locs k' n' → T.heap = h → Fr n0 locs →
    ∃ s₂ o, Steps p.tables e below (T.setTop (mkF m pc Ls st)) s₂ ∧ s₂.status = .running ∧ Ended s₂ below o ∧ ∃ v L, o = .returned v ∧ (Fr n0 L ∧ G v s₂.heap) ∧ FrameEnd s o s₂ L R.cells R.slots
abbrev WT : Type := Heap → Nat → Nat → Nat → Array Slot → List Value → Prop
def Ru (l : Launch) (Z : State) (own : String) (code : ByteArray) (maxL : Nat) (ret : Option FieldType) (nm : String) (R : Room) (n0 : Nat) (G : Option Value → Heap → Prop) (W : WT) : Prop :=
  ∃ (p : Program) (e : Env) (s : State) (m : MethodId) (args : Array Value) (below : List Frame) (meth : Method) (c : Code), Ctx p l e R s m args below meth c Z own code maxL ret nm ∧ W = WP p l e R s m args below meth c n0 G
/-- a body's contract -/
def MeetsW (l : Launch) (Z : State) (n0 : Nat) (y : MethodName) (bytes : ByteArray) (maxL : Nat) (ret : Option FieldType) (rm : Room) (as : Array Value) (h : Heap) (G : Option Value → Heap → Prop) : Prop :=
  ∀ ws : List Cond, MetFree l y (head1 (Cond.code y bytes maxL ret :: ws) rm) (fun a U => a = as ∧ Z.Warmed39 U.vm ∧ U.heap = h) (fun _ _ _ _ _ => True)
    (fun _ U o U' => ∃ v L, o = .returned v ∧ (Fr n0 L ∧ G v U'.heap) ∧ FrameEnd U o U' L rm.cells rm.slots)
theorem MeetsW.intro {l : Launch} {Z : State} {n0 : Nat} {y : MethodName} {bytes : ByteArray} {maxL : Nat} {ret : Option FieldType} {rm : Room} {as : Array Value} {h : Heap} {G : Option Value → Heap → Prop} {Ls : Array Slot}
    (hp : plainFor y = true) (hef : ∀ m, entryFrame m as maxL = mkF m 0 Ls [])
    (body : ∀ W, Ru l Z y.cls bytes maxL ret y.name rm n0 G W → W h 0 0 0 Ls []) : MeetsW l Z n0 y bytes maxL ret rm as h G := by
  intro ws
  refine MetFree.of_bodySF hp hisR ?_
  intro p e s m args below meth c s₁ Bd hml0 hP hK
  obtain ⟨rfl, hZ, hh⟩ := hP
  have X0 : Stand p l e rm s m args below meth c s₁ [] 0 0 := Stand.of_body Bd
  have e0 : s₁.heap = h := by rw [← hh, Bd.state]; rfl
  have C : Ctx p l e rm s m args below meth c Z y.cls bytes maxL ret y.name := ⟨Bd.exec, Bd.bytes, hml0, findClass_of_methodNamed Bd.named, hZ, Bd.returns, Bd.notSynchronized, (name_of_methodNamed Bd.named Bd.method).1⟩
  have q := body _ ⟨p, e, s, m, args, below, meth, c, C, rfl⟩ s₁ [] 0 0 (Nat.le_refl _) (Nat.le_refl _) X0 e0 (Fr.nil n0)
  rw [hef]
  exact q

/-! shifts, by how many places -/
def sh5 (y : Int32) : Nat := y.toBitVec.toNat % 32
def sh6 (y : Int32) : Nat := y.toBitVec.toNat % 64
def shlI (x : Int32) (k : Nat) : Int32 := Int32.ofBitVec (x.toBitVec <<< k)
def shrI (x : Int32) (k : Nat) : Int32 := Int32.ofBitVec (x.toBitVec >>> k)
def sarI (x : Int32) (k : Nat) : Int32 := Int32.ofBitVec (x.toBitVec.sshiftRight k)
def shlL (x : Int64) (k : Nat) : Int64 := Int64.ofBitVec (x.toBitVec <<< k)
def shrL (x : Int64) (k : Nat) : Int64 := Int64.ofBitVec (x.toBitVec >>> k)
def sarL (x : Int64) (k : Nat) : Int64 := Int64.ofBitVec (x.toBitVec.sshiftRight k)
theorem and31 (y : Int32) : (y &&& 31).toBitVec.toNat = sh5 y := by
  show (y.toBitVec &&& (31 : Int32).toBitVec).toNat = _
  rw [BitVec.toNat_and, show (31 : Int32).toBitVec.toNat = 2 ^ 5 - 1 from by decide, Nat.and_two_pow_sub_one_eq_mod]; rfl
theorem and63 (y : Int32) : (y.toInt64 &&& 63).toBitVec = BitVec.ofNat 64 (sh6 y) := by
  apply BitVec.eq_of_toNat_eq
  show (y.toBitVec.signExtend 64 &&& (63 : Int64).toBitVec).toNat = _
  rw [BitVec.toNat_and, show (63 : Int64).toBitVec.toNat = 2 ^ 6 - 1 from by decide, Nat.and_two_pow_sub_one_eq_mod, BitVec.toNat_ofNat, BitVec.toNat_signExtend]
  have h1 := y.toBitVec.isLt
  have h2 : (BitVec.setWidth 64 y.toBitVec).toNat = y.toBitVec.toNat := by rw [BitVec.toNat_setWidth]; omega
  rw [h2]
  unfold sh6
  split <;> omega
theorem ishl_eq (x y : Int32) : x <<< (y &&& 31) = shlI x (sh5 y) := by
  apply Int32.toBitVec_inj.mp
  show x.toBitVec <<< ((y &&& 31).toBitVec.smod 32) = x.toBitVec <<< (sh5 y)
  rw [BitVec.shiftLeft_eq', sm32 y _ rfl]; rfl
theorem ishr_eq (x y : Int32) : x >>> (y &&& 31) = sarI x (sh5 y) := by
  apply Int32.toBitVec_inj.mp
  show x.toBitVec.sshiftRight (((y &&& 31).toBitVec.smod 32).toNat) = x.toBitVec.sshiftRight (sh5 y)
  rw [sm32 y _ rfl]; rfl
theorem iushr_eq (x y : Int32) : XT.ushr x y = shrI x (sh5 y) := by
  apply Int32.toBitVec_inj.mp
  show x.toBitVec >>> ((y &&& 31).toBitVec % 32) = x.toBitVec >>> (sh5 y)
  rw [BitVec.ushiftRight_eq', BitVec.toNat_umod, and31]
  congr 1
  show sh5 y % 32 = sh5 y
  unfold sh5; omega
theorem lshl_eq (x : Int64) (y : Int32) : x <<< (y.toInt64 &&& 63) = shlL x (sh6 y) := by
  apply Int64.toBitVec_inj.mp
  show x.toBitVec <<< ((y.toInt64 &&& 63).toBitVec.smod 64) = x.toBitVec <<< (sh6 y)
  rw [BitVec.shiftLeft_eq', and63, smod64 _ (by unfold sh6; omega)]
theorem lshr_eq (x : Int64) (y : Int32) : x >>> (y.toInt64 &&& 63) = sarL x (sh6 y) := by
  apply Int64.toBitVec_inj.mp
  show x.toBitVec.sshiftRight (((y.toInt64 &&& 63).toBitVec.smod 64).toNat) = x.toBitVec.sshiftRight (sh6 y)
  rw [and63, smod64 _ (by unfold sh6; omega)]
theorem lushr_eq (x : Int64) (y : Int32) : XT.ushrL x y = shrL x (sh6 y) := by
  apply Int64.toBitVec_inj.mp
  show x.toBitVec >>> ((y.toInt64 &&& 63).toBitVec % 64) = x.toBitVec >>> (sh6 y)
  rw [BitVec.ushiftRight_eq', BitVec.toNat_umod, and63, BitVec.toNat_ofNat]
  congr 1
  show sh6 y % 2 ^ 64 % 64 = sh6 y
  unfold sh6; omega
section Steps
variable {l : Launch} {Z : State} {own : String} {code : ByteArray} {maxL : Nat} {ret : Option FieldType} {nm : String} {R : Room} {n0 : Nat} {G : Option Value → Heap → Prop} {W : WT} {h : Heap} {k n pc pc' : Nat} {Ls : Array Slot} {st rest : List Value}
theorem Ru.mono (C : Ru l Z own code maxL ret nm R n0 G W) {k2 n2 : Nat} (hk : k ≤ k2) (hn : n ≤ n2) (q : W h k2 n2 pc Ls st) : W h k n pc Ls st := by
  obtain ⟨p, e, s, m, args, below, meth, c, C, rfl⟩ := C
  intro T locs k' n' q1 q2 X eT N
  exact q T locs k' n' (Nat.le_trans q1 hk) (Nat.le_trans q2 hn) X eT N
theorem Ru.atPc (C : Ru l Z own code maxL ret nm R n0 G W) {pc2 : Nat} (hp : pc2 = pc) (q : W h k n pc2 Ls st) : W h k n pc Ls st := hp ▸ q
theorem Ru.iadd (C : Ru l Z own code maxL ret nm R n0 G W) {x y : Int32} (hd : decode code pc = .ok (.iadd, 1)) (hp : pc + 1 = pc') (q : W h k n pc' Ls (.int (x + y) :: rest)) : W h k n pc Ls (.int y :: .int x :: rest) := by
  obtain ⟨p, e, s, m, args, below, meth, c, ⟨hx, hby, hml, hown, hZ, hre, hlk, hnm⟩, rfl⟩ := C
  subst hp
  intro T locs k' n' q1 q2 X eT N
  obtain ⟨s2, o, st2, r⟩ := q T locs k' n' q1 q2 X eT N
  exact ⟨s2, o, XS.iadd (X.here) hx rfl (hb hby hd) rfl st2, r⟩
theorem Ru.isub (C : Ru l Z own code maxL ret nm R n0 G W) {x y : Int32} (hd : decode code pc = .ok (.isub, 1)) (hp : pc + 1 = pc') (q : W h k n pc' Ls (.int (x - y) :: rest)) : W h k n pc Ls (.int y :: .int x :: rest) := by
  obtain ⟨p, e, s, m, args, below, meth, c, ⟨hx, hby, hml, hown, hZ, hre, hlk, hnm⟩, rfl⟩ := C
  subst hp
  intro T locs k' n' q1 q2 X eT N
  obtain ⟨s2, o, st2, r⟩ := q T locs k' n' q1 q2 X eT N
  exact ⟨s2, o, XS.isub (X.here) hx rfl (hb hby hd) rfl st2, r⟩
theorem Ru.iand (C : Ru l Z own code maxL ret nm R n0 G W) {x y : Int32} (hd : decode code pc = .ok (.iand, 1)) (hp : pc + 1 = pc') (q : W h k n pc' Ls (.int (x &&& y) :: rest)) : W h k n pc Ls (.int y :: .int x :: rest) := by
  obtain ⟨p, e, s, m, args, below, meth, c, ⟨hx, hby, hml, hown, hZ, hre, hlk, hnm⟩, rfl⟩ := C
  subst hp
  intro T locs k' n' q1 q2 X eT N
  obtain ⟨s2, o, st2, r⟩ := q T locs k' n' q1 q2 X eT N
  exact ⟨s2, o, XS.iand (X.here) hx rfl (hb hby hd) rfl st2, r⟩
theorem Ru.imul (C : Ru l Z own code maxL ret nm R n0 G W) {x y : Int32} (hd : decode code pc = .ok (.imul, 1)) (hp : pc + 1 = pc') (q : W h k n pc' Ls (.int (x * y) :: rest)) : W h k n pc Ls (.int y :: .int x :: rest) := by
  obtain ⟨p, e, s, m, args, below, meth, c, ⟨hx, hby, hml, hown, hZ, hre, hlk, hnm⟩, rfl⟩ := C
  subst hp
  intro T locs k' n' q1 q2 X eT N
  obtain ⟨s2, o, st2, r⟩ := q T locs k' n' q1 q2 X eT N
  exact ⟨s2, o, XS.imul (X.here) hx rfl (hb hby hd) rfl st2, r⟩
theorem Ru.ixor (C : Ru l Z own code maxL ret nm R n0 G W) {x y : Int32} (hd : decode code pc = .ok (.ixor, 1)) (hp : pc + 1 = pc') (q : W h k n pc' Ls (.int (x ^^^ y) :: rest)) : W h k n pc Ls (.int y :: .int x :: rest) := by
  obtain ⟨p, e, s, m, args, below, meth, c, ⟨hx, hby, hml, hown, hZ, hre, hlk, hnm⟩, rfl⟩ := C
  subst hp
  intro T locs k' n' q1 q2 X eT N
  obtain ⟨s2, o, st2, r⟩ := q T locs k' n' q1 q2 X eT N
  exact ⟨s2, o, XT.ixor (X.here) hx rfl (hb hby hd) rfl st2, r⟩
theorem Ru.ior (C : Ru l Z own code maxL ret nm R n0 G W) {x y : Int32} (hd : decode code pc = .ok (.ior, 1)) (hp : pc + 1 = pc') (q : W h k n pc' Ls (.int (x ||| y) :: rest)) : W h k n pc Ls (.int y :: .int x :: rest) := by
  obtain ⟨p, e, s, m, args, below, meth, c, ⟨hx, hby, hml, hown, hZ, hre, hlk, hnm⟩, rfl⟩ := C
  subst hp
  intro T locs k' n' q1 q2 X eT N
  obtain ⟨s2, o, st2, r⟩ := q T locs k' n' q1 q2 X eT N
  exact ⟨s2, o, XT.ior (X.here) hx rfl (hb hby hd) rfl st2, r⟩
theorem Ru.idiv (C : Ru l Z own code maxL ret nm R n0 G W) {x y : Int32} (hd : decode code pc = .ok (.idiv, 1)) (hp : pc + 1 = pc') (hy : y ≠ 0) (q : W h k n pc' Ls (.int (x / y) :: rest)) : W h k n pc Ls (.int y :: .int x :: rest) := by
  obtain ⟨p, e, s, m, args, below, meth, c, ⟨hx, hby, hml, hown, hZ, hre, hlk, hnm⟩, rfl⟩ := C
  subst hp
  intro T locs k' n' q1 q2 X eT N
  obtain ⟨s2, o, st2, r⟩ := q T locs k' n' q1 q2 X eT N
  exact ⟨s2, o, XS.idiv (X.here) hx rfl (hb hby hd) rfl hy st2, r⟩
theorem Ru.irem (C : Ru l Z own code maxL ret nm R n0 G W) {x y : Int32} (hd : decode code pc = .ok (.irem, 1)) (hp : pc + 1 = pc') (hy : y ≠ 0) (q : W h k n pc' Ls (.int (x % y) :: rest)) : W h k n pc Ls (.int y :: .int x :: rest) := by
  obtain ⟨p, e, s, m, args, below, meth, c, ⟨hx, hby, hml, hown, hZ, hre, hlk, hnm⟩, rfl⟩ := C
  subst hp
  intro T locs k' n' q1 q2 X eT N
  obtain ⟨s2, o, st2, r⟩ := q T locs k' n' q1 q2 X eT N
  exact ⟨s2, o, iremM (X) hx rfl (hb hby hd) rfl hy st2, r⟩
theorem Ru.ineg (C : Ru l Z own code maxL ret nm R n0 G W) {x : Int32} (hd : decode code pc = .ok (.ineg, 1)) (hp : pc + 1 = pc') (q : W h k n pc' Ls (.int (-x) :: rest)) : W h k n pc Ls (.int x :: rest) := by
  obtain ⟨p, e, s, m, args, below, meth, c, ⟨hx, hby, hml, hown, hZ, hre, hlk, hnm⟩, rfl⟩ := C
  subst hp
  intro T locs k' n' q1 q2 X eT N
  obtain ⟨s2, o, st2, r⟩ := q T locs k' n' q1 q2 X eT N
  exact ⟨s2, o, XS.ineg (X.here) hx rfl (hb hby hd) rfl st2, r⟩
theorem Ru.ladd (C : Ru l Z own code maxL ret nm R n0 G W) {x y : Int64} (hd : decode code pc = .ok (.ladd, 1)) (hp : pc + 1 = pc') (q : W h k n pc' Ls (.long (x + y) :: rest)) : W h k n pc Ls (.long y :: .long x :: rest) := by
  obtain ⟨p, e, s, m, args, below, meth, c, ⟨hx, hby, hml, hown, hZ, hre, hlk, hnm⟩, rfl⟩ := C
  subst hp
  intro T locs k' n' q1 q2 X eT N
  obtain ⟨s2, o, st2, r⟩ := q T locs k' n' q1 q2 X eT N
  exact ⟨s2, o, XT.ladd (X.here) hx rfl (hb hby hd) rfl st2, r⟩
theorem Ru.lsub (C : Ru l Z own code maxL ret nm R n0 G W) {x y : Int64} (hd : decode code pc = .ok (.lsub, 1)) (hp : pc + 1 = pc') (q : W h k n pc' Ls (.long (x - y) :: rest)) : W h k n pc Ls (.long y :: .long x :: rest) := by
  obtain ⟨p, e, s, m, args, below, meth, c, ⟨hx, hby, hml, hown, hZ, hre, hlk, hnm⟩, rfl⟩ := C
  subst hp
  intro T locs k' n' q1 q2 X eT N
  obtain ⟨s2, o, st2, r⟩ := q T locs k' n' q1 q2 X eT N
  exact ⟨s2, o, XT.lsub (X.here) hx rfl (hb hby hd) rfl st2, r⟩
theorem Ru.lmul (C : Ru l Z own code maxL ret nm R n0 G W) {x y : Int64} (hd : decode code pc = .ok (.lmul, 1)) (hp : pc + 1 = pc') (q : W h k n pc' Ls (.long (x * y) :: rest)) : W h k n pc Ls (.long y :: .long x :: rest) := by
  obtain ⟨p, e, s, m, args, below, meth, c, ⟨hx, hby, hml, hown, hZ, hre, hlk, hnm⟩, rfl⟩ := C
  subst hp
  intro T locs k' n' q1 q2 X eT N
  obtain ⟨s2, o, st2, r⟩ := q T locs k' n' q1 q2 X eT N
  exact ⟨s2, o, XT.lmul (X.here) hx rfl (hb hby hd) rfl st2, r⟩
theorem Ru.land (C : Ru l Z own code maxL ret nm R n0 G W) {x y : Int64} (hd : decode code pc = .ok (.land, 1)) (hp : pc + 1 = pc') (q : W h k n pc' Ls (.long (x &&& y) :: rest)) : W h k n pc Ls (.long y :: .long x :: rest) := by
  obtain ⟨p, e, s, m, args, below, meth, c, ⟨hx, hby, hml, hown, hZ, hre, hlk, hnm⟩, rfl⟩ := C
  subst hp
  intro T locs k' n' q1 q2 X eT N
  obtain ⟨s2, o, st2, r⟩ := q T locs k' n' q1 q2 X eT N
  exact ⟨s2, o, XT.land (X.here) hx rfl (hb hby hd) rfl st2, r⟩
theorem Ru.lor (C : Ru l Z own code maxL ret nm R n0 G W) {x y : Int64} (hd : decode code pc = .ok (.lor, 1)) (hp : pc + 1 = pc') (q : W h k n pc' Ls (.long (x ||| y) :: rest)) : W h k n pc Ls (.long y :: .long x :: rest) := by
  obtain ⟨p, e, s, m, args, below, meth, c, ⟨hx, hby, hml, hown, hZ, hre, hlk, hnm⟩, rfl⟩ := C
  subst hp
  intro T locs k' n' q1 q2 X eT N
  obtain ⟨s2, o, st2, r⟩ := q T locs k' n' q1 q2 X eT N
  exact ⟨s2, o, XT.lor (X.here) hx rfl (hb hby hd) rfl st2, r⟩
theorem Ru.lxor (C : Ru l Z own code maxL ret nm R n0 G W) {x y : Int64} (hd : decode code pc = .ok (.lxor, 1)) (hp : pc + 1 = pc') (q : W h k n pc' Ls (.long (x ^^^ y) :: rest)) : W h k n pc Ls (.long y :: .long x :: rest) := by
  obtain ⟨p, e, s, m, args, below, meth, c, ⟨hx, hby, hml, hown, hZ, hre, hlk, hnm⟩, rfl⟩ := C
  subst hp
  intro T locs k' n' q1 q2 X eT N
  obtain ⟨s2, o, st2, r⟩ := q T locs k' n' q1 q2 X eT N
  exact ⟨s2, o, XT.lxor (X.here) hx rfl (hb hby hd) rfl st2, r⟩
theorem Ru.ldiv (C : Ru l Z own code maxL ret nm R n0 G W) {x y : Int64} (hd : decode code pc = .ok (.ldiv, 1)) (hp : pc + 1 = pc') (hy : y ≠ 0) (q : W h k n pc' Ls (.long (x / y) :: rest)) : W h k n pc Ls (.long y :: .long x :: rest) := by
  obtain ⟨p, e, s, m, args, below, meth, c, ⟨hx, hby, hml, hown, hZ, hre, hlk, hnm⟩, rfl⟩ := C
  subst hp
  intro T locs k' n' q1 q2 X eT N
  obtain ⟨s2, o, st2, r⟩ := q T locs k' n' q1 q2 X eT N
  exact ⟨s2, o, XT.ldiv (X.here) hx rfl (hb hby hd) rfl hy st2, r⟩
theorem Ru.ishl (C : Ru l Z own code maxL ret nm R n0 G W) {x : Int32} {y : Int32} {s : Nat} (hd : decode code pc = .ok (.ishl, 1)) (hp : pc + 1 = pc') (hs : sh5 y = s) (q : W h k n pc' Ls (.int (shlI x s) :: rest)) : W h k n pc Ls (.int y :: .int x :: rest) := by
  obtain ⟨p, e, s', m, args, below, meth, c, ⟨hx, hby, hml, hown, hZ, hre, hlk, hnm⟩, rfl⟩ := C
  subst hp hs
  intro T locs k' n' q1 q2 X eT N
  obtain ⟨s2, o, st2, r⟩ := q T locs k' n' q1 q2 X eT N
  exact ⟨s2, o, XT.ishl X.here hx rfl (hb hby hd) rfl (by rw [ishl_eq]; exact st2), r⟩
theorem Ru.ishr (C : Ru l Z own code maxL ret nm R n0 G W) {x : Int32} {y : Int32} {s : Nat} (hd : decode code pc = .ok (.ishr, 1)) (hp : pc + 1 = pc') (hs : sh5 y = s) (q : W h k n pc' Ls (.int (sarI x s) :: rest)) : W h k n pc Ls (.int y :: .int x :: rest) := by
  obtain ⟨p, e, s', m, args, below, meth, c, ⟨hx, hby, hml, hown, hZ, hre, hlk, hnm⟩, rfl⟩ := C
  subst hp hs
  intro T locs k' n' q1 q2 X eT N
  obtain ⟨s2, o, st2, r⟩ := q T locs k' n' q1 q2 X eT N
  exact ⟨s2, o, XT.ishr X.here hx rfl (hb hby hd) rfl (by rw [ishr_eq]; exact st2), r⟩
theorem Ru.iushr (C : Ru l Z own code maxL ret nm R n0 G W) {x : Int32} {y : Int32} {s : Nat} (hd : decode code pc = .ok (.iushr, 1)) (hp : pc + 1 = pc') (hs : sh5 y = s) (q : W h k n pc' Ls (.int (shrI x s) :: rest)) : W h k n pc Ls (.int y :: .int x :: rest) := by
  obtain ⟨p, e, s', m, args, below, meth, c, ⟨hx, hby, hml, hown, hZ, hre, hlk, hnm⟩, rfl⟩ := C
  subst hp hs
  intro T locs k' n' q1 q2 X eT N
  obtain ⟨s2, o, st2, r⟩ := q T locs k' n' q1 q2 X eT N
  exact ⟨s2, o, XT.iushr X.here hx rfl (hb hby hd) rfl (by rw [iushr_eq]; exact st2), r⟩
theorem Ru.lshl (C : Ru l Z own code maxL ret nm R n0 G W) {x : Int64} {y : Int32} {s : Nat} (hd : decode code pc = .ok (.lshl, 1)) (hp : pc + 1 = pc') (hs : sh6 y = s) (q : W h k n pc' Ls (.long (shlL x s) :: rest)) : W h k n pc Ls (.int y :: .long x :: rest) := by
  obtain ⟨p, e, s', m, args, below, meth, c, ⟨hx, hby, hml, hown, hZ, hre, hlk, hnm⟩, rfl⟩ := C
  subst hp hs
  intro T locs k' n' q1 q2 X eT N
  obtain ⟨s2, o, st2, r⟩ := q T locs k' n' q1 q2 X eT N
  exact ⟨s2, o, XT.lshl X.here hx rfl (hb hby hd) rfl (by rw [lshl_eq]; exact st2), r⟩
theorem Ru.lshr (C : Ru l Z own code maxL ret nm R n0 G W) {x : Int64} {y : Int32} {s : Nat} (hd : decode code pc = .ok (.lshr, 1)) (hp : pc + 1 = pc') (hs : sh6 y = s) (q : W h k n pc' Ls (.long (sarL x s) :: rest)) : W h k n pc Ls (.int y :: .long x :: rest) := by
  obtain ⟨p, e, s', m, args, below, meth, c, ⟨hx, hby, hml, hown, hZ, hre, hlk, hnm⟩, rfl⟩ := C
  subst hp hs
  intro T locs k' n' q1 q2 X eT N
  obtain ⟨s2, o, st2, r⟩ := q T locs k' n' q1 q2 X eT N
  exact ⟨s2, o, XT.lshr X.here hx rfl (hb hby hd) rfl (by rw [lshr_eq]; exact st2), r⟩
theorem Ru.lushr (C : Ru l Z own code maxL ret nm R n0 G W) {x : Int64} {y : Int32} {s : Nat} (hd : decode code pc = .ok (.lushr, 1)) (hp : pc + 1 = pc') (hs : sh6 y = s) (q : W h k n pc' Ls (.long (shrL x s) :: rest)) : W h k n pc Ls (.int y :: .long x :: rest) := by
  obtain ⟨p, e, s', m, args, below, meth, c, ⟨hx, hby, hml, hown, hZ, hre, hlk, hnm⟩, rfl⟩ := C
  subst hp hs
  intro T locs k' n' q1 q2 X eT N
  obtain ⟨s2, o, st2, r⟩ := q T locs k' n' q1 q2 X eT N
  exact ⟨s2, o, XT.lushr X.here hx rfl (hb hby hd) rfl (by rw [lushr_eq]; exact st2), r⟩
theorem Ru.i2l (C : Ru l Z own code maxL ret nm R n0 G W) {x : Int32} (hd : decode code pc = .ok (.i2l, 1)) (hp : pc + 1 = pc') (q : W h k n pc' Ls (.long x.toInt64 :: rest)) : W h k n pc Ls (.int x :: rest) := by
  obtain ⟨p, e, s, m, args, below, meth, c, ⟨hx, hby, hml, hown, hZ, hre, hlk, hnm⟩, rfl⟩ := C
  subst hp
  intro T locs k' n' q1 q2 X eT N
  obtain ⟨s2, o, st2, r⟩ := q T locs k' n' q1 q2 X eT N
  exact ⟨s2, o, XT.i2l (X.here) hx rfl (hb hby hd) rfl st2, r⟩
theorem Ru.l2i (C : Ru l Z own code maxL ret nm R n0 G W) {x : Int64} (hd : decode code pc = .ok (.l2i, 1)) (hp : pc + 1 = pc') (q : W h k n pc' Ls (.int x.toInt32 :: rest)) : W h k n pc Ls (.long x :: rest) := by
  obtain ⟨p, e, s, m, args, below, meth, c, ⟨hx, hby, hml, hown, hZ, hre, hlk, hnm⟩, rfl⟩ := C
  subst hp
  intro T locs k' n' q1 q2 X eT N
  obtain ⟨s2, o, st2, r⟩ := q T locs k' n' q1 q2 X eT N
  exact ⟨s2, o, XT.l2i (X.here) hx rfl (hb hby hd) rfl st2, r⟩
theorem Ru.i2b (C : Ru l Z own code maxL ret nm R n0 G W) {x : Int32} (hd : decode code pc = .ok (.i2b, 1)) (hp : pc + 1 = pc') (q : W h k n pc' Ls (.int x.toInt8.toInt32 :: rest)) : W h k n pc Ls (.int x :: rest) := by
  obtain ⟨p, e, s, m, args, below, meth, c, ⟨hx, hby, hml, hown, hZ, hre, hlk, hnm⟩, rfl⟩ := C
  subst hp
  intro T locs k' n' q1 q2 X eT N
  obtain ⟨s2, o, st2, r⟩ := q T locs k' n' q1 q2 X eT N
  exact ⟨s2, o, XT.i2b (X.here) hx rfl (hb hby hd) rfl st2, r⟩
theorem Ru.iconst (C : Ru l Z own code maxL ret nm R n0 G W) {i : Int} {v : Int32} (hd : decode code pc = .ok (.iconst i, 1)) (hp : pc + 1 = pc') (hv : Int32.ofInt i = v) (q : W h k n pc' Ls (.int v :: st)) : W h k n pc Ls (st) := by
  obtain ⟨p, e, s, m, args, below, meth, c, ⟨hx, hby, hml, hown, hZ, hre, hlk, hnm⟩, rfl⟩ := C
  subst hp hv
  intro T locs k' n' q1 q2 X eT N
  obtain ⟨s2, o, st2, r⟩ := q T locs k' n' q1 q2 X eT N
  exact ⟨s2, o, XS.iconst (X.here) hx rfl (hb hby hd)  st2, r⟩
theorem Ru.bipush (C : Ru l Z own code maxL ret nm R n0 G W) {i : Int} {v : Int32} (hd : decode code pc = .ok (.bipush i, 2)) (hp : pc + 2 = pc') (hv : (Int8.ofInt i).toInt32 = v) (q : W h k n pc' Ls (.int v :: st)) : W h k n pc Ls (st) := by
  obtain ⟨p, e, s, m, args, below, meth, c, ⟨hx, hby, hml, hown, hZ, hre, hlk, hnm⟩, rfl⟩ := C
  subst hp hv
  intro T locs k' n' q1 q2 X eT N
  obtain ⟨s2, o, st2, r⟩ := q T locs k' n' q1 q2 X eT N
  exact ⟨s2, o, XS.bipush (X.here) hx rfl (hb hby hd)  st2, r⟩
theorem Ru.sipush (C : Ru l Z own code maxL ret nm R n0 G W) {i : Int} {v : Int32} (hd : decode code pc = .ok (.sipush i, 3)) (hp : pc + 3 = pc') (hv : (Int16.ofInt i).toInt32 = v) (q : W h k n pc' Ls (.int v :: st)) : W h k n pc Ls (st) := by
  obtain ⟨p, e, s, m, args, below, meth, c, ⟨hx, hby, hml, hown, hZ, hre, hlk, hnm⟩, rfl⟩ := C
  subst hp hv
  intro T locs k' n' q1 q2 X eT N
  obtain ⟨s2, o, st2, r⟩ := q T locs k' n' q1 q2 X eT N
  exact ⟨s2, o, XS.sipush (X.here) hx rfl (hb hby hd)  st2, r⟩
theorem Ru.lconst (C : Ru l Z own code maxL ret nm R n0 G W) {i : Fin 2} {v : Int64} (hd : decode code pc = .ok (.lconst i, 1)) (hp : pc + 1 = pc') (hv : Int64.ofNat i = v) (q : W h k n pc' Ls (.long v :: st)) : W h k n pc Ls (st) := by
  obtain ⟨p, e, s, m, args, below, meth, c, ⟨hx, hby, hml, hown, hZ, hre, hlk, hnm⟩, rfl⟩ := C
  subst hp hv
  intro T locs k' n' q1 q2 X eT N
  obtain ⟨s2, o, st2, r⟩ := q T locs k' n' q1 q2 X eT N
  exact ⟨s2, o, XT.lconst (X.here) hx rfl (hb hby hd)  st2, r⟩
theorem Ru.aconstNull (C : Ru l Z own code maxL ret nm R n0 G W)  (hd : decode code pc = .ok (.aconst_null, 1)) (hp : pc + 1 = pc') (q : W h k n pc' Ls (.null :: st)) : W h k n pc Ls (st) := by
  obtain ⟨p, e, s, m, args, below, meth, c, ⟨hx, hby, hml, hown, hZ, hre, hlk, hnm⟩, rfl⟩ := C
  subst hp
  intro T locs k' n' q1 q2 X eT N
  obtain ⟨s2, o, st2, r⟩ := q T locs k' n' q1 q2 X eT N
  exact ⟨s2, o, XS.aconstNull (X.here) hx rfl (hb hby hd)  st2, r⟩
theorem Ru.dup (C : Ru l Z own code maxL ret nm R n0 G W) {x : Value} (hd : decode code pc = .ok (.dup, 1)) (hp : pc + 1 = pc') (hc : x.category = 1) (q : W h k n pc' Ls (x :: x :: rest)) : W h k n pc Ls (x :: rest) := by
  obtain ⟨p, e, s, m, args, below, meth, c, ⟨hx, hby, hml, hown, hZ, hre, hlk, hnm⟩, rfl⟩ := C
  subst hp
  intro T locs k' n' q1 q2 X eT N
  obtain ⟨s2, o, st2, r⟩ := q T locs k' n' q1 q2 X eT N
  exact ⟨s2, o, XS.dup (X.here) hx rfl (hb hby hd) rfl hc st2, r⟩
theorem Ru.pop (C : Ru l Z own code maxL ret nm R n0 G W) {x : Value} (hd : decode code pc = .ok (.pop, 1)) (hp : pc + 1 = pc') (hc : x.category = 1) (q : W h k n pc' Ls (rest)) : W h k n pc Ls (x :: rest) := by
  obtain ⟨p, e, s, m, args, below, meth, c, ⟨hx, hby, hml, hown, hZ, hre, hlk, hnm⟩, rfl⟩ := C
  subst hp
  intro T locs k' n' q1 q2 X eT N
  obtain ⟨s2, o, st2, r⟩ := q T locs k' n' q1 q2 X eT N
  exact ⟨s2, o, XT.pop (X.here) hx rfl (hb hby hd) rfl hc st2, r⟩
theorem Ru.dup2 (C : Ru l Z own code maxL ret nm R n0 G W) {x y : Value} (hd : decode code pc = .ok (.dup2, 1)) (hp : pc + 1 = pc') (hc : x.category = 1) (hc' : y.category = 1) (q : W h k n pc' Ls (x :: y :: x :: y :: rest)) : W h k n pc Ls (x :: y :: rest) := by
  obtain ⟨p, e, s, m, args, below, meth, c, ⟨hx, hby, hml, hown, hZ, hre, hlk, hnm⟩, rfl⟩ := C
  subst hp
  intro T locs k' n' q1 q2 X eT N
  obtain ⟨s2, o, st2, r⟩ := q T locs k' n' q1 q2 X eT N
  exact ⟨s2, o, XT.dup2 (X.here) hx rfl (hb hby hd) rfl hc hc' st2, r⟩
theorem Ru.dup2L (C : Ru l Z own code maxL ret nm R n0 G W) {x : Int64} (hd : decode code pc = .ok (.dup2, 1)) (hp : pc + 1 = pc') (q : W h k n pc' Ls (.long x :: .long x :: rest)) : W h k n pc Ls (.long x :: rest) := by
  obtain ⟨p, e, s, m, args, below, meth, c, ⟨hx, hby, hml, hown, hZ, hre, hlk, hnm⟩, rfl⟩ := C
  subst hp
  intro T locs k' n' q1 q2 X eT N
  obtain ⟨s2, o, st2, r⟩ := q T locs k' n' q1 q2 X eT N
  exact ⟨s2, o, XT.dup2L (X.here) hx rfl (hb hby hd) rfl st2, r⟩
theorem Ru.dupX1 (C : Ru l Z own code maxL ret nm R n0 G W) {x y : Value} (hd : decode code pc = .ok (.dup_x1, 1)) (hp : pc + 1 = pc') (hc : x.category = 1) (hc' : y.category = 1) (q : W h k n pc' Ls (x :: y :: x :: rest)) : W h k n pc Ls (x :: y :: rest) := by
  obtain ⟨p, e, s, m, args, below, meth, c, ⟨hx, hby, hml, hown, hZ, hre, hlk, hnm⟩, rfl⟩ := C
  subst hp
  intro T locs k' n' q1 q2 X eT N
  obtain ⟨s2, o, st2, r⟩ := q T locs k' n' q1 q2 X eT N
  exact ⟨s2, o, XT.dupX1 (X.here) hx rfl (hb hby hd) rfl hc hc' st2, r⟩
theorem Ru.iload (C : Ru l Z own code maxL ret nm R n0 G W) {j : Nat} {v : Int32} (hd : decode code pc = .ok (.iload j, 2)) (hp : pc + 2 = pc') (hl : Ls[j]? = some (.val (.int v))) (q : W h k n pc' Ls (.int v :: st)) : W h k n pc Ls (st) := by
  obtain ⟨p, e, s, m, args, below, meth, c, ⟨hx, hby, hml, hown, hZ, hre, hlk, hnm⟩, rfl⟩ := C
  subst hp
  intro T locs k' n' q1 q2 X eT N
  obtain ⟨s2, o, st2, r⟩ := q T locs k' n' q1 q2 X eT N
  exact ⟨s2, o, XS.iload (X.here) hx rfl (hb hby hd) hl st2, r⟩
theorem Ru.iloadN (C : Ru l Z own code maxL ret nm R n0 G W) {j : Fin 4} {v : Int32} (hd : decode code pc = .ok (.iload_n j, 1)) (hp : pc + 1 = pc') (hl : Ls[j.val]? = some (.val (.int v))) (q : W h k n pc' Ls (.int v :: st)) : W h k n pc Ls (st) := by
  obtain ⟨p, e, s, m, args, below, meth, c, ⟨hx, hby, hml, hown, hZ, hre, hlk, hnm⟩, rfl⟩ := C
  subst hp
  intro T locs k' n' q1 q2 X eT N
  obtain ⟨s2, o, st2, r⟩ := q T locs k' n' q1 q2 X eT N
  exact ⟨s2, o, XS.iloadN (X.here) hx rfl (hb hby hd) hl st2, r⟩
theorem Ru.lload (C : Ru l Z own code maxL ret nm R n0 G W) {j : Nat} {v : Int64} (hd : decode code pc = .ok (.lload j, 2)) (hp : pc + 2 = pc') (hl : Ls[j]? = some (.val (.long v))) (q : W h k n pc' Ls (.long v :: st)) : W h k n pc Ls (st) := by
  obtain ⟨p, e, s, m, args, below, meth, c, ⟨hx, hby, hml, hown, hZ, hre, hlk, hnm⟩, rfl⟩ := C
  subst hp
  intro T locs k' n' q1 q2 X eT N
  obtain ⟨s2, o, st2, r⟩ := q T locs k' n' q1 q2 X eT N
  exact ⟨s2, o, XT.lload (X.here) hx rfl (hb hby hd) hl st2, r⟩
theorem Ru.lloadN (C : Ru l Z own code maxL ret nm R n0 G W) {j : Fin 4} {v : Int64} (hd : decode code pc = .ok (.lload_n j, 1)) (hp : pc + 1 = pc') (hl : Ls[j.val]? = some (.val (.long v))) (q : W h k n pc' Ls (.long v :: st)) : W h k n pc Ls (st) := by
  obtain ⟨p, e, s, m, args, below, meth, c, ⟨hx, hby, hml, hown, hZ, hre, hlk, hnm⟩, rfl⟩ := C
  subst hp
  intro T locs k' n' q1 q2 X eT N
  obtain ⟨s2, o, st2, r⟩ := q T locs k' n' q1 q2 X eT N
  exact ⟨s2, o, XT.lloadN (X.here) hx rfl (hb hby hd) hl st2, r⟩
theorem Ru.aload (C : Ru l Z own code maxL ret nm R n0 G W) {j : Nat} {v : Value} (hd : decode code pc = .ok (.aload j, 2)) (hp : pc + 2 = pc') (hl : Ls[j]? = some (.val v)) (hv : v.isRef = true) (q : W h k n pc' Ls (v :: st)) : W h k n pc Ls (st) := by
  obtain ⟨p, e, s, m, args, below, meth, c, ⟨hx, hby, hml, hown, hZ, hre, hlk, hnm⟩, rfl⟩ := C
  subst hp
  intro T locs k' n' q1 q2 X eT N
  obtain ⟨s2, o, st2, r⟩ := q T locs k' n' q1 q2 X eT N
  exact ⟨s2, o, XS.aload (X.here) hx rfl (hb hby hd) hl hv st2, r⟩
theorem Ru.aloadN (C : Ru l Z own code maxL ret nm R n0 G W) {j : Fin 4} {v : Value} (hd : decode code pc = .ok (.aload_n j, 1)) (hp : pc + 1 = pc') (hl : Ls[j.val]? = some (.val v)) (hv : v.isRef = true) (q : W h k n pc' Ls (v :: st)) : W h k n pc Ls (st) := by
  obtain ⟨p, e, s, m, args, below, meth, c, ⟨hx, hby, hml, hown, hZ, hre, hlk, hnm⟩, rfl⟩ := C
  subst hp
  intro T locs k' n' q1 q2 X eT N
  obtain ⟨s2, o, st2, r⟩ := q T locs k' n' q1 q2 X eT N
  exact ⟨s2, o, XS.aloadN (X.here) hx rfl (hb hby hd) hl hv st2, r⟩
theorem Ru.istoreX (C : Ru l Z own code maxL ret nm R n0 G W) {j : Nat} {x : Int32} {l' : Array Slot} (hd : decode code pc = .ok (.istore j, 2)) (hp : pc + 2 = pc') (hl : storeLocals Ls j (.int x) = some l') (q : W h k n pc' l' rest) : W h k n pc Ls (.int x :: rest) := by
  obtain ⟨p, e, s, m, args, below, meth, c, ⟨hx, hby, hml, hown, hZ, hre, hlk, hnm⟩, rfl⟩ := C
  subst hp
  intro T locs k' n' q1 q2 X eT N
  obtain ⟨s2, o, st2, r⟩ := q T locs k' n' q1 q2 X eT N
  exact ⟨s2, o, XS.istore X.here hx rfl (hb hby hd) rfl hl st2, r⟩
theorem Ru.istoreNX (C : Ru l Z own code maxL ret nm R n0 G W) {j : Fin 4} {x : Int32} {l' : Array Slot} (hd : decode code pc = .ok (.istore_n j, 1)) (hp : pc + 1 = pc') (hl : storeLocals Ls j.val (.int x) = some l') (q : W h k n pc' l' rest) : W h k n pc Ls (.int x :: rest) := by
  obtain ⟨p, e, s, m, args, below, meth, c, ⟨hx, hby, hml, hown, hZ, hre, hlk, hnm⟩, rfl⟩ := C
  subst hp
  intro T locs k' n' q1 q2 X eT N
  obtain ⟨s2, o, st2, r⟩ := q T locs k' n' q1 q2 X eT N
  exact ⟨s2, o, XS.istoreN X.here hx rfl (hb hby hd) rfl hl st2, r⟩
theorem Ru.lstoreX (C : Ru l Z own code maxL ret nm R n0 G W) {j : Nat} {x : Int64} {l' : Array Slot} (hd : decode code pc = .ok (.lstore j, 2)) (hp : pc + 2 = pc') (hl : storeLocals Ls j (.long x) = some l') (q : W h k n pc' l' rest) : W h k n pc Ls (.long x :: rest) := by
  obtain ⟨p, e, s, m, args, below, meth, c, ⟨hx, hby, hml, hown, hZ, hre, hlk, hnm⟩, rfl⟩ := C
  subst hp
  intro T locs k' n' q1 q2 X eT N
  obtain ⟨s2, o, st2, r⟩ := q T locs k' n' q1 q2 X eT N
  exact ⟨s2, o, XT.lstore X.here hx rfl (hb hby hd) rfl hl st2, r⟩
theorem Ru.lstoreNX (C : Ru l Z own code maxL ret nm R n0 G W) {j : Fin 4} {x : Int64} {l' : Array Slot} (hd : decode code pc = .ok (.lstore_n j, 1)) (hp : pc + 1 = pc') (hl : storeLocals Ls j.val (.long x) = some l') (q : W h k n pc' l' rest) : W h k n pc Ls (.long x :: rest) := by
  obtain ⟨p, e, s, m, args, below, meth, c, ⟨hx, hby, hml, hown, hZ, hre, hlk, hnm⟩, rfl⟩ := C
  subst hp
  intro T locs k' n' q1 q2 X eT N
  obtain ⟨s2, o, st2, r⟩ := q T locs k' n' q1 q2 X eT N
  exact ⟨s2, o, XT.lstoreN X.here hx rfl (hb hby hd) rfl hl st2, r⟩
theorem Ru.istore (C : Ru l Z own code maxL ret nm R n0 G W) {j : Nat} {x : Int32} {f : Int32 → Array Slot} (hd : decode code pc = .ok (.istore j, 2)) (hp : pc + 2 = pc') (hl : ∀ v, storeLocals Ls j (.int v) = some (f v)) (q : ∀ v, v = x → W h k n pc' (f v) rest) : W h k n pc Ls (.int x :: rest) := by
  obtain ⟨p, e, s, m, args, below, meth, c, ⟨hx, hby, hml, hown, hZ, hre, hlk, hnm⟩, rfl⟩ := C
  subst hp
  intro T locs k' n' q1 q2 X eT N
  obtain ⟨s2, o, st2, r⟩ := q x rfl T locs k' n' q1 q2 X eT N
  exact ⟨s2, o, XS.istore X.here hx rfl (hb hby hd) rfl (hl x) st2, r⟩
theorem Ru.istoreN (C : Ru l Z own code maxL ret nm R n0 G W) {j : Fin 4} {x : Int32} {f : Int32 → Array Slot} (hd : decode code pc = .ok (.istore_n j, 1)) (hp : pc + 1 = pc') (hl : ∀ v, storeLocals Ls j.val (.int v) = some (f v)) (q : ∀ v, v = x → W h k n pc' (f v) rest) : W h k n pc Ls (.int x :: rest) := by
  obtain ⟨p, e, s, m, args, below, meth, c, ⟨hx, hby, hml, hown, hZ, hre, hlk, hnm⟩, rfl⟩ := C
  subst hp
  intro T locs k' n' q1 q2 X eT N
  obtain ⟨s2, o, st2, r⟩ := q x rfl T locs k' n' q1 q2 X eT N
  exact ⟨s2, o, XS.istoreN X.here hx rfl (hb hby hd) rfl (hl x) st2, r⟩
theorem Ru.lstore (C : Ru l Z own code maxL ret nm R n0 G W) {j : Nat} {x : Int64} {f : Int64 → Array Slot} (hd : decode code pc = .ok (.lstore j, 2)) (hp : pc + 2 = pc') (hl : ∀ v, storeLocals Ls j (.long v) = some (f v)) (q : ∀ v, v = x → W h k n pc' (f v) rest) : W h k n pc Ls (.long x :: rest) := by
  obtain ⟨p, e, s, m, args, below, meth, c, ⟨hx, hby, hml, hown, hZ, hre, hlk, hnm⟩, rfl⟩ := C
  subst hp
  intro T locs k' n' q1 q2 X eT N
  obtain ⟨s2, o, st2, r⟩ := q x rfl T locs k' n' q1 q2 X eT N
  exact ⟨s2, o, XT.lstore X.here hx rfl (hb hby hd) rfl (hl x) st2, r⟩
theorem Ru.lstoreN (C : Ru l Z own code maxL ret nm R n0 G W) {j : Fin 4} {x : Int64} {f : Int64 → Array Slot} (hd : decode code pc = .ok (.lstore_n j, 1)) (hp : pc + 1 = pc') (hl : ∀ v, storeLocals Ls j.val (.long v) = some (f v)) (q : ∀ v, v = x → W h k n pc' (f v) rest) : W h k n pc Ls (.long x :: rest) := by
  obtain ⟨p, e, s, m, args, below, meth, c, ⟨hx, hby, hml, hown, hZ, hre, hlk, hnm⟩, rfl⟩ := C
  subst hp
  intro T locs k' n' q1 q2 X eT N
  obtain ⟨s2, o, st2, r⟩ := q x rfl T locs k' n' q1 q2 X eT N
  exact ⟨s2, o, XT.lstoreN X.here hx rfl (hb hby hd) rfl (hl x) st2, r⟩
theorem Ru.astore (C : Ru l Z own code maxL ret nm R n0 G W) {j : Nat} {x : Value} {l' : Array Slot} (hd : decode code pc = .ok (.astore j, 2)) (hp : pc + 2 = pc') (hv : x.isRef = true) (hl : storeLocals Ls j x = some l') (q : W h k n pc' l' rest) : W h k n pc Ls (x :: rest) := by
  obtain ⟨p, e, s, m, args, below, meth, c, ⟨hx, hby, hml, hown, hZ, hre, hlk, hnm⟩, rfl⟩ := C
  subst hp
  intro T locs k' n' q1 q2 X eT N
  obtain ⟨s2, o, st2, r⟩ := q T locs k' n' q1 q2 X eT N
  exact ⟨s2, o, XS.astore X.here hx rfl (hb hby hd) rfl hv hl st2, r⟩
theorem Ru.astoreN (C : Ru l Z own code maxL ret nm R n0 G W) {j : Fin 4} {x : Value} {l' : Array Slot} (hd : decode code pc = .ok (.astore_n j, 1)) (hp : pc + 1 = pc') (hv : x.isRef = true) (hl : storeLocals Ls j.val x = some l') (q : W h k n pc' l' rest) : W h k n pc Ls (x :: rest) := by
  obtain ⟨p, e, s, m, args, below, meth, c, ⟨hx, hby, hml, hown, hZ, hre, hlk, hnm⟩, rfl⟩ := C
  subst hp
  intro T locs k' n' q1 q2 X eT N
  obtain ⟨s2, o, st2, r⟩ := q T locs k' n' q1 q2 X eT N
  exact ⟨s2, o, XS.astoreN X.here hx rfl (hb hby hd) rfl hv hl st2, r⟩
theorem Ru.iinc (C : Ru l Z own code maxL ret nm R n0 G W) {j : Nat} {cst : Int} {x d : Int32} {f : Int32 → Array Slot} (hd : decode code pc = .ok (.iinc j cst, 3)) (hp : pc + 3 = pc') (hl : Ls[j]? = some (.val (.int x))) (hc : Int32.ofInt cst = d) (hl' : ∀ v, storeLocals Ls j (.int v) = some (f v)) (q : ∀ v, v = x + d → W h k n pc' (f v) st) : W h k n pc Ls st := by
  obtain ⟨p, e, s, m, args, below, meth, c, ⟨hx, hby, hml, hown, hZ, hre, hlk, hnm⟩, rfl⟩ := C
  subst hp hc
  intro T locs k' n' q1 q2 X eT N
  obtain ⟨s2, o, st2, r⟩ := q _ rfl T locs k' n' q1 q2 X eT N
  exact ⟨s2, o, XS.iinc X.here hx rfl (hb hby hd) hl (hl' _) st2, r⟩
theorem Ru.goto (C : Ru l Z own code maxL ret nm R n0 G W) {o : Int} (hd : decode code pc = .ok (.goto o, 3)) (hp : (pc : Int) + o = (pc' : Int)) (q : W h k n pc' Ls st) : W h k n pc Ls st := by
  obtain ⟨p, e, s, m, args, below, meth, c, ⟨hx, hby, hml, hown, hZ, hre, hlk, hnm⟩, rfl⟩ := C
  intro T locs k' n' q1 q2 X eT N
  obtain ⟨s2, o2, st2, r⟩ := q T locs k' n' q1 q2 X eT N
  exact ⟨s2, o2, XS.goto X.here hx rfl (pc0 := pc) (pc' := pc') rfl (hb hby hd) (by omega) (by omega) st2, r⟩
theorem Ru.ifAny (C : Ru l Z own code maxL ret nm R n0 G W) {cd : ClassFile.Cond} {o : Int} {x : Int32} {pt : Nat} (hd : decode code pc = .ok (.ifCond cd o, 3)) (hp : pc + 3 = pc') (ht : (pc : Int) + o = (pt : Int)) (q1 : ifCond.holds cd x = true → W h k n pt Ls rest) (q2 : ifCond.holds cd x = false → W h k n pc' Ls rest) : W h k n pc Ls (.int x :: rest) := by
  obtain ⟨p, e, s, m, args, below, meth, c, ⟨hx, hby, hml, hown, hZ, hre, hlk, hnm⟩, rfl⟩ := C
  subst hp
  intro T locs k' n' u1 u2 X eT N
  cases hc : ifCond.holds cd x
  · obtain ⟨s2, o2, st2, r⟩ := q2 hc T locs k' n' u1 u2 X eT N
    exact ⟨s2, o2, XS.ifNo X.here hx rfl (hb hby hd) rfl hc st2, r⟩
  · obtain ⟨s2, o2, st2, r⟩ := q1 hc T locs k' n' u1 u2 X eT N
    exact ⟨s2, o2, XS.ifYes X.here hx rfl (pc0 := pc) (pc' := pt) rfl (hb hby hd) rfl hc (by omega) (by omega) st2, r⟩
theorem Ru.icmpAny (C : Ru l Z own code maxL ret nm R n0 G W) {cd : ClassFile.Cond} {o : Int} {x y : Int32} {pt : Nat} (hd : decode code pc = .ok (.if_icmp cd o, 3)) (hp : pc + 3 = pc') (ht : (pc : Int) + o = (pt : Int)) (q1 : if_icmp.holds cd x y = true → W h k n pt Ls rest) (q2 : if_icmp.holds cd x y = false → W h k n pc' Ls rest) : W h k n pc Ls (.int y :: .int x :: rest) := by
  obtain ⟨p, e, s, m, args, below, meth, c, ⟨hx, hby, hml, hown, hZ, hre, hlk, hnm⟩, rfl⟩ := C
  subst hp
  intro T locs k' n' u1 u2 X eT N
  cases hc : if_icmp.holds cd x y
  · obtain ⟨s2, o2, st2, r⟩ := q2 hc T locs k' n' u1 u2 X eT N
    exact ⟨s2, o2, XS.icmpNo X.here hx rfl (hb hby hd) rfl hc st2, r⟩
  · obtain ⟨s2, o2, st2, r⟩ := q1 hc T locs k' n' u1 u2 X eT N
    exact ⟨s2, o2, XS.icmpYes X.here hx rfl (pc0 := pc) (pc' := pt) rfl (hb hby hd) rfl hc (by omega) (by omega) st2, r⟩
theorem Ru.lcmp (C : Ru l Z own code maxL ret nm R n0 G W) {x y : Int64} (hd : decode code pc = .ok (.lcmp, 1)) (hp : pc + 1 = pc') (q : W h k n pc' Ls (.int (XT.cmpL x y) :: rest)) : W h k n pc Ls (.long y :: .long x :: rest) := by
  obtain ⟨p, e, s, m, args, below, meth, c, ⟨hx, hby, hml, hown, hZ, hre, hlk, hnm⟩, rfl⟩ := C
  subst hp
  intro T locs k' n' q1 q2 X eT N
  obtain ⟨s2, o, st2, r⟩ := q T locs k' n' q1 q2 X eT N
  exact ⟨s2, o, XT.lcmp X.here hx rfl (hb hby hd) rfl st2, r⟩
theorem cmpL_lt (x y : Int64) : XT.cmpL x y < 0 ↔ x < y := by
  have e : XT.cmpL x y = lcmpV x y := by simp only [XT.cmpL, lcmpV]; split <;> simp_all
  rw [e]; exact lc_lt x y
theorem cmpL_gt (x y : Int64) : 0 < XT.cmpL x y ↔ y < x := by
  have e : XT.cmpL x y = lcmpV x y := by simp only [XT.cmpL, lcmpV]; split <;> simp_all
  rw [e]; exact lc_gt x y
theorem cmpL_eq (x y : Int64) : XT.cmpL x y = 0 ↔ x = y := by
  have e : XT.cmpL x y = lcmpV x y := by simp only [XT.cmpL, lcmpV]; split <;> simp_all
  rw [e]; exact lc_eq x y
theorem Ru.if_eq (C : Ru l Z own code maxL ret nm R n0 G W) {o : Int} {x : Int32} {pt : Nat} (hd : decode code pc = .ok (.ifCond .eq o, 3)) (hp : pc + 3 = pc') (ht : (pc : Int) + o = (pt : Int)) (q1 : x = 0 → W h k n pt Ls rest) (q2 : ¬ x = 0 → W h k n pc' Ls rest) : W h k n pc Ls (.int x :: rest) :=
  C.ifAny hd hp ht (fun q => q1 (by simpa [ifCond.holds] using q)) (fun q => q2 (by simpa [ifCond.holds] using q))
theorem Ru.icmp_eq (C : Ru l Z own code maxL ret nm R n0 G W) {o : Int} {x y : Int32} {pt : Nat} (hd : decode code pc = .ok (.if_icmp .eq o, 3)) (hp : pc + 3 = pc') (ht : (pc : Int) + o = (pt : Int)) (q1 : x = y → W h k n pt Ls rest) (q2 : ¬ x = y → W h k n pc' Ls rest) : W h k n pc Ls (.int y :: .int x :: rest) :=
  C.icmpAny hd hp ht (fun q => q1 (by simpa [if_icmp.holds] using q)) (fun q => q2 (by simpa [if_icmp.holds] using q))
theorem Ru.lif_eq (C : Ru l Z own code maxL ret nm R n0 G W) {o : Int} {x y : Int64} {pi pt : Nat} (hd : decode code pc = .ok (.lcmp, 1)) (hi : pc + 1 = pi) (hd2 : decode code pi = .ok (.ifCond .eq o, 3)) (hp : pi + 3 = pc') (ht : (pi : Int) + o = (pt : Int)) (q1 : x = y → W h k n pt Ls rest) (q2 : ¬ x = y → W h k n pc' Ls rest) : W h k n pc Ls (.long y :: .long x :: rest) :=
  C.lcmp hd hi (C.if_eq hd2 hp ht (fun q => q1 (by simpa only [cmpL_eq, cmpL_lt, cmpL_gt] using q)) (fun q => q2 (by simpa only [cmpL_eq, cmpL_lt, cmpL_gt] using q)))
theorem Ru.if_ne (C : Ru l Z own code maxL ret nm R n0 G W) {o : Int} {x : Int32} {pt : Nat} (hd : decode code pc = .ok (.ifCond .ne o, 3)) (hp : pc + 3 = pc') (ht : (pc : Int) + o = (pt : Int)) (q1 : ¬ x = 0 → W h k n pt Ls rest) (q2 : x = 0 → W h k n pc' Ls rest) : W h k n pc Ls (.int x :: rest) :=
  C.ifAny hd hp ht (fun q => q1 (by simpa [ifCond.holds] using q)) (fun q => q2 (by simpa [ifCond.holds] using q))
theorem Ru.icmp_ne (C : Ru l Z own code maxL ret nm R n0 G W) {o : Int} {x y : Int32} {pt : Nat} (hd : decode code pc = .ok (.if_icmp .ne o, 3)) (hp : pc + 3 = pc') (ht : (pc : Int) + o = (pt : Int)) (q1 : ¬ x = y → W h k n pt Ls rest) (q2 : x = y → W h k n pc' Ls rest) : W h k n pc Ls (.int y :: .int x :: rest) :=
  C.icmpAny hd hp ht (fun q => q1 (by simpa [if_icmp.holds] using q)) (fun q => q2 (by simpa [if_icmp.holds] using q))
theorem Ru.lif_ne (C : Ru l Z own code maxL ret nm R n0 G W) {o : Int} {x y : Int64} {pi pt : Nat} (hd : decode code pc = .ok (.lcmp, 1)) (hi : pc + 1 = pi) (hd2 : decode code pi = .ok (.ifCond .ne o, 3)) (hp : pi + 3 = pc') (ht : (pi : Int) + o = (pt : Int)) (q1 : ¬ x = y → W h k n pt Ls rest) (q2 : x = y → W h k n pc' Ls rest) : W h k n pc Ls (.long y :: .long x :: rest) :=
  C.lcmp hd hi (C.if_ne hd2 hp ht (fun q => q1 (by simpa only [cmpL_eq, cmpL_lt, cmpL_gt] using q)) (fun q => q2 (by simpa only [cmpL_eq, cmpL_lt, cmpL_gt] using q)))
theorem Ru.if_lt (C : Ru l Z own code maxL ret nm R n0 G W) {o : Int} {x : Int32} {pt : Nat} (hd : decode code pc = .ok (.ifCond .lt o, 3)) (hp : pc + 3 = pc') (ht : (pc : Int) + o = (pt : Int)) (q1 : x < 0 → W h k n pt Ls rest) (q2 : ¬ x < 0 → W h k n pc' Ls rest) : W h k n pc Ls (.int x :: rest) :=
  C.ifAny hd hp ht (fun q => q1 (by simpa [ifCond.holds] using q)) (fun q => q2 (by simpa [ifCond.holds] using q))
theorem Ru.icmp_lt (C : Ru l Z own code maxL ret nm R n0 G W) {o : Int} {x y : Int32} {pt : Nat} (hd : decode code pc = .ok (.if_icmp .lt o, 3)) (hp : pc + 3 = pc') (ht : (pc : Int) + o = (pt : Int)) (q1 : x < y → W h k n pt Ls rest) (q2 : ¬ x < y → W h k n pc' Ls rest) : W h k n pc Ls (.int y :: .int x :: rest) :=
  C.icmpAny hd hp ht (fun q => q1 (by simpa [if_icmp.holds] using q)) (fun q => q2 (by simpa [if_icmp.holds] using q))
theorem Ru.lif_lt (C : Ru l Z own code maxL ret nm R n0 G W) {o : Int} {x y : Int64} {pi pt : Nat} (hd : decode code pc = .ok (.lcmp, 1)) (hi : pc + 1 = pi) (hd2 : decode code pi = .ok (.ifCond .lt o, 3)) (hp : pi + 3 = pc') (ht : (pi : Int) + o = (pt : Int)) (q1 : x < y → W h k n pt Ls rest) (q2 : ¬ x < y → W h k n pc' Ls rest) : W h k n pc Ls (.long y :: .long x :: rest) :=
  C.lcmp hd hi (C.if_lt hd2 hp ht (fun q => q1 (by simpa only [cmpL_eq, cmpL_lt, cmpL_gt] using q)) (fun q => q2 (by simpa only [cmpL_eq, cmpL_lt, cmpL_gt] using q)))
theorem Ru.if_ge (C : Ru l Z own code maxL ret nm R n0 G W) {o : Int} {x : Int32} {pt : Nat} (hd : decode code pc = .ok (.ifCond .ge o, 3)) (hp : pc + 3 = pc') (ht : (pc : Int) + o = (pt : Int)) (q1 : ¬ x < 0 → W h k n pt Ls rest) (q2 : x < 0 → W h k n pc' Ls rest) : W h k n pc Ls (.int x :: rest) :=
  C.ifAny hd hp ht (fun q => q1 (by simpa [ifCond.holds] using q)) (fun q => q2 (by simpa [ifCond.holds] using q))
theorem Ru.icmp_ge (C : Ru l Z own code maxL ret nm R n0 G W) {o : Int} {x y : Int32} {pt : Nat} (hd : decode code pc = .ok (.if_icmp .ge o, 3)) (hp : pc + 3 = pc') (ht : (pc : Int) + o = (pt : Int)) (q1 : ¬ x < y → W h k n pt Ls rest) (q2 : x < y → W h k n pc' Ls rest) : W h k n pc Ls (.int y :: .int x :: rest) :=
  C.icmpAny hd hp ht (fun q => q1 (by simpa [if_icmp.holds] using q)) (fun q => q2 (by simpa [if_icmp.holds] using q))
theorem Ru.lif_ge (C : Ru l Z own code maxL ret nm R n0 G W) {o : Int} {x y : Int64} {pi pt : Nat} (hd : decode code pc = .ok (.lcmp, 1)) (hi : pc + 1 = pi) (hd2 : decode code pi = .ok (.ifCond .ge o, 3)) (hp : pi + 3 = pc') (ht : (pi : Int) + o = (pt : Int)) (q1 : ¬ x < y → W h k n pt Ls rest) (q2 : x < y → W h k n pc' Ls rest) : W h k n pc Ls (.long y :: .long x :: rest) :=
  C.lcmp hd hi (C.if_ge hd2 hp ht (fun q => q1 (by simpa only [cmpL_eq, cmpL_lt, cmpL_gt] using q)) (fun q => q2 (by simpa only [cmpL_eq, cmpL_lt, cmpL_gt] using q)))
theorem Ru.if_gt (C : Ru l Z own code maxL ret nm R n0 G W) {o : Int} {x : Int32} {pt : Nat} (hd : decode code pc = .ok (.ifCond .gt o, 3)) (hp : pc + 3 = pc') (ht : (pc : Int) + o = (pt : Int)) (q1 : 0 < x → W h k n pt Ls rest) (q2 : ¬ 0 < x → W h k n pc' Ls rest) : W h k n pc Ls (.int x :: rest) :=
  C.ifAny hd hp ht (fun q => q1 (by simpa [ifCond.holds] using q)) (fun q => q2 (by simpa [ifCond.holds] using q))
theorem Ru.icmp_gt (C : Ru l Z own code maxL ret nm R n0 G W) {o : Int} {x y : Int32} {pt : Nat} (hd : decode code pc = .ok (.if_icmp .gt o, 3)) (hp : pc + 3 = pc') (ht : (pc : Int) + o = (pt : Int)) (q1 : y < x → W h k n pt Ls rest) (q2 : ¬ y < x → W h k n pc' Ls rest) : W h k n pc Ls (.int y :: .int x :: rest) :=
  C.icmpAny hd hp ht (fun q => q1 (by simpa [if_icmp.holds] using q)) (fun q => q2 (by simpa [if_icmp.holds] using q))
theorem Ru.lif_gt (C : Ru l Z own code maxL ret nm R n0 G W) {o : Int} {x y : Int64} {pi pt : Nat} (hd : decode code pc = .ok (.lcmp, 1)) (hi : pc + 1 = pi) (hd2 : decode code pi = .ok (.ifCond .gt o, 3)) (hp : pi + 3 = pc') (ht : (pi : Int) + o = (pt : Int)) (q1 : y < x → W h k n pt Ls rest) (q2 : ¬ y < x → W h k n pc' Ls rest) : W h k n pc Ls (.long y :: .long x :: rest) :=
  C.lcmp hd hi (C.if_gt hd2 hp ht (fun q => q1 (by simpa only [cmpL_eq, cmpL_lt, cmpL_gt] using q)) (fun q => q2 (by simpa only [cmpL_eq, cmpL_lt, cmpL_gt] using q)))
theorem Ru.if_le (C : Ru l Z own code maxL ret nm R n0 G W) {o : Int} {x : Int32} {pt : Nat} (hd : decode code pc = .ok (.ifCond .le o, 3)) (hp : pc + 3 = pc') (ht : (pc : Int) + o = (pt : Int)) (q1 : ¬ 0 < x → W h k n pt Ls rest) (q2 : 0 < x → W h k n pc' Ls rest) : W h k n pc Ls (.int x :: rest) :=
  C.ifAny hd hp ht (fun q => q1 (by simpa [ifCond.holds] using q)) (fun q => q2 (by simpa [ifCond.holds] using q))
theorem Ru.icmp_le (C : Ru l Z own code maxL ret nm R n0 G W) {o : Int} {x y : Int32} {pt : Nat} (hd : decode code pc = .ok (.if_icmp .le o, 3)) (hp : pc + 3 = pc') (ht : (pc : Int) + o = (pt : Int)) (q1 : ¬ y < x → W h k n pt Ls rest) (q2 : y < x → W h k n pc' Ls rest) : W h k n pc Ls (.int y :: .int x :: rest) :=
  C.icmpAny hd hp ht (fun q => q1 (by simpa [if_icmp.holds] using q)) (fun q => q2 (by simpa [if_icmp.holds] using q))
theorem Ru.lif_le (C : Ru l Z own code maxL ret nm R n0 G W) {o : Int} {x y : Int64} {pi pt : Nat} (hd : decode code pc = .ok (.lcmp, 1)) (hi : pc + 1 = pi) (hd2 : decode code pi = .ok (.ifCond .le o, 3)) (hp : pi + 3 = pc') (ht : (pi : Int) + o = (pt : Int)) (q1 : ¬ y < x → W h k n pt Ls rest) (q2 : y < x → W h k n pc' Ls rest) : W h k n pc Ls (.long y :: .long x :: rest) :=
  C.lcmp hd hi (C.if_le hd2 hp ht (fun q => q1 (by simpa only [cmpL_eq, cmpL_lt, cmpL_gt] using q)) (fun q => q2 (by simpa only [cmpL_eq, cmpL_lt, cmpL_gt] using q)))
theorem Ru.ifnullYes (C : Ru l Z own code maxL ret nm R n0 G W) {o : Int}  (hd : decode code pc = .ok (.ifnull o, 3)) (hp : (pc : Int) + o = (pc' : Int)) (q : W h k n pc' Ls rest) : W h k n pc Ls (.null :: rest) := by
  obtain ⟨p, e, s, m, args, below, meth, c, ⟨hx, hby, hml, hown, hZ, hre, hlk, hnm⟩, rfl⟩ := C
  intro T locs k' n' q1 q2 X eT N
  obtain ⟨s2, o2, st2, r⟩ := q T locs k' n' q1 q2 X eT N
  exact ⟨s2, o2, XS.ifnullYes X.here hx rfl (pc0 := pc) (pc' := pc') rfl (hb hby hd) rfl (by omega) (by omega) st2, r⟩
theorem Ru.ifnullNo (C : Ru l Z own code maxL ret nm R n0 G W) {o : Int} {b : Addr} (hd : decode code pc = .ok (.ifnull o, 3)) (hp : pc + 3 = pc') (q : W h k n pc' Ls rest) : W h k n pc Ls (.ref b :: rest) := by
  obtain ⟨p, e, s, m, args, below, meth, c, ⟨hx, hby, hml, hown, hZ, hre, hlk, hnm⟩, rfl⟩ := C
  subst hp
  intro T locs k' n' q1 q2 X eT N
  obtain ⟨s2, o2, st2, r⟩ := q T locs k' n' q1 q2 X eT N
  exact ⟨s2, o2, XS.ifnullNo X.here hx rfl (hb hby hd) rfl st2, r⟩
theorem Ru.ifnonnullYes (C : Ru l Z own code maxL ret nm R n0 G W) {o : Int} {b : Addr} (hd : decode code pc = .ok (.ifnonnull o, 3)) (hp : (pc : Int) + o = (pc' : Int)) (q : W h k n pc' Ls rest) : W h k n pc Ls (.ref b :: rest) := by
  obtain ⟨p, e, s, m, args, below, meth, c, ⟨hx, hby, hml, hown, hZ, hre, hlk, hnm⟩, rfl⟩ := C
  intro T locs k' n' q1 q2 X eT N
  obtain ⟨s2, o2, st2, r⟩ := q T locs k' n' q1 q2 X eT N
  exact ⟨s2, o2, XT.ifnonnullYes X.here hx rfl (pc0 := pc) (pc' := pc') rfl (hb hby hd) rfl (by omega) (by omega) st2, r⟩
theorem Ru.ifnonnullNo (C : Ru l Z own code maxL ret nm R n0 G W) {o : Int}  (hd : decode code pc = .ok (.ifnonnull o, 3)) (hp : pc + 3 = pc') (q : W h k n pc' Ls rest) : W h k n pc Ls (.null :: rest) := by
  obtain ⟨p, e, s, m, args, below, meth, c, ⟨hx, hby, hml, hown, hZ, hre, hlk, hnm⟩, rfl⟩ := C
  subst hp
  intro T locs k' n' q1 q2 X eT N
  obtain ⟨s2, o2, st2, r⟩ := q T locs k' n' q1 q2 X eT N
  exact ⟨s2, o2, XT.ifnonnullNo X.here hx rfl (hb hby hd) rfl st2, r⟩
theorem lrem_eq (x y : Int64) : x - (x / y) * y = x % y := lrem_mod x y
theorem Ru.lrem (C : Ru l Z own code maxL ret nm R n0 G W) {x y : Int64} (hd : decode code pc = .ok (.lrem, 1)) (hp : pc + 1 = pc') (hy : y ≠ 0) (q : W h k n pc' Ls (.long (x % y) :: rest)) : W h k n pc Ls (.long y :: .long x :: rest) := by
  obtain ⟨p, e, s, m, args, below, meth, c, ⟨hx, hby, hml, hown, hZ, hre, hlk, hnm⟩, rfl⟩ := C
  subst hp
  intro T locs k' n' q1 q2 X eT N
  obtain ⟨s2, o, st2, r⟩ := q T locs k' n' q1 q2 X eT N
  exact ⟨s2, o, XT.lrem X.here hx rfl (hb hby hd) rfl hy (by rw [lrem_mod]; exact st2), r⟩
theorem Ru.ldcI (C : Ru l Z own code maxL ret nm R n0 G W) {a0 : Array Value} {i : Nat} {v : Int32} (w : (Cond.constant own i v).before a0 Z = true) (hd : decode code pc = .ok (.ldc i, 2)) (hp : pc + 2 = pc') (q : W h k n pc' Ls (.int v :: st)) : W h k n pc Ls st := by
  obtain ⟨p, e, s, m, args, below, meth, c, ⟨hx, hby, hml, hown, hZ, hre, hlk, hnm⟩, rfl⟩ := C
  subst hp
  intro T locs k' n' q1 q2 X eT N
  obtain ⟨s2, o, st2, r⟩ := q T locs k' n' q1 q2 X eT N
  exact ⟨s2, o, X.ldcInt hx hown (mvT hZ w) (g := mkF m pc Ls st) rfl (hb hby hd) _ st2, r⟩
theorem Ru.ldcJ (C : Ru l Z own code maxL ret nm R n0 G W) {a0 : Array Value} {i : Nat} {v : Int64} (w : (Cond.constantLong own i v).before a0 Z = true) (hd : decode code pc = .ok (.ldc2_w i, 3)) (hp : pc + 3 = pc') (q : W h k n pc' Ls (.long v :: st)) : W h k n pc Ls st := by
  obtain ⟨p, e, s, m, args, below, meth, c, ⟨hx, hby, hml, hown, hZ, hre, hlk, hnm⟩, rfl⟩ := C
  subst hp
  intro T locs k' n' q1 q2 X eT N
  obtain ⟨s2, o, st2, r⟩ := q T locs k' n' q1 q2 X eT N
  exact ⟨s2, o, X.ldc2Long hx hown (mvT hZ w) (g := mkF m pc Ls st) rfl (hb hby hd) _ st2, r⟩
/-! the heap -/
theorem Ru.getf (C : Ru l Z own code maxL ret nm R n0 G W) {a0 : Array Value} {R0 O f d : String} {i : Nat} {a : Addr} {v : Value} (w : (Cond.fieldLink own i R0 f d).before a0 Z = true) (via : Via Z R0 O f d) (F : Fld Z h a O f d v) (hd : decode code pc = .ok (.getfield i, 3)) (hp : pc + 3 = pc') (q : W h k n pc' Ls (v :: rest)) : W h k n pc Ls (.ref a :: rest) := by
  obtain ⟨p, e, s, m, args, below, meth, c, ⟨hx, hby, hml, hown, hZ, hre, hlk, hnm⟩, rfl⟩ := C
  subst hp
  intro T locs k' n' q1 q2 X eT N
  obtain ⟨T', X', e', st'⟩ := getF X hx hZ hown (host := "") (Or.inl w) via eT F (g := mkF m pc Ls (.ref a :: rest)) rfl rfl (hb hby hd)
  obtain ⟨s2, o, st2, r⟩ := q T' locs k' n' q1 q2 X' e' N
  exact ⟨s2, o, st' _ st2, r⟩
theorem Ru.gets (C : Ru l Z own code maxL ret nm R n0 G W) {a0 : Array Value} {R0 O f d : String} {i : Nat} {v : Value} (w : (Cond.fieldLink own i R0 f d).before a0 Z = true) (via : Via Z R0 O f d) (F : Sta Z h O f d v) (hd : decode code pc = .ok (.getstatic i, 3)) (hp : pc + 3 = pc') (q : W h k n pc' Ls (v :: st)) : W h k n pc Ls st := by
  obtain ⟨p, e, s, m, args, below, meth, c, ⟨hx, hby, hml, hown, hZ, hre, hlk, hnm⟩, rfl⟩ := C
  subst hp
  intro T locs k' n' q1 q2 X eT N
  obtain ⟨T', X', e', st'⟩ := getS X hx hZ (host := "") hown w via eT F (g := mkF m pc Ls st) rfl (hb hby hd)
  obtain ⟨s2, o, st2, r⟩ := q T' locs k' n' q1 q2 X' e' N
  exact ⟨s2, o, st' _ st2, r⟩
theorem Ru.putf (C : Ru l Z own code maxL ret nm R n0 G W) {a0 : Array Value} {R0 O f d D : String} {i kk : Nat} {ty : FieldType} {a : Addr} {v old : Value} (w : (Cond.fieldLink own i R0 f d).before a0 Z = true) (via : Via Z R0 O f d) (F : Fld Z h a O f d old) (E : Exa Z h a D)
    (L : (Cond.lays D O f d).before a0 Z = true ∨ ((Cond.laysFinal D O f d).before a0 Z = true ∧ own = O ∧ nm = "<init>")) (wi : (Cond.instantiable D kk).before a0 Z = true) (hty : parseFieldDescriptor d = some ty) (hn : narrow ty v = v) (hf : fits ty v = true) (hg : n0 ≤ a)
    (hd : decode code pc = .ok (.putfield i, 3)) (hp : pc + 3 = pc') (q : ∀ h', Wr h h' a (Jvm.RoadKit.slotOf Z O f d) v → W h' k n pc' Ls rest) : W h k n pc Ls (v :: .ref a :: rest) := by
  obtain ⟨p, e, s, m, args, below, meth, c, ⟨hx, hby, hml, hown, hZ, hre, hlk, hnm⟩, rfl⟩ := C
  subst hp
  intro T locs k' n' q1 q2 X eT N
  obtain ⟨T', h', X', e', W', st'⟩ := putF X hx hZ hown (host := "") (Or.inl w) via eT F E (L.imp id fun u => ⟨u.1, u.2.1, hnm.trans u.2.2⟩) wi hty hn hf (g := mkF m pc Ls (v :: .ref a :: rest)) rfl rfl (hb hby hd)
  obtain ⟨s2, o, st2, r⟩ := q h' W' T' _ k' n' q1 q2 X' e' (Fr.snoc X' N hg)
  exact ⟨s2, o, st' _ st2, r⟩
theorem Ru.putfN (C : Ru l Z own code maxL ret nm R n0 G W) {a0 : Array Value} {R0 O f d D : String} {i kk : Nat} {ty : FieldType} {a : Addr} {v v' old : Value} (w : (Cond.fieldLink own i R0 f d).before a0 Z = true) (via : Via Z R0 O f d) (F : Fld Z h a O f d old) (E : Exa Z h a D)
    (L : (Cond.lays D O f d).before a0 Z = true ∨ ((Cond.laysFinal D O f d).before a0 Z = true ∧ own = O ∧ nm = "<init>")) (wi : (Cond.instantiable D kk).before a0 Z = true) (hty : parseFieldDescriptor d = some ty) (hn : narrow ty v = v') (hf : fits ty v' = true) (hg : n0 ≤ a)
    (hd : decode code pc = .ok (.putfield i, 3)) (hp : pc + 3 = pc') (q : ∀ h', Wr h h' a (Jvm.RoadKit.slotOf Z O f d) v' → W h' k n pc' Ls rest) : W h k n pc Ls (v :: .ref a :: rest) := by
  obtain ⟨p, e, s, m, args, below, meth, c, ⟨hx, hby, hml, hown, hZ, hre, hlk, hnm⟩, rfl⟩ := C
  subst hp
  intro T locs k' n' q1 q2 X eT N
  obtain ⟨T', h', X', e', W', st'⟩ := putFN X hx hZ hown w via eT F E (L.imp id fun u => ⟨u.1, u.2.1, hnm.trans u.2.2⟩) wi hty hn hf (g := mkF m pc Ls (v :: .ref a :: rest)) rfl rfl (hb hby hd)
  obtain ⟨s2, o, st2, r⟩ := q h' W' T' _ k' n' q1 q2 X' e' (Fr.snoc X' N hg)
  exact ⟨s2, o, st' _ st2, r⟩
theorem Ru.new (C : Ru l Z own code maxL ret nm R n0 G W) {a0 : Array Value} {D : String} {i sl : Nat} (w : (Cond.classLink own i D).before a0 Z = true) (wi : (Cond.instantiable D sl).before a0 Z = true) (wz : (Cond.initialized D).before a0 Z = true)
    (hd : decode code pc = .ok (.new i, 3)) (hp : pc + 3 = pc') (hk : k + 1 ≤ R.cells) (hn : n + sl ≤ R.slots)
    (q : ∀ h' b, b = h.size → Ext h h' → Exa Z h' b D → (∀ {O nm d : String} {ty : FieldType}, Laid Z a0 D O nm d → parseFieldDescriptor d = some ty → Fld Z h' b O nm d (defaultValue ty)) → W h' (k + 1) (n + sl) pc' Ls (.ref b :: st)) : W h k n pc Ls st := by
  obtain ⟨p, e, s, m, args, below, meth, c, ⟨hx, hby, hml, hown, hZ, hre, hlk, hnm⟩, rfl⟩ := C
  subst hp
  intro T locs k' n' q1 q2 X eT N
  obtain ⟨T', h', X', e', E', A', D', -, st'⟩ := newO X hx hZ hown w wi wz eT (g := mkF m pc Ls st) rfl (hb hby hd) (by omega) (by omega)
  obtain ⟨s2, o, st2, r⟩ := q h' _ rfl E' A' D' T' locs (k' + 1) (n' + sl) (by omega) (by omega) X' e' N
  exact ⟨s2, o, st' _ st2, r⟩
/-- an int array with just these elements -/
def AI (Z : State) (h : Heap) (a : Addr) (vs : List Int32) : Prop := ∃ c : Cell, Arr Z h a c .int ∧ c.slots = (vs.map Value.int).toArray ∧ vs.length < 2 ^ 31
def AJ (Z : State) (h : Heap) (a : Addr) (vs : List Int64) : Prop := ∃ c : Cell, Arr Z h a c .long ∧ c.slots = (vs.map Value.long).toArray ∧ vs.length < 2 ^ 31
/-- a byte array of this length -/
def AB (Z : State) (h : Heap) (a : Addr) (z : Nat) : Prop := ∃ c : Cell, Arr Z h a c .byte ∧ c.slots.size = z ∧ z < 2 ^ 31
theorem AI.lt {Z : State} {h : Heap} {a : Addr} {vs : List Int32} (F : AI Z h a vs) : a < h.size := by obtain ⟨c, A, -⟩ := F; exact A.lt
theorem AI.ext {Z : State} {h h' : Heap} {a : Addr} {vs : List Int32} (F : AI Z h a vs) (E : Ext h h') : AI Z h' a vs := by obtain ⟨c, A, r⟩ := F; exact ⟨c, A.ext E, r⟩
theorem AI.other {Z : State} {h h' : Heap} {a b : Addr} {sl : Nat} {v : Value} {vs : List Int32} (F : AI Z h b vs) (W : Wr h h' a sl v) (q : b ≠ a) : AI Z h' b vs := by obtain ⟨c, A, r⟩ := F; exact ⟨c, A.other W q, r⟩
theorem AI.keep {Z : State} {h h' : Heap} {a : Addr} {ws : List Addr} {vs : List Int32} (F : AI Z h a vs) (K : Keep h h' ws) (q : a ∉ ws) : AI Z h' a vs := by obtain ⟨c, A, r⟩ := F; exact ⟨c, ⟨K.2.1 a c A.1 q, A.2⟩, r⟩
theorem AI.set {Z : State} {h h' : Heap} {a : Addr} {j : Nat} {v : Int32} {vs : List Int32} (F : AI Z h a vs) (W : Wr h h' a j (.int v)) : AI Z h' a (vs.set j v) := by
  obtain ⟨c, A, e, r⟩ := F
  refine ⟨_, A.same W, ?_, by rw [List.length_set]; exact r⟩
  have q : (c.setSlot j (.int v)).slots = c.slots.setIfInBounds j (.int v) := rfl
  rw [q, e]
  apply Array.ext'
  simp [List.map_set]
theorem Ru.newAI (C : Ru l Z own code maxL ret nm R n0 G W) {a0 : Array Value} {z : Int32} {N cap : Nat} (w : (Cond.arrayClass .int).before a0 Z = true) (hd : decode code pc = .ok (.newarray .int, 2)) (hp : pc + 2 = pc') (hz : z.toInt = (N : Int)) (hcap : N ≤ cap) (hb8 : cap * 8 ≤ 536870912) (hk : k + 1 ≤ R.cells) (hn : n + cap ≤ R.slots)
    (q : ∀ h' b, b = h.size → Ext h h' → AI Z h' b (List.replicate N 0) → W h' (k + 1) (n + cap) pc' Ls (.ref b :: rest)) : W h k n pc Ls (.int z :: rest) := by
  obtain ⟨p, e, s, m, args, below, meth, c, ⟨hx, hby, hml, hown, hZ, hre, hlk, hnm⟩, rfl⟩ := C
  subst hp
  intro T locs k' n' q1 q2 X eT Nf
  have hnn : ¬ z < 0 := by rw [Int32.lt_iff_toInt_lt]; show ¬ z.toInt < 0; omega
  have hzn : z.toNatClampNeg = N := by show z.toInt.toNat = N; omega
  have hlt : N < 2 ^ 31 := by have := (rng32 z).2; omega
  obtain ⟨T', h', cA, X', e', E', A', st'⟩ := newP X hx hZ (aty := .int) w eT (g := mkF m pc Ls (.int z :: rest)) rfl (hb hby hd) rfl hnn (cap := cap) (by omega) hb8 (by omega) (by omega)
  have F : AI Z h' h.size (List.replicate N 0) := by
    refine ⟨_, A', ?_, by rw [List.length_replicate]; exact hlt⟩
    simp only [newA, hzn]
    apply Array.ext'
    simp [defaultValue, newarray.typeOf]
  obtain ⟨s2, o, st2, r⟩ := q h' _ rfl E' F T' locs (k' + 1) (n' + cap) (by omega) (by omega) X' e' Nf
  exact ⟨s2, o, st' _ st2, r⟩
theorem Ru.ldAI (C : Ru l Z own code maxL ret nm R n0 G W) {a : Addr} {j : Int32} {i : Nat} {v : Int32} {vs : List Int32} (F : AI Z h a vs) (hj : j.toInt = (i : Int)) (hv : vs[i]? = some v) (hd : decode code pc = .ok (.iaload, 1)) (hp : pc + 1 = pc') (q : W h k n pc' Ls (.int v :: rest)) : W h k n pc Ls (.int j :: .ref a :: rest) := by
  obtain ⟨p, e, s, m, args, below, meth, c, ⟨hx, hby, hml, hown, hZ, hre, hlk, hnm⟩, rfl⟩ := C
  subst hp
  intro T locs k' n' q1 q2 X eT N
  obtain ⟨cl, A, es, hl⟩ := F
  have hjn : j.toNatClampNeg = i := by show j.toInt.toNat = i; omega
  have hlt : i < vs.length := (List.getElem?_eq_some_iff.mp hv).1
  have hin : ¬ (j < 0 ∨ cl.slots.size ≤ j.toNatClampNeg) := by
    rw [Int32.lt_iff_toInt_lt, es, hjn]
    simp only [List.size_toArray, List.length_map]
    show ¬ (j.toInt < 0 ∨ _); omega
  have hat : cl.slots[j.toNatClampNeg]? = some (.int v) := by rw [es, hjn]; simp [hv]
  obtain ⟨s2, o, st2, r⟩ := q T locs k' n' q1 q2 X eT N
  exact ⟨s2, o, X.iaload hx (by rw [eT]; exact A.1) (State.isArrayOf_alike hZ.alike A.2.1) A.2.2 hin hat (g := mkF m pc Ls (.int j :: .ref a :: rest)) rfl rfl (hb hby hd) _ st2, r⟩
theorem Ru.stAI (C : Ru l Z own code maxL ret nm R n0 G W) {a : Addr} {j : Int32} {i : Nat} {v : Int32} {vs : List Int32} (F : AI Z h a vs) (hj : j.toInt = (i : Int)) (hlt : i < vs.length) (hg : n0 ≤ a) (hd : decode code pc = .ok (.iastore, 1)) (hp : pc + 1 = pc') (q : ∀ h', Wr h h' a i (.int v) → AI Z h' a (vs.set i v) → W h' k n pc' Ls rest) : W h k n pc Ls (.int v :: .int j :: .ref a :: rest) := by
  obtain ⟨p, e, s, m, args, below, meth, c, ⟨hx, hby, hml, hown, hZ, hre, hlk, hnm⟩, rfl⟩ := C
  subst hp
  intro T locs k' n' q1 q2 X eT N
  have F0 := F
  obtain ⟨cl, A, es, hl⟩ := F
  have hjn : j.toNatClampNeg = i := by show j.toInt.toNat = i; omega
  have hin : ¬ (j < 0 ∨ cl.slots.size ≤ j.toNatClampNeg) := by
    rw [Int32.lt_iff_toInt_lt, es, hjn]
    simp only [List.size_toArray, List.length_map]
    show ¬ (j.toInt < 0 ∨ _); omega
  obtain ⟨T', h', X', e', W', st'⟩ := stI X hx hZ eT A (j := j) hin (g := mkF m pc Ls (.int v :: .int j :: .ref a :: rest)) rfl rfl (hb hby hd)
  rw [hjn] at W'
  obtain ⟨s2, o, st2, r⟩ := q h' W' (F0.set W') T' _ k' n' q1 q2 X' e' (Fr.snoc X' N hg)
  exact ⟨s2, o, st' _ st2, r⟩
theorem Ru.lenAI (C : Ru l Z own code maxL ret nm R n0 G W) {a : Addr} {vs : List Int32} {z : Int32} (F : AI Z h a vs) (hz : z.toInt = (vs.length : Int)) (hd : decode code pc = .ok (.arraylength, 1)) (hp : pc + 1 = pc') (q : W h k n pc' Ls (.int z :: rest)) : W h k n pc Ls (.ref a :: rest) := by
  obtain ⟨p, e, s, m, args, below, meth, c, ⟨hx, hby, hml, hown, hZ, hre, hlk, hnm⟩, rfl⟩ := C
  subst hp
  intro T locs k' n' q1 q2 X eT N
  obtain ⟨cl, A, es, hl⟩ := F
  have e1 : cl.slots.size.toInt32 = z := by
    apply Int32.toInt_inj.mp
    rw [es, hz]
    simp only [List.size_toArray, List.length_map]
    exact len_toInt hl
  obtain ⟨s2, o, st2, r⟩ := q T locs k' n' q1 q2 X eT N
  exact ⟨s2, o, X.arraylength hx (by rw [eT]; exact A.1) (State.isArrayOf_alike hZ.alike A.2.1) (g := mkF m pc Ls (.ref a :: rest)) rfl rfl (hb hby hd) _ (by rw [e1]; exact st2), r⟩
theorem AJ.lt {Z : State} {h : Heap} {a : Addr} {vs : List Int64} (F : AJ Z h a vs) : a < h.size := by obtain ⟨c, A, -⟩ := F; exact A.lt
theorem AJ.ext {Z : State} {h h' : Heap} {a : Addr} {vs : List Int64} (F : AJ Z h a vs) (E : Ext h h') : AJ Z h' a vs := by obtain ⟨c, A, r⟩ := F; exact ⟨c, A.ext E, r⟩
theorem AJ.other {Z : State} {h h' : Heap} {a b : Addr} {sl : Nat} {v : Value} {vs : List Int64} (F : AJ Z h b vs) (W : Wr h h' a sl v) (q : b ≠ a) : AJ Z h' b vs := by obtain ⟨c, A, r⟩ := F; exact ⟨c, A.other W q, r⟩
theorem AJ.keep {Z : State} {h h' : Heap} {a : Addr} {ws : List Addr} {vs : List Int64} (F : AJ Z h a vs) (K : Keep h h' ws) (q : a ∉ ws) : AJ Z h' a vs := by obtain ⟨c, A, r⟩ := F; exact ⟨c, ⟨K.2.1 a c A.1 q, A.2⟩, r⟩
theorem AJ.set {Z : State} {h h' : Heap} {a : Addr} {j : Nat} {v : Int64} {vs : List Int64} (F : AJ Z h a vs) (W : Wr h h' a j (.long v)) : AJ Z h' a (vs.set j v) := by
  obtain ⟨c, A, e, r⟩ := F
  refine ⟨_, A.same W, ?_, by rw [List.length_set]; exact r⟩
  have q : (c.setSlot j (.long v)).slots = c.slots.setIfInBounds j (.long v) := rfl
  rw [q, e]
  apply Array.ext'
  simp [List.map_set]
theorem Ru.newAJ (C : Ru l Z own code maxL ret nm R n0 G W) {a0 : Array Value} {z : Int32} {N cap : Nat} (w : (Cond.arrayClass .long).before a0 Z = true) (hd : decode code pc = .ok (.newarray .long, 2)) (hp : pc + 2 = pc') (hz : z.toInt = (N : Int)) (hcap : N ≤ cap) (hb8 : cap * 8 ≤ 536870912) (hk : k + 1 ≤ R.cells) (hn : n + cap ≤ R.slots)
    (q : ∀ h' b, b = h.size → Ext h h' → AJ Z h' b (List.replicate N 0) → W h' (k + 1) (n + cap) pc' Ls (.ref b :: rest)) : W h k n pc Ls (.int z :: rest) := by
  obtain ⟨p, e, s, m, args, below, meth, c, ⟨hx, hby, hml, hown, hZ, hre, hlk, hnm⟩, rfl⟩ := C
  subst hp
  intro T locs k' n' q1 q2 X eT Nf
  have hnn : ¬ z < 0 := by rw [Int32.lt_iff_toInt_lt]; show ¬ z.toInt < 0; omega
  have hzn : z.toNatClampNeg = N := by show z.toInt.toNat = N; omega
  have hlt : N < 2 ^ 31 := by have := (rng32 z).2; omega
  obtain ⟨T', h', cA, X', e', E', A', st'⟩ := newP X hx hZ (aty := .long) w eT (g := mkF m pc Ls (.int z :: rest)) rfl (hb hby hd) rfl hnn (cap := cap) (by omega) hb8 (by omega) (by omega)
  have F : AJ Z h' h.size (List.replicate N 0) := by
    refine ⟨_, A', ?_, by rw [List.length_replicate]; exact hlt⟩
    simp only [newA, hzn]
    apply Array.ext'
    simp [defaultValue, newarray.typeOf]
  obtain ⟨s2, o, st2, r⟩ := q h' _ rfl E' F T' locs (k' + 1) (n' + cap) (by omega) (by omega) X' e' Nf
  exact ⟨s2, o, st' _ st2, r⟩
theorem Ru.ldAJ (C : Ru l Z own code maxL ret nm R n0 G W) {a : Addr} {j : Int32} {i : Nat} {v : Int64} {vs : List Int64} (F : AJ Z h a vs) (hj : j.toInt = (i : Int)) (hv : vs[i]? = some v) (hd : decode code pc = .ok (.laload, 1)) (hp : pc + 1 = pc') (q : W h k n pc' Ls (.long v :: rest)) : W h k n pc Ls (.int j :: .ref a :: rest) := by
  obtain ⟨p, e, s, m, args, below, meth, c, ⟨hx, hby, hml, hown, hZ, hre, hlk, hnm⟩, rfl⟩ := C
  subst hp
  intro T locs k' n' q1 q2 X eT N
  obtain ⟨cl, A, es, hl⟩ := F
  have hjn : j.toNatClampNeg = i := by show j.toInt.toNat = i; omega
  have hlt : i < vs.length := (List.getElem?_eq_some_iff.mp hv).1
  have hin : ¬ (j < 0 ∨ cl.slots.size ≤ j.toNatClampNeg) := by
    rw [Int32.lt_iff_toInt_lt, es, hjn]
    simp only [List.size_toArray, List.length_map]
    show ¬ (j.toInt < 0 ∨ _); omega
  have hat : cl.slots[j.toNatClampNeg]? = some (.long v) := by rw [es, hjn]; simp [hv]
  obtain ⟨s2, o, st2, r⟩ := q T locs k' n' q1 q2 X eT N
  exact ⟨s2, o, X.laload hx (by rw [eT]; exact A.1) (State.isArrayOf_alike hZ.alike A.2.1) A.2.2 hin hat (g := mkF m pc Ls (.int j :: .ref a :: rest)) rfl rfl (hb hby hd) _ st2, r⟩
theorem Ru.stAJ (C : Ru l Z own code maxL ret nm R n0 G W) {a : Addr} {j : Int32} {i : Nat} {v : Int64} {vs : List Int64} (F : AJ Z h a vs) (hj : j.toInt = (i : Int)) (hlt : i < vs.length) (hg : n0 ≤ a) (hd : decode code pc = .ok (.lastore, 1)) (hp : pc + 1 = pc') (q : ∀ h', Wr h h' a i (.long v) → AJ Z h' a (vs.set i v) → W h' k n pc' Ls rest) : W h k n pc Ls (.long v :: .int j :: .ref a :: rest) := by
  obtain ⟨p, e, s, m, args, below, meth, c, ⟨hx, hby, hml, hown, hZ, hre, hlk, hnm⟩, rfl⟩ := C
  subst hp
  intro T locs k' n' q1 q2 X eT N
  have F0 := F
  obtain ⟨cl, A, es, hl⟩ := F
  have hjn : j.toNatClampNeg = i := by show j.toInt.toNat = i; omega
  have hin : ¬ (j < 0 ∨ cl.slots.size ≤ j.toNatClampNeg) := by
    rw [Int32.lt_iff_toInt_lt, es, hjn]
    simp only [List.size_toArray, List.length_map]
    show ¬ (j.toInt < 0 ∨ _); omega
  obtain ⟨T', h', X', e', W', st'⟩ := stJ X hx hZ eT A (j := j) hin (g := mkF m pc Ls (.long v :: .int j :: .ref a :: rest)) rfl rfl (hb hby hd)
  rw [hjn] at W'
  obtain ⟨s2, o, st2, r⟩ := q h' W' (F0.set W') T' _ k' n' q1 q2 X' e' (Fr.snoc X' N hg)
  exact ⟨s2, o, st' _ st2, r⟩
theorem Ru.lenAJ (C : Ru l Z own code maxL ret nm R n0 G W) {a : Addr} {vs : List Int64} {z : Int32} (F : AJ Z h a vs) (hz : z.toInt = (vs.length : Int)) (hd : decode code pc = .ok (.arraylength, 1)) (hp : pc + 1 = pc') (q : W h k n pc' Ls (.int z :: rest)) : W h k n pc Ls (.ref a :: rest) := by
  obtain ⟨p, e, s, m, args, below, meth, c, ⟨hx, hby, hml, hown, hZ, hre, hlk, hnm⟩, rfl⟩ := C
  subst hp
  intro T locs k' n' q1 q2 X eT N
  obtain ⟨cl, A, es, hl⟩ := F
  have e1 : cl.slots.size.toInt32 = z := by
    apply Int32.toInt_inj.mp
    rw [es, hz]
    simp only [List.size_toArray, List.length_map]
    exact len_toInt hl
  obtain ⟨s2, o, st2, r⟩ := q T locs k' n' q1 q2 X eT N
  exact ⟨s2, o, X.arraylength hx (by rw [eT]; exact A.1) (State.isArrayOf_alike hZ.alike A.2.1) (g := mkF m pc Ls (.ref a :: rest)) rfl rfl (hb hby hd) _ (by rw [e1]; exact st2), r⟩
theorem AB.lt {Z : State} {h : Heap} {a : Addr} {z : Nat} (F : AB Z h a z) : a < h.size := by obtain ⟨c, A, -⟩ := F; exact A.lt
theorem AB.ext {Z : State} {h h' : Heap} {a : Addr} {z : Nat} (F : AB Z h a z) (E : Ext h h') : AB Z h' a z := by obtain ⟨c, A, r⟩ := F; exact ⟨c, A.ext E, r⟩
theorem AB.other {Z : State} {h h' : Heap} {a b : Addr} {sl : Nat} {v : Value} {z : Nat} (F : AB Z h b z) (W : Wr h h' a sl v) (q : b ≠ a) : AB Z h' b z := by obtain ⟨c, A, r⟩ := F; exact ⟨c, A.other W q, r⟩
theorem AB.keep {Z : State} {h h' : Heap} {a : Addr} {ws : List Addr} {z : Nat} (F : AB Z h a z) (K : Keep h h' ws) (q : a ∉ ws) : AB Z h' a z := by obtain ⟨c, A, r⟩ := F; exact ⟨c, ⟨K.2.1 a c A.1 q, A.2⟩, r⟩
theorem Ru.newAB (C : Ru l Z own code maxL ret nm R n0 G W) {a0 : Array Value} {z : Int32} {N cap : Nat} (w : (Cond.arrayClass .byte).before a0 Z = true) (hd : decode code pc = .ok (.newarray .byte, 2)) (hp : pc + 2 = pc') (hz : z.toInt = (N : Int)) (hcap : N ≤ cap) (hb8 : cap * 8 ≤ 536870912) (hk : k + 1 ≤ R.cells) (hn : n + cap ≤ R.slots)
    (q : ∀ h' b, b = h.size → Ext h h' → AB Z h' b N → W h' (k + 1) (n + cap) pc' Ls (.ref b :: rest)) : W h k n pc Ls (.int z :: rest) := by
  obtain ⟨p, e, s, m, args, below, meth, c, ⟨hx, hby, hml, hown, hZ, hre, hlk, hnm⟩, rfl⟩ := C
  subst hp
  intro T locs k' n' q1 q2 X eT Nf
  have hnn : ¬ z < 0 := by rw [Int32.lt_iff_toInt_lt]; show ¬ z.toInt < 0; omega
  have hzn : z.toNatClampNeg = N := by show z.toInt.toNat = N; omega
  have hlt : N < 2 ^ 31 := by have := (rng32 z).2; omega
  obtain ⟨T', h', cA, X', e', E', A', st'⟩ := newP X hx hZ (aty := .byte) w eT (g := mkF m pc Ls (.int z :: rest)) rfl (hb hby hd) rfl hnn (cap := cap) (by omega) hb8 (by omega) (by omega)
  have F : AB Z h' h.size N := ⟨_, A', by rw [sz_new]; exact hzn, hlt⟩
  obtain ⟨s2, o, st2, r⟩ := q h' _ rfl E' F T' locs (k' + 1) (n' + cap) (by omega) (by omega) X' e' Nf
  exact ⟨s2, o, st' _ st2, r⟩
theorem Ru.stAB (C : Ru l Z own code maxL ret nm R n0 G W) {a : Addr} {j : Int32} {i : Nat} {v : Int32} {z : Nat} (F : AB Z h a z) (hj : j.toInt = (i : Int)) (hlt : i < z) (hg : n0 ≤ a) (hd : decode code pc = .ok (.bastore, 1)) (hp : pc + 1 = pc') (q : ∀ h', Wr h h' a i (.int (nar .byte v)) → AB Z h' a z → W h' k n pc' Ls rest) : W h k n pc Ls (.int v :: .int j :: .ref a :: rest) := by
  obtain ⟨p, e, s, m, args, below, meth, c, ⟨hx, hby, hml, hown, hZ, hre, hlk, hnm⟩, rfl⟩ := C
  subst hp
  intro T locs k' n' q1 q2 X eT N
  obtain ⟨cl, A, es, hl⟩ := F
  have hjn : j.toNatClampNeg = i := by show j.toInt.toNat = i; omega
  have hin : ¬ (j < 0 ∨ cl.slots.size ≤ j.toNatClampNeg) := by
    rw [Int32.lt_iff_toInt_lt, es, hjn]
    show ¬ (j.toInt < 0 ∨ _); omega
  obtain ⟨T', h', X', e', W', st'⟩ := stB X hx hZ eT A (j := j) hin (g := mkF m pc Ls (.int v :: .int j :: .ref a :: rest)) rfl rfl (hb hby hd)
  rw [hjn] at W'
  obtain ⟨s2, o, st2, r⟩ := q h' W' ⟨_, A.same W', by rw [sz_set]; exact es, hl⟩ T' _ k' n' q1 q2 X' e' (Fr.snoc X' N hg)
  exact ⟨s2, o, st' _ st2, r⟩
theorem Ru.lenAB (C : Ru l Z own code maxL ret nm R n0 G W) {a : Addr} {N : Nat} {z : Int32} (F : AB Z h a N) (hz : z.toInt = (N : Int)) (hd : decode code pc = .ok (.arraylength, 1)) (hp : pc + 1 = pc') (q : W h k n pc' Ls (.int z :: rest)) : W h k n pc Ls (.ref a :: rest) := by
  obtain ⟨p, e, s, m, args, below, meth, c, ⟨hx, hby, hml, hown, hZ, hre, hlk, hnm⟩, rfl⟩ := C
  subst hp
  intro T locs k' n' q1 q2 X eT Nf
  obtain ⟨cl, A, es, hl⟩ := F
  have e1 : cl.slots.size.toInt32 = z := by
    apply Int32.toInt_inj.mp
    rw [es, hz]
    exact len_toInt hl
  obtain ⟨s2, o, st2, r⟩ := q T locs k' n' q1 q2 X eT Nf
  exact ⟨s2, o, X.arraylength hx (by rw [eT]; exact A.1) (State.isArrayOf_alike hZ.alike A.2.1) (g := mkF m pc Ls (.ref a :: rest)) rfl rfl (hb hby hd) _ (by rw [e1]; exact st2), r⟩
/-! calls -/
/-- what a stack weighs -/
def wt (st : List Value) : Nat := (st.map fun v => v.category).sum
/-- Object.<init> -/
theorem Ru.initObj (C : Ru l Z own code maxL ret nm R n0 G W) {a0 : Array Value} {i w : Nat} {a : Addr} (w1 : (Cond.methodLink own i Lib.objectInit).before a0 Z = true) (w2 : (Cond.instanceMethod Lib.objectInit).before a0 Z = true) (w3 : (Cond.code Lib.objectInit ⟨#[0xb1]⟩ 1 none).before a0 Z = true)
    (hd : decode code pc = .ok (.invokespecial i, 3)) (hp : pc + 3 = pc') (hs : Ls.size = maxL) (hf : 1 ≤ R.frames) (hw : wt rest ≤ w) (hl : w + 12 ≤ R.locals) (q : W h k n pc' Ls rest) : W h k n pc Ls (.ref a :: rest) := by
  obtain ⟨p, e, s, m, args, below, meth, c, ⟨hx, hby, hml, hown, hZ, hre, hlk, hnm⟩, rfl⟩ := C
  subst hp
  intro T locs k' n' q1 q2 X eT N
  obtain ⟨T', X', e', st'⟩ := initO X hx hZ hown w1 w2 w3 eT (g := mkF m pc Ls (.ref a :: rest)) rfl (by rw [hml]; exact hs) rfl (hb hby hd) hf (W := w) (by show 2 * 0 + _ ≤ _; simpa [wt] using hw) hl
  obtain ⟨s2, o, st2, r⟩ := q T' locs k' n' q1 q2 X' e' N
  exact ⟨s2, o, st' _ st2, r⟩
theorem Ru.calls (C : Ru l Z own code maxL ret nm R n0 G W) {a0 : Array Value} {i w : Nat} {y : MethodName} {bytes : ByteArray} {mx : Nat} {rt : Option FieldType} {rm : Room} {GC : Option Value → Heap → Prop} {argsL : List Value} {ps : List FieldType} {rt' : Option FieldType}
    (M : MeetsW l Z n0 y bytes mx rt rm argsL.toArray h GC) (w1 : (Cond.methodLink own i y).before a0 Z = true) (w2 : (Cond.static y).before a0 Z = true) (w3 : (Cond.initialized y.cls).before a0 Z = true) (w4 : (Cond.code y bytes mx rt).before a0 Z = true)
    (hd : decode code pc = .ok (.invokestatic i, 3)) (hp : pc + 3 = pc') (hs : Ls.size = maxL) (hst : st = argsL.reverse ++ rest) (hy : y.cls ≠ "java/lang/invoke/MethodHandle" ∧ y.cls ≠ "java/lang/invoke/VarHandle")
    (hdesc : parseMethodDescriptor y.desc = some ⟨ps, rt'⟩) (hlen : argsL.length = ps.length) (hf : rm.frames + 1 ≤ R.frames) (hw : wt rest ≤ w) (hl : w + (mx + 11) + rm.locals ≤ R.locals) (hk : k + rm.cells ≤ R.cells) (hn : n + rm.slots ≤ R.slots)
    (q : ∀ v h', GC v h' → W h' (k + rm.cells) (n + rm.slots) pc' Ls (v.toList ++ rest)) : W h k n pc Ls st := by
  obtain ⟨p, e, s, m, args, below, meth, c, ⟨hx, hby, hml, hown, hZ, hre, hlk, hnm⟩, rfl⟩ := C
  subst hp hst
  intro T locs k' n' q1 q2 X eT N
  obtain ⟨v, _, ⟨T', L', k2, n2⟩, -, X', ⟨Lc, ⟨N', hQ⟩, hl', hk', hn'⟩, st'⟩ := Jvm.LawKit.callS X hx (y := y) hown (mvT hZ w1) (mvT hZ w2) (mvT hZ w3) (mvT hZ w4) hy (backOf (W := w) (Q := fun v h L => Fr n0 L ∧ GC v h) (M []) hZ w4 w3 hf hl) (g := mkF m pc Ls (argsL.reverse ++ rest)) rfl (by rw [hml]; exact hs) (argsL := argsL) (rest := rest) (lenOf hdesc hlen) rfl (by show 2 * 0 + _ ≤ _; simpa [wt] using hw) (hb hby hd) (fun _ _ => ⟨rfl, eT, (by show k' + rm.cells ≤ _; omega), (by show n' + rm.slots ≤ _; omega)⟩)
  dsimp only [Pt.U, Pt.locs, Pt.cells, Pt.slots] at X' hl' hk' hn' st' hQ
  subst hl' hk' hn'
  obtain ⟨s2, o, st2, r⟩ := q v T'.heap hQ T' _ _ _ (by omega) (by omega) X' rfl (Fr.app N N')
  exact ⟨s2, o, st' _ st2, r⟩
theorem Ru.callc (C : Ru l Z own code maxL ret nm R n0 G W) {a0 : Array Value} {i w : Nat} {y : MethodName} {bytes : ByteArray} {mx : Nat} {rm : Room} {GC : Option Value → Heap → Prop} {a : Addr} {argsL : List Value} {ps : List FieldType} {rt' : Option FieldType}
    (M : MeetsW l Z n0 y bytes mx none rm (.ref a :: argsL).toArray h GC) (hy1 : y.name = "<init>") (w1 : (Cond.methodLink own i y).before a0 Z = true) (w2 : (Cond.instanceMethod y).before a0 Z = true) (w3 : (Cond.initialized y.cls).before a0 Z = true) (w4 : (Cond.code y bytes mx none).before a0 Z = true)
    (hd : decode code pc = .ok (.invokespecial i, 3)) (hp : pc + 3 = pc') (hs : Ls.size = maxL) (hst : st = argsL.reverse ++ .ref a :: rest) (hy : y.cls ≠ "java/lang/invoke/MethodHandle" ∧ y.cls ≠ "java/lang/invoke/VarHandle")
    (hdesc : parseMethodDescriptor y.desc = some ⟨ps, rt'⟩) (hlen : argsL.length = ps.length) (hf : rm.frames + 1 ≤ R.frames) (hw : wt rest ≤ w) (hl : w + (mx + 11) + rm.locals ≤ R.locals) (hk : k + rm.cells ≤ R.cells) (hn : n + rm.slots ≤ R.slots)
    (q : ∀ v h', GC v h' → W h' (k + rm.cells) (n + rm.slots) pc' Ls (v.toList ++ rest)) : W h k n pc Ls st := by
  obtain ⟨p, e, s, m, args, below, meth, c, ⟨hx, hby, hml, hown, hZ, hre, hlk, hnm⟩, rfl⟩ := C
  subst hp hst
  intro T locs k' n' q1 q2 X eT N
  obtain ⟨v, _, ⟨T', L', k2, n2⟩, -, X', ⟨Lc, ⟨N', hQ⟩, hl', hk', hn'⟩, st'⟩ := X.specialBack hx (y := y) hy1 hown (mvT hZ w1) (mvT hZ w2) (mvT hZ w4) hy (backOf (W := w) (Q := fun v h L => Fr n0 L ∧ GC v h) (M []) hZ w4 w3 hf hl) (g := mkF m pc Ls (argsL.reverse ++ .ref a :: rest)) rfl (by rw [hml]; exact hs) (Steps.refl _) (a := a) (argsL := argsL) (rest := rest) (lenOf hdesc hlen) rfl (by show 2 * 0 + _ ≤ _; simpa [wt] using hw) (hb hby hd) (fun _ _ => ⟨rfl, eT, (by show k' + rm.cells ≤ _; omega), (by show n' + rm.slots ≤ _; omega)⟩)
  dsimp only [Pt.U, Pt.locs, Pt.cells, Pt.slots] at X' hl' hk' hn' st' hQ
  subst hl' hk' hn'
  obtain ⟨s2, o, st2, r⟩ := q v T'.heap hQ T' _ _ _ (by omega) (by omega) X' rfl (Fr.app N N')
  exact ⟨s2, o, st'.trans st2, r⟩
theorem Ru.callv (C : Ru l Z own code maxL ret nm R n0 G W) {a0 : Array Value} {i w : Nat} {y : MethodName} {bytes : ByteArray} {mx : Nat} {rt : Option FieldType} {rm : Room} {GC : Option Value → Heap → Prop} {a : Addr} {argsL : List Value} {ps : List FieldType} {rt' : Option FieldType} {D : String}
    (M : MeetsW l Z n0 y bytes mx rt rm (.ref a :: argsL).toArray h GC) (E : Exa Z h a D) (w1 : (Cond.methodLink own i y).before a0 Z = true) (w2 : (Cond.declares y).before a0 Z = true) (w5 : (Cond.selects D y y).before a0 Z = true) (w6 : (Cond.instanceMethod y).before a0 Z = true) (w3 : (Cond.initialized y.cls).before a0 Z = true) (w4 : (Cond.code y bytes mx rt).before a0 Z = true)
    (hd : decode code pc = .ok (.invokevirtual i, 3)) (hp : pc + 3 = pc') (hs : Ls.size = maxL) (hst : st = argsL.reverse ++ .ref a :: rest) (hy : y.cls ≠ "java/lang/invoke/MethodHandle" ∧ y.cls ≠ "java/lang/invoke/VarHandle")
    (hdesc : parseMethodDescriptor y.desc = some ⟨ps, rt'⟩) (hlen : argsL.length = ps.length) (hf : rm.frames + 1 ≤ R.frames) (hw : wt rest ≤ w) (hl : w + (mx + 11) + rm.locals ≤ R.locals) (hk : k + rm.cells ≤ R.cells) (hn : n + rm.slots ≤ R.slots)
    (q : ∀ v h', GC v h' → W h' (k + rm.cells) (n + rm.slots) pc' Ls (v.toList ++ rest)) : W h k n pc Ls st := by
  obtain ⟨p, e, s, m, args, below, meth, c, ⟨hx, hby, hml, hown, hZ, hre, hlk, hnm⟩, rfl⟩ := C
  subst hp hst
  intro T locs k' n' q1 q2 X eT N
  obtain ⟨cq, kq, qa, qb, qc⟩ := isOf hZ eT E
  obtain ⟨v, _, ⟨T', L', k2, n2⟩, -, X', ⟨Lc, ⟨N', hQ⟩, hl', hk', hn'⟩, st'⟩ := X.virtualBack hx (y := y) (z := y) hown (mvT hZ w1) (mvT hZ w2) (notFace_of_selects (args := #[]) (mvT hZ w5)) (mvT hZ w5) (mvT hZ w6) hy (backOf (W := w) (Q := fun v h L => Fr n0 L ∧ GC v h) (M []) hZ w4 w3 hf hl) qa qc (g := mkF m pc Ls (argsL.reverse ++ .ref a :: rest)) rfl (by rw [hml]; exact hs) (Steps.refl _) (argsL := argsL) (rest := rest) (lenOf hdesc hlen) rfl (by show 2 * 0 + _ ≤ _; simpa [wt] using hw) (hb hby hd) (fun _ _ => ⟨rfl, eT, (by show k' + rm.cells ≤ _; omega), (by show n' + rm.slots ≤ _; omega)⟩)
  dsimp only [Pt.U, Pt.locs, Pt.cells, Pt.slots] at X' hl' hk' hn' st' hQ
  subst hl' hk' hn'
  obtain ⟨s2, o, st2, r⟩ := q v T'.heap hQ T' _ _ _ (by omega) (by omega) X' rfl (Fr.app N N')
  exact ⟨s2, o, st'.trans st2, r⟩
theorem Ru.callp (C : Ru l Z own code maxL ret nm R n0 G W) {a0 : Array Value} {i w : Nat} {y : MethodName} {bytes : ByteArray} {mx : Nat} {rt : Option FieldType} {rm : Room} {GC : Option Value → Heap → Prop} {a : Addr} {argsL : List Value} {ps : List FieldType} {rt' : Option FieldType} {D : String}
    (M : MeetsW l Z n0 y bytes mx rt rm (.ref a :: argsL).toArray h GC) (E : Exa Z h a D) (w1 : (Cond.methodLink own i y).before a0 Z = true) (w6 : (Cond.instanceMethod y).before a0 Z = true) (w5 : (Cond.selects y.cls y y).before a0 Z = true) (w7 : (Cond.privateMethod y).before a0 Z = true) (w3 : (Cond.initialized y.cls).before a0 Z = true) (w4 : (Cond.code y bytes mx rt).before a0 Z = true)
    (hd : decode code pc = .ok (.invokevirtual i, 3)) (hp : pc + 3 = pc') (hs : Ls.size = maxL) (hst : st = argsL.reverse ++ .ref a :: rest) (hy : y.cls ≠ "java/lang/invoke/MethodHandle" ∧ y.cls ≠ "java/lang/invoke/VarHandle")
    (hdesc : parseMethodDescriptor y.desc = some ⟨ps, rt'⟩) (hlen : argsL.length = ps.length) (hf : rm.frames + 1 ≤ R.frames) (hw : wt rest ≤ w) (hl : w + (mx + 11) + rm.locals ≤ R.locals) (hk : k + rm.cells ≤ R.cells) (hn : n + rm.slots ≤ R.slots)
    (q : ∀ v h', GC v h' → W h' (k + rm.cells) (n + rm.slots) pc' Ls (v.toList ++ rest)) : W h k n pc Ls st := by
  obtain ⟨p, e, s, m, args, below, meth, c, ⟨hx, hby, hml, hown, hZ, hre, hlk, hnm⟩, rfl⟩ := C
  subst hp hst
  intro T locs k' n' q1 q2 X eT N
  obtain ⟨cq, qa, qb⟩ := E.cell
  obtain ⟨v, _, ⟨T', L', k2, n2⟩, -, X', ⟨Lc, ⟨N', hQ⟩, hl', hk', hn'⟩, st'⟩ := X.privateBack hx (y := y) hown (mvT hZ w1) (mvT hZ w6) (mvT hZ w5) (Cond.privateMethod_at (mvP hZ w7 (args := #[]))) (mvT hZ w4) hy (backOf (W := w) (Q := fun v h L => Fr n0 L ∧ GC v h) (M []) hZ w4 w3 hf hl) (g := mkF m pc Ls (argsL.reverse ++ .ref a :: rest)) rfl (by rw [hml]; exact hs) (Steps.refl _) (a := a) (by rw [eT]; exact qa) qb (argsL := argsL) (rest := rest) (lenOf hdesc hlen) rfl (by show 2 * 0 + _ ≤ _; simpa [wt] using hw) (hb hby hd) (fun _ _ => ⟨rfl, eT, (by show k' + rm.cells ≤ _; omega), (by show n' + rm.slots ≤ _; omega)⟩)
  dsimp only [Pt.U, Pt.locs, Pt.cells, Pt.slots] at X' hl' hk' hn' st' hQ
  subst hl' hk' hn'
  obtain ⟨s2, o, st2, r⟩ := q v T'.heap hQ T' _ _ _ (by omega) (by omega) X' rfl (Fr.app N N')
  exact ⟨s2, o, st'.trans st2, r⟩
theorem Ru.castY (C : Ru l Z own code maxL ret nm R n0 G W) {a0 : Array Value} {D : String} {i : Nat} {a : Addr} (w : (Cond.classLink own i D).before a0 Z = true) (F : Ins Z h a D true) (hd : decode code pc = .ok (.checkcast i, 3)) (hp : pc + 3 = pc') (q : W h k n pc' Ls (.ref a :: rest)) : W h k n pc Ls (.ref a :: rest) := by
  obtain ⟨p, e, s, m, args, below, meth, c, ⟨hx, hby, hml, hown, hZ, hre, hlk, hnm⟩, rfl⟩ := C
  subst hp
  intro T locs k' n' q1 q2 X eT N
  obtain ⟨T', X', e', st'⟩ := castY X hx hZ hown w eT F (g := mkF m pc Ls (.ref a :: rest)) rfl rfl (hb hby hd)
  obtain ⟨s2, o, st2, r⟩ := q T' locs k' n' q1 q2 X' e' N
  exact ⟨s2, o, st' _ st2, r⟩
theorem Ru.newAIE (C : Ru l Z own code maxL ret nm R n0 G W) {a0 : Array Value} {z : Int32} {N cap : Nat} (w : (Cond.arrayClass .int).before a0 Z = true) (hd : decode code pc = .ok (.newarray .int, 2)) (hp : pc + 2 = pc') (hz : z.toInt = (N : Int)) (hcap : N ≤ cap) (hb8 : cap * 8 ≤ 536870912) (hk : k + 1 ≤ R.cells) (hn : n + cap ≤ R.slots)
    (q : ∀ h' b, b = h.size → Ext h h' → AI Z h' b (List.replicate N 0) → Exa Z h' b "[I" → W h' (k + 1) (n + cap) pc' Ls (.ref b :: rest)) : W h k n pc Ls (.int z :: rest) := by
  obtain ⟨p, e, s, m, args, below, meth, c, ⟨hx, hby, hml, hown, hZ, hre, hlk, hnm⟩, rfl⟩ := C
  subst hp
  intro T locs k' n' q1 q2 X eT Nf
  have hnn : ¬ z < 0 := by rw [Int32.lt_iff_toInt_lt]; show ¬ z.toInt < 0; omega
  have hzn : z.toNatClampNeg = N := by show z.toInt.toNat = N; omega
  have hlt : N < 2 ^ 31 := by have := (rng32 z).2; omega
  obtain ⟨T', h', cA, X', e', E', A', B', st'⟩ := newPE X hx hZ (aty := .int) w eT (g := mkF m pc Ls (.int z :: rest)) rfl (hb hby hd) rfl hnn (cap := cap) (by omega) hb8 (by omega) (by omega) (ad := "[I") (by decide)
  have F : AI Z h' h.size (List.replicate N 0) := by
    refine ⟨_, A', ?_, by rw [List.length_replicate]; exact hlt⟩
    simp only [newA, hzn]
    apply Array.ext'
    simp [defaultValue, newarray.typeOf]
  obtain ⟨s2, o, st2, r⟩ := q h' _ rfl E' F B' T' locs (k' + 1) (n' + cap) (by omega) (by omega) X' e' Nf
  exact ⟨s2, o, st' _ st2, r⟩
theorem Ru.cloneAI (C : Ru l Z own code maxL ret nm R n0 G W) {a0 : Array Value} {i w cap : Nat} {a : Addr} {vs : List Int32}
    (w1 : (Cond.methodLink own i ⟨"[I", "clone", "()Ljava/lang/Object;"⟩).before a0 Z = true) (w2 : (Cond.sameMethod "[I" "java/lang/Object" "clone" "()Ljava/lang/Object;").before a0 Z = true) (w3 : (Cond.native ⟨"java/lang/Object", "clone", "()Ljava/lang/Object;"⟩).before a0 Z = true)
    (w4 : (Cond.instanceMethod ⟨"java/lang/Object", "clone", "()Ljava/lang/Object;"⟩).before a0 Z = true) (w5 : (Cond.selects "[I" ⟨"[I", "clone", "()Ljava/lang/Object;"⟩ ⟨"java/lang/Object", "clone", "()Ljava/lang/Object;"⟩).before a0 Z = true) (w6 : (Cond.castable "[I" "java/lang/Cloneable").before a0 Z = true)
    (F : AI Z h a vs) (E : Exa Z h a "[I") (hd : decode code pc = .ok (.invokevirtual i, 3)) (hp : pc + 3 = pc') (hs : Ls.size = maxL) (hf : 1 ≤ R.frames) (hw : wt rest ≤ w) (hl : w + 14 ≤ R.locals) (hcap : vs.length ≤ cap) (hk : k + 1 ≤ R.cells) (hn : n + cap ≤ R.slots)
    (q : ∀ h' b, b = h.size → Ext h h' → AI Z h' b vs → Exa Z h' b "[I" → W h' (k + 1) (n + cap) pc' Ls (.ref b :: rest)) : W h k n pc Ls (.ref a :: rest) := by
  obtain ⟨p, e, s, m, args, below, meth, c, ⟨hx, hby, hml, hown, hZ, hre, hlk, hnm⟩, rfl⟩ := C
  subst hp
  intro T locs k' n' q1 q2 X eT Nf
  obtain ⟨cl, A, es, hlen⟩ := F
  have hsz : cl.slots.size = vs.length := by rw [es]; simp
  have FC : FitC Z cl := fitC_of A fun j hj v hv => by
    rw [es] at hv
    simp only [List.getElem?_toArray, List.getElem?_map, Option.map_eq_some_iff] at hv
    obtain ⟨y, -, rfl⟩ := hv
    rfl
  obtain ⟨T', h', X', e', E', A', B', st'⟩ := cloneA X hx hZ hown w1 w2 w3 w4 w5 w6 eT A E FC (g := mkF m pc Ls (.ref a :: rest)) rfl (by rw [hml]; exact hs) rfl (hb hby hd) hf (W := w) (cap := cap) (by show 2 * 0 + _ ≤ _; simpa [wt] using hw) hl (by omega) (by omega) (by omega)
  obtain ⟨s2, o, st2, r⟩ := q h' _ rfl E' ⟨_, A', es, hlen⟩ B' T' locs (k' + 1) (n' + cap) (by omega) (by omega) X' e' Nf
  exact ⟨s2, o, st' _ st2, r⟩
/-! returns -/
theorem Ru.retV (C : Ru l Z own code maxL ret nm R n0 G W) (hr : ret = none) (hd : decode code pc = .ok (.return_, 1)) (hk : k ≤ R.cells) (hn : n ≤ R.slots) (q : G none h) : W h k n pc Ls [] := by
  obtain ⟨p, e, s, m, args, below, meth, c, ⟨hx, hby, hml, hown, hZ, hre, hlk, hnm⟩, rfl⟩ := C
  intro T locs k' n' q1 q2 X eT N
  obtain ⟨fs, hrr, hrun, hended, hW, hsame⟩ := X.leave (v := none) (fun _ => rfl)
  exact ⟨_, _, X.returnOut hx (hre.trans hr) (hb hby hd) hrr, hrun, hended, _, _, rfl, ⟨N, by show G none T.heap; rw [eT]; exact q⟩, ⟨_, rfl⟩, hW, hsame.mono (by omega) (by omega)⟩
theorem Ru.retI (C : Ru l Z own code maxL ret nm R n0 G W) {z : Int32} (hr : ret = some .int) (hd : decode code pc = .ok (.ireturn, 1)) (hk : k ≤ R.cells) (hn : n ≤ R.slots) (q : G (some (.int z)) h) : W h k n pc Ls (.int z :: rest) := by
  obtain ⟨p, e, s, m, args, below, meth, c, ⟨hx, hby, hml, hown, hZ, hre, hlk, hnm⟩, rfl⟩ := C
  intro T locs k' n' q1 q2 X eT N
  obtain ⟨fs, hrr, hrun, hended, hW, hsame⟩ := X.leave (v := some (.int z)) (fun h => by rw [hre, hr] at h; cases h)
  exact ⟨_, _, retOut X hx (hre.trans hr) rfl (Or.inl ⟨rfl, Or.inl rfl, z, rfl⟩) (hb hby hd) hrr, hrun, hended, _, _, rfl, ⟨N, by show G _ T.heap; rw [eT]; exact q⟩, ⟨_, rfl⟩, hW, hsame.mono (by omega) (by omega)⟩
theorem Ru.retZ (C : Ru l Z own code maxL ret nm R n0 G W) {z : Int32} (hr : ret = some .boolean) (hz : z = 0 ∨ z = 1) (hd : decode code pc = .ok (.ireturn, 1)) (hk : k ≤ R.cells) (hn : n ≤ R.slots) (q : G (some (.int z)) h) : W h k n pc Ls (.int z :: rest) := by
  obtain ⟨p, e, s, m, args, below, meth, c, ⟨hx, hby, hml, hown, hZ, hre, hlk, hnm⟩, rfl⟩ := C
  intro T locs k' n' q1 q2 X eT N
  obtain ⟨fs, hrr, hrun, hended, hW, hsame⟩ := X.leave (v := some (.int z)) (fun h => by rw [hre, hr] at h; cases h)
  have hnr : narrow .boolean (.int z) = .int z := by rcases hz with rfl | rfl <;> decide
  exact ⟨_, _, retOut X hx (hre.trans hr) hnr (Or.inl ⟨rfl, Or.inr (Or.inl rfl), z, rfl⟩) (hb hby hd) hrr, hrun, hended, _, _, rfl, ⟨N, by show G _ T.heap; rw [eT]; exact q⟩, ⟨_, rfl⟩, hW, hsame.mono (by omega) (by omega)⟩
theorem Ru.retJ (C : Ru l Z own code maxL ret nm R n0 G W) {z : Int64} (hr : ret = some .long) (hd : decode code pc = .ok (.lreturn, 1)) (hk : k ≤ R.cells) (hn : n ≤ R.slots) (q : G (some (.long z)) h) : W h k n pc Ls (.long z :: rest) := by
  obtain ⟨p, e, s, m, args, below, meth, c, ⟨hx, hby, hml, hown, hZ, hre, hlk, hnm⟩, rfl⟩ := C
  intro T locs k' n' q1 q2 X eT N
  obtain ⟨fs, hrr, hrun, hended, hW, hsame⟩ := X.leave (v := some (.long z)) (fun h => by rw [hre, hr] at h; cases h)
  exact ⟨_, _, retOut X hx (hre.trans hr) rfl (Or.inr (Or.inl ⟨rfl, rfl, z, rfl⟩)) (hb hby hd) hrr, hrun, hended, _, _, rfl, ⟨N, by show G _ T.heap; rw [eT]; exact q⟩, ⟨_, rfl⟩, hW, hsame.mono (by omega) (by omega)⟩
theorem Ru.retA (C : Ru l Z own code maxL ret nm R n0 G W) {a : Addr} {t : FieldType} (hr : ret = some t) (ht : t.isReference = true) (hd : decode code pc = .ok (.areturn, 1)) (hk : k ≤ R.cells) (hn : n ≤ R.slots) (q : G (some (.ref a)) h) : W h k n pc Ls (.ref a :: rest) := by
  obtain ⟨p, e, s, m, args, below, meth, c, ⟨hx, hby, hml, hown, hZ, hre, hlk, hnm⟩, rfl⟩ := C
  intro T locs k' n' q1 q2 X eT N
  obtain ⟨fs, hrr, hrun, hended, hW, hsame⟩ := X.leave (v := some (.ref a)) (fun h => by rw [hre, hr] at h; cases h)
  have hnr : narrow t (.ref a) = .ref a := by cases t <;> first | rfl | cases ht
  exact ⟨_, _, retOut X hx (hre.trans hr) hnr (Or.inr (Or.inr (Or.inr (Or.inr ⟨rfl, ht, rfl⟩)))) (hb hby hd) hrr, hrun, hended, _, _, rfl, ⟨N, by show G _ T.heap; rw [eT]; exact q⟩, ⟨_, rfl⟩, hW, hsame.mono (by omega) (by omega)⟩
end Steps
/-! kinds of results -/
def RI (P : Int32 → Heap → Prop) : Option Value → Heap → Prop := fun v h => ∃ r, v = some (.int r) ∧ P r h
def RJ (P : Int64 → Heap → Prop) : Option Value → Heap → Prop := fun v h => ∃ r, v = some (.long r) ∧ P r h
def RA (P : Addr → Heap → Prop) : Option Value → Heap → Prop := fun v h => ∃ r, v = some (.ref r) ∧ P r h
def RV (P : Heap → Prop) : Option Value → Heap → Prop := fun v h => v = none ∧ P h
theorem kI {P : Int32 → Heap → Prop} {W : WT} {k n pc : Nat} {Ls : Array Slot} {rest : List Value} (q : ∀ r h, P r h → W h k n pc Ls (.int r :: rest)) : ∀ v h, RI P v h → W h k n pc Ls (v.toList ++ rest) := by
  rintro _ h ⟨r, rfl, p⟩; exact q r h p
theorem kJ {P : Int64 → Heap → Prop} {W : WT} {k n pc : Nat} {Ls : Array Slot} {rest : List Value} (q : ∀ r h, P r h → W h k n pc Ls (.long r :: rest)) : ∀ v h, RJ P v h → W h k n pc Ls (v.toList ++ rest) := by
  rintro _ h ⟨r, rfl, p⟩; exact q r h p
theorem kA {P : Addr → Heap → Prop} {W : WT} {k n pc : Nat} {Ls : Array Slot} {rest : List Value} (q : ∀ r h, P r h → W h k n pc Ls (.ref r :: rest)) : ∀ v h, RA P v h → W h k n pc Ls (v.toList ++ rest) := by
  rintro _ h ⟨r, rfl, p⟩; exact q r h p
theorem kV {P : Heap → Prop} {W : WT} {k n pc : Nat} {Ls : Array Slot} {rest : List Value} (q : ∀ h, P h → W h k n pc Ls rest) : ∀ v h, RV P v h → W h k n pc Ls (v.toList ++ rest) := by
  rintro _ h ⟨rfl, p⟩; exact q h p
/-- the same, for a callee that leaves the heap as it was and returns just this -/
theorem kI0 {P : Int32 → Prop} {h0 : Heap} {W : WT} {k n pc : Nat} {Ls : Array Slot} {rest : List Value} (q : ∀ r, P r → W h0 k n pc Ls (.int r :: rest)) : ∀ v h, RI (fun r h => P r ∧ h = h0) v h → W h k n pc Ls (v.toList ++ rest) := by
  rintro _ h ⟨r, rfl, p, rfl⟩; exact q r p
theorem kJ0 {P : Int64 → Prop} {h0 : Heap} {W : WT} {k n pc : Nat} {Ls : Array Slot} {rest : List Value} (q : ∀ r, P r → W h0 k n pc Ls (.long r :: rest)) : ∀ v h, RJ (fun r h => P r ∧ h = h0) v h → W h k n pc Ls (v.toList ++ rest) := by
  rintro _ h ⟨r, rfl, p, rfl⟩; exact q r p
theorem kIe {x : Int32} {h0 : Heap} {W : WT} {k n pc : Nat} {Ls : Array Slot} {rest : List Value} (q : W h0 k n pc Ls (.int x :: rest)) : ∀ v h, RI (fun r h => r = x ∧ h = h0) v h → W h k n pc Ls (v.toList ++ rest) := by
  rintro _ h ⟨r, rfl, rfl, rfl⟩; exact q
theorem kJe {x : Int64} {h0 : Heap} {W : WT} {k n pc : Nat} {Ls : Array Slot} {rest : List Value} (q : W h0 k n pc Ls (.long x :: rest)) : ∀ v h, RJ (fun r h => r = x ∧ h = h0) v h → W h k n pc Ls (v.toList ++ rest) := by
  rintro _ h ⟨r, rfl, rfl, rfl⟩; exact q
theorem exaLt {Z : State} {h : Heap} {a : Addr} {C : String} (F : Exa Z h a C) : a < h.size := by obtain ⟨c, _, h1, -⟩ := F; exact (Array.getElem?_eq_some_iff.mp h1).1
end Jvm.OwnW

namespace Jvm.Pilot.@@N@@
open Jvm Jvm.ClassFile Sem Op Lib Jvm.Free Jvm.Stand Jvm.LawKit Jvm.RoadKit Bundle Jvm.Pilot.@@N@@.Jvm.D Jvm.OwnW
end Jvm.Pilot.@@N@@
namespace Jvm.OwnP
open Jvm.RoadKit
theorem nn_toInt {j : Int32} (h : ¬ j < 0) : j.toInt = (j.toInt.toNat : Int) := by
  rw [Int32.lt_iff_toInt_lt] at h
  have : ¬ j.toInt < 0 := h
  omega
theorem getD_some {α : Type} {vs : List α} {i : Nat} {d : α} (h : i < vs.length) : vs[i]? = some (vs.getD i d) := by
  rw [List.getD_eq_getElem?_getD, List.getElem?_eq_getElem h]; rfl
theorem and3 (c : Int32) : c &&& 3 = 0 ∨ c &&& 3 = 1 ∨ c &&& 3 = 2 ∨ c &&& 3 = 3 := by
  have m := c_mask c 3 2 (by decide) (by decide)
  have h : (c &&& 3).toInt = 0 ∨ (c &&& 3).toInt = 1 ∨ (c &&& 3).toInt = 2 ∨ (c &&& 3).toInt = 3 := by omega
  rcases h with h | h | h | h
  · exact Or.inl (Int32.toInt_inj.mp h)
  · exact Or.inr (Or.inl (Int32.toInt_inj.mp h))
  · exact Or.inr (Or.inr (Or.inl (Int32.toInt_inj.mp h)))
  · exact Or.inr (Or.inr (Or.inr (Int32.toInt_inj.mp h)))
theorem fill_step {α : Type} {L M : List α} {i : Nat} (hl : L.length = M.length) (h : ∀ j, j < i → L[j]? = M[j]?) {v : α} (hv : M[i]? = some v) : (L.set i v).length = M.length ∧ ∀ j, j < i + 1 → (L.set i v)[j]? = M[j]? := by
  have hi : i < L.length := by rw [hl]; exact (List.getElem?_eq_some_iff.mp hv).1
  refine ⟨by rw [List.length_set]; exact hl, fun j hj => ?_⟩
  by_cases e : j = i
  · subst e; rw [List.getElem?_set_self hi, hv]
  · rw [List.getElem?_set_ne (Ne.symm e)]; exact h j (by omega)
theorem fill_done {α : Type} {L M : List α} {i : Nat} (hl : L.length = M.length) (h : ∀ j, j < i → L[j]? = M[j]?) (hi : M.length ≤ i) : L = M := by
  apply List.ext_getElem?
  intro j
  by_cases e : j < i
  · exact h j e
  · rw [List.getElem?_eq_none (by omega), List.getElem?_eq_none (by omega)]
theorem lt_iff {x y : Int32} {a b : Nat} (hx : x.toInt = (a : Int)) (hy : y.toInt = (b : Int)) : x < y ↔ a < b := by
  rw [Int32.lt_iff_toInt_lt, hx, hy]; omega
theorem inc_toInt {x v : Int32} {a : Nat} (hx : x.toInt = (a : Int)) (h : a < 2147483647) (e : v = x + 1) : v.toInt = ((a + 1 : Nat) : Int) := by
  have s := c_iadd x 1; have b := rng32 (x + 1); have o : (1 : Int32).toInt = 1 := by decide
  rw [e]; omega
theorem narZ {x : Int32} (h : x = 0 ∨ x = 1) : Jvm.narrow .boolean (.int x) = .int x ∧ Jvm.fits .boolean (.int x) = true := by
  rcases h with rfl | rfl <;> exact ⟨by decide, by decide⟩
theorem rem3 {c : Int32} (h : ¬ c < 0) : c % 3 = 0 ∨ c % 3 = 1 ∨ c % 3 = 2 := by
  rw [Int32.lt_iff_toInt_lt] at h
  have h0 : ¬ c.toInt < 0 := h
  have m := (c_irem c 3 3 (by decide)).1 (by omega)
  have h : (c % 3).toInt = 0 ∨ (c % 3).toInt = 1 ∨ (c % 3).toInt = 2 := by omega
  rcases h with h | h | h
  · exact Or.inl (Int32.toInt_inj.mp h)
  · exact Or.inr (Or.inl (Int32.toInt_inj.mp h))
  · exact Or.inr (Or.inr (Int32.toInt_inj.mp h))
end Jvm.OwnP
namespace Jvm.Pilot.@@N@@
open Jvm Jvm.ClassFile Sem Op Lib Jvm.Free Jvm.Stand Jvm.LawKit Jvm.RoadKit Bundle Jvm.Pilot.@@N@@.Jvm.D Jvm.OwnW

theorem own_i {v : Int32} (h : v = 0 ∨ v = 1 ∨ v = 2 ∨ v = 3) : v.toInt = (v.toInt.toNat : Int) ∧ v.toInt.toNat < 4 := by
  rcases h with rfl | rfl | rfl | rfl <;> decide
theorem own_m {p v : Int32} (e : v = p &&& 3) : v = 0 ∨ v = 1 ∨ v = 2 ∨ v = 3 := by rw [e]; exact Jvm.OwnP.and3 p
def swp (vs : List Int32) (i j : Nat) : List Int32 := (vs.set i (vs.getD j 0)).set j (vs.getD i 0)

theorem own_a0 {a b c d i j : Int32} (hi : i = 0 ∨ i = 1 ∨ i = 2 ∨ i = 3) (hj : j = 0 ∨ j = 1 ∨ j = 2 ∨ j = 3) : (swp [a, b, c, d] i.toInt.toNat j.toInt.toNat).getD 0 0 = (if (0 : Int32) = i then ([a, b, c, d] : List Int32).getD j.toInt.toNat 0 else if (0 : Int32) = j then ([a, b, c, d] : List Int32).getD i.toInt.toNat 0 else ([a, b, c, d] : List Int32).getD 0 0) := by
  rcases hi with rfl | rfl | rfl | rfl <;> rcases hj with rfl | rfl | rfl | rfl <;> rfl
theorem own_b0 {a b c d i j : Int32} (hi : i = 0 ∨ i = 1 ∨ i = 2 ∨ i = 3) (hj : j = 0 ∨ j = 1 ∨ j = 2 ∨ j = 3) : (swp (swp [a, b, c, d] i.toInt.toNat j.toInt.toNat) i.toInt.toNat j.toInt.toNat).getD 0 0 = a := by
  rcases hi with rfl | rfl | rfl | rfl <;> rcases hj with rfl | rfl | rfl | rfl <;> rfl

theorem own_a1 {a b c d i j : Int32} (hi : i = 0 ∨ i = 1 ∨ i = 2 ∨ i = 3) (hj : j = 0 ∨ j = 1 ∨ j = 2 ∨ j = 3) : (swp [a, b, c, d] i.toInt.toNat j.toInt.toNat).getD 1 0 = (if (1 : Int32) = i then ([a, b, c, d] : List Int32).getD j.toInt.toNat 0 else if (1 : Int32) = j then ([a, b, c, d] : List Int32).getD i.toInt.toNat 0 else ([a, b, c, d] : List Int32).getD 1 0) := by
  rcases hi with rfl | rfl | rfl | rfl <;> rcases hj with rfl | rfl | rfl | rfl <;> rfl
theorem own_b1 {a b c d i j : Int32} (hi : i = 0 ∨ i = 1 ∨ i = 2 ∨ i = 3) (hj : j = 0 ∨ j = 1 ∨ j = 2 ∨ j = 3) : (swp (swp [a, b, c, d] i.toInt.toNat j.toInt.toNat) i.toInt.toNat j.toInt.toNat).getD 1 0 = b := by
  rcases hi with rfl | rfl | rfl | rfl <;> rcases hj with rfl | rfl | rfl | rfl <;> rfl

theorem own_a2 {a b c d i j : Int32} (hi : i = 0 ∨ i = 1 ∨ i = 2 ∨ i = 3) (hj : j = 0 ∨ j = 1 ∨ j = 2 ∨ j = 3) : (swp [a, b, c, d] i.toInt.toNat j.toInt.toNat).getD 2 0 = (if (2 : Int32) = i then ([a, b, c, d] : List Int32).getD j.toInt.toNat 0 else if (2 : Int32) = j then ([a, b, c, d] : List Int32).getD i.toInt.toNat 0 else ([a, b, c, d] : List Int32).getD 2 0) := by
  rcases hi with rfl | rfl | rfl | rfl <;> rcases hj with rfl | rfl | rfl | rfl <;> rfl
theorem own_b2 {a b c d i j : Int32} (hi : i = 0 ∨ i = 1 ∨ i = 2 ∨ i = 3) (hj : j = 0 ∨ j = 1 ∨ j = 2 ∨ j = 3) : (swp (swp [a, b, c, d] i.toInt.toNat j.toInt.toNat) i.toInt.toNat j.toInt.toNat).getD 2 0 = c := by
  rcases hi with rfl | rfl | rfl | rfl <;> rcases hj with rfl | rfl | rfl | rfl <;> rfl

theorem own_a3 {a b c d i j : Int32} (hi : i = 0 ∨ i = 1 ∨ i = 2 ∨ i = 3) (hj : j = 0 ∨ j = 1 ∨ j = 2 ∨ j = 3) : (swp [a, b, c, d] i.toInt.toNat j.toInt.toNat).getD 3 0 = (if (3 : Int32) = i then ([a, b, c, d] : List Int32).getD j.toInt.toNat 0 else if (3 : Int32) = j then ([a, b, c, d] : List Int32).getD i.toInt.toNat 0 else ([a, b, c, d] : List Int32).getD 3 0) := by
  rcases hi with rfl | rfl | rfl | rfl <;> rcases hj with rfl | rfl | rfl | rfl <;> rfl
theorem own_b3 {a b c d i j : Int32} (hi : i = 0 ∨ i = 1 ∨ i = 2 ∨ i = 3) (hj : j = 0 ∨ j = 1 ∨ j = 2 ∨ j = 3) : (swp (swp [a, b, c, d] i.toInt.toNat j.toInt.toNat) i.toInt.toNat j.toInt.toNat).getD 3 0 = d := by
  rcases hi with rfl | rfl | rfl | rfl <;> rcases hj with rfl | rfl | rfl | rfl <;> rfl

theorem od2_0 : decode prog_4_method_2_code 0 = .ok (.aload_n 0, 1) := by decide +kernel
theorem od2_1 : decode prog_4_method_2_code 1 = .ok (.invokespecial 11, 3) := by decide +kernel
theorem ow11 {a0 : Array Value} {Z : State} (hw : ∀ d ∈ tables_1, d.before a0 Z = true) : (Jvm.Cond.methodLink "com/example/gapstride/gapstride/Counters" (11 : Nat) ({ cls := "java/lang/Object", name := "<init>", desc := "()V" } : Jvm.MethodName)).before a0 Z = true := hw _ (List.mem_of_getElem? (i := 11) rfl)
theorem ow12 {a0 : Array Value} {Z : State} (hw : ∀ d ∈ tables_1, d.before a0 Z = true) : (Jvm.Cond.instanceMethod ({ cls := "java/lang/Object", name := "<init>", desc := "()V" } : Jvm.MethodName)).before a0 Z = true := hw _ (List.mem_of_getElem? (i := 12) rfl)
theorem ow13 {a0 : Array Value} {Z : State} (hw : ∀ d ∈ tables_1, d.before a0 Z = true) : (Jvm.Cond.code ({ cls := "java/lang/Object", name := "<init>", desc := "()V" } : Jvm.MethodName) object_method_1_code (1 : Nat) (Option.none : Option Jvm.ClassFile.FieldType)).before a0 Z = true := hw _ (List.mem_of_getElem? (i := 13) rfl)
theorem od2_4 : decode prog_4_method_2_code 4 = .ok (.aload_n 0, 1) := by decide +kernel
theorem od2_5 : decode prog_4_method_2_code 5 = .ok (.aload_n 1, 1) := by decide +kernel
theorem ow15 {a0 : Array Value} {Z : State} (hw : ∀ d ∈ tables_1, d.before a0 Z = true) : (Jvm.Cond.lays "com/example/gapstride/gapstride/Counters" "com/example/gapstride/gapstride/Counters" "order" "Lcom/example/gapstride/gapstride/Counters$Order;").before a0 Z = true := hw _ (List.mem_of_getElem? (i := 15) rfl)
theorem ow14 {a0 : Array Value} {Z : State} (hw : ∀ d ∈ tables_1, d.before a0 Z = true) : (Jvm.Cond.fieldLink "com/example/gapstride/gapstride/Counters" (16 : Nat) "com/example/gapstride/gapstride/Counters" "order" "Lcom/example/gapstride/gapstride/Counters$Order;").before a0 Z = true := hw _ (List.mem_of_getElem? (i := 14) rfl)
theorem ow2 {a0 : Array Value} {Z : State} (hw : ∀ d ∈ tables_1, d.before a0 Z = true) : (Jvm.Cond.instantiable "com/example/gapstride/gapstride/Counters" (8 : Nat)).before a0 Z = true := hw _ (List.mem_of_getElem? (i := 2) rfl)
theorem pf_Lcom_example_gapstride_gapstride_Counters_Order_ : parseFieldDescriptor "Lcom/example/gapstride/gapstride/Counters$Order;" = some (.object "com/example/gapstride/gapstride/Counters$Order") := by decide
theorem od2_6 : decode prog_4_method_2_code 6 = .ok (.putfield 16, 3) := by decide +kernel
theorem ow17 {a0 : Array Value} {Z : State} (hw : ∀ d ∈ tables_1, d.before a0 Z = true) : (Jvm.Cond.laysFinal "com/example/gapstride/gapstride/Counters" "com/example/gapstride/gapstride/Counters" "counting" "Z").before a0 Z = true := hw _ (List.mem_of_getElem? (i := 17) rfl)
theorem pf_Z : parseFieldDescriptor "Z" = some .boolean := by decide
theorem sne_17_15 {a0 : Array Value} {Z : State} (hw : ∀ d ∈ tables_1, d.before a0 Z = true) : Jvm.RoadKit.slotOf Z "com/example/gapstride/gapstride/Counters" "counting" "Z" ≠ Jvm.RoadKit.slotOf Z "com/example/gapstride/gapstride/Counters" "order" "Lcom/example/gapstride/gapstride/Counters$Order;" := slot_ne (C := "com/example/gapstride/gapstride/Counters") (a0 := a0) (Or.inr (ow17 hw)) (Or.inl (ow15 hw)) (by decide) pf_Z pf_Lcom_example_gapstride_gapstride_Counters_Order_
theorem ow19 {a0 : Array Value} {Z : State} (hw : ∀ d ∈ tables_1, d.before a0 Z = true) : (Jvm.Cond.laysFinal "com/example/gapstride/gapstride/Counters" "com/example/gapstride/gapstride/Counters" "limit" "J").before a0 Z = true := hw _ (List.mem_of_getElem? (i := 19) rfl)
theorem pf_J : parseFieldDescriptor "J" = some .long := by decide
theorem sne_19_15 {a0 : Array Value} {Z : State} (hw : ∀ d ∈ tables_1, d.before a0 Z = true) : Jvm.RoadKit.slotOf Z "com/example/gapstride/gapstride/Counters" "limit" "J" ≠ Jvm.RoadKit.slotOf Z "com/example/gapstride/gapstride/Counters" "order" "Lcom/example/gapstride/gapstride/Counters$Order;" := slot_ne (C := "com/example/gapstride/gapstride/Counters") (a0 := a0) (Or.inr (ow19 hw)) (Or.inl (ow15 hw)) (by decide) pf_J pf_Lcom_example_gapstride_gapstride_Counters_Order_
theorem ow26 {a0 : Array Value} {Z : State} (hw : ∀ d ∈ tables_1, d.before a0 Z = true) : (Jvm.Cond.lays "com/example/gapstride/gapstride/Counters" "com/example/gapstride/gapstride/Counters" "swaps" "J").before a0 Z = true := hw _ (List.mem_of_getElem? (i := 26) rfl)
theorem sne_26_15 {a0 : Array Value} {Z : State} (hw : ∀ d ∈ tables_1, d.before a0 Z = true) : Jvm.RoadKit.slotOf Z "com/example/gapstride/gapstride/Counters" "swaps" "J" ≠ Jvm.RoadKit.slotOf Z "com/example/gapstride/gapstride/Counters" "order" "Lcom/example/gapstride/gapstride/Counters$Order;" := slot_ne (C := "com/example/gapstride/gapstride/Counters") (a0 := a0) (Or.inl (ow26 hw)) (Or.inl (ow15 hw)) (by decide) pf_J pf_Lcom_example_gapstride_gapstride_Counters_Order_
theorem ow28 {a0 : Array Value} {Z : State} (hw : ∀ d ∈ tables_1, d.before a0 Z = true) : (Jvm.Cond.lays "com/example/gapstride/gapstride/Counters" "com/example/gapstride/gapstride/Counters" "moves" "J").before a0 Z = true := hw _ (List.mem_of_getElem? (i := 28) rfl)
theorem sne_28_15 {a0 : Array Value} {Z : State} (hw : ∀ d ∈ tables_1, d.before a0 Z = true) : Jvm.RoadKit.slotOf Z "com/example/gapstride/gapstride/Counters" "moves" "J" ≠ Jvm.RoadKit.slotOf Z "com/example/gapstride/gapstride/Counters" "order" "Lcom/example/gapstride/gapstride/Counters$Order;" := slot_ne (C := "com/example/gapstride/gapstride/Counters") (a0 := a0) (Or.inl (ow28 hw)) (Or.inl (ow15 hw)) (by decide) pf_J pf_Lcom_example_gapstride_gapstride_Counters_Order_
theorem od2_9 : decode prog_4_method_2_code 9 = .ok (.aload_n 0, 1) := by decide +kernel
theorem od2_10 : decode prog_4_method_2_code 10 = .ok (.iload_n 2, 1) := by decide +kernel
theorem ow16 {a0 : Array Value} {Z : State} (hw : ∀ d ∈ tables_1, d.before a0 Z = true) : (Jvm.Cond.fieldLink "com/example/gapstride/gapstride/Counters" (20 : Nat) "com/example/gapstride/gapstride/Counters" "counting" "Z").before a0 Z = true := hw _ (List.mem_of_getElem? (i := 16) rfl)
theorem od2_11 : decode prog_4_method_2_code 11 = .ok (.putfield 20, 3) := by decide +kernel
theorem sne_19_17 {a0 : Array Value} {Z : State} (hw : ∀ d ∈ tables_1, d.before a0 Z = true) : Jvm.RoadKit.slotOf Z "com/example/gapstride/gapstride/Counters" "limit" "J" ≠ Jvm.RoadKit.slotOf Z "com/example/gapstride/gapstride/Counters" "counting" "Z" := slot_ne (C := "com/example/gapstride/gapstride/Counters") (a0 := a0) (Or.inr (ow19 hw)) (Or.inr (ow17 hw)) (by decide) pf_J pf_Z
theorem sne_26_17 {a0 : Array Value} {Z : State} (hw : ∀ d ∈ tables_1, d.before a0 Z = true) : Jvm.RoadKit.slotOf Z "com/example/gapstride/gapstride/Counters" "swaps" "J" ≠ Jvm.RoadKit.slotOf Z "com/example/gapstride/gapstride/Counters" "counting" "Z" := slot_ne (C := "com/example/gapstride/gapstride/Counters") (a0 := a0) (Or.inl (ow26 hw)) (Or.inr (ow17 hw)) (by decide) pf_J pf_Z
theorem sne_28_17 {a0 : Array Value} {Z : State} (hw : ∀ d ∈ tables_1, d.before a0 Z = true) : Jvm.RoadKit.slotOf Z "com/example/gapstride/gapstride/Counters" "moves" "J" ≠ Jvm.RoadKit.slotOf Z "com/example/gapstride/gapstride/Counters" "counting" "Z" := slot_ne (C := "com/example/gapstride/gapstride/Counters") (a0 := a0) (Or.inl (ow28 hw)) (Or.inr (ow17 hw)) (by decide) pf_J pf_Z
theorem sne_15_17 {a0 : Array Value} {Z : State} (hw : ∀ d ∈ tables_1, d.before a0 Z = true) : Jvm.RoadKit.slotOf Z "com/example/gapstride/gapstride/Counters" "order" "Lcom/example/gapstride/gapstride/Counters$Order;" ≠ Jvm.RoadKit.slotOf Z "com/example/gapstride/gapstride/Counters" "counting" "Z" := slot_ne (C := "com/example/gapstride/gapstride/Counters") (a0 := a0) (Or.inl (ow15 hw)) (Or.inr (ow17 hw)) (by decide) pf_Lcom_example_gapstride_gapstride_Counters_Order_ pf_Z
theorem od2_14 : decode prog_4_method_2_code 14 = .ok (.aload_n 0, 1) := by decide +kernel
theorem od2_15 : decode prog_4_method_2_code 15 = .ok (.lload_n 3, 1) := by decide +kernel
theorem ow18 {a0 : Array Value} {Z : State} (hw : ∀ d ∈ tables_1, d.before a0 Z = true) : (Jvm.Cond.fieldLink "com/example/gapstride/gapstride/Counters" (24 : Nat) "com/example/gapstride/gapstride/Counters" "limit" "J").before a0 Z = true := hw _ (List.mem_of_getElem? (i := 18) rfl)
theorem od2_16 : decode prog_4_method_2_code 16 = .ok (.putfield 24, 3) := by decide +kernel
theorem sne_26_19 {a0 : Array Value} {Z : State} (hw : ∀ d ∈ tables_1, d.before a0 Z = true) : Jvm.RoadKit.slotOf Z "com/example/gapstride/gapstride/Counters" "swaps" "J" ≠ Jvm.RoadKit.slotOf Z "com/example/gapstride/gapstride/Counters" "limit" "J" := slot_ne (C := "com/example/gapstride/gapstride/Counters") (a0 := a0) (Or.inl (ow26 hw)) (Or.inr (ow19 hw)) (by decide) pf_J pf_J
theorem sne_28_19 {a0 : Array Value} {Z : State} (hw : ∀ d ∈ tables_1, d.before a0 Z = true) : Jvm.RoadKit.slotOf Z "com/example/gapstride/gapstride/Counters" "moves" "J" ≠ Jvm.RoadKit.slotOf Z "com/example/gapstride/gapstride/Counters" "limit" "J" := slot_ne (C := "com/example/gapstride/gapstride/Counters") (a0 := a0) (Or.inl (ow28 hw)) (Or.inr (ow19 hw)) (by decide) pf_J pf_J
theorem sne_15_19 {a0 : Array Value} {Z : State} (hw : ∀ d ∈ tables_1, d.before a0 Z = true) : Jvm.RoadKit.slotOf Z "com/example/gapstride/gapstride/Counters" "order" "Lcom/example/gapstride/gapstride/Counters$Order;" ≠ Jvm.RoadKit.slotOf Z "com/example/gapstride/gapstride/Counters" "limit" "J" := slot_ne (C := "com/example/gapstride/gapstride/Counters") (a0 := a0) (Or.inl (ow15 hw)) (Or.inr (ow19 hw)) (by decide) pf_Lcom_example_gapstride_gapstride_Counters_Order_ pf_J
theorem sne_17_19 {a0 : Array Value} {Z : State} (hw : ∀ d ∈ tables_1, d.before a0 Z = true) : Jvm.RoadKit.slotOf Z "com/example/gapstride/gapstride/Counters" "counting" "Z" ≠ Jvm.RoadKit.slotOf Z "com/example/gapstride/gapstride/Counters" "limit" "J" := slot_ne (C := "com/example/gapstride/gapstride/Counters") (a0 := a0) (Or.inr (ow17 hw)) (Or.inr (ow19 hw)) (by decide) pf_Z pf_J
theorem od2_19 : decode prog_4_method_2_code 19 = .ok (.return_, 1) := by decide +kernel
theorem ef_own_rm2 (m : MethodId) (x0 : Addr) (x2 : Int32) (x3 : Int64) : entryFrame m #[(.ref x0), .null, (.int x2), (.long x3)] 5 = mkF m 0 #[.val (.ref x0), .val .null, .val (.int x2), .val (.long x3), .second] [] := by first | (simp [entryFrame, mkF, argsToLocals, Value.category]; done) | rfl
theorem pn_com_example_gapstride_gapstride_Counters__init___Lcom_example_gapstride_gapstride_Counters_Order_ZJ_V : plainFor (⟨"com/example/gapstride/gapstride/Counters", "<init>", "(Lcom/example/gapstride/gapstride/Counters$Order;ZJ)V"⟩ : MethodName) = true := plainFor_of_name (by first | (simp [plainName, overriddenIn]; done) | decide +kernel)
set_option maxRecDepth 65536 in
set_option maxHeartbeats 40000000 in
theorem own_rm2 (l : Launch) (Z : State) (a0 : Array Value) (hw : ∀ d ∈ tables_1, d.before a0 Z = true) (n0 : Nat) (hO : Heap) (a : Addr) (z : Int32) (x : Int64) (Z0 : n0 ≤ hO.size) (E_a : Exa Z hO a "com/example/gapstride/gapstride/Counters") (F_a_order : Fld Z hO a "com/example/gapstride/gapstride/Counters" "order" "Lcom/example/gapstride/gapstride/Counters$Order;" .null) (F_a_counting : Fld Z hO a "com/example/gapstride/gapstride/Counters" "counting" "Z" (.int (0 : Int32))) (F_a_limit : Fld Z hO a "com/example/gapstride/gapstride/Counters" "limit" "J" (.long (0 : Int64))) (F_a_swaps : Fld Z hO a "com/example/gapstride/gapstride/Counters" "swaps" "J" (.long (0 : Int64))) (F_a_moves : Fld Z hO a "com/example/gapstride/gapstride/Counters" "moves" "J" (.long (0 : Int64))) (g_a : n0 ≤ a) (hz : z = 0 ∨ z = 1) :
    MeetsW l Z n0 (⟨"com/example/gapstride/gapstride/Counters", "<init>", "(Lcom/example/gapstride/gapstride/Counters$Order;ZJ)V"⟩ : MethodName) prog_4_method_2_code 5 none ({ frames := 1, cells := 0, slots := 0, locals := 12 } : Room) #[(.ref a), .null, (.int z), (.long x)] hO (RV fun h => Keep hO h [a] ∧ Fld Z h a "com/example/gapstride/gapstride/Counters" "counting" "Z" (.int z) ∧ Fld Z h a "com/example/gapstride/gapstride/Counters" "swaps" "J" (.long (0 : Int64)) ∧ Fld Z h a "com/example/gapstride/gapstride/Counters" "moves" "J" (.long (0 : Int64))) := by
  refine MeetsW.intro pn_com_example_gapstride_gapstride_Counters__init___Lcom_example_gapstride_gapstride_Counters_Order_ZJ_V (fun m => ef_own_rm2 m a z x) ?_
  intro W C
  replace C : Ru l Z "com/example/gapstride/gapstride/Counters" prog_4_method_2_code 5 none "<init>" ({ frames := 1, cells := 0, slots := 0, locals := 12 } : Room) n0 (RV fun h => Keep hO h [a] ∧ Fld Z h a "com/example/gapstride/gapstride/Counters" "counting" "Z" (.int z) ∧ Fld Z h a "com/example/gapstride/gapstride/Counters" "swaps" "J" (.long (0 : Int64)) ∧ Fld Z h a "com/example/gapstride/gapstride/Counters" "moves" "J" (.long (0 : Int64))) W := C
  have K : Keep hO hO [a] := Keep.refl _ _
  refine C.aloadN (pc' := 1) od2_0 rfl rfl rfl ?_
  refine C.initObj (w := 0) (ow11 hw) (ow12 hw) (ow13 hw) (pc' := 4) od2_1 rfl rfl (by decide) (Nat.le_of_eq rfl) (by decide) ?_
  refine C.aloadN (pc' := 5) od2_4 rfl rfl rfl ?_
  refine C.aloadN (pc' := 6) od2_5 rfl rfl rfl ?_
  refine C.putf (ow14 hw) Via.refl F_a_order E_a (Or.inl (ow15 hw)) (ow2 hw) pf_Lcom_example_gapstride_gapstride_Counters_Order_ rfl rfl g_a (pc' := 9) od2_6 rfl (fun h6 X6 => ?_)
  replace F_a_order := F_a_order.same X6
  replace E_a := E_a.wr X6
  replace F_a_counting := F_a_counting.other X6 (Or.inr (sne_17_15 hw))
  replace F_a_limit := F_a_limit.other X6 (Or.inr (sne_19_15 hw))
  replace F_a_swaps := F_a_swaps.other X6 (Or.inr (sne_26_15 hw))
  replace F_a_moves := F_a_moves.other X6 (Or.inr (sne_28_15 hw))
  replace K := K.wr X6 (Or.inl (List.mem_of_getElem? (i := 0) rfl))
  refine C.aloadN (pc' := 10) od2_9 rfl rfl rfl ?_
  refine C.iloadN (pc' := 11) od2_10 rfl rfl ?_
  refine C.putf (ow16 hw) Via.refl F_a_counting E_a (Or.inr ⟨(ow17 hw), rfl, rfl⟩) (ow2 hw) pf_Z (Jvm.OwnP.narZ hz).1 (Jvm.OwnP.narZ hz).2 g_a (pc' := 14) od2_11 rfl (fun h11 X11 => ?_)
  replace F_a_counting := F_a_counting.same X11
  replace E_a := E_a.wr X11
  replace F_a_limit := F_a_limit.other X11 (Or.inr (sne_19_17 hw))
  replace F_a_swaps := F_a_swaps.other X11 (Or.inr (sne_26_17 hw))
  replace F_a_moves := F_a_moves.other X11 (Or.inr (sne_28_17 hw))
  replace F_a_order := F_a_order.other X11 (Or.inr (sne_15_17 hw))
  replace K := K.wr X11 (Or.inl (List.mem_of_getElem? (i := 0) rfl))
  refine C.aloadN (pc' := 15) od2_14 rfl rfl rfl ?_
  refine C.lloadN (pc' := 16) od2_15 rfl rfl ?_
  refine C.putf (ow18 hw) Via.refl F_a_limit E_a (Or.inr ⟨(ow19 hw), rfl, rfl⟩) (ow2 hw) pf_J rfl rfl g_a (pc' := 19) od2_16 rfl (fun h16 X16 => ?_)
  replace F_a_limit := F_a_limit.same X16
  replace E_a := E_a.wr X16
  replace F_a_swaps := F_a_swaps.other X16 (Or.inr (sne_26_19 hw))
  replace F_a_moves := F_a_moves.other X16 (Or.inr (sne_28_19 hw))
  replace F_a_order := F_a_order.other X16 (Or.inr (sne_15_19 hw))
  replace F_a_counting := F_a_counting.other X16 (Or.inr (sne_17_19 hw))
  replace K := K.wr X16 (Or.inl (List.mem_of_getElem? (i := 0) rfl))
  refine C.retV rfl od2_19 (by decide) (by decide) ⟨rfl, ?_⟩
  exact ⟨K, F_a_counting, F_a_swaps, F_a_moves⟩
theorem od1_0 : decode prog_4_method_1_code 0 = .ok (.aload_n 0, 1) := by decide +kernel
theorem od1_1 : decode prog_4_method_1_code 1 = .ok (.aconst_null, 1) := by decide +kernel
theorem od1_2 : decode prog_4_method_1_code 2 = .ok (.iconst 1, 1) := by decide +kernel
theorem ow7 {a0 : Array Value} {Z : State} (hw : ∀ d ∈ tables_1, d.before a0 Z = true) : (Jvm.Cond.constantLong "com/example/gapstride/gapstride/Counters" (3 : Nat) (9223372036854775807 : Int64)).before a0 Z = true := hw _ (List.mem_of_getElem? (i := 7) rfl)
theorem od1_3 : decode prog_4_method_1_code 3 = .ok (.ldc2_w 3, 3) := by decide +kernel
theorem od1_6 : decode prog_4_method_1_code 6 = .ok (.invokespecial 5, 3) := by decide +kernel
theorem pd__Lcom_example_gapstride_gapstride_Counters_Order_ZJ_V : parseMethodDescriptor "(Lcom/example/gapstride/gapstride/Counters$Order;ZJ)V" = some ⟨[(.object "com/example/gapstride/gapstride/Counters$Order"), .boolean, .long], none⟩ := by decide +kernel
theorem ow10 {a0 : Array Value} {Z : State} (hw : ∀ d ∈ tables_1, d.before a0 Z = true) : (Jvm.Cond.code ({ cls := "com/example/gapstride/gapstride/Counters", name := "<init>", desc := "(Lcom/example/gapstride/gapstride/Counters$Order;ZJ)V" } : Jvm.MethodName) prog_4_method_2_code (5 : Nat) (Option.none : Option Jvm.ClassFile.FieldType)).before a0 Z = true := hw _ (List.mem_of_getElem? (i := 10) rfl)
theorem ow3 {a0 : Array Value} {Z : State} (hw : ∀ d ∈ tables_1, d.before a0 Z = true) : (Jvm.Cond.initialized "com/example/gapstride/gapstride/Counters").before a0 Z = true := hw _ (List.mem_of_getElem? (i := 3) rfl)
theorem ow8 {a0 : Array Value} {Z : State} (hw : ∀ d ∈ tables_1, d.before a0 Z = true) : (Jvm.Cond.methodLink "com/example/gapstride/gapstride/Counters" (5 : Nat) ({ cls := "com/example/gapstride/gapstride/Counters", name := "<init>", desc := "(Lcom/example/gapstride/gapstride/Counters$Order;ZJ)V" } : Jvm.MethodName)).before a0 Z = true := hw _ (List.mem_of_getElem? (i := 8) rfl)
theorem ow9 {a0 : Array Value} {Z : State} (hw : ∀ d ∈ tables_1, d.before a0 Z = true) : (Jvm.Cond.instanceMethod ({ cls := "com/example/gapstride/gapstride/Counters", name := "<init>", desc := "(Lcom/example/gapstride/gapstride/Counters$Order;ZJ)V" } : Jvm.MethodName)).before a0 Z = true := hw _ (List.mem_of_getElem? (i := 9) rfl)
theorem od1_9 : decode prog_4_method_1_code 9 = .ok (.return_, 1) := by decide +kernel
theorem ef_own_rm1 (m : MethodId) (x0 : Addr) : entryFrame m #[(.ref x0)] 1 = mkF m 0 #[.val (.ref x0)] [] := by first | (simp [entryFrame, mkF, argsToLocals, Value.category]; done) | rfl
theorem pn_com_example_gapstride_gapstride_Counters__init____V : plainFor (⟨"com/example/gapstride/gapstride/Counters", "<init>", "()V"⟩ : MethodName) = true := plainFor_of_name (by first | (simp [plainName, overriddenIn]; done) | decide +kernel)
set_option maxRecDepth 65536 in
set_option maxHeartbeats 40000000 in
theorem own_rm1 (l : Launch) (Z : State) (a0 : Array Value) (hw : ∀ d ∈ tables_1, d.before a0 Z = true) (n0 : Nat) (hO : Heap) (a : Addr) (Z0 : n0 ≤ hO.size) (E_a : Exa Z hO a "com/example/gapstride/gapstride/Counters") (F_a_order : Fld Z hO a "com/example/gapstride/gapstride/Counters" "order" "Lcom/example/gapstride/gapstride/Counters$Order;" .null) (F_a_counting : Fld Z hO a "com/example/gapstride/gapstride/Counters" "counting" "Z" (.int (0 : Int32))) (F_a_limit : Fld Z hO a "com/example/gapstride/gapstride/Counters" "limit" "J" (.long (0 : Int64))) (F_a_swaps : Fld Z hO a "com/example/gapstride/gapstride/Counters" "swaps" "J" (.long (0 : Int64))) (F_a_moves : Fld Z hO a "com/example/gapstride/gapstride/Counters" "moves" "J" (.long (0 : Int64))) (g_a : n0 ≤ a) :
    MeetsW l Z n0 (⟨"com/example/gapstride/gapstride/Counters", "<init>", "()V"⟩ : MethodName) prog_4_method_1_code 1 none ({ frames := 2, cells := 0, slots := 0, locals := 28 } : Room) #[(.ref a)] hO (RV fun h => Keep hO h [a] ∧ Fld Z h a "com/example/gapstride/gapstride/Counters" "counting" "Z" (.int (1 : Int32)) ∧ Fld Z h a "com/example/gapstride/gapstride/Counters" "swaps" "J" (.long (0 : Int64)) ∧ Fld Z h a "com/example/gapstride/gapstride/Counters" "moves" "J" (.long (0 : Int64))) := by
  refine MeetsW.intro pn_com_example_gapstride_gapstride_Counters__init____V (fun m => ef_own_rm1 m a) ?_
  intro W C
  replace C : Ru l Z "com/example/gapstride/gapstride/Counters" prog_4_method_1_code 1 none "<init>" ({ frames := 2, cells := 0, slots := 0, locals := 28 } : Room) n0 (RV fun h => Keep hO h [a] ∧ Fld Z h a "com/example/gapstride/gapstride/Counters" "counting" "Z" (.int (1 : Int32)) ∧ Fld Z h a "com/example/gapstride/gapstride/Counters" "swaps" "J" (.long (0 : Int64)) ∧ Fld Z h a "com/example/gapstride/gapstride/Counters" "moves" "J" (.long (0 : Int64))) W := C
  have K : Keep hO hO [a] := Keep.refl _ _
  refine C.aloadN (pc' := 1) od1_0 rfl rfl rfl ?_
  refine C.aconstNull (pc' := 2) od1_1 rfl ?_
  refine C.iconst (v := 1) (pc' := 3) od1_2 rfl rfl ?_
  refine C.ldcJ (ow7 hw) (pc' := 6) od1_3 rfl ?_
  refine C.callc (w := 0) (own_rm2 l Z a0 hw n0 hO a (1 : Int32) (9223372036854775807 : Int64) (Nat.le_trans Z0 K.1) E_a F_a_order F_a_counting F_a_limit F_a_swaps F_a_moves g_a (Or.inr rfl)) rfl (ow8 hw) (ow9 hw) (ow3 hw) (ow10 hw) (pc' := 9) od1_6 rfl rfl rfl (by decide) pd__Lcom_example_gapstride_gapstride_Counters_Order_ZJ_V rfl (by decide) (Nat.le_of_eq rfl) (by decide) (by decide) (by decide) (kV fun h6 q6 => ?_)
  obtain ⟨K6, N6_0, N6_1, N6_2⟩ := q6
  replace E_a := E_a.keep K6
  have F_a_counting : Fld Z h6 a "com/example/gapstride/gapstride/Counters" "counting" "Z" (.int (1 : Int32)) := N6_0
  have F_a_swaps : Fld Z h6 a "com/example/gapstride/gapstride/Counters" "swaps" "J" (.long (0 : Int64)) := N6_1
  have F_a_moves : Fld Z h6 a "com/example/gapstride/gapstride/Counters" "moves" "J" (.long (0 : Int64)) := N6_2
  replace K := K.trans K6 (allS (Or.inl (List.mem_of_getElem? (i := 0) rfl)) all0)
  refine C.retV rfl od1_9 (by decide) (by decide) ⟨rfl, ?_⟩
  exact ⟨K, F_a_counting, F_a_swaps, F_a_moves⟩
theorem ow48 {a0 : Array Value} {Z : State} (hw : ∀ d ∈ tables_1, d.before a0 Z = true) : (Jvm.Cond.classLink "com/example/gapstride/gapstride/Counters" (6 : Nat) "com/example/gapstride/gapstride/Counters").before a0 Z = true := hw _ (List.mem_of_getElem? (i := 48) rfl)
theorem od8_0 : decode prog_4_method_5_code 0 = .ok (.new 6, 3) := by decide +kernel
theorem od8_3 : decode prog_4_method_5_code 3 = .ok (.dup, 1) := by decide +kernel
theorem od8_4 : decode prog_4_method_5_code 4 = .ok (.aconst_null, 1) := by decide +kernel
theorem od8_5 : decode prog_4_method_5_code 5 = .ok (.iconst 0, 1) := by decide +kernel
theorem od8_6 : decode prog_4_method_5_code 6 = .ok (.ldc2_w 3, 3) := by decide +kernel
theorem od8_9 : decode prog_4_method_5_code 9 = .ok (.invokespecial 5, 3) := by decide +kernel
theorem od8_12 : decode prog_4_method_5_code 12 = .ok (.areturn, 1) := by decide +kernel
theorem ef_own_rm8 (m : MethodId)  : entryFrame m #[] 0 = mkF m 0 #[] [] := by first | (simp [entryFrame, mkF, argsToLocals, Value.category]; done) | rfl
theorem pn_com_example_gapstride_gapstride_Counters_uncounted___Lcom_example_gapstride_gapstride_Counters_ : plainFor (⟨"com/example/gapstride/gapstride/Counters", "uncounted", "()Lcom/example/gapstride/gapstride/Counters;"⟩ : MethodName) = true := plainFor_of_name (by first | (simp [plainName, overriddenIn]; done) | decide +kernel)
set_option maxRecDepth 65536 in
set_option maxHeartbeats 40000000 in
theorem own_rm8 (l : Launch) (Z : State) (a0 : Array Value) (hw : ∀ d ∈ tables_1, d.before a0 Z = true) (n0 : Nat) (hO : Heap) (Z0 : n0 ≤ hO.size) :
    MeetsW l Z n0 (⟨"com/example/gapstride/gapstride/Counters", "uncounted", "()Lcom/example/gapstride/gapstride/Counters;"⟩ : MethodName) prog_4_method_5_code 0 (some (.object "com/example/gapstride/gapstride/Counters")) ({ frames := 2, cells := 1, slots := 8, locals := 29 } : Room) #[] hO (RA fun r h => Keep hO h [] ∧ hO.size ≤ r ∧ Exa Z h r "com/example/gapstride/gapstride/Counters" ∧ Fld Z h r "com/example/gapstride/gapstride/Counters" "counting" "Z" (.int (0 : Int32)) ∧ Fld Z h r "com/example/gapstride/gapstride/Counters" "swaps" "J" (.long (0 : Int64)) ∧ Fld Z h r "com/example/gapstride/gapstride/Counters" "moves" "J" (.long (0 : Int64))) := by
  refine MeetsW.intro pn_com_example_gapstride_gapstride_Counters_uncounted___Lcom_example_gapstride_gapstride_Counters_ (fun m => ef_own_rm8 m ) ?_
  intro W C
  replace C : Ru l Z "com/example/gapstride/gapstride/Counters" prog_4_method_5_code 0 (some (.object "com/example/gapstride/gapstride/Counters")) "uncounted" ({ frames := 2, cells := 1, slots := 8, locals := 29 } : Room) n0 (RA fun r h => Keep hO h [] ∧ hO.size ≤ r ∧ Exa Z h r "com/example/gapstride/gapstride/Counters" ∧ Fld Z h r "com/example/gapstride/gapstride/Counters" "counting" "Z" (.int (0 : Int32)) ∧ Fld Z h r "com/example/gapstride/gapstride/Counters" "swaps" "J" (.long (0 : Int64)) ∧ Fld Z h r "com/example/gapstride/gapstride/Counters" "moves" "J" (.long (0 : Int64))) W := C
  have K : Keep hO hO [] := Keep.refl _ _
  refine C.new (ow48 hw) (ow2 hw) (ow3 hw) (pc' := 3) od8_0 rfl (by decide) (by decide) (fun h0 b0 hb0 X0 E_b0 D0 => ?_)
  have sz_b0 : hO.size ≤ b0 := by rw [hb0]; exact K.1
  have g_b0 : n0 ≤ b0 := Nat.le_trans Z0 sz_b0
  replace K := K.ext X0
  have F_b0_order : Fld Z h0 b0 "com/example/gapstride/gapstride/Counters" "order" "Lcom/example/gapstride/gapstride/Counters$Order;" .null := D0 (Or.inl (ow15 hw)) pf_Lcom_example_gapstride_gapstride_Counters_Order_
  have F_b0_counting : Fld Z h0 b0 "com/example/gapstride/gapstride/Counters" "counting" "Z" (.int (0 : Int32)) := D0 (Or.inr (ow17 hw)) pf_Z
  have F_b0_limit : Fld Z h0 b0 "com/example/gapstride/gapstride/Counters" "limit" "J" (.long (0 : Int64)) := D0 (Or.inr (ow19 hw)) pf_J
  have F_b0_swaps : Fld Z h0 b0 "com/example/gapstride/gapstride/Counters" "swaps" "J" (.long (0 : Int64)) := D0 (Or.inl (ow26 hw)) pf_J
  have F_b0_moves : Fld Z h0 b0 "com/example/gapstride/gapstride/Counters" "moves" "J" (.long (0 : Int64)) := D0 (Or.inl (ow28 hw)) pf_J
  refine C.dup (pc' := 4) od8_3 rfl rfl ?_
  refine C.aconstNull (pc' := 5) od8_4 rfl ?_
  refine C.iconst (v := 0) (pc' := 6) od8_5 rfl rfl ?_
  refine C.ldcJ (ow7 hw) (pc' := 9) od8_6 rfl ?_
  refine C.callc (w := 1) (own_rm2 l Z a0 hw n0 h0 b0 (0 : Int32) (9223372036854775807 : Int64) (Nat.le_trans Z0 K.1) E_b0 F_b0_order F_b0_counting F_b0_limit F_b0_swaps F_b0_moves g_b0 (Or.inl rfl)) rfl (ow8 hw) (ow9 hw) (ow3 hw) (ow10 hw) (pc' := 12) od8_9 rfl rfl rfl (by decide) pd__Lcom_example_gapstride_gapstride_Counters_Order_ZJ_V rfl (by decide) (Nat.le_of_eq rfl) (by decide) (by decide) (by decide) (kV fun h9 q9 => ?_)
  obtain ⟨K9, N9_0, N9_1, N9_2⟩ := q9
  replace E_b0 := E_b0.keep K9
  have F_b0_counting : Fld Z h9 b0 "com/example/gapstride/gapstride/Counters" "counting" "Z" (.int (0 : Int32)) := N9_0
  have F_b0_swaps : Fld Z h9 b0 "com/example/gapstride/gapstride/Counters" "swaps" "J" (.long (0 : Int64)) := N9_1
  have F_b0_moves : Fld Z h9 b0 "com/example/gapstride/gapstride/Counters" "moves" "J" (.long (0 : Int64)) := N9_2
  replace K := K.trans K9 (allS (Or.inr sz_b0) all0)
  refine C.retA rfl rfl od8_12 (by decide) (by decide) ⟨_, rfl, ?_⟩
  exact ⟨K, sz_b0, E_b0, F_b0_counting, F_b0_swaps, F_b0_moves⟩
theorem od6_0 : decode prog_4_method_15_code 0 = .ok (.aload_n 0, 1) := by decide +kernel
theorem ow25 {a0 : Array Value} {Z : State} (hw : ∀ d ∈ tables_1, d.before a0 Z = true) : (Jvm.Cond.fieldLink "com/example/gapstride/gapstride/Counters" (82 : Nat) "com/example/gapstride/gapstride/Counters" "swaps" "J").before a0 Z = true := hw _ (List.mem_of_getElem? (i := 25) rfl)
theorem od6_1 : decode prog_4_method_15_code 1 = .ok (.getfield 82, 3) := by decide +kernel
theorem od6_4 : decode prog_4_method_15_code 4 = .ok (.lreturn, 1) := by decide +kernel
theorem ef_own_rm6 (m : MethodId) (x0 : Addr) : entryFrame m #[(.ref x0)] 1 = mkF m 0 #[.val (.ref x0)] [] := by first | (simp [entryFrame, mkF, argsToLocals, Value.category]; done) | rfl
theorem pn_com_example_gapstride_gapstride_Counters_getSwaps___J : plainFor (⟨"com/example/gapstride/gapstride/Counters", "getSwaps", "()J"⟩ : MethodName) = true := plainFor_of_name (by first | (simp [plainName, overriddenIn]; done) | decide +kernel)
set_option maxRecDepth 65536 in
set_option maxHeartbeats 40000000 in
theorem own_rm6 (l : Launch) (Z : State) (a0 : Array Value) (hw : ∀ d ∈ tables_1, d.before a0 Z = true) (n0 : Nat) (hO : Heap) (a : Addr) (x : Int64) (F_a_swaps : Fld Z hO a "com/example/gapstride/gapstride/Counters" "swaps" "J" (.long x)) :
    MeetsW l Z n0 (⟨"com/example/gapstride/gapstride/Counters", "getSwaps", "()J"⟩ : MethodName) prog_4_method_15_code 1 (some .long) ({ frames := 0, cells := 0, slots := 0, locals := 0 } : Room) #[(.ref a)] hO (RJ fun r h => r = x ∧ h = hO) := by
  refine MeetsW.intro pn_com_example_gapstride_gapstride_Counters_getSwaps___J (fun m => ef_own_rm6 m a) ?_
  intro W C
  replace C : Ru l Z "com/example/gapstride/gapstride/Counters" prog_4_method_15_code 1 (some .long) "getSwaps" ({ frames := 0, cells := 0, slots := 0, locals := 0 } : Room) n0 (RJ fun r h => r = x ∧ h = hO) W := C
  refine C.aloadN (pc' := 1) od6_0 rfl rfl rfl ?_
  refine C.getf (ow25 hw) Via.refl F_a_swaps (pc' := 4) od6_1 rfl ?_
  refine C.retJ rfl od6_4 (by decide) (by decide) ⟨_, rfl, ?_⟩
  exact ⟨(by subst_vars; rfl), rfl⟩
theorem od7_0 : decode prog_4_method_16_code 0 = .ok (.aload_n 0, 1) := by decide +kernel
theorem ow27 {a0 : Array Value} {Z : State} (hw : ∀ d ∈ tables_1, d.before a0 Z = true) : (Jvm.Cond.fieldLink "com/example/gapstride/gapstride/Counters" (73 : Nat) "com/example/gapstride/gapstride/Counters" "moves" "J").before a0 Z = true := hw _ (List.mem_of_getElem? (i := 27) rfl)
theorem od7_1 : decode prog_4_method_16_code 1 = .ok (.getfield 73, 3) := by decide +kernel
theorem od7_4 : decode prog_4_method_16_code 4 = .ok (.lreturn, 1) := by decide +kernel
theorem ef_own_rm7 (m : MethodId) (x0 : Addr) : entryFrame m #[(.ref x0)] 1 = mkF m 0 #[.val (.ref x0)] [] := by first | (simp [entryFrame, mkF, argsToLocals, Value.category]; done) | rfl
theorem pn_com_example_gapstride_gapstride_Counters_getMoves___J : plainFor (⟨"com/example/gapstride/gapstride/Counters", "getMoves", "()J"⟩ : MethodName) = true := plainFor_of_name (by first | (simp [plainName, overriddenIn]; done) | decide +kernel)
set_option maxRecDepth 65536 in
set_option maxHeartbeats 40000000 in
theorem own_rm7 (l : Launch) (Z : State) (a0 : Array Value) (hw : ∀ d ∈ tables_1, d.before a0 Z = true) (n0 : Nat) (hO : Heap) (a : Addr) (x : Int64) (F_a_moves : Fld Z hO a "com/example/gapstride/gapstride/Counters" "moves" "J" (.long x)) :
    MeetsW l Z n0 (⟨"com/example/gapstride/gapstride/Counters", "getMoves", "()J"⟩ : MethodName) prog_4_method_16_code 1 (some .long) ({ frames := 0, cells := 0, slots := 0, locals := 0 } : Room) #[(.ref a)] hO (RJ fun r h => r = x ∧ h = hO) := by
  refine MeetsW.intro pn_com_example_gapstride_gapstride_Counters_getMoves___J (fun m => ef_own_rm7 m a) ?_
  intro W C
  replace C : Ru l Z "com/example/gapstride/gapstride/Counters" prog_4_method_16_code 1 (some .long) "getMoves" ({ frames := 0, cells := 0, slots := 0, locals := 0 } : Room) n0 (RJ fun r h => r = x ∧ h = hO) W := C
  refine C.aloadN (pc' := 1) od7_0 rfl rfl rfl ?_
  refine C.getf (ow27 hw) Via.refl F_a_moves (pc' := 4) od7_1 rfl ?_
  refine C.retJ rfl od7_4 (by decide) (by decide) ⟨_, rfl, ?_⟩
  exact ⟨(by subst_vars; rfl), rfl⟩
theorem od4_0 : decode prog_4_method_12_code 0 = .ok (.aload_n 1, 1) := by decide +kernel
theorem od4_1 : decode prog_4_method_12_code 1 = .ok (.iload_n 2, 1) := by decide +kernel
theorem od4_2 : decode prog_4_method_12_code 2 = .ok (.iaload, 1) := by decide +kernel
theorem od4_3 : decode prog_4_method_12_code 3 = .ok (.istore 4, 2) := by decide +kernel
theorem od4_5 : decode prog_4_method_12_code 5 = .ok (.aload_n 1, 1) := by decide +kernel
theorem od4_6 : decode prog_4_method_12_code 6 = .ok (.iload_n 2, 1) := by decide +kernel
theorem od4_7 : decode prog_4_method_12_code 7 = .ok (.aload_n 1, 1) := by decide +kernel
theorem od4_8 : decode prog_4_method_12_code 8 = .ok (.iload_n 3, 1) := by decide +kernel
theorem od4_9 : decode prog_4_method_12_code 9 = .ok (.iaload, 1) := by decide +kernel
theorem od4_10 : decode prog_4_method_12_code 10 = .ok (.iastore, 1) := by decide +kernel
theorem od4_11 : decode prog_4_method_12_code 11 = .ok (.aload_n 1, 1) := by decide +kernel
theorem od4_12 : decode prog_4_method_12_code 12 = .ok (.iload_n 3, 1) := by decide +kernel
theorem od4_13 : decode prog_4_method_12_code 13 = .ok (.iload 4, 2) := by decide +kernel
theorem od4_15 : decode prog_4_method_12_code 15 = .ok (.iastore, 1) := by decide +kernel
theorem od4_16 : decode prog_4_method_12_code 16 = .ok (.aload_n 0, 1) := by decide +kernel
theorem od4_17 : decode prog_4_method_12_code 17 = .ok (.getfield 20, 3) := by decide +kernel
theorem od4_20 : decode prog_4_method_12_code 20 = .ok (.ifCond .eq 25, 3) := by decide +kernel
theorem od4_45 : decode prog_4_method_12_code 45 = .ok (.return_, 1) := by decide +kernel
theorem od4_23 : decode prog_4_method_12_code 23 = .ok (.aload_n 0, 1) := by decide +kernel
theorem od4_24 : decode prog_4_method_12_code 24 = .ok (.dup, 1) := by decide +kernel
theorem od4_25 : decode prog_4_method_12_code 25 = .ok (.getfield 82, 3) := by decide +kernel
theorem od4_28 : decode prog_4_method_12_code 28 = .ok (.lconst 1, 1) := by decide +kernel
theorem od4_29 : decode prog_4_method_12_code 29 = .ok (.ladd, 1) := by decide +kernel
theorem od4_30 : decode prog_4_method_12_code 30 = .ok (.putfield 82, 3) := by decide +kernel
theorem sne_17_26 {a0 : Array Value} {Z : State} (hw : ∀ d ∈ tables_1, d.before a0 Z = true) : Jvm.RoadKit.slotOf Z "com/example/gapstride/gapstride/Counters" "counting" "Z" ≠ Jvm.RoadKit.slotOf Z "com/example/gapstride/gapstride/Counters" "swaps" "J" := slot_ne (C := "com/example/gapstride/gapstride/Counters") (a0 := a0) (Or.inr (ow17 hw)) (Or.inl (ow26 hw)) (by decide) pf_Z pf_J
theorem sne_28_26 {a0 : Array Value} {Z : State} (hw : ∀ d ∈ tables_1, d.before a0 Z = true) : Jvm.RoadKit.slotOf Z "com/example/gapstride/gapstride/Counters" "moves" "J" ≠ Jvm.RoadKit.slotOf Z "com/example/gapstride/gapstride/Counters" "swaps" "J" := slot_ne (C := "com/example/gapstride/gapstride/Counters") (a0 := a0) (Or.inl (ow28 hw)) (Or.inl (ow26 hw)) (by decide) pf_J pf_J
theorem od4_33 : decode prog_4_method_12_code 33 = .ok (.aload_n 0, 1) := by decide +kernel
theorem od4_34 : decode prog_4_method_12_code 34 = .ok (.dup, 1) := by decide +kernel
theorem od4_35 : decode prog_4_method_12_code 35 = .ok (.getfield 73, 3) := by decide +kernel
theorem ow29 {a0 : Array Value} {Z : State} (hw : ∀ d ∈ tables_1, d.before a0 Z = true) : (Jvm.Cond.constantLong "com/example/gapstride/gapstride/Counters" (85 : Nat) (2 : Int64)).before a0 Z = true := hw _ (List.mem_of_getElem? (i := 29) rfl)
theorem od4_38 : decode prog_4_method_12_code 38 = .ok (.ldc2_w 85, 3) := by decide +kernel
theorem od4_41 : decode prog_4_method_12_code 41 = .ok (.ladd, 1) := by decide +kernel
theorem od4_42 : decode prog_4_method_12_code 42 = .ok (.putfield 73, 3) := by decide +kernel
theorem sne_17_28 {a0 : Array Value} {Z : State} (hw : ∀ d ∈ tables_1, d.before a0 Z = true) : Jvm.RoadKit.slotOf Z "com/example/gapstride/gapstride/Counters" "counting" "Z" ≠ Jvm.RoadKit.slotOf Z "com/example/gapstride/gapstride/Counters" "moves" "J" := slot_ne (C := "com/example/gapstride/gapstride/Counters") (a0 := a0) (Or.inr (ow17 hw)) (Or.inl (ow28 hw)) (by decide) pf_Z pf_J
theorem sne_26_28 {a0 : Array Value} {Z : State} (hw : ∀ d ∈ tables_1, d.before a0 Z = true) : Jvm.RoadKit.slotOf Z "com/example/gapstride/gapstride/Counters" "swaps" "J" ≠ Jvm.RoadKit.slotOf Z "com/example/gapstride/gapstride/Counters" "moves" "J" := slot_ne (C := "com/example/gapstride/gapstride/Counters") (a0 := a0) (Or.inl (ow26 hw)) (Or.inl (ow28 hw)) (by decide) pf_J pf_J
theorem ef_own_rm4 (m : MethodId) (x0 : Addr) (x1 : Addr) (x2 : Int32) (x3 : Int32) : entryFrame m #[(.ref x0), (.ref x1), (.int x2), (.int x3)] 5 = mkF m 0 #[.val (.ref x0), .val (.ref x1), .val (.int x2), .val (.int x3), .unset] [] := by first | (simp [entryFrame, mkF, argsToLocals, Value.category]; done) | rfl
theorem pn_com_example_gapstride_gapstride_Counters_swap___III_V : plainFor (⟨"com/example/gapstride/gapstride/Counters", "swap", "([III)V"⟩ : MethodName) = true := plainFor_of_name (by first | (simp [plainName, overriddenIn]; done) | decide +kernel)
set_option maxRecDepth 65536 in
set_option maxHeartbeats 40000000 in
theorem own_rm4 (l : Launch) (Z : State) (a0 : Array Value) (hw : ∀ d ∈ tables_1, d.before a0 Z = true) (n0 : Nat) (hO : Heap) (a : Addr) (b : Addr) (i : Int32) (j : Int32) (cnt : Int32) (sw : Int64) (mv : Int64) (vs : List Int32) (ii : Nat) (jj : Nat) (Z0 : n0 ≤ hO.size) (E_a : Exa Z hO a "com/example/gapstride/gapstride/Counters") (F_a_counting : Fld Z hO a "com/example/gapstride/gapstride/Counters" "counting" "Z" (.int cnt)) (F_a_swaps : Fld Z hO a "com/example/gapstride/gapstride/Counters" "swaps" "J" (.long sw)) (F_a_moves : Fld Z hO a "com/example/gapstride/gapstride/Counters" "moves" "J" (.long mv)) (A_b : AI Z hO b vs) (g_a : n0 ≤ a) (g_b : n0 ≤ b) (ne_a_b : a ≠ b) (hi : i.toInt = (ii : Int)) (hj : j.toInt = (jj : Int)) (li : ii < vs.length) (lj : jj < vs.length) :
    MeetsW l Z n0 (⟨"com/example/gapstride/gapstride/Counters", "swap", "([III)V"⟩ : MethodName) prog_4_method_12_code 5 none ({ frames := 0, cells := 0, slots := 0, locals := 0 } : Room) #[(.ref a), (.ref b), (.int i), (.int j)] hO (RV fun h => Keep hO h [a, b] ∧ Fld Z h a "com/example/gapstride/gapstride/Counters" "counting" "Z" (.int cnt) ∧ Fld Z h a "com/example/gapstride/gapstride/Counters" "swaps" "J" (.long (if cnt = 0 then sw else sw + 1)) ∧ Fld Z h a "com/example/gapstride/gapstride/Counters" "moves" "J" (.long (if cnt = 0 then mv else mv + 2)) ∧ AI Z h b ((vs.set ii (vs.getD jj 0)).set jj (vs.getD ii 0))) := by
  refine MeetsW.intro pn_com_example_gapstride_gapstride_Counters_swap___III_V (fun m => ef_own_rm4 m a b i j) ?_
  intro W C
  replace C : Ru l Z "com/example/gapstride/gapstride/Counters" prog_4_method_12_code 5 none "swap" ({ frames := 0, cells := 0, slots := 0, locals := 0 } : Room) n0 (RV fun h => Keep hO h [a, b] ∧ Fld Z h a "com/example/gapstride/gapstride/Counters" "counting" "Z" (.int cnt) ∧ Fld Z h a "com/example/gapstride/gapstride/Counters" "swaps" "J" (.long (if cnt = 0 then sw else sw + 1)) ∧ Fld Z h a "com/example/gapstride/gapstride/Counters" "moves" "J" (.long (if cnt = 0 then mv else mv + 2)) ∧ AI Z h b ((vs.set ii (vs.getD jj 0)).set jj (vs.getD ii 0))) W := C
  have K : Keep hO hO [a, b] := Keep.refl _ _
  refine C.aloadN (pc' := 1) od4_0 rfl rfl rfl ?_
  refine C.iloadN (pc' := 2) od4_1 rfl rfl ?_
  refine C.ldAI (i := ii) (v := (vs.getD ii 0)) A_b hi (Jvm.OwnP.getD_some li) (pc' := 3) od4_2 rfl ?_
  refine C.istoreX (l' := #[.val (.ref a), .val (.ref b), .val (.int i), .val (.int j), .val (.int (vs.getD ii 0))]) (pc' := 5) od4_3 rfl rfl ?_
  refine C.aloadN (pc' := 6) od4_5 rfl rfl rfl ?_
  refine C.iloadN (pc' := 7) od4_6 rfl rfl ?_
  refine C.aloadN (pc' := 8) od4_7 rfl rfl rfl ?_
  refine C.iloadN (pc' := 9) od4_8 rfl rfl ?_
  refine C.ldAI (i := jj) (v := (vs.getD jj 0)) A_b hj (Jvm.OwnP.getD_some lj) (pc' := 10) od4_9 rfl ?_
  refine C.stAI (i := ii) A_b hi li g_b (pc' := 11) od4_10 rfl (fun h10 X10 B10 => ?_)
  replace E_a := E_a.wr X10
  replace F_a_counting := F_a_counting.other X10 (Or.inl ne_a_b)
  replace F_a_swaps := F_a_swaps.other X10 (Or.inl ne_a_b)
  replace F_a_moves := F_a_moves.other X10 (Or.inl ne_a_b)
  have A_b : AI Z h10 b (vs.set ii (vs.getD jj 0)) := B10
  replace K := K.wr X10 (Or.inl (List.mem_of_getElem? (i := 1) rfl))
  refine C.aloadN (pc' := 12) od4_11 rfl rfl rfl ?_
  refine C.iloadN (pc' := 13) od4_12 rfl rfl ?_
  refine C.iload (pc' := 15) od4_13 rfl rfl ?_
  refine C.stAI (i := jj) A_b hj (by rw [List.length_set]; exact lj) g_b (pc' := 16) od4_15 rfl (fun h15 X15 B15 => ?_)
  replace E_a := E_a.wr X15
  replace F_a_counting := F_a_counting.other X15 (Or.inl ne_a_b)
  replace F_a_swaps := F_a_swaps.other X15 (Or.inl ne_a_b)
  replace F_a_moves := F_a_moves.other X15 (Or.inl ne_a_b)
  have A_b : AI Z h15 b ((vs.set ii (vs.getD jj 0)).set jj (vs.getD ii 0)) := B15
  replace K := K.wr X15 (Or.inl (List.mem_of_getElem? (i := 1) rfl))
  refine C.aloadN (pc' := 17) od4_16 rfl rfl rfl ?_
  refine C.getf (ow16 hw) Via.refl F_a_counting (pc' := 20) od4_17 rfl ?_
  refine C.if_eq (pc' := 23) (pt := 45) od4_20 rfl rfl (fun c20 => ?_) (fun c20 => ?_)
  · skip
    refine C.retV rfl od4_45 (by decide) (by decide) ⟨rfl, ?_⟩
    exact ⟨K, F_a_counting, by simpa [c20] using F_a_swaps, by simpa [c20] using F_a_moves, A_b⟩
  · skip
    refine C.aloadN (pc' := 24) od4_23 rfl rfl rfl ?_
    refine C.dup (pc' := 25) od4_24 rfl rfl ?_
    refine C.getf (ow25 hw) Via.refl F_a_swaps (pc' := 28) od4_25 rfl ?_
    refine C.lconst (v := 1) (pc' := 29) od4_28 rfl rfl ?_
    refine C.ladd (pc' := 30) od4_29 rfl ?_
    refine C.putf (ow25 hw) Via.refl F_a_swaps E_a (Or.inl (ow26 hw)) (ow2 hw) pf_J rfl rfl g_a (pc' := 33) od4_30 rfl (fun h30 X30 => ?_)
    replace F_a_swaps := F_a_swaps.same X30
    replace E_a := E_a.wr X30
    replace F_a_counting := F_a_counting.other X30 (Or.inr (sne_17_26 hw))
    replace F_a_moves := F_a_moves.other X30 (Or.inr (sne_28_26 hw))
    replace A_b := A_b.other X30 (Ne.symm ne_a_b)
    replace K := K.wr X30 (Or.inl (List.mem_of_getElem? (i := 0) rfl))
    refine C.aloadN (pc' := 34) od4_33 rfl rfl rfl ?_
    refine C.dup (pc' := 35) od4_34 rfl rfl ?_
    refine C.getf (ow27 hw) Via.refl F_a_moves (pc' := 38) od4_35 rfl ?_
    refine C.ldcJ (ow29 hw) (pc' := 41) od4_38 rfl ?_
    refine C.ladd (pc' := 42) od4_41 rfl ?_
    refine C.putf (ow27 hw) Via.refl F_a_moves E_a (Or.inl (ow28 hw)) (ow2 hw) pf_J rfl rfl g_a (pc' := 45) od4_42 rfl (fun h42 X42 => ?_)
    replace F_a_moves := F_a_moves.same X42
    replace E_a := E_a.wr X42
    replace F_a_counting := F_a_counting.other X42 (Or.inr (sne_17_28 hw))
    replace A_b := A_b.other X42 (Ne.symm ne_a_b)
    replace F_a_swaps := F_a_swaps.other X42 (Or.inr (sne_26_28 hw))
    replace K := K.wr X42 (Or.inl (List.mem_of_getElem? (i := 0) rfl))
    refine C.retV rfl od4_45 (by decide) (by decide) ⟨rfl, ?_⟩
    exact ⟨K, F_a_counting, by simpa [c20] using F_a_swaps, by simpa [c20] using F_a_moves, A_b⟩
theorem od5_0 : decode method_3_code 0 = .ok (.iload_n 1, 1) := by decide +kernel
theorem od5_1 : decode method_3_code 1 = .ok (.iload_n 2, 1) := by decide +kernel
theorem od5_2 : decode method_3_code 2 = .ok (.if_icmp .ne 7, 3) := by decide +kernel
theorem od5_9 : decode method_3_code 9 = .ok (.iload_n 1, 1) := by decide +kernel
theorem od5_10 : decode method_3_code 10 = .ok (.iload_n 3, 1) := by decide +kernel
theorem od5_11 : decode method_3_code 11 = .ok (.if_icmp .ne 7, 3) := by decide +kernel
theorem od5_18 : decode method_3_code 18 = .ok (.aload_n 0, 1) := by decide +kernel
theorem od5_19 : decode method_3_code 19 = .ok (.iload_n 1, 1) := by decide +kernel
theorem od5_20 : decode method_3_code 20 = .ok (.iaload, 1) := by decide +kernel
theorem od5_21 : decode method_3_code 21 = .ok (.ireturn, 1) := by decide +kernel
theorem od5_14 : decode method_3_code 14 = .ok (.aload_n 0, 1) := by decide +kernel
theorem od5_15 : decode method_3_code 15 = .ok (.iload_n 2, 1) := by decide +kernel
theorem od5_16 : decode method_3_code 16 = .ok (.iaload, 1) := by decide +kernel
theorem od5_17 : decode method_3_code 17 = .ok (.ireturn, 1) := by decide +kernel
theorem od5_5 : decode method_3_code 5 = .ok (.aload_n 0, 1) := by decide +kernel
theorem od5_6 : decode method_3_code 6 = .ok (.iload_n 3, 1) := by decide +kernel
theorem od5_7 : decode method_3_code 7 = .ok (.iaload, 1) := by decide +kernel
theorem od5_8 : decode method_3_code 8 = .ok (.ireturn, 1) := by decide +kernel
theorem ef_own_rm5 (m : MethodId) (x0 : Addr) (x1 : Int32) (x2 : Int32) (x3 : Int32) : entryFrame m #[(.ref x0), (.int x1), (.int x2), (.int x3)] 4 = mkF m 0 #[.val (.ref x0), .val (.int x1), .val (.int x2), .val (.int x3)] [] := by first | (simp [entryFrame, mkF, argsToLocals, Value.category]; done) | rfl
theorem pn_com_example_gapstride_gapstride_CountersSwapPinLaw_at___IIII_I : plainFor (⟨"com/example/gapstride/gapstride/CountersSwapPinLaw", "at", "([IIII)I"⟩ : MethodName) = true := plainFor_of_name (by first | (simp [plainName, overriddenIn]; done) | decide +kernel)
set_option maxRecDepth 65536 in
set_option maxHeartbeats 40000000 in
theorem own_rm5 (l : Launch) (Z : State) (a0 : Array Value) (hw : ∀ d ∈ tables_1, d.before a0 Z = true) (n0 : Nat) (hO : Heap) (b : Addr) (k : Int32) (i : Int32) (j : Int32) (vs : List Int32) (kk : Nat) (ii : Nat) (jj : Nat) (A_b : AI Z hO b vs) (hk : k.toInt = (kk : Int)) (hi : i.toInt = (ii : Int)) (hj : j.toInt = (jj : Int)) (lk : kk < vs.length) (li : ii < vs.length) (lj : jj < vs.length) :
    MeetsW l Z n0 (⟨"com/example/gapstride/gapstride/CountersSwapPinLaw", "at", "([IIII)I"⟩ : MethodName) method_3_code 4 (some .int) ({ frames := 0, cells := 0, slots := 0, locals := 0 } : Room) #[(.ref b), (.int k), (.int i), (.int j)] hO (RI fun r h => r = (if k = i then vs.getD jj 0 else if k = j then vs.getD ii 0 else vs.getD kk 0) ∧ h = hO) := by
  refine MeetsW.intro pn_com_example_gapstride_gapstride_CountersSwapPinLaw_at___IIII_I (fun m => ef_own_rm5 m b k i j) ?_
  intro W C
  replace C : Ru l Z "com/example/gapstride/gapstride/CountersSwapPinLaw" method_3_code 4 (some .int) "at" ({ frames := 0, cells := 0, slots := 0, locals := 0 } : Room) n0 (RI fun r h => r = (if k = i then vs.getD jj 0 else if k = j then vs.getD ii 0 else vs.getD kk 0) ∧ h = hO) W := C
  refine C.iloadN (pc' := 1) od5_0 rfl rfl ?_
  refine C.iloadN (pc' := 2) od5_1 rfl rfl ?_
  refine C.icmp_ne (pc' := 5) (pt := 9) od5_2 rfl rfl (fun c2 => ?_) (fun c2 => ?_)
  · skip
    refine C.iloadN (pc' := 10) od5_9 rfl rfl ?_
    refine C.iloadN (pc' := 11) od5_10 rfl rfl ?_
    refine C.icmp_ne (pc' := 14) (pt := 18) od5_11 rfl rfl (fun c11 => ?_) (fun c11 => ?_)
    · skip
      refine C.aloadN (pc' := 19) od5_18 rfl rfl rfl ?_
      refine C.iloadN (pc' := 20) od5_19 rfl rfl ?_
      refine C.ldAI (i := kk) (v := (vs.getD kk 0)) A_b hk (Jvm.OwnP.getD_some lk) (pc' := 21) od5_20 rfl ?_
      refine C.retI rfl od5_21 (by decide) (by decide) ⟨_, rfl, ?_⟩
      exact ⟨by rw [if_neg c2, if_neg c11], rfl⟩
    · skip
      refine C.aloadN (pc' := 15) od5_14 rfl rfl rfl ?_
      refine C.iloadN (pc' := 16) od5_15 rfl rfl ?_
      refine C.ldAI (i := ii) (v := (vs.getD ii 0)) A_b hi (Jvm.OwnP.getD_some li) (pc' := 17) od5_16 rfl ?_
      refine C.retI rfl od5_17 (by decide) (by decide) ⟨_, rfl, ?_⟩
      exact ⟨by rw [if_neg c2, if_pos c11], rfl⟩
  · skip
    refine C.aloadN (pc' := 6) od5_5 rfl rfl rfl ?_
    refine C.iloadN (pc' := 7) od5_6 rfl rfl ?_
    refine C.ldAI (i := jj) (v := (vs.getD jj 0)) A_b hj (Jvm.OwnP.getD_some lj) (pc' := 8) od5_7 rfl ?_
    refine C.retI rfl od5_8 (by decide) (by decide) ⟨_, rfl, ?_⟩
    exact ⟨by rw [if_pos c2], rfl⟩
theorem ow0 {a0 : Array Value} {Z : State} (hw : ∀ d ∈ tables_1, d.before a0 Z = true) : (Jvm.Cond.arrayClass Jvm.ClassFile.FieldType.int).before a0 Z = true := hw _ (List.mem_of_getElem? (i := 0) rfl)
theorem pd___Lcom_example_gapstride_gapstride_Counters_ : parseMethodDescriptor "()Lcom/example/gapstride/gapstride/Counters;" = some ⟨[], some (.object "com/example/gapstride/gapstride/Counters")⟩ := by decide +kernel
theorem ow47 {a0 : Array Value} {Z : State} (hw : ∀ d ∈ tables_1, d.before a0 Z = true) : (Jvm.Cond.code ({ cls := "com/example/gapstride/gapstride/Counters", name := "uncounted", desc := "()Lcom/example/gapstride/gapstride/Counters;" } : Jvm.MethodName) prog_4_method_5_code (0 : Nat) (Option.some (Jvm.ClassFile.FieldType.object "com/example/gapstride/gapstride/Counters"))).before a0 Z = true := hw _ (List.mem_of_getElem? (i := 47) rfl)
theorem ow45 {a0 : Array Value} {Z : State} (hw : ∀ d ∈ tables_1, d.before a0 Z = true) : (Jvm.Cond.methodLink "com/example/gapstride/gapstride/CountersSwapPinLaw" (10 : Nat) ({ cls := "com/example/gapstride/gapstride/Counters", name := "uncounted", desc := "()Lcom/example/gapstride/gapstride/Counters;" } : Jvm.MethodName)).before a0 Z = true := hw _ (List.mem_of_getElem? (i := 45) rfl)
theorem ow46 {a0 : Array Value} {Z : State} (hw : ∀ d ∈ tables_1, d.before a0 Z = true) : (Jvm.Cond.static ({ cls := "com/example/gapstride/gapstride/Counters", name := "uncounted", desc := "()Lcom/example/gapstride/gapstride/Counters;" } : Jvm.MethodName)).before a0 Z = true := hw _ (List.mem_of_getElem? (i := 46) rfl)
theorem pd___III_V : parseMethodDescriptor "([III)V" = some ⟨[(.array .int), .int, .int], none⟩ := by decide +kernel
theorem ow24 {a0 : Array Value} {Z : State} (hw : ∀ d ∈ tables_1, d.before a0 Z = true) : (Jvm.Cond.code ({ cls := "com/example/gapstride/gapstride/Counters", name := "swap", desc := "([III)V" } : Jvm.MethodName) prog_4_method_12_code (5 : Nat) (Option.none : Option Jvm.ClassFile.FieldType)).before a0 Z = true := hw _ (List.mem_of_getElem? (i := 24) rfl)
theorem ow20 {a0 : Array Value} {Z : State} (hw : ∀ d ∈ tables_1, d.before a0 Z = true) : (Jvm.Cond.methodLink "com/example/gapstride/gapstride/CountersSwapPinLaw" (14 : Nat) ({ cls := "com/example/gapstride/gapstride/Counters", name := "swap", desc := "([III)V" } : Jvm.MethodName)).before a0 Z = true := hw _ (List.mem_of_getElem? (i := 20) rfl)
theorem ow21 {a0 : Array Value} {Z : State} (hw : ∀ d ∈ tables_1, d.before a0 Z = true) : (Jvm.Cond.declares ({ cls := "com/example/gapstride/gapstride/Counters", name := "swap", desc := "([III)V" } : Jvm.MethodName)).before a0 Z = true := hw _ (List.mem_of_getElem? (i := 21) rfl)
theorem ow23 {a0 : Array Value} {Z : State} (hw : ∀ d ∈ tables_1, d.before a0 Z = true) : (Jvm.Cond.selects "com/example/gapstride/gapstride/Counters" ({ cls := "com/example/gapstride/gapstride/Counters", name := "swap", desc := "([III)V" } : Jvm.MethodName) ({ cls := "com/example/gapstride/gapstride/Counters", name := "swap", desc := "([III)V" } : Jvm.MethodName)).before a0 Z = true := hw _ (List.mem_of_getElem? (i := 23) rfl)
theorem ow22 {a0 : Array Value} {Z : State} (hw : ∀ d ∈ tables_1, d.before a0 Z = true) : (Jvm.Cond.instanceMethod ({ cls := "com/example/gapstride/gapstride/Counters", name := "swap", desc := "([III)V" } : Jvm.MethodName)).before a0 Z = true := hw _ (List.mem_of_getElem? (i := 22) rfl)
theorem pd___IIII_I : parseMethodDescriptor "([IIII)I" = some ⟨[(.array .int), .int, .int, .int], some .int⟩ := by decide +kernel
theorem ow34 {a0 : Array Value} {Z : State} (hw : ∀ d ∈ tables_1, d.before a0 Z = true) : (Jvm.Cond.code ({ cls := "com/example/gapstride/gapstride/CountersSwapPinLaw", name := "at", desc := "([IIII)I" } : Jvm.MethodName) method_3_code (4 : Nat) (Option.some Jvm.ClassFile.FieldType.int)).before a0 Z = true := hw _ (List.mem_of_getElem? (i := 34) rfl)
theorem ow33 {a0 : Array Value} {Z : State} (hw : ∀ d ∈ tables_1, d.before a0 Z = true) : (Jvm.Cond.initialized "com/example/gapstride/gapstride/CountersSwapPinLaw").before a0 Z = true := hw _ (List.mem_of_getElem? (i := 33) rfl)
theorem ow31 {a0 : Array Value} {Z : State} (hw : ∀ d ∈ tables_1, d.before a0 Z = true) : (Jvm.Cond.methodLink "com/example/gapstride/gapstride/CountersSwapPinLaw" (20 : Nat) ({ cls := "com/example/gapstride/gapstride/CountersSwapPinLaw", name := "at", desc := "([IIII)I" } : Jvm.MethodName)).before a0 Z = true := hw _ (List.mem_of_getElem? (i := 31) rfl)
theorem ow32 {a0 : Array Value} {Z : State} (hw : ∀ d ∈ tables_1, d.before a0 Z = true) : (Jvm.Cond.static ({ cls := "com/example/gapstride/gapstride/CountersSwapPinLaw", name := "at", desc := "([IIII)I" } : Jvm.MethodName)).before a0 Z = true := hw _ (List.mem_of_getElem? (i := 32) rfl)
theorem pd___J : parseMethodDescriptor "()J" = some ⟨[], some .long⟩ := by decide +kernel
theorem ow39 {a0 : Array Value} {Z : State} (hw : ∀ d ∈ tables_1, d.before a0 Z = true) : (Jvm.Cond.code ({ cls := "com/example/gapstride/gapstride/Counters", name := "getSwaps", desc := "()J" } : Jvm.MethodName) prog_4_method_15_code (1 : Nat) (Option.some Jvm.ClassFile.FieldType.long)).before a0 Z = true := hw _ (List.mem_of_getElem? (i := 39) rfl)
theorem ow35 {a0 : Array Value} {Z : State} (hw : ∀ d ∈ tables_1, d.before a0 Z = true) : (Jvm.Cond.methodLink "com/example/gapstride/gapstride/CountersSwapPinLaw" (26 : Nat) ({ cls := "com/example/gapstride/gapstride/Counters", name := "getSwaps", desc := "()J" } : Jvm.MethodName)).before a0 Z = true := hw _ (List.mem_of_getElem? (i := 35) rfl)
theorem ow36 {a0 : Array Value} {Z : State} (hw : ∀ d ∈ tables_1, d.before a0 Z = true) : (Jvm.Cond.declares ({ cls := "com/example/gapstride/gapstride/Counters", name := "getSwaps", desc := "()J" } : Jvm.MethodName)).before a0 Z = true := hw _ (List.mem_of_getElem? (i := 36) rfl)
theorem ow38 {a0 : Array Value} {Z : State} (hw : ∀ d ∈ tables_1, d.before a0 Z = true) : (Jvm.Cond.selects "com/example/gapstride/gapstride/Counters" ({ cls := "com/example/gapstride/gapstride/Counters", name := "getSwaps", desc := "()J" } : Jvm.MethodName) ({ cls := "com/example/gapstride/gapstride/Counters", name := "getSwaps", desc := "()J" } : Jvm.MethodName)).before a0 Z = true := hw _ (List.mem_of_getElem? (i := 38) rfl)
theorem ow37 {a0 : Array Value} {Z : State} (hw : ∀ d ∈ tables_1, d.before a0 Z = true) : (Jvm.Cond.instanceMethod ({ cls := "com/example/gapstride/gapstride/Counters", name := "getSwaps", desc := "()J" } : Jvm.MethodName)).before a0 Z = true := hw _ (List.mem_of_getElem? (i := 37) rfl)
theorem ow44 {a0 : Array Value} {Z : State} (hw : ∀ d ∈ tables_1, d.before a0 Z = true) : (Jvm.Cond.code ({ cls := "com/example/gapstride/gapstride/Counters", name := "getMoves", desc := "()J" } : Jvm.MethodName) prog_4_method_16_code (1 : Nat) (Option.some Jvm.ClassFile.FieldType.long)).before a0 Z = true := hw _ (List.mem_of_getElem? (i := 44) rfl)
theorem ow40 {a0 : Array Value} {Z : State} (hw : ∀ d ∈ tables_1, d.before a0 Z = true) : (Jvm.Cond.methodLink "com/example/gapstride/gapstride/CountersSwapPinLaw" (30 : Nat) ({ cls := "com/example/gapstride/gapstride/Counters", name := "getMoves", desc := "()J" } : Jvm.MethodName)).before a0 Z = true := hw _ (List.mem_of_getElem? (i := 40) rfl)
theorem ow41 {a0 : Array Value} {Z : State} (hw : ∀ d ∈ tables_1, d.before a0 Z = true) : (Jvm.Cond.declares ({ cls := "com/example/gapstride/gapstride/Counters", name := "getMoves", desc := "()J" } : Jvm.MethodName)).before a0 Z = true := hw _ (List.mem_of_getElem? (i := 41) rfl)
theorem ow43 {a0 : Array Value} {Z : State} (hw : ∀ d ∈ tables_1, d.before a0 Z = true) : (Jvm.Cond.selects "com/example/gapstride/gapstride/Counters" ({ cls := "com/example/gapstride/gapstride/Counters", name := "getMoves", desc := "()J" } : Jvm.MethodName) ({ cls := "com/example/gapstride/gapstride/Counters", name := "getMoves", desc := "()J" } : Jvm.MethodName)).before a0 Z = true := hw _ (List.mem_of_getElem? (i := 43) rfl)
theorem ow42 {a0 : Array Value} {Z : State} (hw : ∀ d ∈ tables_1, d.before a0 Z = true) : (Jvm.Cond.instanceMethod ({ cls := "com/example/gapstride/gapstride/Counters", name := "getMoves", desc := "()J" } : Jvm.MethodName)).before a0 Z = true := hw _ (List.mem_of_getElem? (i := 42) rfl)
theorem ow30 {a0 : Array Value} {Z : State} (hw : ∀ d ∈ tables_1, d.before a0 Z = true) : (Jvm.Cond.constantLong "com/example/gapstride/gapstride/CountersSwapPinLaw" (18 : Nat) (2 : Int64)).before a0 Z = true := hw _ (List.mem_of_getElem? (i := 30) rfl)
theorem ow1 {a0 : Array Value} {Z : State} (hw : ∀ d ∈ tables_1, d.before a0 Z = true) : (Jvm.Cond.classLink "com/example/gapstride/gapstride/CountersSwapPinLaw" (7 : Nat) "com/example/gapstride/gapstride/Counters").before a0 Z = true := hw _ (List.mem_of_getElem? (i := 1) rfl)
theorem pd___V : parseMethodDescriptor "()V" = some ⟨[], none⟩ := by decide +kernel
theorem ow6 {a0 : Array Value} {Z : State} (hw : ∀ d ∈ tables_1, d.before a0 Z = true) : (Jvm.Cond.code ({ cls := "com/example/gapstride/gapstride/Counters", name := "<init>", desc := "()V" } : Jvm.MethodName) prog_4_method_1_code (1 : Nat) (Option.none : Option Jvm.ClassFile.FieldType)).before a0 Z = true := hw _ (List.mem_of_getElem? (i := 6) rfl)
theorem ow4 {a0 : Array Value} {Z : State} (hw : ∀ d ∈ tables_1, d.before a0 Z = true) : (Jvm.Cond.methodLink "com/example/gapstride/gapstride/CountersSwapPinLaw" (9 : Nat) ({ cls := "com/example/gapstride/gapstride/Counters", name := "<init>", desc := "()V" } : Jvm.MethodName)).before a0 Z = true := hw _ (List.mem_of_getElem? (i := 4) rfl)
theorem ow5 {a0 : Array Value} {Z : State} (hw : ∀ d ∈ tables_1, d.before a0 Z = true) : (Jvm.Cond.instanceMethod ({ cls := "com/example/gapstride/gapstride/Counters", name := "<init>", desc := "()V" } : Jvm.MethodName)).before a0 Z = true := hw _ (List.mem_of_getElem? (i := 5) rfl)
theorem ef_own_rm0 (m : MethodId) (x0 : Int32) (x1 : Int32) (x2 : Int32) (x3 : Int32) (x4 : Int32) : entryFrame m #[(.int x0), (.int x1), (.int x2), (.int x3), (.int x4)] maxLocals = mkF m 0 #[.val (.int x0), .val (.int x1), .val (.int x2), .val (.int x3), .val (.int x4), .unset, .unset, .unset, .unset, .unset, .unset, .unset, .unset, .unset, .unset, .unset] [] := by first | (simp [entryFrame, mkF, argsToLocals, Value.category, maxLocals]; done) | rfl
theorem pn_com_example_gapstride_gapstride_CountersSwapPinLaw_law__IIIII_Z : plainFor (⟨"com/example/gapstride/gapstride/CountersSwapPinLaw", "law", "(IIIII)Z"⟩ : MethodName) = true := plainFor_of_name (by first | (simp [plainName, overriddenIn]; done) | decide +kernel)
set_option maxRecDepth 65536 in
set_option maxHeartbeats 40000000 in
theorem own_rm0 (l : Launch) (Z : State) (a0 : Array Value) (hw : ∀ d ∈ tables_1, d.before a0 Z = true) (n0 : Nat) (hO : Heap) (p1 : Int32) (p2 : Int32) (p3 : Int32) (p4 : Int32) (p5 : Int32) (Z0 : n0 ≤ hO.size) :
    MeetsW l Z n0 x code maxLocals ret room_1 #[(.int p1), (.int p2), (.int p3), (.int p4), (.int p5)] hO (RI fun r h => r = 1) := by
  refine MeetsW.intro (show plainFor x = true from pn_com_example_gapstride_gapstride_CountersSwapPinLaw_law__IIIII_Z) (fun m => ef_own_rm0 m p1 p2 p3 p4 p5) ?_
  intro W C
  replace C : Ru l Z "com/example/gapstride/gapstride/CountersSwapPinLaw" code maxLocals ret "law" room_1 n0 (RI fun r h => r = 1) W := C
  have K : Keep hO hO [] := Keep.refl _ _
  refine C.iload (pc' := 2) at_0 rfl rfl ?_
  refine C.iconst (v := 3) (pc' := 3) at_2 rfl rfl ?_
  refine C.iand (pc' := 4) at_3 rfl ?_
  refine C.istore (f := fun v_ => #[.val (.int p1), .val (.int p2), .val (.int p3), .val (.int p4), .val (.int p5), .val (.int v_), .unset, .unset, .unset, .unset, .unset, .unset, .unset, .unset, .unset, .unset]) (pc' := 6) at_4 rfl (fun _ => rfl) (fun v4 e4 => ?_)
  refine C.iload (pc' := 8) at_6 rfl rfl ?_
  refine C.iconst (v := 2) (pc' := 9) at_8 rfl rfl ?_
  refine C.iushr (s := 2) (pc' := 10) at_9 rfl (by decide) ?_
  refine C.iconst (v := 3) (pc' := 11) at_10 rfl rfl ?_
  refine C.iand (pc' := 12) at_11 rfl ?_
  refine C.istore (f := fun v_ => #[.val (.int p1), .val (.int p2), .val (.int p3), .val (.int p4), .val (.int p5), .val (.int v4), .val (.int v_), .unset, .unset, .unset, .unset, .unset, .unset, .unset, .unset, .unset]) (pc' := 14) at_12 rfl (fun _ => rfl) (fun v12 e12 => ?_)
  refine C.iload (pc' := 16) at_14 rfl rfl ?_
  refine C.iconst (v := 4) (pc' := 17) at_16 rfl rfl ?_
  refine C.iushr (s := 4) (pc' := 18) at_17 rfl (by decide) ?_
  refine C.iconst (v := 1) (pc' := 19) at_18 rfl rfl ?_
  refine C.iand (pc' := 20) at_19 rfl ?_
  refine C.if_ne (pc' := 23) (pt := 27) at_20 rfl rfl (fun c20 => ?_) (fun c20 => ?_)
  · skip
    refine C.iconst (v := 0) (pc' := 28) at_27 rfl rfl ?_
    refine C.istoreX (l' := #[.val (.int p1), .val (.int p2), .val (.int p3), .val (.int p4), .val (.int p5), .val (.int v4), .val (.int v12), .val (.int (0 : Int32)), .unset, .unset, .unset, .unset, .unset, .unset, .unset, .unset]) (pc' := 30) at_28 rfl rfl ?_
    refine C.iconst (v := 4) (pc' := 31) at_30 rfl rfl ?_
    refine C.newAI (N := 4) (cap := 4) (ow0 hw) (pc' := 33) at_31 rfl (by decide) (by decide) (by decide) (by decide) (by decide) (fun h31 b31 hb31 X31 A_b31 => ?_)
    have sz_b31 : hO.size ≤ b31 := by rw [hb31]; exact K.1
    have g_b31 : n0 ≤ b31 := Nat.le_trans Z0 sz_b31
    replace K := K.ext X31
    replace A_b31 : AI Z h31 b31 [(0 : Int32), (0 : Int32), (0 : Int32), (0 : Int32)] := A_b31
    refine C.dup (pc' := 34) at_33 rfl rfl ?_
    refine C.iconst (v := 0) (pc' := 35) at_34 rfl rfl ?_
    refine C.iloadN (pc' := 36) at_35 rfl rfl ?_
    refine C.stAI (i := 0) A_b31 (by decide) (by show 0 < 4; decide) g_b31 (pc' := 37) at_36 rfl (fun h36 X36 B36 => ?_)
    have A_b31 : AI Z h36 b31 [p1, (0 : Int32), (0 : Int32), (0 : Int32)] := B36
    replace K := K.wr X36 (Or.inr sz_b31)
    refine C.dup (pc' := 38) at_37 rfl rfl ?_
    refine C.iconst (v := 1) (pc' := 39) at_38 rfl rfl ?_
    refine C.iloadN (pc' := 40) at_39 rfl rfl ?_
    refine C.stAI (i := 1) A_b31 (by decide) (by show 1 < 4; decide) g_b31 (pc' := 41) at_40 rfl (fun h40 X40 B40 => ?_)
    have A_b31 : AI Z h40 b31 [p1, p2, (0 : Int32), (0 : Int32)] := B40
    replace K := K.wr X40 (Or.inr sz_b31)
    refine C.dup (pc' := 42) at_41 rfl rfl ?_
    refine C.iconst (v := 2) (pc' := 43) at_42 rfl rfl ?_
    refine C.iloadN (pc' := 44) at_43 rfl rfl ?_
    refine C.stAI (i := 2) A_b31 (by decide) (by show 2 < 4; decide) g_b31 (pc' := 45) at_44 rfl (fun h44 X44 B44 => ?_)
    have A_b31 : AI Z h44 b31 [p1, p2, p3, (0 : Int32)] := B44
    replace K := K.wr X44 (Or.inr sz_b31)
    refine C.dup (pc' := 46) at_45 rfl rfl ?_
    refine C.iconst (v := 3) (pc' := 47) at_46 rfl rfl ?_
    refine C.iloadN (pc' := 48) at_47 rfl rfl ?_
    refine C.stAI (i := 3) A_b31 (by decide) (by show 3 < 4; decide) g_b31 (pc' := 49) at_48 rfl (fun h48 X48 B48 => ?_)
    have A_b31 : AI Z h48 b31 [p1, p2, p3, p4] := B48
    replace K := K.wr X48 (Or.inr sz_b31)
    refine C.astore (l' := #[.val (.int p1), .val (.int p2), .val (.int p3), .val (.int p4), .val (.int p5), .val (.int v4), .val (.int v12), .val (.int (0 : Int32)), .val (.ref b31), .unset, .unset, .unset, .unset, .unset, .unset, .unset]) (pc' := 51) at_49 rfl rfl rfl ?_
    refine C.iconst (v := 4) (pc' := 52) at_51 rfl rfl ?_
    refine C.newAI (N := 4) (cap := 4) (ow0 hw) (pc' := 54) at_52 rfl (by decide) (by decide) (by decide) (by decide) (by decide) (fun h52 b52 hb52 X52 A_b52 => ?_)
    have ne_b31_b52 : b31 ≠ b52 := by rw [hb52]; exact Nat.ne_of_lt A_b31.lt
    have sz_b52 : hO.size ≤ b52 := by rw [hb52]; exact K.1
    have g_b52 : n0 ≤ b52 := Nat.le_trans Z0 sz_b52
    replace A_b31 := A_b31.ext X52
    replace K := K.ext X52
    replace A_b52 : AI Z h52 b52 [(0 : Int32), (0 : Int32), (0 : Int32), (0 : Int32)] := A_b52
    refine C.dup (pc' := 55) at_54 rfl rfl ?_
    refine C.iconst (v := 0) (pc' := 56) at_55 rfl rfl ?_
    refine C.iloadN (pc' := 57) at_56 rfl rfl ?_
    refine C.stAI (i := 0) A_b52 (by decide) (by show 0 < 4; decide) g_b52 (pc' := 58) at_57 rfl (fun h57 X57 B57 => ?_)
    replace A_b31 := A_b31.other X57 ne_b31_b52
    have A_b52 : AI Z h57 b52 [p1, (0 : Int32), (0 : Int32), (0 : Int32)] := B57
    replace K := K.wr X57 (Or.inr sz_b52)
    refine C.dup (pc' := 59) at_58 rfl rfl ?_
    refine C.iconst (v := 1) (pc' := 60) at_59 rfl rfl ?_
    refine C.iloadN (pc' := 61) at_60 rfl rfl ?_
    refine C.stAI (i := 1) A_b52 (by decide) (by show 1 < 4; decide) g_b52 (pc' := 62) at_61 rfl (fun h61 X61 B61 => ?_)
    replace A_b31 := A_b31.other X61 ne_b31_b52
    have A_b52 : AI Z h61 b52 [p1, p2, (0 : Int32), (0 : Int32)] := B61
    replace K := K.wr X61 (Or.inr sz_b52)
    refine C.dup (pc' := 63) at_62 rfl rfl ?_
    refine C.iconst (v := 2) (pc' := 64) at_63 rfl rfl ?_
    refine C.iloadN (pc' := 65) at_64 rfl rfl ?_
    refine C.stAI (i := 2) A_b52 (by decide) (by show 2 < 4; decide) g_b52 (pc' := 66) at_65 rfl (fun h65 X65 B65 => ?_)
    replace A_b31 := A_b31.other X65 ne_b31_b52
    have A_b52 : AI Z h65 b52 [p1, p2, p3, (0 : Int32)] := B65
    replace K := K.wr X65 (Or.inr sz_b52)
    refine C.dup (pc' := 67) at_66 rfl rfl ?_
    refine C.iconst (v := 3) (pc' := 68) at_67 rfl rfl ?_
    refine C.iloadN (pc' := 69) at_68 rfl rfl ?_
    refine C.stAI (i := 3) A_b52 (by decide) (by show 3 < 4; decide) g_b52 (pc' := 70) at_69 rfl (fun h69 X69 B69 => ?_)
    replace A_b31 := A_b31.other X69 ne_b31_b52
    have A_b52 : AI Z h69 b52 [p1, p2, p3, p4] := B69
    replace K := K.wr X69 (Or.inr sz_b52)
    refine C.astore (l' := #[.val (.int p1), .val (.int p2), .val (.int p3), .val (.int p4), .val (.int p5), .val (.int v4), .val (.int v12), .val (.int (0 : Int32)), .val (.ref b31), .val (.ref b52), .unset, .unset, .unset, .unset, .unset, .unset]) (pc' := 72) at_70 rfl rfl rfl ?_
    refine C.iload (pc' := 74) at_72 rfl rfl ?_
    refine C.if_eq (pc' := 77) (pt := 87) at_74 rfl rfl (fun c74 => ?_) (fun c74 => absurd rfl c74)
    refine C.calls (w := 0) (own_rm8 l Z a0 hw n0 h69 (Nat.le_trans Z0 K.1)) (ow45 hw) (ow46 hw) (ow3 hw) (ow47 hw) (pc' := 90) at_87 rfl rfl rfl (by decide) pd___Lcom_example_gapstride_gapstride_Counters_ rfl (by decide) (Nat.le_of_eq rfl) (by decide) (by decide) (by decide) (kA fun r87 h87 q87 => ?_)
    obtain ⟨K87, z87_r87, N87_0, N87_1, N87_2, N87_3⟩ := q87
    have ne_b31_r87 : b31 ≠ r87 := Nat.ne_of_lt (Nat.lt_of_lt_of_le A_b31.lt z87_r87)
    have ne_b52_r87 : b52 ≠ r87 := Nat.ne_of_lt (Nat.lt_of_lt_of_le A_b52.lt z87_r87)
    have sz_r87 : hO.size ≤ r87 := Nat.le_trans K.1 z87_r87
    have g_r87 : n0 ≤ r87 := Nat.le_trans Z0 sz_r87
    replace A_b31 := A_b31.keep K87 nin0
    replace A_b52 := A_b52.keep K87 nin0
    have E_r87 : Exa Z h87 r87 "com/example/gapstride/gapstride/Counters" := N87_0
    have F_r87_counting : Fld Z h87 r87 "com/example/gapstride/gapstride/Counters" "counting" "Z" (.int (0 : Int32)) := N87_1
    have F_r87_swaps : Fld Z h87 r87 "com/example/gapstride/gapstride/Counters" "swaps" "J" (.long (0 : Int64)) := N87_2
    have F_r87_moves : Fld Z h87 r87 "com/example/gapstride/gapstride/Counters" "moves" "J" (.long (0 : Int64)) := N87_3
    replace K := K.trans K87 all0
    refine C.astore (l' := #[.val (.int p1), .val (.int p2), .val (.int p3), .val (.int p4), .val (.int p5), .val (.int v4), .val (.int v12), .val (.int (0 : Int32)), .val (.ref b31), .val (.ref b52), .val (.ref r87), .unset, .unset, .unset, .unset, .unset]) (pc' := 92) at_90 rfl rfl rfl ?_
    refine C.aload (pc' := 94) at_92 rfl rfl rfl ?_
    refine C.aload (pc' := 96) at_94 rfl rfl rfl ?_
    refine C.iload (pc' := 98) at_96 rfl rfl ?_
    refine C.iload (pc' := 100) at_98 rfl rfl ?_
    refine C.callv (w := 0) (own_rm4 l Z a0 hw n0 h87 r87 b52 v4 v12 (0 : Int32) (0 : Int64) (0 : Int64) [p1, p2, p3, p4] v4.toInt.toNat v12.toInt.toNat (Nat.le_trans Z0 K.1) E_r87 F_r87_counting F_r87_swaps F_r87_moves A_b52 g_r87 g_b52 (Ne.symm ne_b52_r87) (own_i (own_m e4)).1 (own_i (own_m e12)).1 (by (try simp only [List.length_set]); exact (own_i (own_m e4)).2) (by (try simp only [List.length_set]); exact (own_i (own_m e12)).2)) E_r87 (ow20 hw) (ow21 hw) (ow23 hw) (ow22 hw) (ow3 hw) (ow24 hw) (pc' := 103) at_100 rfl rfl rfl (by decide) pd___III_V rfl (by decide) (Nat.le_of_eq rfl) (by decide) (by decide) (by decide) (kV fun h100 q100 => ?_)
    obtain ⟨K100, N100_0, N100_1, N100_2, N100_3⟩ := q100
    replace A_b31 := A_b31.keep K100 (ninS ne_b31_r87 (ninS ne_b31_b52 nin0))
    replace E_r87 := E_r87.keep K100
    have F_r87_counting : Fld Z h100 r87 "com/example/gapstride/gapstride/Counters" "counting" "Z" (.int (0 : Int32)) := N100_0
    have F_r87_swaps : Fld Z h100 r87 "com/example/gapstride/gapstride/Counters" "swaps" "J" (.long (if (0 : Int32) = 0 then (0 : Int64) else (0 : Int64) + 1)) := N100_1
    have F_r87_moves : Fld Z h100 r87 "com/example/gapstride/gapstride/Counters" "moves" "J" (.long (if (0 : Int32) = 0 then (0 : Int64) else (0 : Int64) + 2)) := N100_2
    have A_b52 : AI Z h100 b52 (([p1, p2, p3, p4].set v4.toInt.toNat ([p1, p2, p3, p4].getD v12.toInt.toNat 0)).set v12.toInt.toNat ([p1, p2, p3, p4].getD v4.toInt.toNat 0)) := N100_3
    replace K := K.trans K100 (allS (Or.inr sz_r87) (allS (Or.inr sz_b52) all0))
    refine C.iload (pc' := 105) at_103 rfl rfl ?_
    refine C.if_eq (pc' := 108) (pt := 112) at_105 rfl rfl (fun c105 => ?_) (fun c105 => absurd rfl c105)
    refine C.lconst (v := 0) (pc' := 113) at_112 rfl rfl ?_
    refine C.lstoreX (l' := #[.val (.int p1), .val (.int p2), .val (.int p3), .val (.int p4), .val (.int p5), .val (.int v4), .val (.int v12), .val (.int (0 : Int32)), .val (.ref b31), .val (.ref b52), .val (.ref r87), .val (.long (0 : Int64)), .second, .unset, .unset, .unset]) (pc' := 115) at_113 rfl rfl ?_
    refine C.iload (pc' := 117) at_115 rfl rfl ?_
    refine C.if_eq (pc' := 120) (pt := 126) at_117 rfl rfl (fun c117 => ?_) (fun c117 => absurd rfl c117)
    refine C.lconst (v := 0) (pc' := 127) at_126 rfl rfl ?_
    refine C.lstoreX (l' := #[.val (.int p1), .val (.int p2), .val (.int p3), .val (.int p4), .val (.int p5), .val (.int v4), .val (.int v12), .val (.int (0 : Int32)), .val (.ref b31), .val (.ref b52), .val (.ref r87), .val (.long (0 : Int64)), .second, .val (.long (0 : Int64)), .second, .unset]) (pc' := 129) at_127 rfl rfl ?_
    refine C.aload (pc' := 131) at_129 rfl rfl rfl ?_
    refine C.iconst (v := 0) (pc' := 132) at_131 rfl rfl ?_
    refine C.ldAI (i := 0) (v := ((([p1, p2, p3, p4].set v4.toInt.toNat ([p1, p2, p3, p4].getD v12.toInt.toNat 0)).set v12.toInt.toNat ([p1, p2, p3, p4].getD v4.toInt.toNat 0)).getD 0 0)) A_b52 (by decide) (Jvm.OwnP.getD_some (by (try simp only [List.length_set]); show 0 < 4; decide)) (pc' := 133) at_132 rfl ?_
    refine C.aload (pc' := 135) at_133 rfl rfl rfl ?_
    refine C.iconst (v := 0) (pc' := 136) at_135 rfl rfl ?_
    refine C.iload (pc' := 138) at_136 rfl rfl ?_
    refine C.iload (pc' := 140) at_138 rfl rfl ?_
    refine C.calls (w := 1) (own_rm5 l Z a0 hw n0 h100 b31 (0 : Int32) v4 v12 [p1, p2, p3, p4] 0 v4.toInt.toNat v12.toInt.toNat A_b31 (by decide) (own_i (own_m e4)).1 (own_i (own_m e12)).1 (by show 0 < 4; decide) (own_i (own_m e4)).2 (own_i (own_m e12)).2) (ow31 hw) (ow32 hw) (ow33 hw) (ow34 hw) (pc' := 143) at_140 rfl rfl rfl (by decide) pd___IIII_I rfl (by decide) (Nat.le_of_eq rfl) (by decide) (by decide) (by decide) (kIe ?_)
    refine C.icmp_ne (pc' := 146) (pt := 201) at_143 rfl rfl (fun c143 => absurd (own_a0 (own_m e4) (own_m e12)) c143) (fun c143 => ?_)
    refine C.aload (pc' := 148) at_146 rfl rfl rfl ?_
    refine C.iconst (v := 1) (pc' := 149) at_148 rfl rfl ?_
    refine C.ldAI (i := 1) (v := ((([p1, p2, p3, p4].set v4.toInt.toNat ([p1, p2, p3, p4].getD v12.toInt.toNat 0)).set v12.toInt.toNat ([p1, p2, p3, p4].getD v4.toInt.toNat 0)).getD 1 0)) A_b52 (by decide) (Jvm.OwnP.getD_some (by (try simp only [List.length_set]); show 1 < 4; decide)) (pc' := 150) at_149 rfl ?_
    refine C.aload (pc' := 152) at_150 rfl rfl rfl ?_
    refine C.iconst (v := 1) (pc' := 153) at_152 rfl rfl ?_
    refine C.iload (pc' := 155) at_153 rfl rfl ?_
    refine C.iload (pc' := 157) at_155 rfl rfl ?_
    refine C.calls (w := 1) (own_rm5 l Z a0 hw n0 h100 b31 (1 : Int32) v4 v12 [p1, p2, p3, p4] 1 v4.toInt.toNat v12.toInt.toNat A_b31 (by decide) (own_i (own_m e4)).1 (own_i (own_m e12)).1 (by show 1 < 4; decide) (own_i (own_m e4)).2 (own_i (own_m e12)).2) (ow31 hw) (ow32 hw) (ow33 hw) (ow34 hw) (pc' := 160) at_157 rfl rfl rfl (by decide) pd___IIII_I rfl (by decide) (Nat.le_of_eq rfl) (by decide) (by decide) (by decide) (kIe ?_)
    refine C.icmp_ne (pc' := 163) (pt := 201) at_160 rfl rfl (fun c160 => absurd (own_a1 (own_m e4) (own_m e12)) c160) (fun c160 => ?_)
    refine C.aload (pc' := 165) at_163 rfl rfl rfl ?_
    refine C.iconst (v := 2) (pc' := 166) at_165 rfl rfl ?_
    refine C.ldAI (i := 2) (v := ((([p1, p2, p3, p4].set v4.toInt.toNat ([p1, p2, p3, p4].getD v12.toInt.toNat 0)).set v12.toInt.toNat ([p1, p2, p3, p4].getD v4.toInt.toNat 0)).getD 2 0)) A_b52 (by decide) (Jvm.OwnP.getD_some (by (try simp only [List.length_set]); show 2 < 4; decide)) (pc' := 167) at_166 rfl ?_
    refine C.aload (pc' := 169) at_167 rfl rfl rfl ?_
    refine C.iconst (v := 2) (pc' := 170) at_169 rfl rfl ?_
    refine C.iload (pc' := 172) at_170 rfl rfl ?_
    refine C.iload (pc' := 174) at_172 rfl rfl ?_
    refine C.calls (w := 1) (own_rm5 l Z a0 hw n0 h100 b31 (2 : Int32) v4 v12 [p1, p2, p3, p4] 2 v4.toInt.toNat v12.toInt.toNat A_b31 (by decide) (own_i (own_m e4)).1 (own_i (own_m e12)).1 (by show 2 < 4; decide) (own_i (own_m e4)).2 (own_i (own_m e12)).2) (ow31 hw) (ow32 hw) (ow33 hw) (ow34 hw) (pc' := 177) at_174 rfl rfl rfl (by decide) pd___IIII_I rfl (by decide) (Nat.le_of_eq rfl) (by decide) (by decide) (by decide) (kIe ?_)
    refine C.icmp_ne (pc' := 180) (pt := 201) at_177 rfl rfl (fun c177 => absurd (own_a2 (own_m e4) (own_m e12)) c177) (fun c177 => ?_)
    refine C.aload (pc' := 182) at_180 rfl rfl rfl ?_
    refine C.iconst (v := 3) (pc' := 183) at_182 rfl rfl ?_
    refine C.ldAI (i := 3) (v := ((([p1, p2, p3, p4].set v4.toInt.toNat ([p1, p2, p3, p4].getD v12.toInt.toNat 0)).set v12.toInt.toNat ([p1, p2, p3, p4].getD v4.toInt.toNat 0)).getD 3 0)) A_b52 (by decide) (Jvm.OwnP.getD_some (by (try simp only [List.length_set]); show 3 < 4; decide)) (pc' := 184) at_183 rfl ?_
    refine C.aload (pc' := 186) at_184 rfl rfl rfl ?_
    refine C.iconst (v := 3) (pc' := 187) at_186 rfl rfl ?_
    refine C.iload (pc' := 189) at_187 rfl rfl ?_
    refine C.iload (pc' := 191) at_189 rfl rfl ?_
    refine C.calls (w := 1) (own_rm5 l Z a0 hw n0 h100 b31 (3 : Int32) v4 v12 [p1, p2, p3, p4] 3 v4.toInt.toNat v12.toInt.toNat A_b31 (by decide) (own_i (own_m e4)).1 (own_i (own_m e12)).1 (by show 3 < 4; decide) (own_i (own_m e4)).2 (own_i (own_m e12)).2) (ow31 hw) (ow32 hw) (ow33 hw) (ow34 hw) (pc' := 194) at_191 rfl rfl rfl (by decide) pd___IIII_I rfl (by decide) (Nat.le_of_eq rfl) (by decide) (by decide) (by decide) (kIe ?_)
    refine C.icmp_ne (pc' := 197) (pt := 201) at_194 rfl rfl (fun c194 => absurd (own_a3 (own_m e4) (own_m e12)) c194) (fun c194 => ?_)
    refine C.iconst (v := 1) (pc' := 198) at_197 rfl rfl ?_
    refine C.goto (pc' := 202) at_198 rfl ?_
    refine C.istoreX (l' := #[.val (.int p1), .val (.int p2), .val (.int p3), .val (.int p4), .val (.int p5), .val (.int v4), .val (.int v12), .val (.int (0 : Int32)), .val (.ref b31), .val (.ref b52), .val (.ref r87), .val (.long (0 : Int64)), .second, .val (.long (0 : Int64)), .second, .val (.int (1 : Int32))]) (pc' := 204) at_202 rfl rfl ?_
    refine C.iload (pc' := 206) at_204 rfl rfl ?_
    refine C.if_eq (pc' := 209) (pt := 235) at_206 rfl rfl (fun c206 => absurd c206 (by decide)) (fun c206 => ?_)
    refine C.aload (pc' := 211) at_209 rfl rfl rfl ?_
    refine C.callv (w := 0) (own_rm6 l Z a0 hw n0 h100 r87 (if (0 : Int32) = 0 then (0 : Int64) else (0 : Int64) + 1) F_r87_swaps) E_r87 (ow35 hw) (ow36 hw) (ow38 hw) (ow37 hw) (ow3 hw) (ow39 hw) (pc' := 214) at_211 rfl rfl rfl (by decide) pd___J rfl (by decide) (Nat.le_of_eq rfl) (by decide) (by decide) (by decide) (kJe ?_)
    refine C.lload (pc' := 216) at_214 rfl rfl ?_
    refine C.lif_ne (pc' := 220) (pt := 235) at_216 rfl at_217 rfl rfl (fun c216 => absurd (by decide) c216) (fun c216 => ?_)
    refine C.aload (pc' := 222) at_220 rfl rfl rfl ?_
    refine C.callv (w := 0) (own_rm7 l Z a0 hw n0 h100 r87 (if (0 : Int32) = 0 then (0 : Int64) else (0 : Int64) + 2) F_r87_moves) E_r87 (ow40 hw) (ow41 hw) (ow43 hw) (ow42 hw) (ow3 hw) (ow44 hw) (pc' := 225) at_222 rfl rfl rfl (by decide) pd___J rfl (by decide) (Nat.le_of_eq rfl) (by decide) (by decide) (by decide) (kJe ?_)
    refine C.lload (pc' := 227) at_225 rfl rfl ?_
    refine C.lif_ne (pc' := 231) (pt := 235) at_227 rfl at_228 rfl rfl (fun c227 => absurd (by decide) c227) (fun c227 => ?_)
    refine C.iconst (v := 1) (pc' := 232) at_231 rfl rfl ?_
    refine C.goto (pc' := 236) at_232 rfl ?_
    refine C.istoreX (l' := #[.val (.int p1), .val (.int p2), .val (.int p3), .val (.int p4), .val (.int p5), .val (.int v4), .val (.int v12), .val (.int (0 : Int32)), .val (.ref b31), .val (.ref b52), .val (.ref r87), .val (.long (0 : Int64)), .second, .val (.long (0 : Int64)), .second, .val (.int (1 : Int32))]) (pc' := 238) at_236 rfl rfl ?_
    refine C.aload (pc' := 240) at_238 rfl rfl rfl ?_
    refine C.aload (pc' := 242) at_240 rfl rfl rfl ?_
    refine C.iload (pc' := 244) at_242 rfl rfl ?_
    refine C.iload (pc' := 246) at_244 rfl rfl ?_
    refine C.callv (w := 0) (own_rm4 l Z a0 hw n0 h100 r87 b52 v4 v12 (0 : Int32) (if (0 : Int32) = 0 then (0 : Int64) else (0 : Int64) + 1) (if (0 : Int32) = 0 then (0 : Int64) else (0 : Int64) + 2) (([p1, p2, p3, p4].set v4.toInt.toNat ([p1, p2, p3, p4].getD v12.toInt.toNat 0)).set v12.toInt.toNat ([p1, p2, p3, p4].getD v4.toInt.toNat 0)) v4.toInt.toNat v12.toInt.toNat (Nat.le_trans Z0 K.1) E_r87 F_r87_counting F_r87_swaps F_r87_moves A_b52 g_r87 g_b52 (Ne.symm ne_b52_r87) (own_i (own_m e4)).1 (own_i (own_m e12)).1 (by (try simp only [List.length_set]); exact (own_i (own_m e4)).2) (by (try simp only [List.length_set]); exact (own_i (own_m e12)).2)) E_r87 (ow20 hw) (ow21 hw) (ow23 hw) (ow22 hw) (ow3 hw) (ow24 hw) (pc' := 249) at_246 rfl rfl rfl (by decide) pd___III_V rfl (by decide) (Nat.le_of_eq rfl) (by decide) (by decide) (by decide) (kV fun h246 q246 => ?_)
    obtain ⟨K246, N246_0, N246_1, N246_2, N246_3⟩ := q246
    replace A_b31 := A_b31.keep K246 (ninS ne_b31_r87 (ninS ne_b31_b52 nin0))
    replace E_r87 := E_r87.keep K246
    have F_r87_counting : Fld Z h246 r87 "com/example/gapstride/gapstride/Counters" "counting" "Z" (.int (0 : Int32)) := N246_0
    have F_r87_swaps : Fld Z h246 r87 "com/example/gapstride/gapstride/Counters" "swaps" "J" (.long (if (0 : Int32) = 0 then (if (0 : Int32) = 0 then (0 : Int64) else (0 : Int64) + 1) else (if (0 : Int32) = 0 then (0 : Int64) else (0 : Int64) + 1) + 1)) := N246_1
    have F_r87_moves : Fld Z h246 r87 "com/example/gapstride/gapstride/Counters" "moves" "J" (.long (if (0 : Int32) = 0 then (if (0 : Int32) = 0 then (0 : Int64) else (0 : Int64) + 2) else (if (0 : Int32) = 0 then (0 : Int64) else (0 : Int64) + 2) + 2)) := N246_2
    have A_b52 : AI Z h246 b52 (((([p1, p2, p3, p4].set v4.toInt.toNat ([p1, p2, p3, p4].getD v12.toInt.toNat 0)).set v12.toInt.toNat ([p1, p2, p3, p4].getD v4.toInt.toNat 0)).set v4.toInt.toNat ((([p1, p2, p3, p4].set v4.toInt.toNat ([p1, p2, p3, p4].getD v12.toInt.toNat 0)).set v12.toInt.toNat ([p1, p2, p3, p4].getD v4.toInt.toNat 0)).getD v12.toInt.toNat 0)).set v12.toInt.toNat ((([p1, p2, p3, p4].set v4.toInt.toNat ([p1, p2, p3, p4].getD v12.toInt.toNat 0)).set v12.toInt.toNat ([p1, p2, p3, p4].getD v4.toInt.toNat 0)).getD v4.toInt.toNat 0)) := N246_3
    replace K := K.trans K246 (allS (Or.inr sz_r87) (allS (Or.inr sz_b52) all0))
    refine C.iload (pc' := 251) at_249 rfl rfl ?_
    refine C.if_eq (pc' := 254) (pt := 290) at_251 rfl rfl (fun c251 => absurd c251 (by decide)) (fun c251 => ?_)
    refine C.aload (pc' := 256) at_254 rfl rfl rfl ?_
    refine C.iconst (v := 0) (pc' := 257) at_256 rfl rfl ?_
    refine C.ldAI (i := 0) (v := ((((([p1, p2, p3, p4].set v4.toInt.toNat ([p1, p2, p3, p4].getD v12.toInt.toNat 0)).set v12.toInt.toNat ([p1, p2, p3, p4].getD v4.toInt.toNat 0)).set v4.toInt.toNat ((([p1, p2, p3, p4].set v4.toInt.toNat ([p1, p2, p3, p4].getD v12.toInt.toNat 0)).set v12.toInt.toNat ([p1, p2, p3, p4].getD v4.toInt.toNat 0)).getD v12.toInt.toNat 0)).set v12.toInt.toNat ((([p1, p2, p3, p4].set v4.toInt.toNat ([p1, p2, p3, p4].getD v12.toInt.toNat 0)).set v12.toInt.toNat ([p1, p2, p3, p4].getD v4.toInt.toNat 0)).getD v4.toInt.toNat 0)).getD 0 0)) A_b52 (by decide) (Jvm.OwnP.getD_some (by (try simp only [List.length_set]); show 0 < 4; decide)) (pc' := 258) at_257 rfl ?_
    refine C.iloadN (pc' := 259) at_258 rfl rfl ?_
    refine C.icmp_ne (pc' := 262) (pt := 290) at_259 rfl rfl (fun c259 => absurd (own_b0 (own_m e4) (own_m e12)) c259) (fun c259 => ?_)
    refine C.aload (pc' := 264) at_262 rfl rfl rfl ?_
    refine C.iconst (v := 1) (pc' := 265) at_264 rfl rfl ?_
    refine C.ldAI (i := 1) (v := ((((([p1, p2, p3, p4].set v4.toInt.toNat ([p1, p2, p3, p4].getD v12.toInt.toNat 0)).set v12.toInt.toNat ([p1, p2, p3, p4].getD v4.toInt.toNat 0)).set v4.toInt.toNat ((([p1, p2, p3, p4].set v4.toInt.toNat ([p1, p2, p3, p4].getD v12.toInt.toNat 0)).set v12.toInt.toNat ([p1, p2, p3, p4].getD v4.toInt.toNat 0)).getD v12.toInt.toNat 0)).set v12.toInt.toNat ((([p1, p2, p3, p4].set v4.toInt.toNat ([p1, p2, p3, p4].getD v12.toInt.toNat 0)).set v12.toInt.toNat ([p1, p2, p3, p4].getD v4.toInt.toNat 0)).getD v4.toInt.toNat 0)).getD 1 0)) A_b52 (by decide) (Jvm.OwnP.getD_some (by (try simp only [List.length_set]); show 1 < 4; decide)) (pc' := 266) at_265 rfl ?_
    refine C.iloadN (pc' := 267) at_266 rfl rfl ?_
    refine C.icmp_ne (pc' := 270) (pt := 290) at_267 rfl rfl (fun c267 => absurd (own_b1 (own_m e4) (own_m e12)) c267) (fun c267 => ?_)
    refine C.aload (pc' := 272) at_270 rfl rfl rfl ?_
    refine C.iconst (v := 2) (pc' := 273) at_272 rfl rfl ?_
    refine C.ldAI (i := 2) (v := ((((([p1, p2, p3, p4].set v4.toInt.toNat ([p1, p2, p3, p4].getD v12.toInt.toNat 0)).set v12.toInt.toNat ([p1, p2, p3, p4].getD v4.toInt.toNat 0)).set v4.toInt.toNat ((([p1, p2, p3, p4].set v4.toInt.toNat ([p1, p2, p3, p4].getD v12.toInt.toNat 0)).set v12.toInt.toNat ([p1, p2, p3, p4].getD v4.toInt.toNat 0)).getD v12.toInt.toNat 0)).set v12.toInt.toNat ((([p1, p2, p3, p4].set v4.toInt.toNat ([p1, p2, p3, p4].getD v12.toInt.toNat 0)).set v12.toInt.toNat ([p1, p2, p3, p4].getD v4.toInt.toNat 0)).getD v4.toInt.toNat 0)).getD 2 0)) A_b52 (by decide) (Jvm.OwnP.getD_some (by (try simp only [List.length_set]); show 2 < 4; decide)) (pc' := 274) at_273 rfl ?_
    refine C.iloadN (pc' := 275) at_274 rfl rfl ?_
    refine C.icmp_ne (pc' := 278) (pt := 290) at_275 rfl rfl (fun c275 => absurd (own_b2 (own_m e4) (own_m e12)) c275) (fun c275 => ?_)
    refine C.aload (pc' := 280) at_278 rfl rfl rfl ?_
    refine C.iconst (v := 3) (pc' := 281) at_280 rfl rfl ?_
    refine C.ldAI (i := 3) (v := ((((([p1, p2, p3, p4].set v4.toInt.toNat ([p1, p2, p3, p4].getD v12.toInt.toNat 0)).set v12.toInt.toNat ([p1, p2, p3, p4].getD v4.toInt.toNat 0)).set v4.toInt.toNat ((([p1, p2, p3, p4].set v4.toInt.toNat ([p1, p2, p3, p4].getD v12.toInt.toNat 0)).set v12.toInt.toNat ([p1, p2, p3, p4].getD v4.toInt.toNat 0)).getD v12.toInt.toNat 0)).set v12.toInt.toNat ((([p1, p2, p3, p4].set v4.toInt.toNat ([p1, p2, p3, p4].getD v12.toInt.toNat 0)).set v12.toInt.toNat ([p1, p2, p3, p4].getD v4.toInt.toNat 0)).getD v4.toInt.toNat 0)).getD 3 0)) A_b52 (by decide) (Jvm.OwnP.getD_some (by (try simp only [List.length_set]); show 3 < 4; decide)) (pc' := 282) at_281 rfl ?_
    refine C.iloadN (pc' := 283) at_282 rfl rfl ?_
    refine C.icmp_ne (pc' := 286) (pt := 290) at_283 rfl rfl (fun c283 => absurd (own_b3 (own_m e4) (own_m e12)) c283) (fun c283 => ?_)
    refine C.iconst (v := 1) (pc' := 287) at_286 rfl rfl ?_
    refine C.goto (pc' := 291) at_287 rfl ?_
    refine C.istoreX (l' := #[.val (.int p1), .val (.int p2), .val (.int p3), .val (.int p4), .val (.int p5), .val (.int v4), .val (.int v12), .val (.int (0 : Int32)), .val (.ref b31), .val (.ref b52), .val (.ref r87), .val (.long (0 : Int64)), .second, .val (.long (0 : Int64)), .second, .val (.int (1 : Int32))]) (pc' := 293) at_291 rfl rfl ?_
    refine C.iload (pc' := 295) at_293 rfl rfl ?_
    refine C.if_eq (pc' := 298) (pt := 332) at_295 rfl rfl (fun c295 => absurd c295 (by decide)) (fun c295 => ?_)
    refine C.aload (pc' := 300) at_298 rfl rfl rfl ?_
    refine C.callv (w := 0) (own_rm6 l Z a0 hw n0 h246 r87 (if (0 : Int32) = 0 then (if (0 : Int32) = 0 then (0 : Int64) else (0 : Int64) + 1) else (if (0 : Int32) = 0 then (0 : Int64) else (0 : Int64) + 1) + 1) F_r87_swaps) E_r87 (ow35 hw) (ow36 hw) (ow38 hw) (ow37 hw) (ow3 hw) (ow39 hw) (pc' := 303) at_300 rfl rfl rfl (by decide) pd___J rfl (by decide) (Nat.le_of_eq rfl) (by decide) (by decide) (by decide) (kJe ?_)
    refine C.ldcJ (ow30 hw) (pc' := 306) at_303 rfl ?_
    refine C.lload (pc' := 308) at_306 rfl rfl ?_
    refine C.lmul (pc' := 309) at_308 rfl ?_
    refine C.lif_ne (pc' := 313) (pt := 332) at_309 rfl at_310 rfl rfl (fun c309 => absurd (by decide) c309) (fun c309 => ?_)
    refine C.aload (pc' := 315) at_313 rfl rfl rfl ?_
    refine C.callv (w := 0) (own_rm7 l Z a0 hw n0 h246 r87 (if (0 : Int32) = 0 then (if (0 : Int32) = 0 then (0 : Int64) else (0 : Int64) + 2) else (if (0 : Int32) = 0 then (0 : Int64) else (0 : Int64) + 2) + 2) F_r87_moves) E_r87 (ow40 hw) (ow41 hw) (ow43 hw) (ow42 hw) (ow3 hw) (ow44 hw) (pc' := 318) at_315 rfl rfl rfl (by decide) pd___J rfl (by decide) (Nat.le_of_eq rfl) (by decide) (by decide) (by decide) (kJe ?_)
    refine C.ldcJ (ow30 hw) (pc' := 321) at_318 rfl ?_
    refine C.lload (pc' := 323) at_321 rfl rfl ?_
    refine C.lmul (pc' := 324) at_323 rfl ?_
    refine C.lif_ne (pc' := 328) (pt := 332) at_324 rfl at_325 rfl rfl (fun c324 => absurd (by decide) c324) (fun c324 => ?_)
    refine C.iconst (v := 1) (pc' := 329) at_328 rfl rfl ?_
    refine C.goto (pc' := 333) at_329 rfl ?_
    refine C.istoreX (l' := #[.val (.int p1), .val (.int p2), .val (.int p3), .val (.int p4), .val (.int p5), .val (.int v4), .val (.int v12), .val (.int (0 : Int32)), .val (.ref b31), .val (.ref b52), .val (.ref r87), .val (.long (0 : Int64)), .second, .val (.long (0 : Int64)), .second, .val (.int (1 : Int32))]) (pc' := 335) at_333 rfl rfl ?_
    refine C.iload (pc' := 337) at_335 rfl rfl ?_
    refine C.retZ (show ret = some .boolean from rfl) (by decide) at_337 (by decide) (by decide) ⟨_, rfl, rfl⟩
  · skip
    refine C.iconst (v := 1) (pc' := 24) at_23 rfl rfl ?_
    refine C.goto (pc' := 28) at_24 rfl ?_
    refine C.istoreX (l' := #[.val (.int p1), .val (.int p2), .val (.int p3), .val (.int p4), .val (.int p5), .val (.int v4), .val (.int v12), .val (.int (1 : Int32)), .unset, .unset, .unset, .unset, .unset, .unset, .unset, .unset]) (pc' := 30) at_28 rfl rfl ?_
    refine C.iconst (v := 4) (pc' := 31) at_30 rfl rfl ?_
    refine C.newAI (N := 4) (cap := 4) (ow0 hw) (pc' := 33) at_31 rfl (by decide) (by decide) (by decide) (by decide) (by decide) (fun h31 b31 hb31 X31 A_b31 => ?_)
    have sz_b31 : hO.size ≤ b31 := by rw [hb31]; exact K.1
    have g_b31 : n0 ≤ b31 := Nat.le_trans Z0 sz_b31
    replace K := K.ext X31
    replace A_b31 : AI Z h31 b31 [(0 : Int32), (0 : Int32), (0 : Int32), (0 : Int32)] := A_b31
    refine C.dup (pc' := 34) at_33 rfl rfl ?_
    refine C.iconst (v := 0) (pc' := 35) at_34 rfl rfl ?_
    refine C.iloadN (pc' := 36) at_35 rfl rfl ?_
    refine C.stAI (i := 0) A_b31 (by decide) (by show 0 < 4; decide) g_b31 (pc' := 37) at_36 rfl (fun h36 X36 B36 => ?_)
    have A_b31 : AI Z h36 b31 [p1, (0 : Int32), (0 : Int32), (0 : Int32)] := B36
    replace K := K.wr X36 (Or.inr sz_b31)
    refine C.dup (pc' := 38) at_37 rfl rfl ?_
    refine C.iconst (v := 1) (pc' := 39) at_38 rfl rfl ?_
    refine C.iloadN (pc' := 40) at_39 rfl rfl ?_
    refine C.stAI (i := 1) A_b31 (by decide) (by show 1 < 4; decide) g_b31 (pc' := 41) at_40 rfl (fun h40 X40 B40 => ?_)
    have A_b31 : AI Z h40 b31 [p1, p2, (0 : Int32), (0 : Int32)] := B40
    replace K := K.wr X40 (Or.inr sz_b31)
    refine C.dup (pc' := 42) at_41 rfl rfl ?_
    refine C.iconst (v := 2) (pc' := 43) at_42 rfl rfl ?_
    refine C.iloadN (pc' := 44) at_43 rfl rfl ?_
    refine C.stAI (i := 2) A_b31 (by decide) (by show 2 < 4; decide) g_b31 (pc' := 45) at_44 rfl (fun h44 X44 B44 => ?_)
    have A_b31 : AI Z h44 b31 [p1, p2, p3, (0 : Int32)] := B44
    replace K := K.wr X44 (Or.inr sz_b31)
    refine C.dup (pc' := 46) at_45 rfl rfl ?_
    refine C.iconst (v := 3) (pc' := 47) at_46 rfl rfl ?_
    refine C.iloadN (pc' := 48) at_47 rfl rfl ?_
    refine C.stAI (i := 3) A_b31 (by decide) (by show 3 < 4; decide) g_b31 (pc' := 49) at_48 rfl (fun h48 X48 B48 => ?_)
    have A_b31 : AI Z h48 b31 [p1, p2, p3, p4] := B48
    replace K := K.wr X48 (Or.inr sz_b31)
    refine C.astore (l' := #[.val (.int p1), .val (.int p2), .val (.int p3), .val (.int p4), .val (.int p5), .val (.int v4), .val (.int v12), .val (.int (1 : Int32)), .val (.ref b31), .unset, .unset, .unset, .unset, .unset, .unset, .unset]) (pc' := 51) at_49 rfl rfl rfl ?_
    refine C.iconst (v := 4) (pc' := 52) at_51 rfl rfl ?_
    refine C.newAI (N := 4) (cap := 4) (ow0 hw) (pc' := 54) at_52 rfl (by decide) (by decide) (by decide) (by decide) (by decide) (fun h52 b52 hb52 X52 A_b52 => ?_)
    have ne_b31_b52 : b31 ≠ b52 := by rw [hb52]; exact Nat.ne_of_lt A_b31.lt
    have sz_b52 : hO.size ≤ b52 := by rw [hb52]; exact K.1
    have g_b52 : n0 ≤ b52 := Nat.le_trans Z0 sz_b52
    replace A_b31 := A_b31.ext X52
    replace K := K.ext X52
    replace A_b52 : AI Z h52 b52 [(0 : Int32), (0 : Int32), (0 : Int32), (0 : Int32)] := A_b52
    refine C.dup (pc' := 55) at_54 rfl rfl ?_
    refine C.iconst (v := 0) (pc' := 56) at_55 rfl rfl ?_
    refine C.iloadN (pc' := 57) at_56 rfl rfl ?_
    refine C.stAI (i := 0) A_b52 (by decide) (by show 0 < 4; decide) g_b52 (pc' := 58) at_57 rfl (fun h57 X57 B57 => ?_)
    replace A_b31 := A_b31.other X57 ne_b31_b52
    have A_b52 : AI Z h57 b52 [p1, (0 : Int32), (0 : Int32), (0 : Int32)] := B57
    replace K := K.wr X57 (Or.inr sz_b52)
    refine C.dup (pc' := 59) at_58 rfl rfl ?_
    refine C.iconst (v := 1) (pc' := 60) at_59 rfl rfl ?_
    refine C.iloadN (pc' := 61) at_60 rfl rfl ?_
    refine C.stAI (i := 1) A_b52 (by decide) (by show 1 < 4; decide) g_b52 (pc' := 62) at_61 rfl (fun h61 X61 B61 => ?_)
    replace A_b31 := A_b31.other X61 ne_b31_b52
    have A_b52 : AI Z h61 b52 [p1, p2, (0 : Int32), (0 : Int32)] := B61
    replace K := K.wr X61 (Or.inr sz_b52)
    refine C.dup (pc' := 63) at_62 rfl rfl ?_
    refine C.iconst (v := 2) (pc' := 64) at_63 rfl rfl ?_
    refine C.iloadN (pc' := 65) at_64 rfl rfl ?_
    refine C.stAI (i := 2) A_b52 (by decide) (by show 2 < 4; decide) g_b52 (pc' := 66) at_65 rfl (fun h65 X65 B65 => ?_)
    replace A_b31 := A_b31.other X65 ne_b31_b52
    have A_b52 : AI Z h65 b52 [p1, p2, p3, (0 : Int32)] := B65
    replace K := K.wr X65 (Or.inr sz_b52)
    refine C.dup (pc' := 67) at_66 rfl rfl ?_
    refine C.iconst (v := 3) (pc' := 68) at_67 rfl rfl ?_
    refine C.iloadN (pc' := 69) at_68 rfl rfl ?_
    refine C.stAI (i := 3) A_b52 (by decide) (by show 3 < 4; decide) g_b52 (pc' := 70) at_69 rfl (fun h69 X69 B69 => ?_)
    replace A_b31 := A_b31.other X69 ne_b31_b52
    have A_b52 : AI Z h69 b52 [p1, p2, p3, p4] := B69
    replace K := K.wr X69 (Or.inr sz_b52)
    refine C.astore (l' := #[.val (.int p1), .val (.int p2), .val (.int p3), .val (.int p4), .val (.int p5), .val (.int v4), .val (.int v12), .val (.int (1 : Int32)), .val (.ref b31), .val (.ref b52), .unset, .unset, .unset, .unset, .unset, .unset]) (pc' := 72) at_70 rfl rfl rfl ?_
    refine C.iload (pc' := 74) at_72 rfl rfl ?_
    refine C.if_eq (pc' := 77) (pt := 87) at_74 rfl rfl (fun c74 => absurd c74 (by decide)) (fun c74 => ?_)
    refine C.new (ow1 hw) (ow2 hw) (ow3 hw) (pc' := 80) at_77 rfl (by decide) (by decide) (fun h77 b77 hb77 X77 E_b77 D77 => ?_)
    have ne_b31_b77 : b31 ≠ b77 := by rw [hb77]; exact Nat.ne_of_lt A_b31.lt
    have ne_b52_b77 : b52 ≠ b77 := by rw [hb77]; exact Nat.ne_of_lt A_b52.lt
    have sz_b77 : hO.size ≤ b77 := by rw [hb77]; exact K.1
    have g_b77 : n0 ≤ b77 := Nat.le_trans Z0 sz_b77
    replace A_b31 := A_b31.ext X77
    replace A_b52 := A_b52.ext X77
    replace K := K.ext X77
    have F_b77_order : Fld Z h77 b77 "com/example/gapstride/gapstride/Counters" "order" "Lcom/example/gapstride/gapstride/Counters$Order;" .null := D77 (Or.inl (ow15 hw)) pf_Lcom_example_gapstride_gapstride_Counters_Order_
    have F_b77_counting : Fld Z h77 b77 "com/example/gapstride/gapstride/Counters" "counting" "Z" (.int (0 : Int32)) := D77 (Or.inr (ow17 hw)) pf_Z
    have F_b77_limit : Fld Z h77 b77 "com/example/gapstride/gapstride/Counters" "limit" "J" (.long (0 : Int64)) := D77 (Or.inr (ow19 hw)) pf_J
    have F_b77_swaps : Fld Z h77 b77 "com/example/gapstride/gapstride/Counters" "swaps" "J" (.long (0 : Int64)) := D77 (Or.inl (ow26 hw)) pf_J
    have F_b77_moves : Fld Z h77 b77 "com/example/gapstride/gapstride/Counters" "moves" "J" (.long (0 : Int64)) := D77 (Or.inl (ow28 hw)) pf_J
    refine C.dup (pc' := 81) at_80 rfl rfl ?_
    refine C.callc (w := 1) (own_rm1 l Z a0 hw n0 h77 b77 (Nat.le_trans Z0 K.1) E_b77 F_b77_order F_b77_counting F_b77_limit F_b77_swaps F_b77_moves g_b77) rfl (ow4 hw) (ow5 hw) (ow3 hw) (ow6 hw) (pc' := 84) at_81 rfl rfl rfl (by decide) pd___V rfl (by decide) (Nat.le_of_eq rfl) (by decide) (by decide) (by decide) (kV fun h81 q81 => ?_)
    obtain ⟨K81, N81_0, N81_1, N81_2⟩ := q81
    replace A_b31 := A_b31.keep K81 (ninS ne_b31_b77 nin0)
    replace A_b52 := A_b52.keep K81 (ninS ne_b52_b77 nin0)
    replace E_b77 := E_b77.keep K81
    have F_b77_counting : Fld Z h81 b77 "com/example/gapstride/gapstride/Counters" "counting" "Z" (.int (1 : Int32)) := N81_0
    have F_b77_swaps : Fld Z h81 b77 "com/example/gapstride/gapstride/Counters" "swaps" "J" (.long (0 : Int64)) := N81_1
    have F_b77_moves : Fld Z h81 b77 "com/example/gapstride/gapstride/Counters" "moves" "J" (.long (0 : Int64)) := N81_2
    replace K := K.trans K81 (allS (Or.inr sz_b77) all0)
    refine C.goto (pc' := 90) at_84 rfl ?_
    refine C.astore (l' := #[.val (.int p1), .val (.int p2), .val (.int p3), .val (.int p4), .val (.int p5), .val (.int v4), .val (.int v12), .val (.int (1 : Int32)), .val (.ref b31), .val (.ref b52), .val (.ref b77), .unset, .unset, .unset, .unset, .unset]) (pc' := 92) at_90 rfl rfl rfl ?_
    refine C.aload (pc' := 94) at_92 rfl rfl rfl ?_
    refine C.aload (pc' := 96) at_94 rfl rfl rfl ?_
    refine C.iload (pc' := 98) at_96 rfl rfl ?_
    refine C.iload (pc' := 100) at_98 rfl rfl ?_
    refine C.callv (w := 0) (own_rm4 l Z a0 hw n0 h81 b77 b52 v4 v12 (1 : Int32) (0 : Int64) (0 : Int64) [p1, p2, p3, p4] v4.toInt.toNat v12.toInt.toNat (Nat.le_trans Z0 K.1) E_b77 F_b77_counting F_b77_swaps F_b77_moves A_b52 g_b77 g_b52 (Ne.symm ne_b52_b77) (own_i (own_m e4)).1 (own_i (own_m e12)).1 (by (try simp only [List.length_set]); exact (own_i (own_m e4)).2) (by (try simp only [List.length_set]); exact (own_i (own_m e12)).2)) E_b77 (ow20 hw) (ow21 hw) (ow23 hw) (ow22 hw) (ow3 hw) (ow24 hw) (pc' := 103) at_100 rfl rfl rfl (by decide) pd___III_V rfl (by decide) (Nat.le_of_eq rfl) (by decide) (by decide) (by decide) (kV fun h100 q100 => ?_)
    obtain ⟨K100, N100_0, N100_1, N100_2, N100_3⟩ := q100
    replace A_b31 := A_b31.keep K100 (ninS ne_b31_b77 (ninS ne_b31_b52 nin0))
    replace E_b77 := E_b77.keep K100
    have F_b77_counting : Fld Z h100 b77 "com/example/gapstride/gapstride/Counters" "counting" "Z" (.int (1 : Int32)) := N100_0
    have F_b77_swaps : Fld Z h100 b77 "com/example/gapstride/gapstride/Counters" "swaps" "J" (.long (if (1 : Int32) = 0 then (0 : Int64) else (0 : Int64) + 1)) := N100_1
    have F_b77_moves : Fld Z h100 b77 "com/example/gapstride/gapstride/Counters" "moves" "J" (.long (if (1 : Int32) = 0 then (0 : Int64) else (0 : Int64) + 2)) := N100_2
    have A_b52 : AI Z h100 b52 (([p1, p2, p3, p4].set v4.toInt.toNat ([p1, p2, p3, p4].getD v12.toInt.toNat 0)).set v12.toInt.toNat ([p1, p2, p3, p4].getD v4.toInt.toNat 0)) := N100_3
    replace K := K.trans K100 (allS (Or.inr sz_b77) (allS (Or.inr sz_b52) all0))
    refine C.iload (pc' := 105) at_103 rfl rfl ?_
    refine C.if_eq (pc' := 108) (pt := 112) at_105 rfl rfl (fun c105 => absurd c105 (by decide)) (fun c105 => ?_)
    refine C.lconst (v := 1) (pc' := 109) at_108 rfl rfl ?_
    refine C.goto (pc' := 113) at_109 rfl ?_
    refine C.lstoreX (l' := #[.val (.int p1), .val (.int p2), .val (.int p3), .val (.int p4), .val (.int p5), .val (.int v4), .val (.int v12), .val (.int (1 : Int32)), .val (.ref b31), .val (.ref b52), .val (.ref b77), .val (.long (1 : Int64)), .second, .unset, .unset, .unset]) (pc' := 115) at_113 rfl rfl ?_
    refine C.iload (pc' := 117) at_115 rfl rfl ?_
    refine C.if_eq (pc' := 120) (pt := 126) at_117 rfl rfl (fun c117 => absurd c117 (by decide)) (fun c117 => ?_)
    refine C.ldcJ (ow30 hw) (pc' := 123) at_120 rfl ?_
    refine C.goto (pc' := 127) at_123 rfl ?_
    refine C.lstoreX (l' := #[.val (.int p1), .val (.int p2), .val (.int p3), .val (.int p4), .val (.int p5), .val (.int v4), .val (.int v12), .val (.int (1 : Int32)), .val (.ref b31), .val (.ref b52), .val (.ref b77), .val (.long (1 : Int64)), .second, .val (.long (2 : Int64)), .second, .unset]) (pc' := 129) at_127 rfl rfl ?_
    refine C.aload (pc' := 131) at_129 rfl rfl rfl ?_
    refine C.iconst (v := 0) (pc' := 132) at_131 rfl rfl ?_
    refine C.ldAI (i := 0) (v := ((([p1, p2, p3, p4].set v4.toInt.toNat ([p1, p2, p3, p4].getD v12.toInt.toNat 0)).set v12.toInt.toNat ([p1, p2, p3, p4].getD v4.toInt.toNat 0)).getD 0 0)) A_b52 (by decide) (Jvm.OwnP.getD_some (by (try simp only [List.length_set]); show 0 < 4; decide)) (pc' := 133) at_132 rfl ?_
    refine C.aload (pc' := 135) at_133 rfl rfl rfl ?_
    refine C.iconst (v := 0) (pc' := 136) at_135 rfl rfl ?_
    refine C.iload (pc' := 138) at_136 rfl rfl ?_
    refine C.iload (pc' := 140) at_138 rfl rfl ?_
    refine C.calls (w := 1) (own_rm5 l Z a0 hw n0 h100 b31 (0 : Int32) v4 v12 [p1, p2, p3, p4] 0 v4.toInt.toNat v12.toInt.toNat A_b31 (by decide) (own_i (own_m e4)).1 (own_i (own_m e12)).1 (by show 0 < 4; decide) (own_i (own_m e4)).2 (own_i (own_m e12)).2) (ow31 hw) (ow32 hw) (ow33 hw) (ow34 hw) (pc' := 143) at_140 rfl rfl rfl (by decide) pd___IIII_I rfl (by decide) (Nat.le_of_eq rfl) (by decide) (by decide) (by decide) (kIe ?_)
    refine C.icmp_ne (pc' := 146) (pt := 201) at_143 rfl rfl (fun c143 => absurd (own_a0 (own_m e4) (own_m e12)) c143) (fun c143 => ?_)
    refine C.aload (pc' := 148) at_146 rfl rfl rfl ?_
    refine C.iconst (v := 1) (pc' := 149) at_148 rfl rfl ?_
    refine C.ldAI (i := 1) (v := ((([p1, p2, p3, p4].set v4.toInt.toNat ([p1, p2, p3, p4].getD v12.toInt.toNat 0)).set v12.toInt.toNat ([p1, p2, p3, p4].getD v4.toInt.toNat 0)).getD 1 0)) A_b52 (by decide) (Jvm.OwnP.getD_some (by (try simp only [List.length_set]); show 1 < 4; decide)) (pc' := 150) at_149 rfl ?_
    refine C.aload (pc' := 152) at_150 rfl rfl rfl ?_
    refine C.iconst (v := 1) (pc' := 153) at_152 rfl rfl ?_
    refine C.iload (pc' := 155) at_153 rfl rfl ?_
    refine C.iload (pc' := 157) at_155 rfl rfl ?_
    refine C.calls (w := 1) (own_rm5 l Z a0 hw n0 h100 b31 (1 : Int32) v4 v12 [p1, p2, p3, p4] 1 v4.toInt.toNat v12.toInt.toNat A_b31 (by decide) (own_i (own_m e4)).1 (own_i (own_m e12)).1 (by show 1 < 4; decide) (own_i (own_m e4)).2 (own_i (own_m e12)).2) (ow31 hw) (ow32 hw) (ow33 hw) (ow34 hw) (pc' := 160) at_157 rfl rfl rfl (by decide) pd___IIII_I rfl (by decide) (Nat.le_of_eq rfl) (by decide) (by decide) (by decide) (kIe ?_)
    refine C.icmp_ne (pc' := 163) (pt := 201) at_160 rfl rfl (fun c160 => absurd (own_a1 (own_m e4) (own_m e12)) c160) (fun c160 => ?_)
    refine C.aload (pc' := 165) at_163 rfl rfl rfl ?_
    refine C.iconst (v := 2) (pc' := 166) at_165 rfl rfl ?_
    refine C.ldAI (i := 2) (v := ((([p1, p2, p3, p4].set v4.toInt.toNat ([p1, p2, p3, p4].getD v12.toInt.toNat 0)).set v12.toInt.toNat ([p1, p2, p3, p4].getD v4.toInt.toNat 0)).getD 2 0)) A_b52 (by decide) (Jvm.OwnP.getD_some (by (try simp only [List.length_set]); show 2 < 4; decide)) (pc' := 167) at_166 rfl ?_
    refine C.aload (pc' := 169) at_167 rfl rfl rfl ?_
    refine C.iconst (v := 2) (pc' := 170) at_169 rfl rfl ?_
    refine C.iload (pc' := 172) at_170 rfl rfl ?_
    refine C.iload (pc' := 174) at_172 rfl rfl ?_
    refine C.calls (w := 1) (own_rm5 l Z a0 hw n0 h100 b31 (2 : Int32) v4 v12 [p1, p2, p3, p4] 2 v4.toInt.toNat v12.toInt.toNat A_b31 (by decide) (own_i (own_m e4)).1 (own_i (own_m e12)).1 (by show 2 < 4; decide) (own_i (own_m e4)).2 (own_i (own_m e12)).2) (ow31 hw) (ow32 hw) (ow33 hw) (ow34 hw) (pc' := 177) at_174 rfl rfl rfl (by decide) pd___IIII_I rfl (by decide) (Nat.le_of_eq rfl) (by decide) (by decide) (by decide) (kIe ?_)
    refine C.icmp_ne (pc' := 180) (pt := 201) at_177 rfl rfl (fun c177 => absurd (own_a2 (own_m e4) (own_m e12)) c177) (fun c177 => ?_)
    refine C.aload (pc' := 182) at_180 rfl rfl rfl ?_
    refine C.iconst (v := 3) (pc' := 183) at_182 rfl rfl ?_
    refine C.ldAI (i := 3) (v := ((([p1, p2, p3, p4].set v4.toInt.toNat ([p1, p2, p3, p4].getD v12.toInt.toNat 0)).set v12.toInt.toNat ([p1, p2, p3, p4].getD v4.toInt.toNat 0)).getD 3 0)) A_b52 (by decide) (Jvm.OwnP.getD_some (by (try simp only [List.length_set]); show 3 < 4; decide)) (pc' := 184) at_183 rfl ?_
    refine C.aload (pc' := 186) at_184 rfl rfl rfl ?_
    refine C.iconst (v := 3) (pc' := 187) at_186 rfl rfl ?_
    refine C.iload (pc' := 189) at_187 rfl rfl ?_
    refine C.iload (pc' := 191) at_189 rfl rfl ?_
    refine C.calls (w := 1) (own_rm5 l Z a0 hw n0 h100 b31 (3 : Int32) v4 v12 [p1, p2, p3, p4] 3 v4.toInt.toNat v12.toInt.toNat A_b31 (by decide) (own_i (own_m e4)).1 (own_i (own_m e12)).1 (by show 3 < 4; decide) (own_i (own_m e4)).2 (own_i (own_m e12)).2) (ow31 hw) (ow32 hw) (ow33 hw) (ow34 hw) (pc' := 194) at_191 rfl rfl rfl (by decide) pd___IIII_I rfl (by decide) (Nat.le_of_eq rfl) (by decide) (by decide) (by decide) (kIe ?_)
    refine C.icmp_ne (pc' := 197) (pt := 201) at_194 rfl rfl (fun c194 => absurd (own_a3 (own_m e4) (own_m e12)) c194) (fun c194 => ?_)
    refine C.iconst (v := 1) (pc' := 198) at_197 rfl rfl ?_
    refine C.goto (pc' := 202) at_198 rfl ?_
    refine C.istoreX (l' := #[.val (.int p1), .val (.int p2), .val (.int p3), .val (.int p4), .val (.int p5), .val (.int v4), .val (.int v12), .val (.int (1 : Int32)), .val (.ref b31), .val (.ref b52), .val (.ref b77), .val (.long (1 : Int64)), .second, .val (.long (2 : Int64)), .second, .val (.int (1 : Int32))]) (pc' := 204) at_202 rfl rfl ?_
    refine C.iload (pc' := 206) at_204 rfl rfl ?_
    refine C.if_eq (pc' := 209) (pt := 235) at_206 rfl rfl (fun c206 => absurd c206 (by decide)) (fun c206 => ?_)
    refine C.aload (pc' := 211) at_209 rfl rfl rfl ?_
    refine C.callv (w := 0) (own_rm6 l Z a0 hw n0 h100 b77 (if (1 : Int32) = 0 then (0 : Int64) else (0 : Int64) + 1) F_b77_swaps) E_b77 (ow35 hw) (ow36 hw) (ow38 hw) (ow37 hw) (ow3 hw) (ow39 hw) (pc' := 214) at_211 rfl rfl rfl (by decide) pd___J rfl (by decide) (Nat.le_of_eq rfl) (by decide) (by decide) (by decide) (kJe ?_)
    refine C.lload (pc' := 216) at_214 rfl rfl ?_
    refine C.lif_ne (pc' := 220) (pt := 235) at_216 rfl at_217 rfl rfl (fun c216 => absurd (by decide) c216) (fun c216 => ?_)
    refine C.aload (pc' := 222) at_220 rfl rfl rfl ?_
    refine C.callv (w := 0) (own_rm7 l Z a0 hw n0 h100 b77 (if (1 : Int32) = 0 then (0 : Int64) else (0 : Int64) + 2) F_b77_moves) E_b77 (ow40 hw) (ow41 hw) (ow43 hw) (ow42 hw) (ow3 hw) (ow44 hw) (pc' := 225) at_222 rfl rfl rfl (by decide) pd___J rfl (by decide) (Nat.le_of_eq rfl) (by decide) (by decide) (by decide) (kJe ?_)
    refine C.lload (pc' := 227) at_225 rfl rfl ?_
    refine C.lif_ne (pc' := 231) (pt := 235) at_227 rfl at_228 rfl rfl (fun c227 => absurd (by decide) c227) (fun c227 => ?_)
    refine C.iconst (v := 1) (pc' := 232) at_231 rfl rfl ?_
    refine C.goto (pc' := 236) at_232 rfl ?_
    refine C.istoreX (l' := #[.val (.int p1), .val (.int p2), .val (.int p3), .val (.int p4), .val (.int p5), .val (.int v4), .val (.int v12), .val (.int (1 : Int32)), .val (.ref b31), .val (.ref b52), .val (.ref b77), .val (.long (1 : Int64)), .second, .val (.long (2 : Int64)), .second, .val (.int (1 : Int32))]) (pc' := 238) at_236 rfl rfl ?_
    refine C.aload (pc' := 240) at_238 rfl rfl rfl ?_
    refine C.aload (pc' := 242) at_240 rfl rfl rfl ?_
    refine C.iload (pc' := 244) at_242 rfl rfl ?_
    refine C.iload (pc' := 246) at_244 rfl rfl ?_
    refine C.callv (w := 0) (own_rm4 l Z a0 hw n0 h100 b77 b52 v4 v12 (1 : Int32) (if (1 : Int32) = 0 then (0 : Int64) else (0 : Int64) + 1) (if (1 : Int32) = 0 then (0 : Int64) else (0 : Int64) + 2) (([p1, p2, p3, p4].set v4.toInt.toNat ([p1, p2, p3, p4].getD v12.toInt.toNat 0)).set v12.toInt.toNat ([p1, p2, p3, p4].getD v4.toInt.toNat 0)) v4.toInt.toNat v12.toInt.toNat (Nat.le_trans Z0 K.1) E_b77 F_b77_counting F_b77_swaps F_b77_moves A_b52 g_b77 g_b52 (Ne.symm ne_b52_b77) (own_i (own_m e4)).1 (own_i (own_m e12)).1 (by (try simp only [List.length_set]); exact (own_i (own_m e4)).2) (by (try simp only [List.length_set]); exact (own_i (own_m e12)).2)) E_b77 (ow20 hw) (ow21 hw) (ow23 hw) (ow22 hw) (ow3 hw) (ow24 hw) (pc' := 249) at_246 rfl rfl rfl (by decide) pd___III_V rfl (by decide) (Nat.le_of_eq rfl) (by decide) (by decide) (by decide) (kV fun h246 q246 => ?_)
    obtain ⟨K246, N246_0, N246_1, N246_2, N246_3⟩ := q246
    replace A_b31 := A_b31.keep K246 (ninS ne_b31_b77 (ninS ne_b31_b52 nin0))
    replace E_b77 := E_b77.keep K246
    have F_b77_counting : Fld Z h246 b77 "com/example/gapstride/gapstride/Counters" "counting" "Z" (.int (1 : Int32)) := N246_0
    have F_b77_swaps : Fld Z h246 b77 "com/example/gapstride/gapstride/Counters" "swaps" "J" (.long (if (1 : Int32) = 0 then (if (1 : Int32) = 0 then (0 : Int64) else (0 : Int64) + 1) else (if (1 : Int32) = 0 then (0 : Int64) else (0 : Int64) + 1) + 1)) := N246_1
    have F_b77_moves : Fld Z h246 b77 "com/example/gapstride/gapstride/Counters" "moves" "J" (.long (if (1 : Int32) = 0 then (if (1 : Int32) = 0 then (0 : Int64) else (0 : Int64) + 2) else (if (1 : Int32) = 0 then (0 : Int64) else (0 : Int64) + 2) + 2)) := N246_2
    have A_b52 : AI Z h246 b52 (((([p1, p2, p3, p4].set v4.toInt.toNat ([p1, p2, p3, p4].getD v12.toInt.toNat 0)).set v12.toInt.toNat ([p1, p2, p3, p4].getD v4.toInt.toNat 0)).set v4.toInt.toNat ((([p1, p2, p3, p4].set v4.toInt.toNat ([p1, p2, p3, p4].getD v12.toInt.toNat 0)).set v12.toInt.toNat ([p1, p2, p3, p4].getD v4.toInt.toNat 0)).getD v12.toInt.toNat 0)).set v12.toInt.toNat ((([p1, p2, p3, p4].set v4.toInt.toNat ([p1, p2, p3, p4].getD v12.toInt.toNat 0)).set v12.toInt.toNat ([p1, p2, p3, p4].getD v4.toInt.toNat 0)).getD v4.toInt.toNat 0)) := N246_3
    replace K := K.trans K246 (allS (Or.inr sz_b77) (allS (Or.inr sz_b52) all0))
    refine C.iload (pc' := 251) at_249 rfl rfl ?_
    refine C.if_eq (pc' := 254) (pt := 290) at_251 rfl rfl (fun c251 => absurd c251 (by decide)) (fun c251 => ?_)
    refine C.aload (pc' := 256) at_254 rfl rfl rfl ?_
    refine C.iconst (v := 0) (pc' := 257) at_256 rfl rfl ?_
    refine C.ldAI (i := 0) (v := ((((([p1, p2, p3, p4].set v4.toInt.toNat ([p1, p2, p3, p4].getD v12.toInt.toNat 0)).set v12.toInt.toNat ([p1, p2, p3, p4].getD v4.toInt.toNat 0)).set v4.toInt.toNat ((([p1, p2, p3, p4].set v4.toInt.toNat ([p1, p2, p3, p4].getD v12.toInt.toNat 0)).set v12.toInt.toNat ([p1, p2, p3, p4].getD v4.toInt.toNat 0)).getD v12.toInt.toNat 0)).set v12.toInt.toNat ((([p1, p2, p3, p4].set v4.toInt.toNat ([p1, p2, p3, p4].getD v12.toInt.toNat 0)).set v12.toInt.toNat ([p1, p2, p3, p4].getD v4.toInt.toNat 0)).getD v4.toInt.toNat 0)).getD 0 0)) A_b52 (by decide) (Jvm.OwnP.getD_some (by (try simp only [List.length_set]); show 0 < 4; decide)) (pc' := 258) at_257 rfl ?_
    refine C.iloadN (pc' := 259) at_258 rfl rfl ?_
    refine C.icmp_ne (pc' := 262) (pt := 290) at_259 rfl rfl (fun c259 => absurd (own_b0 (own_m e4) (own_m e12)) c259) (fun c259 => ?_)
    refine C.aload (pc' := 264) at_262 rfl rfl rfl ?_
    refine C.iconst (v := 1) (pc' := 265) at_264 rfl rfl ?_
    refine C.ldAI (i := 1) (v := ((((([p1, p2, p3, p4].set v4.toInt.toNat ([p1, p2, p3, p4].getD v12.toInt.toNat 0)).set v12.toInt.toNat ([p1, p2, p3, p4].getD v4.toInt.toNat 0)).set v4.toInt.toNat ((([p1, p2, p3, p4].set v4.toInt.toNat ([p1, p2, p3, p4].getD v12.toInt.toNat 0)).set v12.toInt.toNat ([p1, p2, p3, p4].getD v4.toInt.toNat 0)).getD v12.toInt.toNat 0)).set v12.toInt.toNat ((([p1, p2, p3, p4].set v4.toInt.toNat ([p1, p2, p3, p4].getD v12.toInt.toNat 0)).set v12.toInt.toNat ([p1, p2, p3, p4].getD v4.toInt.toNat 0)).getD v4.toInt.toNat 0)).getD 1 0)) A_b52 (by decide) (Jvm.OwnP.getD_some (by (try simp only [List.length_set]); show 1 < 4; decide)) (pc' := 266) at_265 rfl ?_
    refine C.iloadN (pc' := 267) at_266 rfl rfl ?_
    refine C.icmp_ne (pc' := 270) (pt := 290) at_267 rfl rfl (fun c267 => absurd (own_b1 (own_m e4) (own_m e12)) c267) (fun c267 => ?_)
    refine C.aload (pc' := 272) at_270 rfl rfl rfl ?_
    refine C.iconst (v := 2) (pc' := 273) at_272 rfl rfl ?_
    refine C.ldAI (i := 2) (v := ((((([p1, p2, p3, p4].set v4.toInt.toNat ([p1, p2, p3, p4].getD v12.toInt.toNat 0)).set v12.toInt.toNat ([p1, p2, p3, p4].getD v4.toInt.toNat 0)).set v4.toInt.toNat ((([p1, p2, p3, p4].set v4.toInt.toNat ([p1, p2, p3, p4].getD v12.toInt.toNat 0)).set v12.toInt.toNat ([p1, p2, p3, p4].getD v4.toInt.toNat 0)).getD v12.toInt.toNat 0)).set v12.toInt.toNat ((([p1, p2, p3, p4].set v4.toInt.toNat ([p1, p2, p3, p4].getD v12.toInt.toNat 0)).set v12.toInt.toNat ([p1, p2, p3, p4].getD v4.toInt.toNat 0)).getD v4.toInt.toNat 0)).getD 2 0)) A_b52 (by decide) (Jvm.OwnP.getD_some (by (try simp only [List.length_set]); show 2 < 4; decide)) (pc' := 274) at_273 rfl ?_
    refine C.iloadN (pc' := 275) at_274 rfl rfl ?_
    refine C.icmp_ne (pc' := 278) (pt := 290) at_275 rfl rfl (fun c275 => absurd (own_b2 (own_m e4) (own_m e12)) c275) (fun c275 => ?_)
    refine C.aload (pc' := 280) at_278 rfl rfl rfl ?_
    refine C.iconst (v := 3) (pc' := 281) at_280 rfl rfl ?_
    refine C.ldAI (i := 3) (v := ((((([p1, p2, p3, p4].set v4.toInt.toNat ([p1, p2, p3, p4].getD v12.toInt.toNat 0)).set v12.toInt.toNat ([p1, p2, p3, p4].getD v4.toInt.toNat 0)).set v4.toInt.toNat ((([p1, p2, p3, p4].set v4.toInt.toNat ([p1, p2, p3, p4].getD v12.toInt.toNat 0)).set v12.toInt.toNat ([p1, p2, p3, p4].getD v4.toInt.toNat 0)).getD v12.toInt.toNat 0)).set v12.toInt.toNat ((([p1, p2, p3, p4].set v4.toInt.toNat ([p1, p2, p3, p4].getD v12.toInt.toNat 0)).set v12.toInt.toNat ([p1, p2, p3, p4].getD v4.toInt.toNat 0)).getD v4.toInt.toNat 0)).getD 3 0)) A_b52 (by decide) (Jvm.OwnP.getD_some (by (try simp only [List.length_set]); show 3 < 4; decide)) (pc' := 282) at_281 rfl ?_
    refine C.iloadN (pc' := 283) at_282 rfl rfl ?_
    refine C.icmp_ne (pc' := 286) (pt := 290) at_283 rfl rfl (fun c283 => absurd (own_b3 (own_m e4) (own_m e12)) c283) (fun c283 => ?_)
    refine C.iconst (v := 1) (pc' := 287) at_286 rfl rfl ?_
    refine C.goto (pc' := 291) at_287 rfl ?_
    refine C.istoreX (l' := #[.val (.int p1), .val (.int p2), .val (.int p3), .val (.int p4), .val (.int p5), .val (.int v4), .val (.int v12), .val (.int (1 : Int32)), .val (.ref b31), .val (.ref b52), .val (.ref b77), .val (.long (1 : Int64)), .second, .val (.long (2 : Int64)), .second, .val (.int (1 : Int32))]) (pc' := 293) at_291 rfl rfl ?_
    refine C.iload (pc' := 295) at_293 rfl rfl ?_
    refine C.if_eq (pc' := 298) (pt := 332) at_295 rfl rfl (fun c295 => absurd c295 (by decide)) (fun c295 => ?_)
    refine C.aload (pc' := 300) at_298 rfl rfl rfl ?_
    refine C.callv (w := 0) (own_rm6 l Z a0 hw n0 h246 b77 (if (1 : Int32) = 0 then (if (1 : Int32) = 0 then (0 : Int64) else (0 : Int64) + 1) else (if (1 : Int32) = 0 then (0 : Int64) else (0 : Int64) + 1) + 1) F_b77_swaps) E_b77 (ow35 hw) (ow36 hw) (ow38 hw) (ow37 hw) (ow3 hw) (ow39 hw) (pc' := 303) at_300 rfl rfl rfl (by decide) pd___J rfl (by decide) (Nat.le_of_eq rfl) (by decide) (by decide) (by decide) (kJe ?_)
    refine C.ldcJ (ow30 hw) (pc' := 306) at_303 rfl ?_
    refine C.lload (pc' := 308) at_306 rfl rfl ?_
    refine C.lmul (pc' := 309) at_308 rfl ?_
    refine C.lif_ne (pc' := 313) (pt := 332) at_309 rfl at_310 rfl rfl (fun c309 => absurd (by decide) c309) (fun c309 => ?_)
    refine C.aload (pc' := 315) at_313 rfl rfl rfl ?_
    refine C.callv (w := 0) (own_rm7 l Z a0 hw n0 h246 b77 (if (1 : Int32) = 0 then (if (1 : Int32) = 0 then (0 : Int64) else (0 : Int64) + 2) else (if (1 : Int32) = 0 then (0 : Int64) else (0 : Int64) + 2) + 2) F_b77_moves) E_b77 (ow40 hw) (ow41 hw) (ow43 hw) (ow42 hw) (ow3 hw) (ow44 hw) (pc' := 318) at_315 rfl rfl rfl (by decide) pd___J rfl (by decide) (Nat.le_of_eq rfl) (by decide) (by decide) (by decide) (kJe ?_)
    refine C.ldcJ (ow30 hw) (pc' := 321) at_318 rfl ?_
    refine C.lload (pc' := 323) at_321 rfl rfl ?_
    refine C.lmul (pc' := 324) at_323 rfl ?_
    refine C.lif_ne (pc' := 328) (pt := 332) at_324 rfl at_325 rfl rfl (fun c324 => absurd (by decide) c324) (fun c324 => ?_)
    refine C.iconst (v := 1) (pc' := 329) at_328 rfl rfl ?_
    refine C.goto (pc' := 333) at_329 rfl ?_
    refine C.istoreX (l' := #[.val (.int p1), .val (.int p2), .val (.int p3), .val (.int p4), .val (.int p5), .val (.int v4), .val (.int v12), .val (.int (1 : Int32)), .val (.ref b31), .val (.ref b52), .val (.ref b77), .val (.long (1 : Int64)), .second, .val (.long (2 : Int64)), .second, .val (.int (1 : Int32))]) (pc' := 335) at_333 rfl rfl ?_
    refine C.iload (pc' := 337) at_335 rfl rfl ?_
    refine C.retZ (show ret = some .boolean from rfl) (by decide) at_337 (by decide) (by decide) ⟨_, rfl, rfl⟩
set_option maxRecDepth 65536 in
set_option maxHeartbeats 40000000 in
theorem comes_1 {Post : Tables → Env → Array Value → State → Outcome → State → Prop} (hpost : ∀ tb e args s v u, (limb_1_1.after args s (.returned v) u = true ∧ limb_1_2.after args s (.returned v) u = true ∧ True) → FrameEnd s (.returned v) u (Jvm.fieldLocs frame_1_writes args s ++ Jvm.arrayLocs frame_1_arrays args s ++ Jvm.staticLocs frame_1_statics s) 16 128 → Post tb e args s (.returned v) u) :
    ArmFor flags0 classFile x code maxLocals ret World_1 tables_1 room_1 Calls_1 rest_1 Pre_1 Post := by
  intro l hfl _ _ p e ha hc hk s m args below hf hA hF happ hP
  obtain ⟨hcalls, hrest, hpre⟩ := hP
  obtain ⟨-, -, -, hnamed, -, -, -, hat⟩ := (Spec.applies_iff hf).mp happ
  obtain ⟨hg, hn⟩ := and_e (Cond.before_iff.mp (show (Jvm.Cond.and given_1 narrow_1).before args s = true from hpre))
  obtain ⟨g0, t0⟩ := and_e hg
  obtain ⟨k0, t1⟩ := and_e t0
  obtain ⟨k1, t2⟩ := and_e t1
  obtain ⟨k2, t3⟩ := and_e t2
  obtain ⟨k3, t4⟩ := and_e t3
  obtain ⟨w0_, w1_, w2_, w3_, w4_, rfl⟩ : ∃ w0_ w1_ w2_ w3_ w4_ : Value, args = #[w0_, w1_, w2_, w3_, w4_] := by
    have hs : args.size = 5 := by simpa [Cond.value, given_1] using g0
    obtain ⟨L⟩ := args
    match L, hs with
    | [w0_, w1_, w2_, w3_, w4_], _ => exact ⟨w0_, w1_, w2_, w3_, w4_, rfl⟩
  have hw := fun d (hd : d ∈ tables_1) => atoms_spec (ws := Jvm.Cond.code x code maxLocals ret :: tables_1) hat d (List.mem_cons_of_mem _ hd)
  obtain ⟨i0_, e0_⟩ := is_v k0
  obtain rfl : w0_ = (.int i0_) := Option.some.inj e0_
  obtain ⟨i1_, e1_⟩ := is_v k1
  obtain rfl : w1_ = (.int i1_) := Option.some.inj e1_
  obtain ⟨i2_, e2_⟩ := is_v k2
  obtain rfl : w2_ = (.int i2_) := Option.some.inj e2_
  obtain ⟨i3_, e3_⟩ := is_v k3
  obtain rfl : w3_ = (.int i3_) := Option.some.inj e3_
  obtain ⟨i4_, e4_⟩ := is_v t4
  obtain rfl : w4_ = (.int i4_) := Option.some.inj e4_
  obtain ⟨n, o, h1, h2, h3, _, L, rfl, ⟨N, _, rfl, rfl⟩, hq⟩ := own_rm0 l s _ hw s.heap.size s.heap i0_ i1_ i2_ i3_ i4_  (Nat.le_refl _)  tables_1 p e ha hc hk s m _ below hf ((Spec.applies_iff_loose hf).mp happ).1 ⟨rfl, State.Warmed39.refl s, rfl⟩ trivial
  refine ⟨n, _, h1, h2, h3, hpost _ _ _ _ _ _ ⟨Cond.after_iff.mpr rfl, Cond.after_iff.mpr (eq_i res_at (Term.int_eval (1)) rfl), trivial⟩ ⟨hq.1, hq.2.1, (hq.2.2.sift fun y hy => Or.inr (N y hy)).mono (by decide) (by decide)⟩⟩
theorem main_1_1 : Claimed_1_1 := comes_1 fun _ _ _ _ _ _ h hF => ⟨h.1, hF⟩
theorem main_1_2 : Claimed_1_2 := comes_1 fun _ _ _ _ _ _ h hF => ⟨h.2.1, hF⟩
end Jvm.Pilot.@@N@@
namespace Jvm.Pilot.@@N@@
open Jvm Jvm.ClassFile Sem Op Lib Jvm.Free Jvm.Stand Jvm.Pilot.@@N@@.Jvm.D
/-! MADE BY PROGRAM (witnessworld.py) out of the Statement's table words and the real class files: 9 classes; the members and pool entries that the words name. The judged class is class 1, her method 1. -/
namespace start1
open Jvm.ClassFile
def u (s : String) : CpInfo := .utf8 (stringToUtf16 s)
/-- a pool by its gaps: so many unusable entries, then the entry; so many at the end -/
def gap : Nat → List CpInfo → List CpInfo
  | 0, r => r
  | n + 1, r => .unusable :: gap n r
def poolList (es : List (Nat × CpInfo)) (last : Nat) : List CpInfo := es.foldr (fun e r => gap e.1 (e.2 :: r)) (gap last [])
def pool (es : List (Nat × CpInfo)) (last : Nat) : Array CpInfo := ⟨poolList es last⟩
def fileOf (pool : Array CpInfo) (this : Nat) (attrs : Array Attribute := #[]) (ms : Array MethodInfo := #[]) (fl : Nat := 33) (sup : Nat := 0) (ifs : Array Nat := #[]) (fds : Array FieldInfo := #[]) : ClassFile where
  minorVersion := 0
  majorVersion := 65
  constantPool := pool
  accessFlags := fl
  thisClass := this
  superClass := sup
  interfaces := ifs
  fields := fds
  methods := ms
  attributes := attrs
def plain (name : String) (sup : Option ClassId) : Class where
  name := name
  kind := .ordinary
  loader := none
  accessFlags := 33
  super := sup
  interfaces := #[]
  cf := none
  fields := #[]
  methods := #[]
  instanceTypes := #[]
  staticTypes := #[]
  resolved := #[]
  callSites := []
  init := .initialized
  statics := none
  mirror := none

def pool0 : Array CpInfo := pool [(5, u "<init>"), (0, u "()V"), (1, .class_ 10), (1, u "java/lang/Object")] 113

def k0c0 : Code := { maxStack := 0, maxLocals := 1, code := object_method_1_code, exceptionTable := #[], attributes := #[] }
def k0m0 : Method := { name := "<init>", desc := "()V", sig := { parameters := [], returnType := none }, accessFlags := 1, code := some k0c0 }
/-- java/lang/Object -/
def k0 : Class := { plain "java/lang/Object" none with
  accessFlags := 33
  interfaces := #[]
  cf := some (fileOf pool0 8 #[] #[{ accessFlags := 1, nameIndex := 5, descriptorIndex := 6, attributes := #[] }] 33 0 #[] #[])
  fields := #[]
  methods := #[k0m0]
  instanceTypes := #[]
  staticTypes := #[]
  resolved := Array.replicate 124 none
  statics := none }

def pool1 : Array CpInfo := pool [(2, .class_ 4), (0, .nameAndType 5 6), (0, u "java/lang/Object"), (0, u "<init>"), (0, u "()V"), (0, .class_ 8), (0, u "com/example/gapstride/gapstride/Counters"), (0, .methodref 7 3), (0, .methodref 7 11), (0, .nameAndType 12 13), (0, u "uncounted"), (0, u "()Lcom/example/gapstride/gapstride/Counters;"), (0, .methodref 7 15), (0, .nameAndType 16 17), (0, u "swap"), (0, u "([III)V"), (0, .long 2), (1, .methodref 21 22), (0, .class_ 23), (0, .nameAndType 24 25), (0, u "com/example/gapstride/gapstride/CountersSwapPinLaw"), (0, u "at"), (0, u "([IIII)I"), (0, .methodref 7 27), (0, .nameAndType 28 29), (0, u "getSwaps"), (0, u "()J"), (0, .methodref 7 31), (0, .nameAndType 32 29), (0, u "getMoves"), (2, u "law"), (0, u "(IIIII)Z")] 5

def k1m0 : Method := { name := "<init>", desc := "()V", sig := { parameters := [], returnType := none }, accessFlags := 1, code := none }
def k1c1 : Code := { maxStack := 6, maxLocals := 16, code := code, exceptionTable := #[], attributes := #[] }
def k1m1 : Method := { name := "law", desc := "(IIIII)Z", sig := { parameters := [.int, .int, .int, .int, .int], returnType := some .boolean }, accessFlags := 9, code := some k1c1 }
def k1c2 : Code := { maxStack := 2, maxLocals := 4, code := method_3_code, exceptionTable := #[], attributes := #[] }
def k1m2 : Method := { name := "at", desc := "([IIII)I", sig := { parameters := [(.array .int), .int, .int, .int], returnType := some .int }, accessFlags := 10, code := some k1c2 }
/-- com/example/gapstride/gapstride/CountersSwapPinLaw -/
def k1 : Class := { plain "com/example/gapstride/gapstride/CountersSwapPinLaw" (some 0) with
  accessFlags := 49
  interfaces := #[]
  cf := some (fileOf pool1 21 #[] #[{ accessFlags := 1, nameIndex := 5, descriptorIndex := 6, attributes := #[] }, { accessFlags := 9, nameIndex := 35, descriptorIndex := 36, attributes := #[] }, { accessFlags := 10, nameIndex := 24, descriptorIndex := 25, attributes := #[] }] 49 2 #[] #[])
  fields := #[]
  methods := #[k1m0, k1m1, k1m2]
  instanceTypes := #[]
  staticTypes := #[]
  resolved := Array.replicate 42 none
  statics := none }

def pool2 : Array CpInfo := pool [(3, .long 9223372036854775807), (1, .methodref 6 7), (0, .class_ 8), (0, .nameAndType 9 10), (0, u "com/example/gapstride/gapstride/Counters"), (0, u "<init>"), (0, u "(Lcom/example/gapstride/gapstride/Counters$Order;ZJ)V"), (0, .methodref 12 13), (0, .class_ 14), (0, .nameAndType 9 15), (0, u "java/lang/Object"), (0, u "()V"), (0, .fieldref 6 17), (0, .nameAndType 18 19), (0, u "order"), (0, u "Lcom/example/gapstride/gapstride/Counters$Order;"), (0, .fieldref 6 21), (0, .nameAndType 22 23), (0, u "counting"), (0, u "Z"), (0, .fieldref 6 25), (0, .nameAndType 26 27), (0, u "limit"), (0, u "J"), (16, .class_ 46), (1, u "com/example/gapstride/gapstride/Counters$Order"), (20, u "comparisons"), (5, .fieldref 6 74), (0, .nameAndType 75 27), (0, u "moves"), (6, .fieldref 6 83), (0, .nameAndType 84 27), (0, u "swaps"), (0, .long 2), (3, u "calls"), (2, u "depth"), (12, u "uncounted"), (0, u "()Lcom/example/gapstride/gapstride/Counters;"), (12, u "([III)V"), (2, u "swap"), (3, u "()J"), (0, u "getSwaps"), (0, u "getMoves")] 31

def k2c0 : Code := { maxStack := 5, maxLocals := 1, code := prog_4_method_1_code, exceptionTable := #[], attributes := #[] }
def k2m0 : Method := { name := "<init>", desc := "()V", sig := { parameters := [], returnType := none }, accessFlags := 1, code := some k2c0 }
def k2c1 : Code := { maxStack := 3, maxLocals := 5, code := prog_4_method_2_code, exceptionTable := #[], attributes := #[] }
def k2m1 : Method := { name := "<init>", desc := "(Lcom/example/gapstride/gapstride/Counters$Order;ZJ)V", sig := { parameters := [(.object "com/example/gapstride/gapstride/Counters$Order"), .boolean, .long], returnType := none }, accessFlags := 2, code := some k2c1 }
def k2c2 : Code := { maxStack := 6, maxLocals := 0, code := prog_4_method_5_code, exceptionTable := #[], attributes := #[] }
def k2m2 : Method := { name := "uncounted", desc := "()Lcom/example/gapstride/gapstride/Counters;", sig := { parameters := [], returnType := some (.object "com/example/gapstride/gapstride/Counters") }, accessFlags := 9, code := some k2c2 }
def k2c3 : Code := { maxStack := 5, maxLocals := 5, code := prog_4_method_12_code, exceptionTable := #[], attributes := #[] }
def k2m3 : Method := { name := "swap", desc := "([III)V", sig := { parameters := [(.array .int), .int, .int], returnType := none }, accessFlags := 1, code := some k2c3 }
def k2c4 : Code := { maxStack := 2, maxLocals := 1, code := prog_4_method_15_code, exceptionTable := #[], attributes := #[] }
def k2m4 : Method := { name := "getSwaps", desc := "()J", sig := { parameters := [], returnType := some .long }, accessFlags := 1, code := some k2c4 }
def k2c5 : Code := { maxStack := 2, maxLocals := 1, code := prog_4_method_16_code, exceptionTable := #[], attributes := #[] }
def k2m5 : Method := { name := "getMoves", desc := "()J", sig := { parameters := [], returnType := some .long }, accessFlags := 1, code := some k2c5 }
/-- com/example/gapstride/gapstride/Counters -/
def k2 : Class := { plain "com/example/gapstride/gapstride/Counters" (some 0) with
  accessFlags := 49
  interfaces := #[]
  cf := some (fileOf pool2 6 #[.nestMembers #[44]] #[{ accessFlags := 1, nameIndex := 9, descriptorIndex := 15, attributes := #[] }, { accessFlags := 2, nameIndex := 9, descriptorIndex := 10, attributes := #[] }, { accessFlags := 9, nameIndex := 105, descriptorIndex := 106, attributes := #[] }, { accessFlags := 1, nameIndex := 122, descriptorIndex := 119, attributes := #[] }, { accessFlags := 1, nameIndex := 127, descriptorIndex := 126, attributes := #[] }, { accessFlags := 1, nameIndex := 128, descriptorIndex := 126, attributes := #[] }] 49 12 #[] #[{ accessFlags := 2, nameIndex := 18, descriptorIndex := 19, attributes := #[] }, { accessFlags := 18, nameIndex := 22, descriptorIndex := 23, attributes := #[] }, { accessFlags := 18, nameIndex := 26, descriptorIndex := 27, attributes := #[] }, { accessFlags := 2, nameIndex := 67, descriptorIndex := 27, attributes := #[] }, { accessFlags := 2, nameIndex := 84, descriptorIndex := 27, attributes := #[] }, { accessFlags := 2, nameIndex := 75, descriptorIndex := 27, attributes := #[] }, { accessFlags := 2, nameIndex := 89, descriptorIndex := 27, attributes := #[] }, { accessFlags := 2, nameIndex := 92, descriptorIndex := 27, attributes := #[] }])
  fields := #[{ name := "order", type := (.object "com/example/gapstride/gapstride/Counters$Order"), accessFlags := 2, slot := 0, constantValue := 0 }, { name := "counting", type := .boolean, accessFlags := 18, slot := 1, constantValue := 0 }, { name := "limit", type := .long, accessFlags := 18, slot := 2, constantValue := 0 }, { name := "comparisons", type := .long, accessFlags := 2, slot := 3, constantValue := 0 }, { name := "swaps", type := .long, accessFlags := 2, slot := 4, constantValue := 0 }, { name := "moves", type := .long, accessFlags := 2, slot := 5, constantValue := 0 }, { name := "calls", type := .long, accessFlags := 2, slot := 6, constantValue := 0 }, { name := "depth", type := .long, accessFlags := 2, slot := 7, constantValue := 0 }]
  methods := #[k2m0, k2m1, k2m2, k2m3, k2m4, k2m5]
  instanceTypes := #[(.object "com/example/gapstride/gapstride/Counters$Order"), .boolean, .long, .long, .long, .long, .long, .long]
  staticTypes := #[]
  resolved := Array.replicate 160 none
  statics := none }

def pool3 : Array CpInfo := pool [(1, u "java/lang/Cloneable"), (0, .class_ 1), (0, u "java/lang/Object"), (0, .class_ 3)] 3

/-- java/lang/Cloneable -/
def k3 : Class := { plain "java/lang/Cloneable" (some 0) with
  accessFlags := 1537
  interfaces := #[]
  cf := some (fileOf pool3 2 #[] #[] 1537 4 #[] #[])
  fields := #[]
  methods := #[]
  instanceTypes := #[]
  staticTypes := #[]
  resolved := Array.replicate 8 none
  statics := none }

def pool4 : Array CpInfo := pool [(1, u "java/io/Serializable"), (0, .class_ 1), (0, u "java/lang/Object"), (0, .class_ 3)] 3

/-- java/io/Serializable -/
def k4 : Class := { plain "java/io/Serializable" (some 0) with
  accessFlags := 1537
  interfaces := #[]
  cf := some (fileOf pool4 2 #[] #[] 1537 4 #[] #[])
  fields := #[]
  methods := #[]
  instanceTypes := #[]
  staticTypes := #[]
  resolved := Array.replicate 8 none
  statics := none }

/-- the primitive byte -/
def k5 : Class := { plain "byte" none with kind := .primitive 'B', accessFlags := 0x411 }
/-- [B -/
def k6 : Class := { plain "[B" (some 0) with kind := .array 5 .byte, interfaces := #[3, 4], accessFlags := 1041 }

/-- the primitive int -/
def k7 : Class := { plain "int" none with kind := .primitive 'I', accessFlags := 0x411 }
/-- [I -/
def k8 : Class := { plain "[I" (some 0) with kind := .array 7 .int, interfaces := #[3, 4], accessFlags := 1041 }

def heap : Heap := #[]
def classes : Array Class := #[k0, k1, k2, k3, k4, k5, k6, k7, k8]
def interned : List (Array UInt16 × Addr) := []
def slotsUsed : Nat := 0
def theMethod : MethodId := ⟨1, 1⟩
def args0 : Array Value := #[.int 5, .int 5, .int 5, .int 5, .int 5]
def aboutOver (below : List Frame) : State where
  vm := { classes := classes, interned := interned.toArray }
  heap := heap
  slotsUsed := slotsUsed
  threads := #[{ frames := .invoking theMethod args0 :: below }]
def below0 : List Frame := [.native { method := ⟨0, 0⟩, args := #[] }]
def about1 : State := aboutOver below0
def p0 : Program := .bare "" "" ""
def e0 : Env := launch0.env 0 0 0
theorem w_frames : about1.frames = Frame.invoking theMethod args0 :: below0 := rfl
set_option maxRecDepth 65536 in
theorem w_args : argsFit about1.vm theMethod args0 = true := by decide +kernel
set_option maxRecDepth 65536 in
theorem w_heap : heapFits about1 = true := by decide +kernel
set_option maxRecDepth 65536 in
theorem w_runnable : about1.curStatus? = some .runnable := by decide +kernel
set_option maxRecDepth 65536 in
theorem w_alone : about1.alone = true := by decide +kernel
set_option maxRecDepth 65536 in
theorem w_named : about1.methodNamed? x = some theMethod := by decide +kernel
set_option maxRecDepth 65536 in
theorem w_hears : about1.hears theMethod below0 = true := by decide +kernel
set_option maxRecDepth 65536 in
theorem w_ripe : about1.ripe theMethod args0 below0 = true := by decide +kernel
theorem w_running : about1.status = .running := rfl
set_option maxRecDepth 65536 in
theorem w_room : about1.hasRoom e0.platform room_1 = true :=
  launch0.hasRoom_least _ room_1 (by decide +kernel) (by decide +kernel) (by decide +kernel) (by decide +kernel) (by decide +kernel) (by decide +kernel)
theorem allAtoms_all (ts : List Jvm.Cond) (a : Array Jvm.Value) (st : Jvm.State) : (allAtoms ts).before a st = ts.all (fun c => c.before a st) := by
  induction ts with
  | nil => rfl
  | cons c t ih =>
    show (Jvm.Cond.and c (allAtoms t)).before a st = _
    rw [Jvm.Cond.before_and, ih, List.all_cons]
def words1 : List Jvm.Cond := Jvm.Cond.code x code maxLocals ret :: tables_1
/-- a 'code' word, met by the world's own term for the bytes: nothing is compared byte by byte -/
theorem code_word {y : MethodName} {bytes : ByteArray} {mx : Nat} {rt : Option FieldType} {a : Array Value} {s : State} {m : MethodId} {meth : Method} {c : Code} (h1 : s.methodNamed? y = some m) (h2 : s.vm.method? m = some meth) (h3 : meth.code = some c) (h4 : c.code = bytes)
    (h5 : (c.maxLocals == mx && c.exceptionTable.isEmpty && decide (c.maxStack ≤ mostOperands) && decide (meth.sig.returnType = rt) && !meth.locks && decide (parseMethodDescriptor y.desc = some meth.sig)) = true) : (Jvm.Cond.code y bytes mx rt).before a s = true := by
  simp only [Bool.and_eq_true, beq_iff_eq, Bool.not_eq_true', decide_eq_true_eq] at h5
  obtain ⟨⟨⟨⟨⟨g1, g2⟩, g3⟩, g4⟩, g5⟩, g6⟩ := h5
  simp [Cond.before, Cond.holds, Cond.value, h1, h2, h3, h4, g1, g2, g3, g4, g5, g6]
def isCode : Jvm.Cond → Bool
  | .code _ _ _ _ => true
  | _ => false
theorem all_split {L : List Jvm.Cond} {P : Jvm.Cond → Bool} (h1 : L.all (fun c => isCode c || P c) = true) (h2 : ∀ c ∈ L.filter isCode, P c = true) : L.all P = true := by
  refine List.all_eq_true.mpr fun c hc => ?_
  have h := List.all_eq_true.mp h1 c hc
  rcases Bool.eq_false_or_eq_true (isCode c) with hi | hi
  · exact h2 c (List.mem_filter.mpr ⟨hc, hi⟩)
  · simpa [hi] using h
set_option maxRecDepth 65536 in
theorem w_c0 : (Jvm.Cond.code x code maxLocals ret).before args0 about1 = true := code_word (m := ⟨1, 1⟩) (meth := k1m1) (c := k1c1) (by decide +kernel) rfl rfl rfl (by decide +kernel)
set_option maxRecDepth 65536 in
theorem w_c1 : (Jvm.Cond.code ({ cls := "com/example/gapstride/gapstride/Counters", name := "<init>", desc := "()V" } : Jvm.MethodName) prog_4_method_1_code (1 : Nat) (Option.none : Option Jvm.ClassFile.FieldType)).before args0 about1 = true := code_word (m := ⟨2, 0⟩) (meth := k2m0) (c := k2c0) (by decide +kernel) rfl rfl rfl (by decide +kernel)
set_option maxRecDepth 65536 in
theorem w_c2 : (Jvm.Cond.code ({ cls := "com/example/gapstride/gapstride/Counters", name := "<init>", desc := "(Lcom/example/gapstride/gapstride/Counters$Order;ZJ)V" } : Jvm.MethodName) prog_4_method_2_code (5 : Nat) (Option.none : Option Jvm.ClassFile.FieldType)).before args0 about1 = true := code_word (m := ⟨2, 1⟩) (meth := k2m1) (c := k2c1) (by decide +kernel) rfl rfl rfl (by decide +kernel)
set_option maxRecDepth 65536 in
theorem w_c3 : (Jvm.Cond.code ({ cls := "java/lang/Object", name := "<init>", desc := "()V" } : Jvm.MethodName) object_method_1_code (1 : Nat) (Option.none : Option Jvm.ClassFile.FieldType)).before args0 about1 = true := code_word (m := ⟨0, 0⟩) (meth := k0m0) (c := k0c0) (by decide +kernel) rfl rfl rfl (by decide +kernel)
set_option maxRecDepth 65536 in
theorem w_c4 : (Jvm.Cond.code ({ cls := "com/example/gapstride/gapstride/Counters", name := "swap", desc := "([III)V" } : Jvm.MethodName) prog_4_method_12_code (5 : Nat) (Option.none : Option Jvm.ClassFile.FieldType)).before args0 about1 = true := code_word (m := ⟨2, 3⟩) (meth := k2m3) (c := k2c3) (by decide +kernel) rfl rfl rfl (by decide +kernel)
set_option maxRecDepth 65536 in
theorem w_c5 : (Jvm.Cond.code ({ cls := "com/example/gapstride/gapstride/CountersSwapPinLaw", name := "at", desc := "([IIII)I" } : Jvm.MethodName) method_3_code (4 : Nat) (Option.some Jvm.ClassFile.FieldType.int)).before args0 about1 = true := code_word (m := ⟨1, 2⟩) (meth := k1m2) (c := k1c2) (by decide +kernel) rfl rfl rfl (by decide +kernel)
set_option maxRecDepth 65536 in
theorem w_c6 : (Jvm.Cond.code ({ cls := "com/example/gapstride/gapstride/Counters", name := "getSwaps", desc := "()J" } : Jvm.MethodName) prog_4_method_15_code (1 : Nat) (Option.some Jvm.ClassFile.FieldType.long)).before args0 about1 = true := code_word (m := ⟨2, 4⟩) (meth := k2m4) (c := k2c4) (by decide +kernel) rfl rfl rfl (by decide +kernel)
set_option maxRecDepth 65536 in
theorem w_c7 : (Jvm.Cond.code ({ cls := "com/example/gapstride/gapstride/Counters", name := "getMoves", desc := "()J" } : Jvm.MethodName) prog_4_method_16_code (1 : Nat) (Option.some Jvm.ClassFile.FieldType.long)).before args0 about1 = true := code_word (m := ⟨2, 5⟩) (meth := k2m5) (c := k2c5) (by decide +kernel) rfl rfl rfl (by decide +kernel)
set_option maxRecDepth 65536 in
theorem w_c8 : (Jvm.Cond.code ({ cls := "com/example/gapstride/gapstride/Counters", name := "uncounted", desc := "()Lcom/example/gapstride/gapstride/Counters;" } : Jvm.MethodName) prog_4_method_5_code (0 : Nat) (Option.some (Jvm.ClassFile.FieldType.object "com/example/gapstride/gapstride/Counters"))).before args0 about1 = true := code_word (m := ⟨2, 2⟩) (meth := k2m2) (c := k2c2) (by decide +kernel) rfl rfl rfl (by decide +kernel)
def codes1 : List Jvm.Cond := [Jvm.Cond.code x code maxLocals ret, Jvm.Cond.code ({ cls := "com/example/gapstride/gapstride/Counters", name := "<init>", desc := "()V" } : Jvm.MethodName) prog_4_method_1_code (1 : Nat) (Option.none : Option Jvm.ClassFile.FieldType), Jvm.Cond.code ({ cls := "com/example/gapstride/gapstride/Counters", name := "<init>", desc := "(Lcom/example/gapstride/gapstride/Counters$Order;ZJ)V" } : Jvm.MethodName) prog_4_method_2_code (5 : Nat) (Option.none : Option Jvm.ClassFile.FieldType), Jvm.Cond.code ({ cls := "java/lang/Object", name := "<init>", desc := "()V" } : Jvm.MethodName) object_method_1_code (1 : Nat) (Option.none : Option Jvm.ClassFile.FieldType), Jvm.Cond.code ({ cls := "com/example/gapstride/gapstride/Counters", name := "swap", desc := "([III)V" } : Jvm.MethodName) prog_4_method_12_code (5 : Nat) (Option.none : Option Jvm.ClassFile.FieldType), Jvm.Cond.code ({ cls := "com/example/gapstride/gapstride/CountersSwapPinLaw", name := "at", desc := "([IIII)I" } : Jvm.MethodName) method_3_code (4 : Nat) (Option.some Jvm.ClassFile.FieldType.int), Jvm.Cond.code ({ cls := "com/example/gapstride/gapstride/Counters", name := "getSwaps", desc := "()J" } : Jvm.MethodName) prog_4_method_15_code (1 : Nat) (Option.some Jvm.ClassFile.FieldType.long), Jvm.Cond.code ({ cls := "com/example/gapstride/gapstride/Counters", name := "getMoves", desc := "()J" } : Jvm.MethodName) prog_4_method_16_code (1 : Nat) (Option.some Jvm.ClassFile.FieldType.long), Jvm.Cond.code ({ cls := "com/example/gapstride/gapstride/Counters", name := "uncounted", desc := "()Lcom/example/gapstride/gapstride/Counters;" } : Jvm.MethodName) prog_4_method_5_code (0 : Nat) (Option.some (Jvm.ClassFile.FieldType.object "com/example/gapstride/gapstride/Counters"))]
set_option maxRecDepth 65536 in
theorem codes_eq : words1.filter isCode = codes1 := rfl
theorem w_codes : ∀ c ∈ words1.filter isCode, c.before args0 about1 = true := by
  rw [codes_eq]
  intro c hc
  simp only [codes1, List.mem_cons, List.not_mem_nil, or_false] at hc
  rcases hc with rfl | rfl | rfl | rfl | rfl | rfl | rfl | rfl | rfl
  · exact w_c0
  · exact w_c1
  · exact w_c2
  · exact w_c3
  · exact w_c4
  · exact w_c5
  · exact w_c6
  · exact w_c7
  · exact w_c8
set_option maxRecDepth 65536 in
theorem w_t1 : (words1.take 24).all (fun c => isCode c || c.before args0 about1) = true := by decide +kernel
set_option maxRecDepth 65536 in
theorem w_t2 : ((words1.drop 24).take 24).all (fun c => isCode c || c.before args0 about1) = true := by decide +kernel
set_option maxRecDepth 65536 in
theorem w_t3 : ((words1.drop 24).drop 24).all (fun c => isCode c || c.before args0 about1) = true := by decide +kernel
theorem w_tables : (allAtoms (Jvm.Cond.code x code maxLocals ret :: tables_1)).before args0 about1 = true := by
  rw [allAtoms_all]
  show words1.all (fun c => c.before args0 about1) = true
  refine all_split ?_ w_codes
  rw [← List.take_append_drop 24 words1, List.all_append, w_t1, ← List.take_append_drop 24 (words1.drop 24), List.all_append, w_t2, w_t3]
  rfl
set_option maxRecDepth 65536 in
theorem w_case : (Jvm.Cond.and given_1 narrow_1).before args0 about1 = true := by decide +kernel
theorem w_applies : (headSpec (Jvm.Cond.code x code maxLocals ret :: tables_1) room_1).applies x e0.platform about1 = true :=
  (Spec.applies_iff w_frames).mpr ⟨w_running, w_runnable, w_alone, w_named, w_hears, w_ripe, w_room, w_tables⟩
theorem atStart : AtStart classFile x code maxLocals ret World_1 tables_1 room_1 Calls_1 rest_1 Pre_1 launch0 p0 e0 about1 theMethod args0 below0 :=
  ⟨lists_1, trivial, launch0.admits_env _ _ _, launch0.least_env, fairChoices_fair.cas, fairChoices_fair.clock, w_frames, w_args, w_heap, w_applies, trivial, trivial, w_case⟩
end start1
theorem witness_1 : WitnessClaimed_1 := ⟨start1.p0, start1.e0, start1.about1, start1.theMethod, start1.args0, start1.below0, start1.atStart⟩
end Jvm.Pilot.@@N@@
