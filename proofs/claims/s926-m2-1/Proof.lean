import JvmDerived
import JvmDerived.Pilot.@@N@@Statement
import JvmDerived.Pilot.@@N@@Code
set_option linter.unusedVariables false
set_option linter.unusedSimpArgs false

namespace Jvm.OwnW
open Sem ClassFile Op Lib Jvm.Stand Jvm.Free Jvm.LawKit Jvm.RoadKit
/-- what the walk of one body stands on -/
def Ctx (p : Program) (l : Launch) (e : Env) (R : Room) (s : State) (m : MethodId) (args : Array Value) (below : List Frame) (meth : Method) (c : Code) (Z : State) (own : String) (code : ByteArray) (maxL : Nat) (ret : Option FieldType) (nm : String) : Prop :=
  p.tables.exec = Jvm.exec ∧ c.code = code ∧ c.maxLocals = maxL ∧ s.vm.findClass own = some m.cls ∧ Z.Warmed39 s.vm ∧ meth.sig.returnType = ret ∧ meth.locks = false ∧ meth.name = nm
/-- from here the body returns, and G holds of what it returns and of the heap -/
def WP (p : Program) (l : Launch) (e : Env) (R : Room) (s : State) (m : MethodId) (args : Array Value) (below : List Frame) (meth : Method) (c : Code) (n0 : Nat) (G : Option Value → Heap → Prop)
    (h : Heap) (k n pc : Nat) (Ls : Array Slot) (st : List Value) : Prop :=
  ∀ (T : State) (locs : List Loc) (k' n' : Nat), k' ≤ k → n' ≤ n → Stand p l e R s m args below meth c T locs k' n' → T.heap = h → Fr n0 locs →
    ∃ s₂ o, Steps p.tables e below (T.setTop (mkF m pc Ls st)) s₂ ∧ s₂.status = .running ∧ Ended s₂ below o ∧ ∃ v L, o = .returned v ∧ (Fr n0 L ∧ G v s₂.heap) ∧ FrameEnd s o s₂ L R.cells R.slots
abbrev WT : Type := Heap → Nat → Nat → Nat → Array Slot → List Value → Prop
def Ru (l : Launch) (Z : State) (own : String) (code : ByteArray) (maxL : Nat) (ret : Option FieldType) (nm : String) (R : Room) (n0 : Nat) (G : Option Value → Heap → Prop) (W : WT) : Prop :=
  ∃ (p : Program) (e : Env) (s : State) (m : MethodId) (args : Array Value) (below : List Frame) (meth : Method) (c : Code), Ctx p l e R s m args below meth c Z own code maxL ret nm ∧ W = WP p l e R s m args below meth c n0 G
/-- a body's contract -/
def MeetsW (l : Launch) (Z : State) (n0 : Nat) (y : MethodName) (bytes : ByteArray) (maxL : Nat) (ret : Option FieldType) (rm : Room) (as : Array Value) (h : Heap) (G : Option Value → Heap → Prop) : Prop :=
  ∀ ws : List Cond, MetFree l y (head1 (Cond.code y bytes maxL ret :: ws) rm) (fun a U => a = as ∧ Z.Warmed39 U.vm ∧ U.heap = h) (fun _ _ _ _ _ => True)
    (fun _ U o U' => ∃ v L, o = .returned v ∧ (Fr n0 L ∧ G v U'.heap) ∧ FrameEnd U o U' L rm.cells rm.slots)
theorem MeetsW.intro {l : Launch} {Z : State} {n0 : Nat} {y : MethodName} {bytes : ByteArray} {maxL : Nat} {ret : Option FieldType} {rm : Room} {as : Array Value} {h : Heap} {G : Option Value → Heap → Prop} {Ls : Array Slot}
    (hp : plainFor y = true) (hef : ∀ m, entryFrame m as maxL = mkF m 0 Ls [])
    (body : ∀ W, Ru l Z y.cls bytes maxL ret y.name rm n0 G W → W h 0 0 0 Ls []) : MeetsW l Z n0 y bytes maxL ret rm as h G := by
  intro ws
  refine MetFree.of_bodySF hp hisR ?_
  intro p e s m args below meth c s₁ Bd hml0 hP hK
  obtain ⟨rfl, hZ, hh⟩ := hP
  have X0 : Stand p l e rm s m args below meth c s₁ [] 0 0 := Stand.of_body Bd
  have e0 : s₁.heap = h := by rw [← hh, Bd.state]; rfl
  have C : Ctx p l e rm s m args below meth c Z y.cls bytes maxL ret y.name := ⟨Bd.exec, Bd.bytes, hml0, findClass_of_methodNamed Bd.named, hZ, Bd.returns, Bd.notSynchronized, (name_of_methodNamed Bd.named Bd.method).1⟩
  have q := body _ ⟨p, e, s, m, args, below, meth, c, C, rfl⟩ s₁ [] 0 0 (Nat.le_refl _) (Nat.le_refl _) X0 e0 (Fr.nil n0)
  rw [hef]
  exact q

/-! shifts, by how many places -/
def sh5 (y : Int32) : Nat := y.toBitVec.toNat % 32
def sh6 (y : Int32) : Nat := y.toBitVec.toNat % 64
def shlI (x : Int32) (k : Nat) : Int32 := Int32.ofBitVec (x.toBitVec <<< k)
def shrI (x : Int32) (k : Nat) : Int32 := Int32.ofBitVec (x.toBitVec >>> k)
def sarI (x : Int32) (k : Nat) : Int32 := Int32.ofBitVec (x.toBitVec.sshiftRight k)
def shlL (x : Int64) (k : Nat) : Int64 := Int64.ofBitVec (x.toBitVec <<< k)
def shrL (x : Int64) (k : Nat) : Int64 := Int64.ofBitVec (x.toBitVec >>> k)
def sarL (x : Int64) (k : Nat) : Int64 := Int64.ofBitVec (x.toBitVec.sshiftRight k)
theorem and31 (y : Int32) : (y &&& 31).toBitVec.toNat = sh5 y := by
  show (y.toBitVec &&& (31 : Int32).toBitVec).toNat = _
  rw [BitVec.toNat_and, show (31 : Int32).toBitVec.toNat = 2 ^ 5 - 1 from by decide, Nat.and_two_pow_sub_one_eq_mod]; rfl
theorem and63 (y : Int32) : (y.toInt64 &&& 63).toBitVec = BitVec.ofNat 64 (sh6 y) := by
  apply BitVec.eq_of_toNat_eq
  show (y.toBitVec.signExtend 64 &&& (63 : Int64).toBitVec).toNat = _
  rw [BitVec.toNat_and, show (63 : Int64).toBitVec.toNat = 2 ^ 6 - 1 from by decide, Nat.and_two_pow_sub_one_eq_mod, BitVec.toNat_ofNat, BitVec.toNat_signExtend]
  have h1 := y.toBitVec.isLt
  have h2 : (BitVec.setWidth 64 y.toBitVec).toNat = y.toBitVec.toNat := by rw [BitVec.toNat_setWidth]; omega
  rw [h2]
  unfold sh6
  split <;> omega
theorem ishl_eq (x y : Int32) : x <<< (y &&& 31) = shlI x (sh5 y) := by
  apply Int32.toBitVec_inj.mp
  show x.toBitVec <<< ((y &&& 31).toBitVec.smod 32) = x.toBitVec <<< (sh5 y)
  rw [BitVec.shiftLeft_eq', sm32 y _ rfl]; rfl
theorem ishr_eq (x y : Int32) : x >>> (y &&& 31) = sarI x (sh5 y) := by
  apply Int32.toBitVec_inj.mp
  show x.toBitVec.sshiftRight (((y &&& 31).toBitVec.smod 32).toNat) = x.toBitVec.sshiftRight (sh5 y)
  rw [sm32 y _ rfl]; rfl
theorem iushr_eq (x y : Int32) : XT.ushr x y = shrI x (sh5 y) := by
  apply Int32.toBitVec_inj.mp
  show x.toBitVec >>> ((y &&& 31).toBitVec % 32) = x.toBitVec >>> (sh5 y)
  rw [BitVec.ushiftRight_eq', BitVec.toNat_umod, and31]
  congr 1
  show sh5 y % 32 = sh5 y
  unfold sh5; omega
theorem lshl_eq (x : Int64) (y : Int32) : x <<< (y.toInt64 &&& 63) = shlL x (sh6 y) := by
  apply Int64.toBitVec_inj.mp
  show x.toBitVec <<< ((y.toInt64 &&& 63).toBitVec.smod 64) = x.toBitVec <<< (sh6 y)
  rw [BitVec.shiftLeft_eq', and63, smod64 _ (by unfold sh6; omega)]
theorem lshr_eq (x : Int64) (y : Int32) : x >>> (y.toInt64 &&& 63) = sarL x (sh6 y) := by
  apply Int64.toBitVec_inj.mp
  show x.toBitVec.sshiftRight (((y.toInt64 &&& 63).toBitVec.smod 64).toNat) = x.toBitVec.sshiftRight (sh6 y)
  rw [and63, smod64 _ (by unfold sh6; omega)]
theorem lushr_eq (x : Int64) (y : Int32) : XT.ushrL x y = shrL x (sh6 y) := by
  apply Int64.toBitVec_inj.mp
  show x.toBitVec >>> ((y.toInt64 &&& 63).toBitVec % 64) = x.toBitVec >>> (sh6 y)
  rw [BitVec.ushiftRight_eq', BitVec.toNat_umod, and63, BitVec.toNat_ofNat]
  congr 1
  show sh6 y % 2 ^ 64 % 64 = sh6 y
  unfold sh6; omega
section Steps
variable {l : Launch} {Z : State} {own : String} {code : ByteArray} {maxL : Nat} {ret : Option FieldType} {nm : String} {R : Room} {n0 : Nat} {G : Option Value → Heap → Prop} {W : WT} {h : Heap} {k n pc pc' : Nat} {Ls : Array Slot} {st rest : List Value}
theorem Ru.mono (C : Ru l Z own code maxL ret nm R n0 G W) {k2 n2 : Nat} (hk : k ≤ k2) (hn : n ≤ n2) (q : W h k2 n2 pc Ls st) : W h k n pc Ls st := by
  obtain ⟨p, e, s, m, args, below, meth, c, C, rfl⟩ := C
  intro T locs k' n' q1 q2 X eT N
  exact q T locs k' n' (Nat.le_trans q1 hk) (Nat.le_trans q2 hn) X eT N
theorem Ru.atPc (C : Ru l Z own code maxL ret nm R n0 G W) {pc2 : Nat} (hp : pc2 = pc) (q : W h k n pc2 Ls st) : W h k n pc Ls st := hp ▸ q
theorem Ru.iadd (C : Ru l Z own code maxL ret nm R n0 G W) {x y : Int32} (hd : decode code pc = .ok (.iadd, 1)) (hp : pc + 1 = pc') (q : W h k n pc' Ls (.int (x + y) :: rest)) : W h k n pc Ls (.int y :: .int x :: rest) := by
  obtain ⟨p, e, s, m, args, below, meth, c, ⟨hx, hby, hml, hown, hZ, hre, hlk, hnm⟩, rfl⟩ := C
  subst hp
  intro T locs k' n' q1 q2 X eT N
  obtain ⟨s2, o, st2, r⟩ := q T locs k' n' q1 q2 X eT N
  exact ⟨s2, o, XS.iadd (X.here) hx rfl (hb hby hd) rfl st2, r⟩
theorem Ru.isub (C : Ru l Z own code maxL ret nm R n0 G W) {x y : Int32} (hd : decode code pc = .ok (.isub, 1)) (hp : pc + 1 = pc') (q : W h k n pc' Ls (.int (x - y) :: rest)) : W h k n pc Ls (.int y :: .int x :: rest) := by
  obtain ⟨p, e, s, m, args, below, meth, c, ⟨hx, hby, hml, hown, hZ, hre, hlk, hnm⟩, rfl⟩ := C
  subst hp
  intro T locs k' n' q1 q2 X eT N
  obtain ⟨s2, o, st2, r⟩ := q T locs k' n' q1 q2 X eT N
  exact ⟨s2, o, XS.isub (X.here) hx rfl (hb hby hd) rfl st2, r⟩
theorem Ru.iand (C : Ru l Z own code maxL ret nm R n0 G W) {x y : Int32} (hd : decode code pc = .ok (.iand, 1)) (hp : pc + 1 = pc') (q : W h k n pc' Ls (.int (x &&& y) :: rest)) : W h k n pc Ls (.int y :: .int x :: rest) := by
  obtain ⟨p, e, s, m, args, below, meth, c, ⟨hx, hby, hml, hown, hZ, hre, hlk, hnm⟩, rfl⟩ := C
  subst hp
  intro T locs k' n' q1 q2 X eT N
  obtain ⟨s2, o, st2, r⟩ := q T locs k' n' q1 q2 X eT N
  exact ⟨s2, o, XS.iand (X.here) hx rfl (hb hby hd) rfl st2, r⟩
theorem Ru.imul (C : Ru l Z own code maxL ret nm R n0 G W) {x y : Int32} (hd : decode code pc = .ok (.imul, 1)) (hp : pc + 1 = pc') (q : W h k n pc' Ls (.int (x * y) :: rest)) : W h k n pc Ls (.int y :: .int x :: rest) := by
  obtain ⟨p, e, s, m, args, below, meth, c, ⟨hx, hby, hml, hown, hZ, hre, hlk, hnm⟩, rfl⟩ := C
  subst hp
  intro T locs k' n' q1 q2 X eT N
  obtain ⟨s2, o, st2, r⟩ := q T locs k' n' q1 q2 X eT N
  exact ⟨s2, o, XS.imul (X.here) hx rfl (hb hby hd) rfl st2, r⟩
theorem Ru.ixor (C : Ru l Z own code maxL ret nm R n0 G W) {x y : Int32} (hd : decode code pc = .ok (.ixor, 1)) (hp : pc + 1 = pc') (q : W h k n pc' Ls (.int (x ^^^ y) :: rest)) : W h k n pc Ls (.int y :: .int x :: rest) := by
  obtain ⟨p, e, s, m, args, below, meth, c, ⟨hx, hby, hml, hown, hZ, hre, hlk, hnm⟩, rfl⟩ := C
  subst hp
  intro T locs k' n' q1 q2 X eT N
  obtain ⟨s2, o, st2, r⟩ := q T locs k' n' q1 q2 X eT N
  exact ⟨s2, o, XT.ixor (X.here) hx rfl (hb hby hd) rfl st2, r⟩
theorem Ru.ior (C : Ru l Z own code maxL ret nm R n0 G W) {x y : Int32} (hd : decode code pc = .ok (.ior, 1)) (hp : pc + 1 = pc') (q : W h k n pc' Ls (.int (x ||| y) :: rest)) : W h k n pc Ls (.int y :: .int x :: rest) := by
  obtain ⟨p, e, s, m, args, below, meth, c, ⟨hx, hby, hml, hown, hZ, hre, hlk, hnm⟩, rfl⟩ := C
  subst hp
  intro T locs k' n' q1 q2 X eT N
  obtain ⟨s2, o, st2, r⟩ := q T locs k' n' q1 q2 X eT N
  exact ⟨s2, o, XT.ior (X.here) hx rfl (hb hby hd) rfl st2, r⟩
theorem Ru.idiv (C : Ru l Z own code maxL ret nm R n0 G W) {x y : Int32} (hd : decode code pc = .ok (.idiv, 1)) (hp : pc + 1 = pc') (hy : y ≠ 0) (q : W h k n pc' Ls (.int (x / y) :: rest)) : W h k n pc Ls (.int y :: .int x :: rest) := by
  obtain ⟨p, e, s, m, args, below, meth, c, ⟨hx, hby, hml, hown, hZ, hre, hlk, hnm⟩, rfl⟩ := C
  subst hp
  intro T locs k' n' q1 q2 X eT N
  obtain ⟨s2, o, st2, r⟩ := q T locs k' n' q1 q2 X eT N
  exact ⟨s2, o, XS.idiv (X.here) hx rfl (hb hby hd) rfl hy st2, r⟩
theorem Ru.irem (C : Ru l Z own code maxL ret nm R n0 G W) {x y : Int32} (hd : decode code pc = .ok (.irem, 1)) (hp : pc + 1 = pc') (hy : y ≠ 0) (q : W h k n pc' Ls (.int (x % y) :: rest)) : W h k n pc Ls (.int y :: .int x :: rest) := by
  obtain ⟨p, e, s, m, args, below, meth, c, ⟨hx, hby, hml, hown, hZ, hre, hlk, hnm⟩, rfl⟩ := C
  subst hp
  intro T locs k' n' q1 q2 X eT N
  obtain ⟨s2, o, st2, r⟩ := q T locs k' n' q1 q2 X eT N
  exact ⟨s2, o, iremM (X) hx rfl (hb hby hd) rfl hy st2, r⟩
theorem Ru.ineg (C : Ru l Z own code maxL ret nm R n0 G W) {x : Int32} (hd : decode code pc = .ok (.ineg, 1)) (hp : pc + 1 = pc') (q : W h k n pc' Ls (.int (-x) :: rest)) : W h k n pc Ls (.int x :: rest) := by
  obtain ⟨p, e, s, m, args, below, meth, c, ⟨hx, hby, hml, hown, hZ, hre, hlk, hnm⟩, rfl⟩ := C
  subst hp
  intro T locs k' n' q1 q2 X eT N
  obtain ⟨s2, o, st2, r⟩ := q T locs k' n' q1 q2 X eT N
  exact ⟨s2, o, XS.ineg (X.here) hx rfl (hb hby hd) rfl st2, r⟩
theorem Ru.ladd (C : Ru l Z own code maxL ret nm R n0 G W) {x y : Int64} (hd : decode code pc = .ok (.ladd, 1)) (hp : pc + 1 = pc') (q : W h k n pc' Ls (.long (x + y) :: rest)) : W h k n pc Ls (.long y :: .long x :: rest) := by
  obtain ⟨p, e, s, m, args, below, meth, c, ⟨hx, hby, hml, hown, hZ, hre, hlk, hnm⟩, rfl⟩ := C
  subst hp
  intro T locs k' n' q1 q2 X eT N
  obtain ⟨s2, o, st2, r⟩ := q T locs k' n' q1 q2 X eT N
  exact ⟨s2, o, XT.ladd (X.here) hx rfl (hb hby hd) rfl st2, r⟩
theorem Ru.lsub (C : Ru l Z own code maxL ret nm R n0 G W) {x y : Int64} (hd : decode code pc = .ok (.lsub, 1)) (hp : pc + 1 = pc') (q : W h k n pc' Ls (.long (x - y) :: rest)) : W h k n pc Ls (.long y :: .long x :: rest) := by
  obtain ⟨p, e, s, m, args, below, meth, c, ⟨hx, hby, hml, hown, hZ, hre, hlk, hnm⟩, rfl⟩ := C
  subst hp
  intro T locs k' n' q1 q2 X eT N
  obtain ⟨s2, o, st2, r⟩ := q T locs k' n' q1 q2 X eT N
  exact ⟨s2, o, XT.lsub (X.here) hx rfl (hb hby hd) rfl st2, r⟩
theorem Ru.lmul (C : Ru l Z own code maxL ret nm R n0 G W) {x y : Int64} (hd : decode code pc = .ok (.lmul, 1)) (hp : pc + 1 = pc') (q : W h k n pc' Ls (.long (x * y) :: rest)) : W h k n pc Ls (.long y :: .long x :: rest) := by
  obtain ⟨p, e, s, m, args, below, meth, c, ⟨hx, hby, hml, hown, hZ, hre, hlk, hnm⟩, rfl⟩ := C
  subst hp
  intro T locs k' n' q1 q2 X eT N
  obtain ⟨s2, o, st2, r⟩ := q T locs k' n' q1 q2 X eT N
  exact ⟨s2, o, XT.lmul (X.here) hx rfl (hb hby hd) rfl st2, r⟩
theorem Ru.land (C : Ru l Z own code maxL ret nm R n0 G W) {x y : Int64} (hd : decode code pc = .ok (.land, 1)) (hp : pc + 1 = pc') (q : W h k n pc' Ls (.long (x &&& y) :: rest)) : W h k n pc Ls (.long y :: .long x :: rest) := by
  obtain ⟨p, e, s, m, args, below, meth, c, ⟨hx, hby, hml, hown, hZ, hre, hlk, hnm⟩, rfl⟩ := C
  subst hp
  intro T locs k' n' q1 q2 X eT N
  obtain ⟨s2, o, st2, r⟩ := q T locs k' n' q1 q2 X eT N
  exact ⟨s2, o, XT.land (X.here) hx rfl (hb hby hd) rfl st2, r⟩
theorem Ru.lor (C : Ru l Z own code maxL ret nm R n0 G W) {x y : Int64} (hd : decode code pc = .ok (.lor, 1)) (hp : pc + 1 = pc') (q : W h k n pc' Ls (.long (x ||| y) :: rest)) : W h k n pc Ls (.long y :: .long x :: rest) := by
  obtain ⟨p, e, s, m, args, below, meth, c, ⟨hx, hby, hml, hown, hZ, hre, hlk, hnm⟩, rfl⟩ := C
  subst hp
  intro T locs k' n' q1 q2 X eT N
  obtain ⟨s2, o, st2, r⟩ := q T locs k' n' q1 q2 X eT N
  exact ⟨s2, o, XT.lor (X.here) hx rfl (hb hby hd) rfl st2, r⟩
theorem Ru.lxor (C : Ru l Z own code maxL ret nm R n0 G W) {x y : Int64} (hd : decode code pc = .ok (.lxor, 1)) (hp : pc + 1 = pc') (q : W h k n pc' Ls (.long (x ^^^ y) :: rest)) : W h k n pc Ls (.long y :: .long x :: rest) := by
  obtain ⟨p, e, s, m, args, below, meth, c, ⟨hx, hby, hml, hown, hZ, hre, hlk, hnm⟩, rfl⟩ := C
  subst hp
  intro T locs k' n' q1 q2 X eT N
  obtain ⟨s2, o, st2, r⟩ := q T locs k' n' q1 q2 X eT N
  exact ⟨s2, o, XT.lxor (X.here) hx rfl (hb hby hd) rfl st2, r⟩
theorem Ru.ldiv (C : Ru l Z own code maxL ret nm R n0 G W) {x y : Int64} (hd : decode code pc = .ok (.ldiv, 1)) (hp : pc + 1 = pc') (hy : y ≠ 0) (q : W h k n pc' Ls (.long (x / y) :: rest)) : W h k n pc Ls (.long y :: .long x :: rest) := by
  obtain ⟨p, e, s, m, args, below, meth, c, ⟨hx, hby, hml, hown, hZ, hre, hlk, hnm⟩, rfl⟩ := C
  subst hp
  intro T locs k' n' q1 q2 X eT N
  obtain ⟨s2, o, st2, r⟩ := q T locs k' n' q1 q2 X eT N
  exact ⟨s2, o, XT.ldiv (X.here) hx rfl (hb hby hd) rfl hy st2, r⟩
theorem Ru.ishl (C : Ru l Z own code maxL ret nm R n0 G W) {x : Int32} {y : Int32} {s : Nat} (hd : decode code pc = .ok (.ishl, 1)) (hp : pc + 1 = pc') (hs : sh5 y = s) (q : W h k n pc' Ls (.int (shlI x s) :: rest)) : W h k n pc Ls (.int y :: .int x :: rest) := by
  obtain ⟨p, e, s', m, args, below, meth, c, ⟨hx, hby, hml, hown, hZ, hre, hlk, hnm⟩, rfl⟩ := C
  subst hp hs
  intro T locs k' n' q1 q2 X eT N
  obtain ⟨s2, o, st2, r⟩ := q T locs k' n' q1 q2 X eT N
  exact ⟨s2, o, XT.ishl X.here hx rfl (hb hby hd) rfl (by rw [ishl_eq]; exact st2), r⟩
theorem Ru.ishr (C : Ru l Z own code maxL ret nm R n0 G W) {x : Int32} {y : Int32} {s : Nat} (hd : decode code pc = .ok (.ishr, 1)) (hp : pc + 1 = pc') (hs : sh5 y = s) (q : W h k n pc' Ls (.int (sarI x s) :: rest)) : W h k n pc Ls (.int y :: .int x :: rest) := by
  obtain ⟨p, e, s', m, args, below, meth, c, ⟨hx, hby, hml, hown, hZ, hre, hlk, hnm⟩, rfl⟩ := C
  subst hp hs
  intro T locs k' n' q1 q2 X eT N
  obtain ⟨s2, o, st2, r⟩ := q T locs k' n' q1 q2 X eT N
  exact ⟨s2, o, XT.ishr X.here hx rfl (hb hby hd) rfl (by rw [ishr_eq]; exact st2), r⟩
theorem Ru.iushr (C : Ru l Z own code maxL ret nm R n0 G W) {x : Int32} {y : Int32} {s : Nat} (hd : decode code pc = .ok (.iushr, 1)) (hp : pc + 1 = pc') (hs : sh5 y = s) (q : W h k n pc' Ls (.int (shrI x s) :: rest)) : W h k n pc Ls (.int y :: .int x :: rest) := by
  obtain ⟨p, e, s', m, args, below, meth, c, ⟨hx, hby, hml, hown, hZ, hre, hlk, hnm⟩, rfl⟩ := C
  subst hp hs
  intro T locs k' n' q1 q2 X eT N
  obtain ⟨s2, o, st2, r⟩ := q T locs k' n' q1 q2 X eT N
  exact ⟨s2, o, XT.iushr X.here hx rfl (hb hby hd) rfl (by rw [iushr_eq]; exact st2), r⟩
theorem Ru.lshl (C : Ru l Z own code maxL ret nm R n0 G W) {x : Int64} {y : Int32} {s : Nat} (hd : decode code pc = .ok (.lshl, 1)) (hp : pc + 1 = pc') (hs : sh6 y = s) (q : W h k n pc' Ls (.long (shlL x s) :: rest)) : W h k n pc Ls (.int y :: .long x :: rest) := by
  obtain ⟨p, e, s', m, args, below, meth, c, ⟨hx, hby, hml, hown, hZ, hre, hlk, hnm⟩, rfl⟩ := C
  subst hp hs
  intro T locs k' n' q1 q2 X eT N
  obtain ⟨s2, o, st2, r⟩ := q T locs k' n' q1 q2 X eT N
  exact ⟨s2, o, XT.lshl X.here hx rfl (hb hby hd) rfl (by rw [lshl_eq]; exact st2), r⟩
theorem Ru.lshr (C : Ru l Z own code maxL ret nm R n0 G W) {x : Int64} {y : Int32} {s : Nat} (hd : decode code pc = .ok (.lshr, 1)) (hp : pc + 1 = pc') (hs : sh6 y = s) (q : W h k n pc' Ls (.long (sarL x s) :: rest)) : W h k n pc Ls (.int y :: .long x :: rest) := by
  obtain ⟨p, e, s', m, args, below, meth, c, ⟨hx, hby, hml, hown, hZ, hre, hlk, hnm⟩, rfl⟩ := C
  subst hp hs
  intro T locs k' n' q1 q2 X eT N
  obtain ⟨s2, o, st2, r⟩ := q T locs k' n' q1 q2 X eT N
  exact ⟨s2, o, XT.lshr X.here hx rfl (hb hby hd) rfl (by rw [lshr_eq]; exact st2), r⟩
theorem Ru.lushr (C : Ru l Z own code maxL ret nm R n0 G W) {x : Int64} {y : Int32} {s : Nat} (hd : decode code pc = .ok (.lushr, 1)) (hp : pc + 1 = pc') (hs : sh6 y = s) (q : W h k n pc' Ls (.long (shrL x s) :: rest)) : W h k n pc Ls (.int y :: .long x :: rest) := by
  obtain ⟨p, e, s', m, args, below, meth, c, ⟨hx, hby, hml, hown, hZ, hre, hlk, hnm⟩, rfl⟩ := C
  subst hp hs
  intro T locs k' n' q1 q2 X eT N
  obtain ⟨s2, o, st2, r⟩ := q T locs k' n' q1 q2 X eT N
  exact ⟨s2, o, XT.lushr X.here hx rfl (hb hby hd) rfl (by rw [lushr_eq]; exact st2), r⟩
theorem Ru.i2l (C : Ru l Z own code maxL ret nm R n0 G W) {x : Int32} (hd : decode code pc = .ok (.i2l, 1)) (hp : pc + 1 = pc') (q : W h k n pc' Ls (.long x.toInt64 :: rest)) : W h k n pc Ls (.int x :: rest) := by
  obtain ⟨p, e, s, m, args, below, meth, c, ⟨hx, hby, hml, hown, hZ, hre, hlk, hnm⟩, rfl⟩ := C
  subst hp
  intro T locs k' n' q1 q2 X eT N
  obtain ⟨s2, o, st2, r⟩ := q T locs k' n' q1 q2 X eT N
  exact ⟨s2, o, XT.i2l (X.here) hx rfl (hb hby hd) rfl st2, r⟩
theorem Ru.l2i (C : Ru l Z own code maxL ret nm R n0 G W) {x : Int64} (hd : decode code pc = .ok (.l2i, 1)) (hp : pc + 1 = pc') (q : W h k n pc' Ls (.int x.toInt32 :: rest)) : W h k n pc Ls (.long x :: rest) := by
  obtain ⟨p, e, s, m, args, below, meth, c, ⟨hx, hby, hml, hown, hZ, hre, hlk, hnm⟩, rfl⟩ := C
  subst hp
  intro T locs k' n' q1 q2 X eT N
  obtain ⟨s2, o, st2, r⟩ := q T locs k' n' q1 q2 X eT N
  exact ⟨s2, o, XT.l2i (X.here) hx rfl (hb hby hd) rfl st2, r⟩
theorem Ru.i2b (C : Ru l Z own code maxL ret nm R n0 G W) {x : Int32} (hd : decode code pc = .ok (.i2b, 1)) (hp : pc + 1 = pc') (q : W h k n pc' Ls (.int x.toInt8.toInt32 :: rest)) : W h k n pc Ls (.int x :: rest) := by
  obtain ⟨p, e, s, m, args, below, meth, c, ⟨hx, hby, hml, hown, hZ, hre, hlk, hnm⟩, rfl⟩ := C
  subst hp
  intro T locs k' n' q1 q2 X eT N
  obtain ⟨s2, o, st2, r⟩ := q T locs k' n' q1 q2 X eT N
  exact ⟨s2, o, XT.i2b (X.here) hx rfl (hb hby hd) rfl st2, r⟩
theorem Ru.iconst (C : Ru l Z own code maxL ret nm R n0 G W) {i : Int} {v : Int32} (hd : decode code pc = .ok (.iconst i, 1)) (hp : pc + 1 = pc') (hv : Int32.ofInt i = v) (q : W h k n pc' Ls (.int v :: st)) : W h k n pc Ls (st) := by
  obtain ⟨p, e, s, m, args, below, meth, c, ⟨hx, hby, hml, hown, hZ, hre, hlk, hnm⟩, rfl⟩ := C
  subst hp hv
  intro T locs k' n' q1 q2 X eT N
  obtain ⟨s2, o, st2, r⟩ := q T locs k' n' q1 q2 X eT N
  exact ⟨s2, o, XS.iconst (X.here) hx rfl (hb hby hd)  st2, r⟩
theorem Ru.bipush (C : Ru l Z own code maxL ret nm R n0 G W) {i : Int} {v : Int32} (hd : decode code pc = .ok (.bipush i, 2)) (hp : pc + 2 = pc') (hv : (Int8.ofInt i).toInt32 = v) (q : W h k n pc' Ls (.int v :: st)) : W h k n pc Ls (st) := by
  obtain ⟨p, e, s, m, args, below, meth, c, ⟨hx, hby, hml, hown, hZ, hre, hlk, hnm⟩, rfl⟩ := C
  subst hp hv
  intro T locs k' n' q1 q2 X eT N
  obtain ⟨s2, o, st2, r⟩ := q T locs k' n' q1 q2 X eT N
  exact ⟨s2, o, XS.bipush (X.here) hx rfl (hb hby hd)  st2, r⟩
theorem Ru.sipush (C : Ru l Z own code maxL ret nm R n0 G W) {i : Int} {v : Int32} (hd : decode code pc = .ok (.sipush i, 3)) (hp : pc + 3 = pc') (hv : (Int16.ofInt i).toInt32 = v) (q : W h k n pc' Ls (.int v :: st)) : W h k n pc Ls (st) := by
  obtain ⟨p, e, s, m, args, below, meth, c, ⟨hx, hby, hml, hown, hZ, hre, hlk, hnm⟩, rfl⟩ := C
  subst hp hv
  intro T locs k' n' q1 q2 X eT N
  obtain ⟨s2, o, st2, r⟩ := q T locs k' n' q1 q2 X eT N
  exact ⟨s2, o, XS.sipush (X.here) hx rfl (hb hby hd)  st2, r⟩
theorem Ru.lconst (C : Ru l Z own code maxL ret nm R n0 G W) {i : Fin 2} {v : Int64} (hd : decode code pc = .ok (.lconst i, 1)) (hp : pc + 1 = pc') (hv : Int64.ofNat i = v) (q : W h k n pc' Ls (.long v :: st)) : W h k n pc Ls (st) := by
  obtain ⟨p, e, s, m, args, below, meth, c, ⟨hx, hby, hml, hown, hZ, hre, hlk, hnm⟩, rfl⟩ := C
  subst hp hv
  intro T locs k' n' q1 q2 X eT N
  obtain ⟨s2, o, st2, r⟩ := q T locs k' n' q1 q2 X eT N
  exact ⟨s2, o, XT.lconst (X.here) hx rfl (hb hby hd)  st2, r⟩
theorem Ru.aconstNull (C : Ru l Z own code maxL ret nm R n0 G W)  (hd : decode code pc = .ok (.aconst_null, 1)) (hp : pc + 1 = pc') (q : W h k n pc' Ls (.null :: st)) : W h k n pc Ls (st) := by
  obtain ⟨p, e, s, m, args, below, meth, c, ⟨hx, hby, hml, hown, hZ, hre, hlk, hnm⟩, rfl⟩ := C
  subst hp
  intro T locs k' n' q1 q2 X eT N
  obtain ⟨s2, o, st2, r⟩ := q T locs k' n' q1 q2 X eT N
  exact ⟨s2, o, XS.aconstNull (X.here) hx rfl (hb hby hd)  st2, r⟩
theorem Ru.dup (C : Ru l Z own code maxL ret nm R n0 G W) {x : Value} (hd : decode code pc = .ok (.dup, 1)) (hp : pc + 1 = pc') (hc : x.category = 1) (q : W h k n pc' Ls (x :: x :: rest)) : W h k n pc Ls (x :: rest) := by
  obtain ⟨p, e, s, m, args, below, meth, c, ⟨hx, hby, hml, hown, hZ, hre, hlk, hnm⟩, rfl⟩ := C
  subst hp
  intro T locs k' n' q1 q2 X eT N
  obtain ⟨s2, o, st2, r⟩ := q T locs k' n' q1 q2 X eT N
  exact ⟨s2, o, XS.dup (X.here) hx rfl (hb hby hd) rfl hc st2, r⟩
theorem Ru.pop (C : Ru l Z own code maxL ret nm R n0 G W) {x : Value} (hd : decode code pc = .ok (.pop, 1)) (hp : pc + 1 = pc') (hc : x.category = 1) (q : W h k n pc' Ls (rest)) : W h k n pc Ls (x :: rest) := by
  obtain ⟨p, e, s, m, args, below, meth, c, ⟨hx, hby, hml, hown, hZ, hre, hlk, hnm⟩, rfl⟩ := C
  subst hp
  intro T locs k' n' q1 q2 X eT N
  obtain ⟨s2, o, st2, r⟩ := q T locs k' n' q1 q2 X eT N
  exact ⟨s2, o, XT.pop (X.here) hx rfl (hb hby hd) rfl hc st2, r⟩
theorem Ru.dup2 (C : Ru l Z own code maxL ret nm R n0 G W) {x y : Value} (hd : decode code pc = .ok (.dup2, 1)) (hp : pc + 1 = pc') (hc : x.category = 1) (hc' : y.category = 1) (q : W h k n pc' Ls (x :: y :: x :: y :: rest)) : W h k n pc Ls (x :: y :: rest) := by
  obtain ⟨p, e, s, m, args, below, meth, c, ⟨hx, hby, hml, hown, hZ, hre, hlk, hnm⟩, rfl⟩ := C
  subst hp
  intro T locs k' n' q1 q2 X eT N
  obtain ⟨s2, o, st2, r⟩ := q T locs k' n' q1 q2 X eT N
  exact ⟨s2, o, XT.dup2 (X.here) hx rfl (hb hby hd) rfl hc hc' st2, r⟩
theorem Ru.dup2L (C : Ru l Z own code maxL ret nm R n0 G W) {x : Int64} (hd : decode code pc = .ok (.dup2, 1)) (hp : pc + 1 = pc') (q : W h k n pc' Ls (.long x :: .long x :: rest)) : W h k n pc Ls (.long x :: rest) := by
  obtain ⟨p, e, s, m, args, below, meth, c, ⟨hx, hby, hml, hown, hZ, hre, hlk, hnm⟩, rfl⟩ := C
  subst hp
  intro T locs k' n' q1 q2 X eT N
  obtain ⟨s2, o, st2, r⟩ := q T locs k' n' q1 q2 X eT N
  exact ⟨s2, o, XT.dup2L (X.here) hx rfl (hb hby hd) rfl st2, r⟩
theorem Ru.dupX1 (C : Ru l Z own code maxL ret nm R n0 G W) {x y : Value} (hd : decode code pc = .ok (.dup_x1, 1)) (hp : pc + 1 = pc') (hc : x.category = 1) (hc' : y.category = 1) (q : W h k n pc' Ls (x :: y :: x :: rest)) : W h k n pc Ls (x :: y :: rest) := by
  obtain ⟨p, e, s, m, args, below, meth, c, ⟨hx, hby, hml, hown, hZ, hre, hlk, hnm⟩, rfl⟩ := C
  subst hp
  intro T locs k' n' q1 q2 X eT N
  obtain ⟨s2, o, st2, r⟩ := q T locs k' n' q1 q2 X eT N
  exact ⟨s2, o, XT.dupX1 (X.here) hx rfl (hb hby hd) rfl hc hc' st2, r⟩
theorem Ru.iload (C : Ru l Z own code maxL ret nm R n0 G W) {j : Nat} {v : Int32} (hd : decode code pc = .ok (.iload j, 2)) (hp : pc + 2 = pc') (hl : Ls[j]? = some (.val (.int v))) (q : W h k n pc' Ls (.int v :: st)) : W h k n pc Ls (st) := by
  obtain ⟨p, e, s, m, args, below, meth, c, ⟨hx, hby, hml, hown, hZ, hre, hlk, hnm⟩, rfl⟩ := C
  subst hp
  intro T locs k' n' q1 q2 X eT N
  obtain ⟨s2, o, st2, r⟩ := q T locs k' n' q1 q2 X eT N
  exact ⟨s2, o, XS.iload (X.here) hx rfl (hb hby hd) hl st2, r⟩
theorem Ru.iloadN (C : Ru l Z own code maxL ret nm R n0 G W) {j : Fin 4} {v : Int32} (hd : decode code pc = .ok (.iload_n j, 1)) (hp : pc + 1 = pc') (hl : Ls[j.val]? = some (.val (.int v))) (q : W h k n pc' Ls (.int v :: st)) : W h k n pc Ls (st) := by
  obtain ⟨p, e, s, m, args, below, meth, c, ⟨hx, hby, hml, hown, hZ, hre, hlk, hnm⟩, rfl⟩ := C
  subst hp
  intro T locs k' n' q1 q2 X eT N
  obtain ⟨s2, o, st2, r⟩ := q T locs k' n' q1 q2 X eT N
  exact ⟨s2, o, XS.iloadN (X.here) hx rfl (hb hby hd) hl st2, r⟩
theorem Ru.lload (C : Ru l Z own code maxL ret nm R n0 G W) {j : Nat} {v : Int64} (hd : decode code pc = .ok (.lload j, 2)) (hp : pc + 2 = pc') (hl : Ls[j]? = some (.val (.long v))) (q : W h k n pc' Ls (.long v :: st)) : W h k n pc Ls (st) := by
  obtain ⟨p, e, s, m, args, below, meth, c, ⟨hx, hby, hml, hown, hZ, hre, hlk, hnm⟩, rfl⟩ := C
  subst hp
  intro T locs k' n' q1 q2 X eT N
  obtain ⟨s2, o, st2, r⟩ := q T locs k' n' q1 q2 X eT N
  exact ⟨s2, o, XT.lload (X.here) hx rfl (hb hby hd) hl st2, r⟩
theorem Ru.lloadN (C : Ru l Z own code maxL ret nm R n0 G W) {j : Fin 4} {v : Int64} (hd : decode code pc = .ok (.lload_n j, 1)) (hp : pc + 1 = pc') (hl : Ls[j.val]? = some (.val (.long v))) (q : W h k n pc' Ls (.long v :: st)) : W h k n pc Ls (st) := by
  obtain ⟨p, e, s, m, args, below, meth, c, ⟨hx, hby, hml, hown, hZ, hre, hlk, hnm⟩, rfl⟩ := C
  subst hp
  intro T locs k' n' q1 q2 X eT N
  obtain ⟨s2, o, st2, r⟩ := q T locs k' n' q1 q2 X eT N
  exact ⟨s2, o, XT.lloadN (X.here) hx rfl (hb hby hd) hl st2, r⟩
theorem Ru.aload (C : Ru l Z own code maxL ret nm R n0 G W) {j : Nat} {v : Value} (hd : decode code pc = .ok (.aload j, 2)) (hp : pc + 2 = pc') (hl : Ls[j]? = some (.val v)) (hv : v.isRef = true) (q : W h k n pc' Ls (v :: st)) : W h k n pc Ls (st) := by
  obtain ⟨p, e, s, m, args, below, meth, c, ⟨hx, hby, hml, hown, hZ, hre, hlk, hnm⟩, rfl⟩ := C
  subst hp
  intro T locs k' n' q1 q2 X eT N
  obtain ⟨s2, o, st2, r⟩ := q T locs k' n' q1 q2 X eT N
  exact ⟨s2, o, XS.aload (X.here) hx rfl (hb hby hd) hl hv st2, r⟩
theorem Ru.aloadN (C : Ru l Z own code maxL ret nm R n0 G W) {j : Fin 4} {v : Value} (hd : decode code pc = .ok (.aload_n j, 1)) (hp : pc + 1 = pc') (hl : Ls[j.val]? = some (.val v)) (hv : v.isRef = true) (q : W h k n pc' Ls (v :: st)) : W h k n pc Ls (st) := by
  obtain ⟨p, e, s, m, args, below, meth, c, ⟨hx, hby, hml, hown, hZ, hre, hlk, hnm⟩, rfl⟩ := C
  subst hp
  intro T locs k' n' q1 q2 X eT N
  obtain ⟨s2, o, st2, r⟩ := q T locs k' n' q1 q2 X eT N
  exact ⟨s2, o, XS.aloadN (X.here) hx rfl (hb hby hd) hl hv st2, r⟩
theorem Ru.istoreX (C : Ru l Z own code maxL ret nm R n0 G W) {j : Nat} {x : Int32} {l' : Array Slot} (hd : decode code pc = .ok (.istore j, 2)) (hp : pc + 2 = pc') (hl : storeLocals Ls j (.int x) = some l') (q : W h k n pc' l' rest) : W h k n pc Ls (.int x :: rest) := by
  obtain ⟨p, e, s, m, args, below, meth, c, ⟨hx, hby, hml, hown, hZ, hre, hlk, hnm⟩, rfl⟩ := C
  subst hp
  intro T locs k' n' q1 q2 X eT N
  obtain ⟨s2, o, st2, r⟩ := q T locs k' n' q1 q2 X eT N
  exact ⟨s2, o, XS.istore X.here hx rfl (hb hby hd) rfl hl st2, r⟩
theorem Ru.istoreNX (C : Ru l Z own code maxL ret nm R n0 G W) {j : Fin 4} {x : Int32} {l' : Array Slot} (hd : decode code pc = .ok (.istore_n j, 1)) (hp : pc + 1 = pc') (hl : storeLocals Ls j.val (.int x) = some l') (q : W h k n pc' l' rest) : W h k n pc Ls (.int x :: rest) := by
  obtain ⟨p, e, s, m, args, below, meth, c, ⟨hx, hby, hml, hown, hZ, hre, hlk, hnm⟩, rfl⟩ := C
  subst hp
  intro T locs k' n' q1 q2 X eT N
  obtain ⟨s2, o, st2, r⟩ := q T locs k' n' q1 q2 X eT N
  exact ⟨s2, o, XS.istoreN X.here hx rfl (hb hby hd) rfl hl st2, r⟩
theorem Ru.lstoreX (C : Ru l Z own code maxL ret nm R n0 G W) {j : Nat} {x : Int64} {l' : Array Slot} (hd : decode code pc = .ok (.lstore j, 2)) (hp : pc + 2 = pc') (hl : storeLocals Ls j (.long x) = some l') (q : W h k n pc' l' rest) : W h k n pc Ls (.long x :: rest) := by
  obtain ⟨p, e, s, m, args, below, meth, c, ⟨hx, hby, hml, hown, hZ, hre, hlk, hnm⟩, rfl⟩ := C
  subst hp
  intro T locs k' n' q1 q2 X eT N
  obtain ⟨s2, o, st2, r⟩ := q T locs k' n' q1 q2 X eT N
  exact ⟨s2, o, XT.lstore X.here hx rfl (hb hby hd) rfl hl st2, r⟩
theorem Ru.lstoreNX (C : Ru l Z own code maxL ret nm R n0 G W) {j : Fin 4} {x : Int64} {l' : Array Slot} (hd : decode code pc = .ok (.lstore_n j, 1)) (hp : pc + 1 = pc') (hl : storeLocals Ls j.val (.long x) = some l') (q : W h k n pc' l' rest) : W h k n pc Ls (.long x :: rest) := by
  obtain ⟨p, e, s, m, args, below, meth, c, ⟨hx, hby, hml, hown, hZ, hre, hlk, hnm⟩, rfl⟩ := C
  subst hp
  intro T locs k' n' q1 q2 X eT N
  obtain ⟨s2, o, st2, r⟩ := q T locs k' n' q1 q2 X eT N
  exact ⟨s2, o, XT.lstoreN X.here hx rfl (hb hby hd) rfl hl st2, r⟩
theorem Ru.istore (C : Ru l Z own code maxL ret nm R n0 G W) {j : Nat} {x : Int32} {f : Int32 → Array Slot} (hd : decode code pc = .ok (.istore j, 2)) (hp : pc + 2 = pc') (hl : ∀ v, storeLocals Ls j (.int v) = some (f v)) (q : ∀ v, v = x → W h k n pc' (f v) rest) : W h k n pc Ls (.int x :: rest) := by
  obtain ⟨p, e, s, m, args, below, meth, c, ⟨hx, hby, hml, hown, hZ, hre, hlk, hnm⟩, rfl⟩ := C
  subst hp
  intro T locs k' n' q1 q2 X eT N
  obtain ⟨s2, o, st2, r⟩ := q x rfl T locs k' n' q1 q2 X eT N
  exact ⟨s2, o, XS.istore X.here hx rfl (hb hby hd) rfl (hl x) st2, r⟩
theorem Ru.istoreN (C : Ru l Z own code maxL ret nm R n0 G W) {j : Fin 4} {x : Int32} {f : Int32 → Array Slot} (hd : decode code pc = .ok (.istore_n j, 1)) (hp : pc + 1 = pc') (hl : ∀ v, storeLocals Ls j.val (.int v) = some (f v)) (q : ∀ v, v = x → W h k n pc' (f v) rest) : W h k n pc Ls (.int x :: rest) := by
  obtain ⟨p, e, s, m, args, below, meth, c, ⟨hx, hby, hml, hown, hZ, hre, hlk, hnm⟩, rfl⟩ := C
  subst hp
  intro T locs k' n' q1 q2 X eT N
  obtain ⟨s2, o, st2, r⟩ := q x rfl T locs k' n' q1 q2 X eT N
  exact ⟨s2, o, XS.istoreN X.here hx rfl (hb hby hd) rfl (hl x) st2, r⟩
theorem Ru.lstore (C : Ru l Z own code maxL ret nm R n0 G W) {j : Nat} {x : Int64} {f : Int64 → Array Slot} (hd : decode code pc = .ok (.lstore j, 2)) (hp : pc + 2 = pc') (hl : ∀ v, storeLocals Ls j (.long v) = some (f v)) (q : ∀ v, v = x → W h k n pc' (f v) rest) : W h k n pc Ls (.long x :: rest) := by
  obtain ⟨p, e, s, m, args, below, meth, c, ⟨hx, hby, hml, hown, hZ, hre, hlk, hnm⟩, rfl⟩ := C
  subst hp
  intro T locs k' n' q1 q2 X eT N
  obtain ⟨s2, o, st2, r⟩ := q x rfl T locs k' n' q1 q2 X eT N
  exact ⟨s2, o, XT.lstore X.here hx rfl (hb hby hd) rfl (hl x) st2, r⟩
theorem Ru.lstoreN (C : Ru l Z own code maxL ret nm R n0 G W) {j : Fin 4} {x : Int64} {f : Int64 → Array Slot} (hd : decode code pc = .ok (.lstore_n j, 1)) (hp : pc + 1 = pc') (hl : ∀ v, storeLocals Ls j.val (.long v) = some (f v)) (q : ∀ v, v = x → W h k n pc' (f v) rest) : W h k n pc Ls (.long x :: rest) := by
  obtain ⟨p, e, s, m, args, below, meth, c, ⟨hx, hby, hml, hown, hZ, hre, hlk, hnm⟩, rfl⟩ := C
  subst hp
  intro T locs k' n' q1 q2 X eT N
  obtain ⟨s2, o, st2, r⟩ := q x rfl T locs k' n' q1 q2 X eT N
  exact ⟨s2, o, XT.lstoreN X.here hx rfl (hb hby hd) rfl (hl x) st2, r⟩
theorem Ru.astore (C : Ru l Z own code maxL ret nm R n0 G W) {j : Nat} {x : Value} {l' : Array Slot} (hd : decode code pc = .ok (.astore j, 2)) (hp : pc + 2 = pc') (hv : x.isRef = true) (hl : storeLocals Ls j x = some l') (q : W h k n pc' l' rest) : W h k n pc Ls (x :: rest) := by
  obtain ⟨p, e, s, m, args, below, meth, c, ⟨hx, hby, hml, hown, hZ, hre, hlk, hnm⟩, rfl⟩ := C
  subst hp
  intro T locs k' n' q1 q2 X eT N
  obtain ⟨s2, o, st2, r⟩ := q T locs k' n' q1 q2 X eT N
  exact ⟨s2, o, XS.astore X.here hx rfl (hb hby hd) rfl hv hl st2, r⟩
theorem Ru.astoreN (C : Ru l Z own code maxL ret nm R n0 G W) {j : Fin 4} {x : Value} {l' : Array Slot} (hd : decode code pc = .ok (.astore_n j, 1)) (hp : pc + 1 = pc') (hv : x.isRef = true) (hl : storeLocals Ls j.val x = some l') (q : W h k n pc' l' rest) : W h k n pc Ls (x :: rest) := by
  obtain ⟨p, e, s, m, args, below, meth, c, ⟨hx, hby, hml, hown, hZ, hre, hlk, hnm⟩, rfl⟩ := C
  subst hp
  intro T locs k' n' q1 q2 X eT N
  obtain ⟨s2, o, st2, r⟩ := q T locs k' n' q1 q2 X eT N
  exact ⟨s2, o, XS.astoreN X.here hx rfl (hb hby hd) rfl hv hl st2, r⟩
theorem Ru.iinc (C : Ru l Z own code maxL ret nm R n0 G W) {j : Nat} {cst : Int} {x d : Int32} {f : Int32 → Array Slot} (hd : decode code pc = .ok (.iinc j cst, 3)) (hp : pc + 3 = pc') (hl : Ls[j]? = some (.val (.int x))) (hc : Int32.ofInt cst = d) (hl' : ∀ v, storeLocals Ls j (.int v) = some (f v)) (q : ∀ v, v = x + d → W h k n pc' (f v) st) : W h k n pc Ls st := by
  obtain ⟨p, e, s, m, args, below, meth, c, ⟨hx, hby, hml, hown, hZ, hre, hlk, hnm⟩, rfl⟩ := C
  subst hp hc
  intro T locs k' n' q1 q2 X eT N
  obtain ⟨s2, o, st2, r⟩ := q _ rfl T locs k' n' q1 q2 X eT N
  exact ⟨s2, o, XS.iinc X.here hx rfl (hb hby hd) hl (hl' _) st2, r⟩
theorem Ru.goto (C : Ru l Z own code maxL ret nm R n0 G W) {o : Int} (hd : decode code pc = .ok (.goto o, 3)) (hp : (pc : Int) + o = (pc' : Int)) (q : W h k n pc' Ls st) : W h k n pc Ls st := by
  obtain ⟨p, e, s, m, args, below, meth, c, ⟨hx, hby, hml, hown, hZ, hre, hlk, hnm⟩, rfl⟩ := C
  intro T locs k' n' q1 q2 X eT N
  obtain ⟨s2, o2, st2, r⟩ := q T locs k' n' q1 q2 X eT N
  exact ⟨s2, o2, XS.goto X.here hx rfl (pc0 := pc) (pc' := pc') rfl (hb hby hd) (by omega) (by omega) st2, r⟩
theorem Ru.ifAny (C : Ru l Z own code maxL ret nm R n0 G W) {cd : ClassFile.Cond} {o : Int} {x : Int32} {pt : Nat} (hd : decode code pc = .ok (.ifCond cd o, 3)) (hp : pc + 3 = pc') (ht : (pc : Int) + o = (pt : Int)) (q1 : ifCond.holds cd x = true → W h k n pt Ls rest) (q2 : ifCond.holds cd x = false → W h k n pc' Ls rest) : W h k n pc Ls (.int x :: rest) := by
  obtain ⟨p, e, s, m, args, below, meth, c, ⟨hx, hby, hml, hown, hZ, hre, hlk, hnm⟩, rfl⟩ := C
  subst hp
  intro T locs k' n' u1 u2 X eT N
  cases hc : ifCond.holds cd x
  · obtain ⟨s2, o2, st2, r⟩ := q2 hc T locs k' n' u1 u2 X eT N
    exact ⟨s2, o2, XS.ifNo X.here hx rfl (hb hby hd) rfl hc st2, r⟩
  · obtain ⟨s2, o2, st2, r⟩ := q1 hc T locs k' n' u1 u2 X eT N
    exact ⟨s2, o2, XS.ifYes X.here hx rfl (pc0 := pc) (pc' := pt) rfl (hb hby hd) rfl hc (by omega) (by omega) st2, r⟩
theorem Ru.icmpAny (C : Ru l Z own code maxL ret nm R n0 G W) {cd : ClassFile.Cond} {o : Int} {x y : Int32} {pt : Nat} (hd : decode code pc = .ok (.if_icmp cd o, 3)) (hp : pc + 3 = pc') (ht : (pc : Int) + o = (pt : Int)) (q1 : if_icmp.holds cd x y = true → W h k n pt Ls rest) (q2 : if_icmp.holds cd x y = false → W h k n pc' Ls rest) : W h k n pc Ls (.int y :: .int x :: rest) := by
  obtain ⟨p, e, s, m, args, below, meth, c, ⟨hx, hby, hml, hown, hZ, hre, hlk, hnm⟩, rfl⟩ := C
  subst hp
  intro T locs k' n' u1 u2 X eT N
  cases hc : if_icmp.holds cd x y
  · obtain ⟨s2, o2, st2, r⟩ := q2 hc T locs k' n' u1 u2 X eT N
    exact ⟨s2, o2, XS.icmpNo X.here hx rfl (hb hby hd) rfl hc st2, r⟩
  · obtain ⟨s2, o2, st2, r⟩ := q1 hc T locs k' n' u1 u2 X eT N
    exact ⟨s2, o2, XS.icmpYes X.here hx rfl (pc0 := pc) (pc' := pt) rfl (hb hby hd) rfl hc (by omega) (by omega) st2, r⟩
theorem Ru.lcmp (C : Ru l Z own code maxL ret nm R n0 G W) {x y : Int64} (hd : decode code pc = .ok (.lcmp, 1)) (hp : pc + 1 = pc') (q : W h k n pc' Ls (.int (XT.cmpL x y) :: rest)) : W h k n pc Ls (.long y :: .long x :: rest) := by
  obtain ⟨p, e, s, m, args, below, meth, c, ⟨hx, hby, hml, hown, hZ, hre, hlk, hnm⟩, rfl⟩ := C
  subst hp
  intro T locs k' n' q1 q2 X eT N
  obtain ⟨s2, o, st2, r⟩ := q T locs k' n' q1 q2 X eT N
  exact ⟨s2, o, XT.lcmp X.here hx rfl (hb hby hd) rfl st2, r⟩
theorem cmpL_lt (x y : Int64) : XT.cmpL x y < 0 ↔ x < y := by
  have e : XT.cmpL x y = lcmpV x y := by simp only [XT.cmpL, lcmpV]; split <;> simp_all
  rw [e]; exact lc_lt x y
theorem cmpL_gt (x y : Int64) : 0 < XT.cmpL x y ↔ y < x := by
  have e : XT.cmpL x y = lcmpV x y := by simp only [XT.cmpL, lcmpV]; split <;> simp_all
  rw [e]; exact lc_gt x y
theorem cmpL_eq (x y : Int64) : XT.cmpL x y = 0 ↔ x = y := by
  have e : XT.cmpL x y = lcmpV x y := by simp only [XT.cmpL, lcmpV]; split <;> simp_all
  rw [e]; exact lc_eq x y
theorem Ru.if_eq (C : Ru l Z own code maxL ret nm R n0 G W) {o : Int} {x : Int32} {pt : Nat} (hd : decode code pc = .ok (.ifCond .eq o, 3)) (hp : pc + 3 = pc') (ht : (pc : Int) + o = (pt : Int)) (q1 : x = 0 → W h k n pt Ls rest) (q2 : ¬ x = 0 → W h k n pc' Ls rest) : W h k n pc Ls (.int x :: rest) :=
  C.ifAny hd hp ht (fun q => q1 (by simpa [ifCond.holds] using q)) (fun q => q2 (by simpa [ifCond.holds] using q))
theorem Ru.icmp_eq (C : Ru l Z own code maxL ret nm R n0 G W) {o : Int} {x y : Int32} {pt : Nat} (hd : decode code pc = .ok (.if_icmp .eq o, 3)) (hp : pc + 3 = pc') (ht : (pc : Int) + o = (pt : Int)) (q1 : x = y → W h k n pt Ls rest) (q2 : ¬ x = y → W h k n pc' Ls rest) : W h k n pc Ls (.int y :: .int x :: rest) :=
  C.icmpAny hd hp ht (fun q => q1 (by simpa [if_icmp.holds] using q)) (fun q => q2 (by simpa [if_icmp.holds] using q))
theorem Ru.lif_eq (C : Ru l Z own code maxL ret nm R n0 G W) {o : Int} {x y : Int64} {pi pt : Nat} (hd : decode code pc = .ok (.lcmp, 1)) (hi : pc + 1 = pi) (hd2 : decode code pi = .ok (.ifCond .eq o, 3)) (hp : pi + 3 = pc') (ht : (pi : Int) + o = (pt : Int)) (q1 : x = y → W h k n pt Ls rest) (q2 : ¬ x = y → W h k n pc' Ls rest) : W h k n pc Ls (.long y :: .long x :: rest) :=
  C.lcmp hd hi (C.if_eq hd2 hp ht (fun q => q1 (by simpa only [cmpL_eq, cmpL_lt, cmpL_gt] using q)) (fun q => q2 (by simpa only [cmpL_eq, cmpL_lt, cmpL_gt] using q)))
theorem Ru.if_ne (C : Ru l Z own code maxL ret nm R n0 G W) {o : Int} {x : Int32} {pt : Nat} (hd : decode code pc = .ok (.ifCond .ne o, 3)) (hp : pc + 3 = pc') (ht : (pc : Int) + o = (pt : Int)) (q1 : ¬ x = 0 → W h k n pt Ls rest) (q2 : x = 0 → W h k n pc' Ls rest) : W h k n pc Ls (.int x :: rest) :=
  C.ifAny hd hp ht (fun q => q1 (by simpa [ifCond.holds] using q)) (fun q => q2 (by simpa [ifCond.holds] using q))
theorem Ru.icmp_ne (C : Ru l Z own code maxL ret nm R n0 G W) {o : Int} {x y : Int32} {pt : Nat} (hd : decode code pc = .ok (.if_icmp .ne o, 3)) (hp : pc + 3 = pc') (ht : (pc : Int) + o = (pt : Int)) (q1 : ¬ x = y → W h k n pt Ls rest) (q2 : x = y → W h k n pc' Ls rest) : W h k n pc Ls (.int y :: .int x :: rest) :=
  C.icmpAny hd hp ht (fun q => q1 (by simpa [if_icmp.holds] using q)) (fun q => q2 (by simpa [if_icmp.holds] using q))
theorem Ru.lif_ne (C : Ru l Z own code maxL ret nm R n0 G W) {o : Int} {x y : Int64} {pi pt : Nat} (hd : decode code pc = .ok (.lcmp, 1)) (hi : pc + 1 = pi) (hd2 : decode code pi = .ok (.ifCond .ne o, 3)) (hp : pi + 3 = pc') (ht : (pi : Int) + o = (pt : Int)) (q1 : ¬ x = y → W h k n pt Ls rest) (q2 : x = y → W h k n pc' Ls rest) : W h k n pc Ls (.long y :: .long x :: rest) :=
  C.lcmp hd hi (C.if_ne hd2 hp ht (fun q => q1 (by simpa only [cmpL_eq, cmpL_lt, cmpL_gt] using q)) (fun q => q2 (by simpa only [cmpL_eq, cmpL_lt, cmpL_gt] using q)))
theorem Ru.if_lt (C : Ru l Z own code maxL ret nm R n0 G W) {o : Int} {x : Int32} {pt : Nat} (hd : decode code pc = .ok (.ifCond .lt o, 3)) (hp : pc + 3 = pc') (ht : (pc : Int) + o = (pt : Int)) (q1 : x < 0 → W h k n pt Ls rest) (q2 : ¬ x < 0 → W h k n pc' Ls rest) : W h k n pc Ls (.int x :: rest) :=
  C.ifAny hd hp ht (fun q => q1 (by simpa [ifCond.holds] using q)) (fun q => q2 (by simpa [ifCond.holds] using q))
theorem Ru.icmp_lt (C : Ru l Z own code maxL ret nm R n0 G W) {o : Int} {x y : Int32} {pt : Nat} (hd : decode code pc = .ok (.if_icmp .lt o, 3)) (hp : pc + 3 = pc') (ht : (pc : Int) + o = (pt : Int)) (q1 : x < y → W h k n pt Ls rest) (q2 : ¬ x < y → W h k n pc' Ls rest) : W h k n pc Ls (.int y :: .int x :: rest) :=
  C.icmpAny hd hp ht (fun q => q1 (by simpa [if_icmp.holds] using q)) (fun q => q2 (by simpa [if_icmp.holds] using q))
theorem Ru.lif_lt (C : Ru l Z own code maxL ret nm R n0 G W) {o : Int} {x y : Int64} {pi pt : Nat} (hd : decode code pc = .ok (.lcmp, 1)) (hi : pc + 1 = pi) (hd2 : decode code pi = .ok (.ifCond .lt o, 3)) (hp : pi + 3 = pc') (ht : (pi : Int) + o = (pt : Int)) (q1 : x < y → W h k n pt Ls rest) (q2 : ¬ x < y → W h k n pc' Ls rest) : W h k n pc Ls (.long y :: .long x :: rest) :=
  C.lcmp hd hi (C.if_lt hd2 hp ht (fun q => q1 (by simpa only [cmpL_eq, cmpL_lt, cmpL_gt] using q)) (fun q => q2 (by simpa only [cmpL_eq, cmpL_lt, cmpL_gt] using q)))
theorem Ru.if_ge (C : Ru l Z own code maxL ret nm R n0 G W) {o : Int} {x : Int32} {pt : Nat} (hd : decode code pc = .ok (.ifCond .ge o, 3)) (hp : pc + 3 = pc') (ht : (pc : Int) + o = (pt : Int)) (q1 : ¬ x < 0 → W h k n pt Ls rest) (q2 : x < 0 → W h k n pc' Ls rest) : W h k n pc Ls (.int x :: rest) :=
  C.ifAny hd hp ht (fun q => q1 (by simpa [ifCond.holds] using q)) (fun q => q2 (by simpa [ifCond.holds] using q))
theorem Ru.icmp_ge (C : Ru l Z own code maxL ret nm R n0 G W) {o : Int} {x y : Int32} {pt : Nat} (hd : decode code pc = .ok (.if_icmp .ge o, 3)) (hp : pc + 3 = pc') (ht : (pc : Int) + o = (pt : Int)) (q1 : ¬ x < y → W h k n pt Ls rest) (q2 : x < y → W h k n pc' Ls rest) : W h k n pc Ls (.int y :: .int x :: rest) :=
  C.icmpAny hd hp ht (fun q => q1 (by simpa [if_icmp.holds] using q)) (fun q => q2 (by simpa [if_icmp.holds] using q))
theorem Ru.lif_ge (C : Ru l Z own code maxL ret nm R n0 G W) {o : Int} {x y : Int64} {pi pt : Nat} (hd : decode code pc = .ok (.lcmp, 1)) (hi : pc + 1 = pi) (hd2 : decode code pi = .ok (.ifCond .ge o, 3)) (hp : pi + 3 = pc') (ht : (pi : Int) + o = (pt : Int)) (q1 : ¬ x < y → W h k n pt Ls rest) (q2 : x < y → W h k n pc' Ls rest) : W h k n pc Ls (.long y :: .long x :: rest) :=
  C.lcmp hd hi (C.if_ge hd2 hp ht (fun q => q1 (by simpa only [cmpL_eq, cmpL_lt, cmpL_gt] using q)) (fun q => q2 (by simpa only [cmpL_eq, cmpL_lt, cmpL_gt] using q)))
theorem Ru.if_gt (C : Ru l Z own code maxL ret nm R n0 G W) {o : Int} {x : Int32} {pt : Nat} (hd : decode code pc = .ok (.ifCond .gt o, 3)) (hp : pc + 3 = pc') (ht : (pc : Int) + o = (pt : Int)) (q1 : 0 < x → W h k n pt Ls rest) (q2 : ¬ 0 < x → W h k n pc' Ls rest) : W h k n pc Ls (.int x :: rest) :=
  C.ifAny hd hp ht (fun q => q1 (by simpa [ifCond.holds] using q)) (fun q => q2 (by simpa [ifCond.holds] using q))
theorem Ru.icmp_gt (C : Ru l Z own code maxL ret nm R n0 G W) {o : Int} {x y : Int32} {pt : Nat} (hd : decode code pc = .ok (.if_icmp .gt o, 3)) (hp : pc + 3 = pc') (ht : (pc : Int) + o = (pt : Int)) (q1 : y < x → W h k n pt Ls rest) (q2 : ¬ y < x → W h k n pc' Ls rest) : W h k n pc Ls (.int y :: .int x :: rest) :=
  C.icmpAny hd hp ht (fun q => q1 (by simpa [if_icmp.holds] using q)) (fun q => q2 (by simpa [if_icmp.holds] using q))
theorem Ru.lif_gt (C : Ru l Z own code maxL ret nm R n0 G W) {o : Int} {x y : Int64} {pi pt : Nat} (hd : decode code pc = .ok (.lcmp, 1)) (hi : pc + 1 = pi) (hd2 : decode code pi = .ok (.ifCond .gt o, 3)) (hp : pi + 3 = pc') (ht : (pi : Int) + o = (pt : Int)) (q1 : y < x → W h k n pt Ls rest) (q2 : ¬ y < x → W h k n pc' Ls rest) : W h k n pc Ls (.long y :: .long x :: rest) :=
  C.lcmp hd hi (C.if_gt hd2 hp ht (fun q => q1 (by simpa only [cmpL_eq, cmpL_lt, cmpL_gt] using q)) (fun q => q2 (by simpa only [cmpL_eq, cmpL_lt, cmpL_gt] using q)))
theorem Ru.if_le (C : Ru l Z own code maxL ret nm R n0 G W) {o : Int} {x : Int32} {pt : Nat} (hd : decode code pc = .ok (.ifCond .le o, 3)) (hp : pc + 3 = pc') (ht : (pc : Int) + o = (pt : Int)) (q1 : ¬ 0 < x → W h k n pt Ls rest) (q2 : 0 < x → W h k n pc' Ls rest) : W h k n pc Ls (.int x :: rest) :=
  C.ifAny hd hp ht (fun q => q1 (by simpa [ifCond.holds] using q)) (fun q => q2 (by simpa [ifCond.holds] using q))
theorem Ru.icmp_le (C : Ru l Z own code maxL ret nm R n0 G W) {o : Int} {x y : Int32} {pt : Nat} (hd : decode code pc = .ok (.if_icmp .le o, 3)) (hp : pc + 3 = pc') (ht : (pc : Int) + o = (pt : Int)) (q1 : ¬ y < x → W h k n pt Ls rest) (q2 : y < x → W h k n pc' Ls rest) : W h k n pc Ls (.int y :: .int x :: rest) :=
  C.icmpAny hd hp ht (fun q => q1 (by simpa [if_icmp.holds] using q)) (fun q => q2 (by simpa [if_icmp.holds] using q))
theorem Ru.lif_le (C : Ru l Z own code maxL ret nm R n0 G W) {o : Int} {x y : Int64} {pi pt : Nat} (hd : decode code pc = .ok (.lcmp, 1)) (hi : pc + 1 = pi) (hd2 : decode code pi = .ok (.ifCond .le o, 3)) (hp : pi + 3 = pc') (ht : (pi : Int) + o = (pt : Int)) (q1 : ¬ y < x → W h k n pt Ls rest) (q2 : y < x → W h k n pc' Ls rest) : W h k n pc Ls (.long y :: .long x :: rest) :=
  C.lcmp hd hi (C.if_le hd2 hp ht (fun q => q1 (by simpa only [cmpL_eq, cmpL_lt, cmpL_gt] using q)) (fun q => q2 (by simpa only [cmpL_eq, cmpL_lt, cmpL_gt] using q)))
theorem Ru.ifnullYes (C : Ru l Z own code maxL ret nm R n0 G W) {o : Int}  (hd : decode code pc = .ok (.ifnull o, 3)) (hp : (pc : Int) + o = (pc' : Int)) (q : W h k n pc' Ls rest) : W h k n pc Ls (.null :: rest) := by
  obtain ⟨p, e, s, m, args, below, meth, c, ⟨hx, hby, hml, hown, hZ, hre, hlk, hnm⟩, rfl⟩ := C
  intro T locs k' n' q1 q2 X eT N
  obtain ⟨s2, o2, st2, r⟩ := q T locs k' n' q1 q2 X eT N
  exact ⟨s2, o2, XS.ifnullYes X.here hx rfl (pc0 := pc) (pc' := pc') rfl (hb hby hd) rfl (by omega) (by omega) st2, r⟩
theorem Ru.ifnullNo (C : Ru l Z own code maxL ret nm R n0 G W) {o : Int} {b : Addr} (hd : decode code pc = .ok (.ifnull o, 3)) (hp : pc + 3 = pc') (q : W h k n pc' Ls rest) : W h k n pc Ls (.ref b :: rest) := by
  obtain ⟨p, e, s, m, args, below, meth, c, ⟨hx, hby, hml, hown, hZ, hre, hlk, hnm⟩, rfl⟩ := C
  subst hp
  intro T locs k' n' q1 q2 X eT N
  obtain ⟨s2, o2, st2, r⟩ := q T locs k' n' q1 q2 X eT N
  exact ⟨s2, o2, XS.ifnullNo X.here hx rfl (hb hby hd) rfl st2, r⟩
theorem Ru.ifnonnullYes (C : Ru l Z own code maxL ret nm R n0 G W) {o : Int} {b : Addr} (hd : decode code pc = .ok (.ifnonnull o, 3)) (hp : (pc : Int) + o = (pc' : Int)) (q : W h k n pc' Ls rest) : W h k n pc Ls (.ref b :: rest) := by
  obtain ⟨p, e, s, m, args, below, meth, c, ⟨hx, hby, hml, hown, hZ, hre, hlk, hnm⟩, rfl⟩ := C
  intro T locs k' n' q1 q2 X eT N
  obtain ⟨s2, o2, st2, r⟩ := q T locs k' n' q1 q2 X eT N
  exact ⟨s2, o2, XT.ifnonnullYes X.here hx rfl (pc0 := pc) (pc' := pc') rfl (hb hby hd) rfl (by omega) (by omega) st2, r⟩
theorem Ru.ifnonnullNo (C : Ru l Z own code maxL ret nm R n0 G W) {o : Int}  (hd : decode code pc = .ok (.ifnonnull o, 3)) (hp : pc + 3 = pc') (q : W h k n pc' Ls rest) : W h k n pc Ls (.null :: rest) := by
  obtain ⟨p, e, s, m, args, below, meth, c, ⟨hx, hby, hml, hown, hZ, hre, hlk, hnm⟩, rfl⟩ := C
  subst hp
  intro T locs k' n' q1 q2 X eT N
  obtain ⟨s2, o2, st2, r⟩ := q T locs k' n' q1 q2 X eT N
  exact ⟨s2, o2, XT.ifnonnullNo X.here hx rfl (hb hby hd) rfl st2, r⟩
theorem lrem_eq (x y : Int64) : x - (x / y) * y = x % y := lrem_mod x y
theorem Ru.lrem (C : Ru l Z own code maxL ret nm R n0 G W) {x y : Int64} (hd : decode code pc = .ok (.lrem, 1)) (hp : pc + 1 = pc') (hy : y ≠ 0) (q : W h k n pc' Ls (.long (x % y) :: rest)) : W h k n pc Ls (.long y :: .long x :: rest) := by
  obtain ⟨p, e, s, m, args, below, meth, c, ⟨hx, hby, hml, hown, hZ, hre, hlk, hnm⟩, rfl⟩ := C
  subst hp
  intro T locs k' n' q1 q2 X eT N
  obtain ⟨s2, o, st2, r⟩ := q T locs k' n' q1 q2 X eT N
  exact ⟨s2, o, XT.lrem X.here hx rfl (hb hby hd) rfl hy (by rw [lrem_mod]; exact st2), r⟩
theorem Ru.ldcI (C : Ru l Z own code maxL ret nm R n0 G W) {a0 : Array Value} {i : Nat} {v : Int32} (w : (Cond.constant own i v).before a0 Z = true) (hd : decode code pc = .ok (.ldc i, 2)) (hp : pc + 2 = pc') (q : W h k n pc' Ls (.int v :: st)) : W h k n pc Ls st := by
  obtain ⟨p, e, s, m, args, below, meth, c, ⟨hx, hby, hml, hown, hZ, hre, hlk, hnm⟩, rfl⟩ := C
  subst hp
  intro T locs k' n' q1 q2 X eT N
  obtain ⟨s2, o, st2, r⟩ := q T locs k' n' q1 q2 X eT N
  exact ⟨s2, o, X.ldcInt hx hown (mvT hZ w) (g := mkF m pc Ls st) rfl (hb hby hd) _ st2, r⟩
theorem Ru.ldcJ (C : Ru l Z own code maxL ret nm R n0 G W) {a0 : Array Value} {i : Nat} {v : Int64} (w : (Cond.constantLong own i v).before a0 Z = true) (hd : decode code pc = .ok (.ldc2_w i, 3)) (hp : pc + 3 = pc') (q : W h k n pc' Ls (.long v :: st)) : W h k n pc Ls st := by
  obtain ⟨p, e, s, m, args, below, meth, c, ⟨hx, hby, hml, hown, hZ, hre, hlk, hnm⟩, rfl⟩ := C
  subst hp
  intro T locs k' n' q1 q2 X eT N
  obtain ⟨s2, o, st2, r⟩ := q T locs k' n' q1 q2 X eT N
  exact ⟨s2, o, X.ldc2Long hx hown (mvT hZ w) (g := mkF m pc Ls st) rfl (hb hby hd) _ st2, r⟩
/-! the heap -/
theorem Ru.getf (C : Ru l Z own code maxL ret nm R n0 G W) {a0 : Array Value} {R0 O f d : String} {i : Nat} {a : Addr} {v : Value} (w : (Cond.fieldLink own i R0 f d).before a0 Z = true) (via : Via Z R0 O f d) (F : Fld Z h a O f d v) (hd : decode code pc = .ok (.getfield i, 3)) (hp : pc + 3 = pc') (q : W h k n pc' Ls (v :: rest)) : W h k n pc Ls (.ref a :: rest) := by
  obtain ⟨p, e, s, m, args, below, meth, c, ⟨hx, hby, hml, hown, hZ, hre, hlk, hnm⟩, rfl⟩ := C
  subst hp
  intro T locs k' n' q1 q2 X eT N
  obtain ⟨T', X', e', st'⟩ := getF X hx hZ hown (host := "") (Or.inl w) via eT F (g := mkF m pc Ls (.ref a :: rest)) rfl rfl (hb hby hd)
  obtain ⟨s2, o, st2, r⟩ := q T' locs k' n' q1 q2 X' e' N
  exact ⟨s2, o, st' _ st2, r⟩
theorem Ru.gets (C : Ru l Z own code maxL ret nm R n0 G W) {a0 : Array Value} {R0 O f d : String} {i : Nat} {v : Value} (w : (Cond.fieldLink own i R0 f d).before a0 Z = true) (via : Via Z R0 O f d) (F : Sta Z h O f d v) (hd : decode code pc = .ok (.getstatic i, 3)) (hp : pc + 3 = pc') (q : W h k n pc' Ls (v :: st)) : W h k n pc Ls st := by
  obtain ⟨p, e, s, m, args, below, meth, c, ⟨hx, hby, hml, hown, hZ, hre, hlk, hnm⟩, rfl⟩ := C
  subst hp
  intro T locs k' n' q1 q2 X eT N
  obtain ⟨T', X', e', st'⟩ := getS X hx hZ (host := "") hown w via eT F (g := mkF m pc Ls st) rfl (hb hby hd)
  obtain ⟨s2, o, st2, r⟩ := q T' locs k' n' q1 q2 X' e' N
  exact ⟨s2, o, st' _ st2, r⟩
theorem Ru.putf (C : Ru l Z own code maxL ret nm R n0 G W) {a0 : Array Value} {R0 O f d D : String} {i kk : Nat} {ty : FieldType} {a : Addr} {v old : Value} (w : (Cond.fieldLink own i R0 f d).before a0 Z = true) (via : Via Z R0 O f d) (F : Fld Z h a O f d old) (E : Exa Z h a D)
    (L : (Cond.lays D O f d).before a0 Z = true ∨ ((Cond.laysFinal D O f d).before a0 Z = true ∧ own = O ∧ nm = "<init>")) (wi : (Cond.instantiable D kk).before a0 Z = true) (hty : parseFieldDescriptor d = some ty) (hn : narrow ty v = v) (hf : fits ty v = true) (hg : n0 ≤ a)
    (hd : decode code pc = .ok (.putfield i, 3)) (hp : pc + 3 = pc') (q : ∀ h', Wr h h' a (Jvm.RoadKit.slotOf Z O f d) v → W h' k n pc' Ls rest) : W h k n pc Ls (v :: .ref a :: rest) := by
  obtain ⟨p, e, s, m, args, below, meth, c, ⟨hx, hby, hml, hown, hZ, hre, hlk, hnm⟩, rfl⟩ := C
  subst hp
  intro T locs k' n' q1 q2 X eT N
  obtain ⟨T', h', X', e', W', st'⟩ := putF X hx hZ hown (host := "") (Or.inl w) via eT F E (L.imp id fun u => ⟨u.1, u.2.1, hnm.trans u.2.2⟩) wi hty hn hf (g := mkF m pc Ls (v :: .ref a :: rest)) rfl rfl (hb hby hd)
  obtain ⟨s2, o, st2, r⟩ := q h' W' T' _ k' n' q1 q2 X' e' (Fr.snoc X' N hg)
  exact ⟨s2, o, st' _ st2, r⟩
theorem Ru.putfN (C : Ru l Z own code maxL ret nm R n0 G W) {a0 : Array Value} {R0 O f d D : String} {i kk : Nat} {ty : FieldType} {a : Addr} {v v' old : Value} (w : (Cond.fieldLink own i R0 f d).before a0 Z = true) (via : Via Z R0 O f d) (F : Fld Z h a O f d old) (E : Exa Z h a D)
    (L : (Cond.lays D O f d).before a0 Z = true ∨ ((Cond.laysFinal D O f d).before a0 Z = true ∧ own = O ∧ nm = "<init>")) (wi : (Cond.instantiable D kk).before a0 Z = true) (hty : parseFieldDescriptor d = some ty) (hn : narrow ty v = v') (hf : fits ty v' = true) (hg : n0 ≤ a)
    (hd : decode code pc = .ok (.putfield i, 3)) (hp : pc + 3 = pc') (q : ∀ h', Wr h h' a (Jvm.RoadKit.slotOf Z O f d) v' → W h' k n pc' Ls rest) : W h k n pc Ls (v :: .ref a :: rest) := by
  obtain ⟨p, e, s, m, args, below, meth, c, ⟨hx, hby, hml, hown, hZ, hre, hlk, hnm⟩, rfl⟩ := C
  subst hp
  intro T locs k' n' q1 q2 X eT N
  obtain ⟨T', h', X', e', W', st'⟩ := putFN X hx hZ hown w via eT F E (L.imp id fun u => ⟨u.1, u.2.1, hnm.trans u.2.2⟩) wi hty hn hf (g := mkF m pc Ls (v :: .ref a :: rest)) rfl rfl (hb hby hd)
  obtain ⟨s2, o, st2, r⟩ := q h' W' T' _ k' n' q1 q2 X' e' (Fr.snoc X' N hg)
  exact ⟨s2, o, st' _ st2, r⟩
theorem Ru.new (C : Ru l Z own code maxL ret nm R n0 G W) {a0 : Array Value} {D : String} {i sl : Nat} (w : (Cond.classLink own i D).before a0 Z = true) (wi : (Cond.instantiable D sl).before a0 Z = true) (wz : (Cond.initialized D).before a0 Z = true)
    (hd : decode code pc = .ok (.new i, 3)) (hp : pc + 3 = pc') (hk : k + 1 ≤ R.cells) (hn : n + sl ≤ R.slots)
    (q : ∀ h' b, b = h.size → Ext h h' → Exa Z h' b D → (∀ {O nm d : String} {ty : FieldType}, Laid Z a0 D O nm d → parseFieldDescriptor d = some ty → Fld Z h' b O nm d (defaultValue ty)) → W h' (k + 1) (n + sl) pc' Ls (.ref b :: st)) : W h k n pc Ls st := by
  obtain ⟨p, e, s, m, args, below, meth, c, ⟨hx, hby, hml, hown, hZ, hre, hlk, hnm⟩, rfl⟩ := C
  subst hp
  intro T locs k' n' q1 q2 X eT N
  obtain ⟨T', h', X', e', E', A', D', -, st'⟩ := newO X hx hZ hown w wi wz eT (g := mkF m pc Ls st) rfl (hb hby hd) (by omega) (by omega)
  obtain ⟨s2, o, st2, r⟩ := q h' _ rfl E' A' D' T' locs (k' + 1) (n' + sl) (by omega) (by omega) X' e' N
  exact ⟨s2, o, st' _ st2, r⟩
/-- an int array with just these elements -/
def AI (Z : State) (h : Heap) (a : Addr) (vs : List Int32) : Prop := ∃ c : Cell, Arr Z h a c .int ∧ c.slots = (vs.map Value.int).toArray ∧ vs.length < 2 ^ 31
def AJ (Z : State) (h : Heap) (a : Addr) (vs : List Int64) : Prop := ∃ c : Cell, Arr Z h a c .long ∧ c.slots = (vs.map Value.long).toArray ∧ vs.length < 2 ^ 31
/-- a byte array of this length -/
def AB (Z : State) (h : Heap) (a : Addr) (z : Nat) : Prop := ∃ c : Cell, Arr Z h a c .byte ∧ c.slots.size = z ∧ z < 2 ^ 31
theorem AI.lt {Z : State} {h : Heap} {a : Addr} {vs : List Int32} (F : AI Z h a vs) : a < h.size := by obtain ⟨c, A, -⟩ := F; exact A.lt
theorem AI.ext {Z : State} {h h' : Heap} {a : Addr} {vs : List Int32} (F : AI Z h a vs) (E : Ext h h') : AI Z h' a vs := by obtain ⟨c, A, r⟩ := F; exact ⟨c, A.ext E, r⟩
theorem AI.other {Z : State} {h h' : Heap} {a b : Addr} {sl : Nat} {v : Value} {vs : List Int32} (F : AI Z h b vs) (W : Wr h h' a sl v) (q : b ≠ a) : AI Z h' b vs := by obtain ⟨c, A, r⟩ := F; exact ⟨c, A.other W q, r⟩
theorem AI.keep {Z : State} {h h' : Heap} {a : Addr} {ws : List Addr} {vs : List Int32} (F : AI Z h a vs) (K : Keep h h' ws) (q : a ∉ ws) : AI Z h' a vs := by obtain ⟨c, A, r⟩ := F; exact ⟨c, ⟨K.2.1 a c A.1 q, A.2⟩, r⟩
theorem AI.set {Z : State} {h h' : Heap} {a : Addr} {j : Nat} {v : Int32} {vs : List Int32} (F : AI Z h a vs) (W : Wr h h' a j (.int v)) : AI Z h' a (vs.set j v) := by
  obtain ⟨c, A, e, r⟩ := F
  refine ⟨_, A.same W, ?_, by rw [List.length_set]; exact r⟩
  have q : (c.setSlot j (.int v)).slots = c.slots.setIfInBounds j (.int v) := rfl
  rw [q, e]
  apply Array.ext'
  simp [List.map_set]
theorem Ru.newAI (C : Ru l Z own code maxL ret nm R n0 G W) {a0 : Array Value} {z : Int32} {N cap : Nat} (w : (Cond.arrayClass .int).before a0 Z = true) (hd : decode code pc = .ok (.newarray .int, 2)) (hp : pc + 2 = pc') (hz : z.toInt = (N : Int)) (hcap : N ≤ cap) (hb8 : cap * 8 ≤ 536870912) (hk : k + 1 ≤ R.cells) (hn : n + cap ≤ R.slots)
    (q : ∀ h' b, b = h.size → Ext h h' → AI Z h' b (List.replicate N 0) → W h' (k + 1) (n + cap) pc' Ls (.ref b :: rest)) : W h k n pc Ls (.int z :: rest) := by
  obtain ⟨p, e, s, m, args, below, meth, c, ⟨hx, hby, hml, hown, hZ, hre, hlk, hnm⟩, rfl⟩ := C
  subst hp
  intro T locs k' n' q1 q2 X eT Nf
  have hnn : ¬ z < 0 := by rw [Int32.lt_iff_toInt_lt]; show ¬ z.toInt < 0; omega
  have hzn : z.toNatClampNeg = N := by show z.toInt.toNat = N; omega
  have hlt : N < 2 ^ 31 := by have := (rng32 z).2; omega
  obtain ⟨T', h', cA, X', e', E', A', st'⟩ := newP X hx hZ (aty := .int) w eT (g := mkF m pc Ls (.int z :: rest)) rfl (hb hby hd) rfl hnn (cap := cap) (by omega) hb8 (by omega) (by omega)
  have F : AI Z h' h.size (List.replicate N 0) := by
    refine ⟨_, A', ?_, by rw [List.length_replicate]; exact hlt⟩
    simp only [newA, hzn]
    apply Array.ext'
    simp [defaultValue, newarray.typeOf]
  obtain ⟨s2, o, st2, r⟩ := q h' _ rfl E' F T' locs (k' + 1) (n' + cap) (by omega) (by omega) X' e' Nf
  exact ⟨s2, o, st' _ st2, r⟩
theorem Ru.ldAI (C : Ru l Z own code maxL ret nm R n0 G W) {a : Addr} {j : Int32} {i : Nat} {v : Int32} {vs : List Int32} (F : AI Z h a vs) (hj : j.toInt = (i : Int)) (hv : vs[i]? = some v) (hd : decode code pc = .ok (.iaload, 1)) (hp : pc + 1 = pc') (q : W h k n pc' Ls (.int v :: rest)) : W h k n pc Ls (.int j :: .ref a :: rest) := by
  obtain ⟨p, e, s, m, args, below, meth, c, ⟨hx, hby, hml, hown, hZ, hre, hlk, hnm⟩, rfl⟩ := C
  subst hp
  intro T locs k' n' q1 q2 X eT N
  obtain ⟨cl, A, es, hl⟩ := F
  have hjn : j.toNatClampNeg = i := by show j.toInt.toNat = i; omega
  have hlt : i < vs.length := (List.getElem?_eq_some_iff.mp hv).1
  have hin : ¬ (j < 0 ∨ cl.slots.size ≤ j.toNatClampNeg) := by
    rw [Int32.lt_iff_toInt_lt, es, hjn]
    simp only [List.size_toArray, List.length_map]
    show ¬ (j.toInt < 0 ∨ _); omega
  have hat : cl.slots[j.toNatClampNeg]? = some (.int v) := by rw [es, hjn]; simp [hv]
  obtain ⟨s2, o, st2, r⟩ := q T locs k' n' q1 q2 X eT N
  exact ⟨s2, o, X.iaload hx (by rw [eT]; exact A.1) (State.isArrayOf_alike hZ.alike A.2.1) A.2.2 hin hat (g := mkF m pc Ls (.int j :: .ref a :: rest)) rfl rfl (hb hby hd) _ st2, r⟩
theorem Ru.stAI (C : Ru l Z own code maxL ret nm R n0 G W) {a : Addr} {j : Int32} {i : Nat} {v : Int32} {vs : List Int32} (F : AI Z h a vs) (hj : j.toInt = (i : Int)) (hlt : i < vs.length) (hg : n0 ≤ a) (hd : decode code pc = .ok (.iastore, 1)) (hp : pc + 1 = pc') (q : ∀ h', Wr h h' a i (.int v) → AI Z h' a (vs.set i v) → W h' k n pc' Ls rest) : W h k n pc Ls (.int v :: .int j :: .ref a :: rest) := by
  obtain ⟨p, e, s, m, args, below, meth, c, ⟨hx, hby, hml, hown, hZ, hre, hlk, hnm⟩, rfl⟩ := C
  subst hp
  intro T locs k' n' q1 q2 X eT N
  have F0 := F
  obtain ⟨cl, A, es, hl⟩ := F
  have hjn : j.toNatClampNeg = i := by show j.toInt.toNat = i; omega
  have hin : ¬ (j < 0 ∨ cl.slots.size ≤ j.toNatClampNeg) := by
    rw [Int32.lt_iff_toInt_lt, es, hjn]
    simp only [List.size_toArray, List.length_map]
    show ¬ (j.toInt < 0 ∨ _); omega
  obtain ⟨T', h', X', e', W', st'⟩ := stI X hx hZ eT A (j := j) hin (g := mkF m pc Ls (.int v :: .int j :: .ref a :: rest)) rfl rfl (hb hby hd)
  rw [hjn] at W'
  obtain ⟨s2, o, st2, r⟩ := q h' W' (F0.set W') T' _ k' n' q1 q2 X' e' (Fr.snoc X' N hg)
  exact ⟨s2, o, st' _ st2, r⟩
theorem Ru.lenAI (C : Ru l Z own code maxL ret nm R n0 G W) {a : Addr} {vs : List Int32} {z : Int32} (F : AI Z h a vs) (hz : z.toInt = (vs.length : Int)) (hd : decode code pc = .ok (.arraylength, 1)) (hp : pc + 1 = pc') (q : W h k n pc' Ls (.int z :: rest)) : W h k n pc Ls (.ref a :: rest) := by
  obtain ⟨p, e, s, m, args, below, meth, c, ⟨hx, hby, hml, hown, hZ, hre, hlk, hnm⟩, rfl⟩ := C
  subst hp
  intro T locs k' n' q1 q2 X eT N
  obtain ⟨cl, A, es, hl⟩ := F
  have e1 : cl.slots.size.toInt32 = z := by
    apply Int32.toInt_inj.mp
    rw [es, hz]
    simp only [List.size_toArray, List.length_map]
    exact len_toInt hl
  obtain ⟨s2, o, st2, r⟩ := q T locs k' n' q1 q2 X eT N
  exact ⟨s2, o, X.arraylength hx (by rw [eT]; exact A.1) (State.isArrayOf_alike hZ.alike A.2.1) (g := mkF m pc Ls (.ref a :: rest)) rfl rfl (hb hby hd) _ (by rw [e1]; exact st2), r⟩
theorem AJ.lt {Z : State} {h : Heap} {a : Addr} {vs : List Int64} (F : AJ Z h a vs) : a < h.size := by obtain ⟨c, A, -⟩ := F; exact A.lt
theorem AJ.ext {Z : State} {h h' : Heap} {a : Addr} {vs : List Int64} (F : AJ Z h a vs) (E : Ext h h') : AJ Z h' a vs := by obtain ⟨c, A, r⟩ := F; exact ⟨c, A.ext E, r⟩
theorem AJ.other {Z : State} {h h' : Heap} {a b : Addr} {sl : Nat} {v : Value} {vs : List Int64} (F : AJ Z h b vs) (W : Wr h h' a sl v) (q : b ≠ a) : AJ Z h' b vs := by obtain ⟨c, A, r⟩ := F; exact ⟨c, A.other W q, r⟩
theorem AJ.keep {Z : State} {h h' : Heap} {a : Addr} {ws : List Addr} {vs : List Int64} (F : AJ Z h a vs) (K : Keep h h' ws) (q : a ∉ ws) : AJ Z h' a vs := by obtain ⟨c, A, r⟩ := F; exact ⟨c, ⟨K.2.1 a c A.1 q, A.2⟩, r⟩
theorem AJ.set {Z : State} {h h' : Heap} {a : Addr} {j : Nat} {v : Int64} {vs : List Int64} (F : AJ Z h a vs) (W : Wr h h' a j (.long v)) : AJ Z h' a (vs.set j v) := by
  obtain ⟨c, A, e, r⟩ := F
  refine ⟨_, A.same W, ?_, by rw [List.length_set]; exact r⟩
  have q : (c.setSlot j (.long v)).slots = c.slots.setIfInBounds j (.long v) := rfl
  rw [q, e]
  apply Array.ext'
  simp [List.map_set]
theorem Ru.newAJ (C : Ru l Z own code maxL ret nm R n0 G W) {a0 : Array Value} {z : Int32} {N cap : Nat} (w : (Cond.arrayClass .long).before a0 Z = true) (hd : decode code pc = .ok (.newarray .long, 2)) (hp : pc + 2 = pc') (hz : z.toInt = (N : Int)) (hcap : N ≤ cap) (hb8 : cap * 8 ≤ 536870912) (hk : k + 1 ≤ R.cells) (hn : n + cap ≤ R.slots)
    (q : ∀ h' b, b = h.size → Ext h h' → AJ Z h' b (List.replicate N 0) → W h' (k + 1) (n + cap) pc' Ls (.ref b :: rest)) : W h k n pc Ls (.int z :: rest) := by
  obtain ⟨p, e, s, m, args, below, meth, c, ⟨hx, hby, hml, hown, hZ, hre, hlk, hnm⟩, rfl⟩ := C
  subst hp
  intro T locs k' n' q1 q2 X eT Nf
  have hnn : ¬ z < 0 := by rw [Int32.lt_iff_toInt_lt]; show ¬ z.toInt < 0; omega
  have hzn : z.toNatClampNeg = N := by show z.toInt.toNat = N; omega
  have hlt : N < 2 ^ 31 := by have := (rng32 z).2; omega
  obtain ⟨T', h', cA, X', e', E', A', st'⟩ := newP X hx hZ (aty := .long) w eT (g := mkF m pc Ls (.int z :: rest)) rfl (hb hby hd) rfl hnn (cap := cap) (by omega) hb8 (by omega) (by omega)
  have F : AJ Z h' h.size (List.replicate N 0) := by
    refine ⟨_, A', ?_, by rw [List.length_replicate]; exact hlt⟩
    simp only [newA, hzn]
    apply Array.ext'
    simp [defaultValue, newarray.typeOf]
  obtain ⟨s2, o, st2, r⟩ := q h' _ rfl E' F T' locs (k' + 1) (n' + cap) (by omega) (by omega) X' e' Nf
  exact ⟨s2, o, st' _ st2, r⟩
theorem Ru.ldAJ (C : Ru l Z own code maxL ret nm R n0 G W) {a : Addr} {j : Int32} {i : Nat} {v : Int64} {vs : List Int64} (F : AJ Z h a vs) (hj : j.toInt = (i : Int)) (hv : vs[i]? = some v) (hd : decode code pc = .ok (.laload, 1)) (hp : pc + 1 = pc') (q : W h k n pc' Ls (.long v :: rest)) : W h k n pc Ls (.int j :: .ref a :: rest) := by
  obtain ⟨p, e, s, m, args, below, meth, c, ⟨hx, hby, hml, hown, hZ, hre, hlk, hnm⟩, rfl⟩ := C
  subst hp
  intro T locs k' n' q1 q2 X eT N
  obtain ⟨cl, A, es, hl⟩ := F
  have hjn : j.toNatClampNeg = i := by show j.toInt.toNat = i; omega
  have hlt : i < vs.length := (List.getElem?_eq_some_iff.mp hv).1
  have hin : ¬ (j < 0 ∨ cl.slots.size ≤ j.toNatClampNeg) := by
    rw [Int32.lt_iff_toInt_lt, es, hjn]
    simp only [List.size_toArray, List.length_map]
    show ¬ (j.toInt < 0 ∨ _); omega
  have hat : cl.slots[j.toNatClampNeg]? = some (.long v) := by rw [es, hjn]; simp [hv]
  obtain ⟨s2, o, st2, r⟩ := q T locs k' n' q1 q2 X eT N
  exact ⟨s2, o, X.laload hx (by rw [eT]; exact A.1) (State.isArrayOf_alike hZ.alike A.2.1) A.2.2 hin hat (g := mkF m pc Ls (.int j :: .ref a :: rest)) rfl rfl (hb hby hd) _ st2, r⟩
theorem Ru.stAJ (C : Ru l Z own code maxL ret nm R n0 G W) {a : Addr} {j : Int32} {i : Nat} {v : Int64} {vs : List Int64} (F : AJ Z h a vs) (hj : j.toInt = (i : Int)) (hlt : i < vs.length) (hg : n0 ≤ a) (hd : decode code pc = .ok (.lastore, 1)) (hp : pc + 1 = pc') (q : ∀ h', Wr h h' a i (.long v) → AJ Z h' a (vs.set i v) → W h' k n pc' Ls rest) : W h k n pc Ls (.long v :: .int j :: .ref a :: rest) := by
  obtain ⟨p, e, s, m, args, below, meth, c, ⟨hx, hby, hml, hown, hZ, hre, hlk, hnm⟩, rfl⟩ := C
  subst hp
  intro T locs k' n' q1 q2 X eT N
  have F0 := F
  obtain ⟨cl, A, es, hl⟩ := F
  have hjn : j.toNatClampNeg = i := by show j.toInt.toNat = i; omega
  have hin : ¬ (j < 0 ∨ cl.slots.size ≤ j.toNatClampNeg) := by
    rw [Int32.lt_iff_toInt_lt, es, hjn]
    simp only [List.size_toArray, List.length_map]
    show ¬ (j.toInt < 0 ∨ _); omega
  obtain ⟨T', h', X', e', W', st'⟩ := stJ X hx hZ eT A (j := j) hin (g := mkF m pc Ls (.long v :: .int j :: .ref a :: rest)) rfl rfl (hb hby hd)
  rw [hjn] at W'
  obtain ⟨s2, o, st2, r⟩ := q h' W' (F0.set W') T' _ k' n' q1 q2 X' e' (Fr.snoc X' N hg)
  exact ⟨s2, o, st' _ st2, r⟩
theorem Ru.lenAJ (C : Ru l Z own code maxL ret nm R n0 G W) {a : Addr} {vs : List Int64} {z : Int32} (F : AJ Z h a vs) (hz : z.toInt = (vs.length : Int)) (hd : decode code pc = .ok (.arraylength, 1)) (hp : pc + 1 = pc') (q : W h k n pc' Ls (.int z :: rest)) : W h k n pc Ls (.ref a :: rest) := by
  obtain ⟨p, e, s, m, args, below, meth, c, ⟨hx, hby, hml, hown, hZ, hre, hlk, hnm⟩, rfl⟩ := C
  subst hp
  intro T locs k' n' q1 q2 X eT N
  obtain ⟨cl, A, es, hl⟩ := F
  have e1 : cl.slots.size.toInt32 = z := by
    apply Int32.toInt_inj.mp
    rw [es, hz]
    simp only [List.size_toArray, List.length_map]
    exact len_toInt hl
  obtain ⟨s2, o, st2, r⟩ := q T locs k' n' q1 q2 X eT N
  exact ⟨s2, o, X.arraylength hx (by rw [eT]; exact A.1) (State.isArrayOf_alike hZ.alike A.2.1) (g := mkF m pc Ls (.ref a :: rest)) rfl rfl (hb hby hd) _ (by rw [e1]; exact st2), r⟩
theorem AB.lt {Z : State} {h : Heap} {a : Addr} {z : Nat} (F : AB Z h a z) : a < h.size := by obtain ⟨c, A, -⟩ := F; exact A.lt
theorem AB.ext {Z : State} {h h' : Heap} {a : Addr} {z : Nat} (F : AB Z h a z) (E : Ext h h') : AB Z h' a z := by obtain ⟨c, A, r⟩ := F; exact ⟨c, A.ext E, r⟩
theorem AB.other {Z : State} {h h' : Heap} {a b : Addr} {sl : Nat} {v : Value} {z : Nat} (F : AB Z h b z) (W : Wr h h' a sl v) (q : b ≠ a) : AB Z h' b z := by obtain ⟨c, A, r⟩ := F; exact ⟨c, A.other W q, r⟩
theorem AB.keep {Z : State} {h h' : Heap} {a : Addr} {ws : List Addr} {z : Nat} (F : AB Z h a z) (K : Keep h h' ws) (q : a ∉ ws) : AB Z h' a z := by obtain ⟨c, A, r⟩ := F; exact ⟨c, ⟨K.2.1 a c A.1 q, A.2⟩, r⟩
theorem Ru.newAB (C : Ru l Z own code maxL ret nm R n0 G W) {a0 : Array Value} {z : Int32} {N cap : Nat} (w : (Cond.arrayClass .byte).before a0 Z = true) (hd : decode code pc = .ok (.newarray .byte, 2)) (hp : pc + 2 = pc') (hz : z.toInt = (N : Int)) (hcap : N ≤ cap) (hb8 : cap * 8 ≤ 536870912) (hk : k + 1 ≤ R.cells) (hn : n + cap ≤ R.slots)
    (q : ∀ h' b, b = h.size → Ext h h' → AB Z h' b N → W h' (k + 1) (n + cap) pc' Ls (.ref b :: rest)) : W h k n pc Ls (.int z :: rest) := by
  obtain ⟨p, e, s, m, args, below, meth, c, ⟨hx, hby, hml, hown, hZ, hre, hlk, hnm⟩, rfl⟩ := C
  subst hp
  intro T locs k' n' q1 q2 X eT Nf
  have hnn : ¬ z < 0 := by rw [Int32.lt_iff_toInt_lt]; show ¬ z.toInt < 0; omega
  have hzn : z.toNatClampNeg = N := by show z.toInt.toNat = N; omega
  have hlt : N < 2 ^ 31 := by have := (rng32 z).2; omega
  obtain ⟨T', h', cA, X', e', E', A', st'⟩ := newP X hx hZ (aty := .byte) w eT (g := mkF m pc Ls (.int z :: rest)) rfl (hb hby hd) rfl hnn (cap := cap) (by omega) hb8 (by omega) (by omega)
  have F : AB Z h' h.size N := ⟨_, A', by rw [sz_new]; exact hzn, hlt⟩
  obtain ⟨s2, o, st2, r⟩ := q h' _ rfl E' F T' locs (k' + 1) (n' + cap) (by omega) (by omega) X' e' Nf
  exact ⟨s2, o, st' _ st2, r⟩
theorem Ru.stAB (C : Ru l Z own code maxL ret nm R n0 G W) {a : Addr} {j : Int32} {i : Nat} {v : Int32} {z : Nat} (F : AB Z h a z) (hj : j.toInt = (i : Int)) (hlt : i < z) (hg : n0 ≤ a) (hd : decode code pc = .ok (.bastore, 1)) (hp : pc + 1 = pc') (q : ∀ h', Wr h h' a i (.int (nar .byte v)) → AB Z h' a z → W h' k n pc' Ls rest) : W h k n pc Ls (.int v :: .int j :: .ref a :: rest) := by
  obtain ⟨p, e, s, m, args, below, meth, c, ⟨hx, hby, hml, hown, hZ, hre, hlk, hnm⟩, rfl⟩ := C
  subst hp
  intro T locs k' n' q1 q2 X eT N
  obtain ⟨cl, A, es, hl⟩ := F
  have hjn : j.toNatClampNeg = i := by show j.toInt.toNat = i; omega
  have hin : ¬ (j < 0 ∨ cl.slots.size ≤ j.toNatClampNeg) := by
    rw [Int32.lt_iff_toInt_lt, es, hjn]
    show ¬ (j.toInt < 0 ∨ _); omega
  obtain ⟨T', h', X', e', W', st'⟩ := stB X hx hZ eT A (j := j) hin (g := mkF m pc Ls (.int v :: .int j :: .ref a :: rest)) rfl rfl (hb hby hd)
  rw [hjn] at W'
  obtain ⟨s2, o, st2, r⟩ := q h' W' ⟨_, A.same W', by rw [sz_set]; exact es, hl⟩ T' _ k' n' q1 q2 X' e' (Fr.snoc X' N hg)
  exact ⟨s2, o, st' _ st2, r⟩
theorem Ru.lenAB (C : Ru l Z own code maxL ret nm R n0 G W) {a : Addr} {N : Nat} {z : Int32} (F : AB Z h a N) (hz : z.toInt = (N : Int)) (hd : decode code pc = .ok (.arraylength, 1)) (hp : pc + 1 = pc') (q : W h k n pc' Ls (.int z :: rest)) : W h k n pc Ls (.ref a :: rest) := by
  obtain ⟨p, e, s, m, args, below, meth, c, ⟨hx, hby, hml, hown, hZ, hre, hlk, hnm⟩, rfl⟩ := C
  subst hp
  intro T locs k' n' q1 q2 X eT Nf
  obtain ⟨cl, A, es, hl⟩ := F
  have e1 : cl.slots.size.toInt32 = z := by
    apply Int32.toInt_inj.mp
    rw [es, hz]
    exact len_toInt hl
  obtain ⟨s2, o, st2, r⟩ := q T locs k' n' q1 q2 X eT Nf
  exact ⟨s2, o, X.arraylength hx (by rw [eT]; exact A.1) (State.isArrayOf_alike hZ.alike A.2.1) (g := mkF m pc Ls (.ref a :: rest)) rfl rfl (hb hby hd) _ (by rw [e1]; exact st2), r⟩
/-! calls -/
/-- what a stack weighs -/
def wt (st : List Value) : Nat := (st.map fun v => v.category).sum
/-- Object.<init> -/
theorem Ru.initObj (C : Ru l Z own code maxL ret nm R n0 G W) {a0 : Array Value} {i w : Nat} {a : Addr} (w1 : (Cond.methodLink own i Lib.objectInit).before a0 Z = true) (w2 : (Cond.instanceMethod Lib.objectInit).before a0 Z = true) (w3 : (Cond.code Lib.objectInit ⟨#[0xb1]⟩ 1 none).before a0 Z = true)
    (hd : decode code pc = .ok (.invokespecial i, 3)) (hp : pc + 3 = pc') (hs : Ls.size = maxL) (hf : 1 ≤ R.frames) (hw : wt rest ≤ w) (hl : w + 12 ≤ R.locals) (q : W h k n pc' Ls rest) : W h k n pc Ls (.ref a :: rest) := by
  obtain ⟨p, e, s, m, args, below, meth, c, ⟨hx, hby, hml, hown, hZ, hre, hlk, hnm⟩, rfl⟩ := C
  subst hp
  intro T locs k' n' q1 q2 X eT N
  obtain ⟨T', X', e', st'⟩ := initO X hx hZ hown w1 w2 w3 eT (g := mkF m pc Ls (.ref a :: rest)) rfl (by rw [hml]; exact hs) rfl (hb hby hd) hf (W := w) (by show 2 * 0 + _ ≤ _; simpa [wt] using hw) hl
  obtain ⟨s2, o, st2, r⟩ := q T' locs k' n' q1 q2 X' e' N
  exact ⟨s2, o, st' _ st2, r⟩
theorem Ru.calls (C : Ru l Z own code maxL ret nm R n0 G W) {a0 : Array Value} {i w : Nat} {y : MethodName} {bytes : ByteArray} {mx : Nat} {rt : Option FieldType} {rm : Room} {GC : Option Value → Heap → Prop} {argsL : List Value} {ps : List FieldType} {rt' : Option FieldType}
    (M : MeetsW l Z n0 y bytes mx rt rm argsL.toArray h GC) (w1 : (Cond.methodLink own i y).before a0 Z = true) (w2 : (Cond.static y).before a0 Z = true) (w3 : (Cond.initialized y.cls).before a0 Z = true) (w4 : (Cond.code y bytes mx rt).before a0 Z = true)
    (hd : decode code pc = .ok (.invokestatic i, 3)) (hp : pc + 3 = pc') (hs : Ls.size = maxL) (hst : st = argsL.reverse ++ rest) (hy : y.cls ≠ "java/lang/invoke/MethodHandle" ∧ y.cls ≠ "java/lang/invoke/VarHandle")
    (hdesc : parseMethodDescriptor y.desc = some ⟨ps, rt'⟩) (hlen : argsL.length = ps.length) (hf : rm.frames + 1 ≤ R.frames) (hw : wt rest ≤ w) (hl : w + (mx + 11) + rm.locals ≤ R.locals) (hk : k + rm.cells ≤ R.cells) (hn : n + rm.slots ≤ R.slots)
    (q : ∀ v h', GC v h' → W h' (k + rm.cells) (n + rm.slots) pc' Ls (v.toList ++ rest)) : W h k n pc Ls st := by
  obtain ⟨p, e, s, m, args, below, meth, c, ⟨hx, hby, hml, hown, hZ, hre, hlk, hnm⟩, rfl⟩ := C
  subst hp hst
  intro T locs k' n' q1 q2 X eT N
  obtain ⟨v, _, ⟨T', L', k2, n2⟩, -, X', ⟨Lc, ⟨N', hQ⟩, hl', hk', hn'⟩, st'⟩ := Jvm.LawKit.callS X hx (y := y) hown (mvT hZ w1) (mvT hZ w2) (mvT hZ w3) (mvT hZ w4) hy (backOf (W := w) (Q := fun v h L => Fr n0 L ∧ GC v h) (M []) hZ w4 w3 hf hl) (g := mkF m pc Ls (argsL.reverse ++ rest)) rfl (by rw [hml]; exact hs) (argsL := argsL) (rest := rest) (lenOf hdesc hlen) rfl (by show 2 * 0 + _ ≤ _; simpa [wt] using hw) (hb hby hd) (fun _ _ => ⟨rfl, eT, (by show k' + rm.cells ≤ _; omega), (by show n' + rm.slots ≤ _; omega)⟩)
  dsimp only [Pt.U, Pt.locs, Pt.cells, Pt.slots] at X' hl' hk' hn' st' hQ
  subst hl' hk' hn'
  obtain ⟨s2, o, st2, r⟩ := q v T'.heap hQ T' _ _ _ (by omega) (by omega) X' rfl (Fr.app N N')
  exact ⟨s2, o, st' _ st2, r⟩
theorem Ru.callc (C : Ru l Z own code maxL ret nm R n0 G W) {a0 : Array Value} {i w : Nat} {y : MethodName} {bytes : ByteArray} {mx : Nat} {rm : Room} {GC : Option Value → Heap → Prop} {a : Addr} {argsL : List Value} {ps : List FieldType} {rt' : Option FieldType}
    (M : MeetsW l Z n0 y bytes mx none rm (.ref a :: argsL).toArray h GC) (hy1 : y.name = "<init>") (w1 : (Cond.methodLink own i y).before a0 Z = true) (w2 : (Cond.instanceMethod y).before a0 Z = true) (w3 : (Cond.initialized y.cls).before a0 Z = true) (w4 : (Cond.code y bytes mx none).before a0 Z = true)
    (hd : decode code pc = .ok (.invokespecial i, 3)) (hp : pc + 3 = pc') (hs : Ls.size = maxL) (hst : st = argsL.reverse ++ .ref a :: rest) (hy : y.cls ≠ "java/lang/invoke/MethodHandle" ∧ y.cls ≠ "java/lang/invoke/VarHandle")
    (hdesc : parseMethodDescriptor y.desc = some ⟨ps, rt'⟩) (hlen : argsL.length = ps.length) (hf : rm.frames + 1 ≤ R.frames) (hw : wt rest ≤ w) (hl : w + (mx + 11) + rm.locals ≤ R.locals) (hk : k + rm.cells ≤ R.cells) (hn : n + rm.slots ≤ R.slots)
    (q : ∀ v h', GC v h' → W h' (k + rm.cells) (n + rm.slots) pc' Ls (v.toList ++ rest)) : W h k n pc Ls st := by
  obtain ⟨p, e, s, m, args, below, meth, c, ⟨hx, hby, hml, hown, hZ, hre, hlk, hnm⟩, rfl⟩ := C
  subst hp hst
  intro T locs k' n' q1 q2 X eT N
  obtain ⟨v, _, ⟨T', L', k2, n2⟩, -, X', ⟨Lc, ⟨N', hQ⟩, hl', hk', hn'⟩, st'⟩ := X.specialBack hx (y := y) hy1 hown (mvT hZ w1) (mvT hZ w2) (mvT hZ w4) hy (backOf (W := w) (Q := fun v h L => Fr n0 L ∧ GC v h) (M []) hZ w4 w3 hf hl) (g := mkF m pc Ls (argsL.reverse ++ .ref a :: rest)) rfl (by rw [hml]; exact hs) (Steps.refl _) (a := a) (argsL := argsL) (rest := rest) (lenOf hdesc hlen) rfl (by show 2 * 0 + _ ≤ _; simpa [wt] using hw) (hb hby hd) (fun _ _ => ⟨rfl, eT, (by show k' + rm.cells ≤ _; omega), (by show n' + rm.slots ≤ _; omega)⟩)
  dsimp only [Pt.U, Pt.locs, Pt.cells, Pt.slots] at X' hl' hk' hn' st' hQ
  subst hl' hk' hn'
  obtain ⟨s2, o, st2, r⟩ := q v T'.heap hQ T' _ _ _ (by omega) (by omega) X' rfl (Fr.app N N')
  exact ⟨s2, o, st'.trans st2, r⟩
theorem Ru.callv (C : Ru l Z own code maxL ret nm R n0 G W) {a0 : Array Value} {i w : Nat} {y : MethodName} {bytes : ByteArray} {mx : Nat} {rt : Option FieldType} {rm : Room} {GC : Option Value → Heap → Prop} {a : Addr} {argsL : List Value} {ps : List FieldType} {rt' : Option FieldType} {D : String}
    (M : MeetsW l Z n0 y bytes mx rt rm (.ref a :: argsL).toArray h GC) (E : Exa Z h a D) (w1 : (Cond.methodLink own i y).before a0 Z = true) (w2 : (Cond.declares y).before a0 Z = true) (w5 : (Cond.selects D y y).before a0 Z = true) (w6 : (Cond.instanceMethod y).before a0 Z = true) (w3 : (Cond.initialized y.cls).before a0 Z = true) (w4 : (Cond.code y bytes mx rt).before a0 Z = true)
    (hd : decode code pc = .ok (.invokevirtual i, 3)) (hp : pc + 3 = pc') (hs : Ls.size = maxL) (hst : st = argsL.reverse ++ .ref a :: rest) (hy : y.cls ≠ "java/lang/invoke/MethodHandle" ∧ y.cls ≠ "java/lang/invoke/VarHandle")
    (hdesc : parseMethodDescriptor y.desc = some ⟨ps, rt'⟩) (hlen : argsL.length = ps.length) (hf : rm.frames + 1 ≤ R.frames) (hw : wt rest ≤ w) (hl : w + (mx + 11) + rm.locals ≤ R.locals) (hk : k + rm.cells ≤ R.cells) (hn : n + rm.slots ≤ R.slots)
    (q : ∀ v h', GC v h' → W h' (k + rm.cells) (n + rm.slots) pc' Ls (v.toList ++ rest)) : W h k n pc Ls st := by
  obtain ⟨p, e, s, m, args, below, meth, c, ⟨hx, hby, hml, hown, hZ, hre, hlk, hnm⟩, rfl⟩ := C
  subst hp hst
  intro T locs k' n' q1 q2 X eT N
  obtain ⟨cq, kq, qa, qb, qc⟩ := isOf hZ eT E
  obtain ⟨v, _, ⟨T', L', k2, n2⟩, -, X', ⟨Lc, ⟨N', hQ⟩, hl', hk', hn'⟩, st'⟩ := X.virtualBack hx (y := y) (z := y) hown (mvT hZ w1) (mvT hZ w2) (notFace_of_selects (args := #[]) (mvT hZ w5)) (mvT hZ w5) (mvT hZ w6) hy (backOf (W := w) (Q := fun v h L => Fr n0 L ∧ GC v h) (M []) hZ w4 w3 hf hl) qa qc (g := mkF m pc Ls (argsL.reverse ++ .ref a :: rest)) rfl (by rw [hml]; exact hs) (Steps.refl _) (argsL := argsL) (rest := rest) (lenOf hdesc hlen) rfl (by show 2 * 0 + _ ≤ _; simpa [wt] using hw) (hb hby hd) (fun _ _ => ⟨rfl, eT, (by show k' + rm.cells ≤ _; omega), (by show n' + rm.slots ≤ _; omega)⟩)
  dsimp only [Pt.U, Pt.locs, Pt.cells, Pt.slots] at X' hl' hk' hn' st' hQ
  subst hl' hk' hn'
  obtain ⟨s2, o, st2, r⟩ := q v T'.heap hQ T' _ _ _ (by omega) (by omega) X' rfl (Fr.app N N')
  exact ⟨s2, o, st'.trans st2, r⟩
theorem Ru.callp (C : Ru l Z own code maxL ret nm R n0 G W) {a0 : Array Value} {i w : Nat} {y : MethodName} {bytes : ByteArray} {mx : Nat} {rt : Option FieldType} {rm : Room} {GC : Option Value → Heap → Prop} {a : Addr} {argsL : List Value} {ps : List FieldType} {rt' : Option FieldType} {D : String}
    (M : MeetsW l Z n0 y bytes mx rt rm (.ref a :: argsL).toArray h GC) (E : Exa Z h a D) (w1 : (Cond.methodLink own i y).before a0 Z = true) (w6 : (Cond.instanceMethod y).before a0 Z = true) {nn : Nat} (w5 : (Cond.instantiable y.cls nn).before a0 Z = true) (w7 : (Cond.privateMethod y).before a0 Z = true) (w3 : (Cond.initialized y.cls).before a0 Z = true) (w4 : (Cond.code y bytes mx rt).before a0 Z = true)
    (hd : decode code pc = .ok (.invokevirtual i, 3)) (hp : pc + 3 = pc') (hs : Ls.size = maxL) (hst : st = argsL.reverse ++ .ref a :: rest) (hy : y.cls ≠ "java/lang/invoke/MethodHandle" ∧ y.cls ≠ "java/lang/invoke/VarHandle")
    (hdesc : parseMethodDescriptor y.desc = some ⟨ps, rt'⟩) (hlen : argsL.length = ps.length) (hf : rm.frames + 1 ≤ R.frames) (hw : wt rest ≤ w) (hl : w + (mx + 11) + rm.locals ≤ R.locals) (hk : k + rm.cells ≤ R.cells) (hn : n + rm.slots ≤ R.slots)
    (q : ∀ v h', GC v h' → W h' (k + rm.cells) (n + rm.slots) pc' Ls (v.toList ++ rest)) : W h k n pc Ls st := by
  obtain ⟨p, e, s, m, args, below, meth, c, ⟨hx, hby, hml, hown, hZ, hre, hlk, hnm⟩, rfl⟩ := C
  subst hp hst
  intro T locs k' n' q1 q2 X eT N
  obtain ⟨cq, qa, qb⟩ := E.cell
  have hpv : s.PrivateAt y := Cond.privateMethod_at (mvP hZ w7 (args := #[]))
  obtain ⟨cI, kI, hcI, hkI, -, hniab, -, -⟩ := Cond.instantiable_spec (mvT hZ w5 (args := args))
  have hsel : (Cond.selects y.cls y y).before args s = true := Jvm.Stand.selects_self_of_private hcI hkI (Bool.or_eq_false_iff.mp hniab).1 hpv (mvT hZ w6) hy
  obtain ⟨v, _, ⟨T', L', k2, n2⟩, -, X', ⟨Lc, ⟨N', hQ⟩, hl', hk', hn'⟩, st'⟩ := X.privateBack hx (y := y) hown (mvT hZ w1) (mvT hZ w6) hsel hpv (mvT hZ w4) hy (backOf (W := w) (Q := fun v h L => Fr n0 L ∧ GC v h) (M []) hZ w4 w3 hf hl) (g := mkF m pc Ls (argsL.reverse ++ .ref a :: rest)) rfl (by rw [hml]; exact hs) (Steps.refl _) (a := a) (by rw [eT]; exact qa) qb (argsL := argsL) (rest := rest) (lenOf hdesc hlen) rfl (by show 2 * 0 + _ ≤ _; simpa [wt] using hw) (hb hby hd) (fun _ _ => ⟨rfl, eT, (by show k' + rm.cells ≤ _; omega), (by show n' + rm.slots ≤ _; omega)⟩)
  dsimp only [Pt.U, Pt.locs, Pt.cells, Pt.slots] at X' hl' hk' hn' st' hQ
  subst hl' hk' hn'
  obtain ⟨s2, o, st2, r⟩ := q v T'.heap hQ T' _ _ _ (by omega) (by omega) X' rfl (Fr.app N N')
  exact ⟨s2, o, st'.trans st2, r⟩
theorem Ru.castY (C : Ru l Z own code maxL ret nm R n0 G W) {a0 : Array Value} {D : String} {i : Nat} {a : Addr} (w : (Cond.classLink own i D).before a0 Z = true) (F : Ins Z h a D true) (hd : decode code pc = .ok (.checkcast i, 3)) (hp : pc + 3 = pc') (q : W h k n pc' Ls (.ref a :: rest)) : W h k n pc Ls (.ref a :: rest) := by
  obtain ⟨p, e, s, m, args, below, meth, c, ⟨hx, hby, hml, hown, hZ, hre, hlk, hnm⟩, rfl⟩ := C
  subst hp
  intro T locs k' n' q1 q2 X eT N
  obtain ⟨T', X', e', st'⟩ := castY X hx hZ hown w eT F (g := mkF m pc Ls (.ref a :: rest)) rfl rfl (hb hby hd)
  obtain ⟨s2, o, st2, r⟩ := q T' locs k' n' q1 q2 X' e' N
  exact ⟨s2, o, st' _ st2, r⟩
theorem Ru.newAIE (C : Ru l Z own code maxL ret nm R n0 G W) {a0 : Array Value} {z : Int32} {N cap : Nat} (w : (Cond.arrayClass .int).before a0 Z = true) (hd : decode code pc = .ok (.newarray .int, 2)) (hp : pc + 2 = pc') (hz : z.toInt = (N : Int)) (hcap : N ≤ cap) (hb8 : cap * 8 ≤ 536870912) (hk : k + 1 ≤ R.cells) (hn : n + cap ≤ R.slots)
    (q : ∀ h' b, b = h.size → Ext h h' → AI Z h' b (List.replicate N 0) → Exa Z h' b "[I" → W h' (k + 1) (n + cap) pc' Ls (.ref b :: rest)) : W h k n pc Ls (.int z :: rest) := by
  obtain ⟨p, e, s, m, args, below, meth, c, ⟨hx, hby, hml, hown, hZ, hre, hlk, hnm⟩, rfl⟩ := C
  subst hp
  intro T locs k' n' q1 q2 X eT Nf
  have hnn : ¬ z < 0 := by rw [Int32.lt_iff_toInt_lt]; show ¬ z.toInt < 0; omega
  have hzn : z.toNatClampNeg = N := by show z.toInt.toNat = N; omega
  have hlt : N < 2 ^ 31 := by have := (rng32 z).2; omega
  obtain ⟨T', h', cA, X', e', E', A', B', st'⟩ := newPE X hx hZ (aty := .int) w eT (g := mkF m pc Ls (.int z :: rest)) rfl (hb hby hd) rfl hnn (cap := cap) (by omega) hb8 (by omega) (by omega) (ad := "[I") (by decide)
  have F : AI Z h' h.size (List.replicate N 0) := by
    refine ⟨_, A', ?_, by rw [List.length_replicate]; exact hlt⟩
    simp only [newA, hzn]
    apply Array.ext'
    simp [defaultValue, newarray.typeOf]
  obtain ⟨s2, o, st2, r⟩ := q h' _ rfl E' F B' T' locs (k' + 1) (n' + cap) (by omega) (by omega) X' e' Nf
  exact ⟨s2, o, st' _ st2, r⟩
theorem Ru.cloneAI (C : Ru l Z own code maxL ret nm R n0 G W) {a0 : Array Value} {i w cap : Nat} {a : Addr} {vs : List Int32}
    (w1 : (Cond.methodLink own i ⟨"[I", "clone", "()Ljava/lang/Object;"⟩).before a0 Z = true) (w2 : (Cond.sameMethod "[I" "java/lang/Object" "clone" "()Ljava/lang/Object;").before a0 Z = true) (w3 : (Cond.native ⟨"java/lang/Object", "clone", "()Ljava/lang/Object;"⟩).before a0 Z = true)
    (w4 : (Cond.instanceMethod ⟨"java/lang/Object", "clone", "()Ljava/lang/Object;"⟩).before a0 Z = true) (w5 : (Cond.selects "[I" ⟨"[I", "clone", "()Ljava/lang/Object;"⟩ ⟨"java/lang/Object", "clone", "()Ljava/lang/Object;"⟩).before a0 Z = true) (w6 : (Cond.castable "[I" "java/lang/Cloneable").before a0 Z = true)
    (F : AI Z h a vs) (E : Exa Z h a "[I") (hd : decode code pc = .ok (.invokevirtual i, 3)) (hp : pc + 3 = pc') (hs : Ls.size = maxL) (hf : 1 ≤ R.frames) (hw : wt rest ≤ w) (hl : w + 14 ≤ R.locals) (hcap : vs.length ≤ cap) (hk : k + 1 ≤ R.cells) (hn : n + cap ≤ R.slots)
    (q : ∀ h' b, b = h.size → Ext h h' → AI Z h' b vs → Exa Z h' b "[I" → W h' (k + 1) (n + cap) pc' Ls (.ref b :: rest)) : W h k n pc Ls (.ref a :: rest) := by
  obtain ⟨p, e, s, m, args, below, meth, c, ⟨hx, hby, hml, hown, hZ, hre, hlk, hnm⟩, rfl⟩ := C
  subst hp
  intro T locs k' n' q1 q2 X eT Nf
  obtain ⟨cl, A, es, hlen⟩ := F
  have hsz : cl.slots.size = vs.length := by rw [es]; simp
  have FC : FitC Z cl := fitC_of A fun j hj v hv => by
    rw [es] at hv
    simp only [List.getElem?_toArray, List.getElem?_map, Option.map_eq_some_iff] at hv
    obtain ⟨y, -, rfl⟩ := hv
    rfl
  obtain ⟨T', h', X', e', E', A', B', st'⟩ := cloneA X hx hZ hown w1 w2 w3 w4 w5 w6 eT A E FC (g := mkF m pc Ls (.ref a :: rest)) rfl (by rw [hml]; exact hs) rfl (hb hby hd) hf (W := w) (cap := cap) (by show 2 * 0 + _ ≤ _; simpa [wt] using hw) hl (by omega) (by omega) (by omega)
  obtain ⟨s2, o, st2, r⟩ := q h' _ rfl E' ⟨_, A', es, hlen⟩ B' T' locs (k' + 1) (n' + cap) (by omega) (by omega) X' e' Nf
  exact ⟨s2, o, st' _ st2, r⟩
/-! returns -/
theorem Ru.retV (C : Ru l Z own code maxL ret nm R n0 G W) (hr : ret = none) (hd : decode code pc = .ok (.return_, 1)) (hk : k ≤ R.cells) (hn : n ≤ R.slots) (q : G none h) : W h k n pc Ls [] := by
  obtain ⟨p, e, s, m, args, below, meth, c, ⟨hx, hby, hml, hown, hZ, hre, hlk, hnm⟩, rfl⟩ := C
  intro T locs k' n' q1 q2 X eT N
  obtain ⟨fs, hrr, hrun, hended, hW, hsame⟩ := X.leave (v := none) (fun _ => rfl)
  exact ⟨_, _, X.returnOut hx (hre.trans hr) (hb hby hd) hrr, hrun, hended, _, _, rfl, ⟨N, by show G none T.heap; rw [eT]; exact q⟩, ⟨_, rfl⟩, hW, hsame.mono (by omega) (by omega)⟩
theorem Ru.retI (C : Ru l Z own code maxL ret nm R n0 G W) {z : Int32} (hr : ret = some .int) (hd : decode code pc = .ok (.ireturn, 1)) (hk : k ≤ R.cells) (hn : n ≤ R.slots) (q : G (some (.int z)) h) : W h k n pc Ls (.int z :: rest) := by
  obtain ⟨p, e, s, m, args, below, meth, c, ⟨hx, hby, hml, hown, hZ, hre, hlk, hnm⟩, rfl⟩ := C
  intro T locs k' n' q1 q2 X eT N
  obtain ⟨fs, hrr, hrun, hended, hW, hsame⟩ := X.leave (v := some (.int z)) (fun h => by rw [hre, hr] at h; cases h)
  exact ⟨_, _, retOut X hx (hre.trans hr) rfl (Or.inl ⟨rfl, Or.inl rfl, z, rfl⟩) (hb hby hd) hrr, hrun, hended, _, _, rfl, ⟨N, by show G _ T.heap; rw [eT]; exact q⟩, ⟨_, rfl⟩, hW, hsame.mono (by omega) (by omega)⟩
theorem Ru.retZ (C : Ru l Z own code maxL ret nm R n0 G W) {z : Int32} (hr : ret = some .boolean) (hz : z = 0 ∨ z = 1) (hd : decode code pc = .ok (.ireturn, 1)) (hk : k ≤ R.cells) (hn : n ≤ R.slots) (q : G (some (.int z)) h) : W h k n pc Ls (.int z :: rest) := by
  obtain ⟨p, e, s, m, args, below, meth, c, ⟨hx, hby, hml, hown, hZ, hre, hlk, hnm⟩, rfl⟩ := C
  intro T locs k' n' q1 q2 X eT N
  obtain ⟨fs, hrr, hrun, hended, hW, hsame⟩ := X.leave (v := some (.int z)) (fun h => by rw [hre, hr] at h; cases h)
  have hnr : narrow .boolean (.int z) = .int z := by rcases hz with rfl | rfl <;> decide
  exact ⟨_, _, retOut X hx (hre.trans hr) hnr (Or.inl ⟨rfl, Or.inr (Or.inl rfl), z, rfl⟩) (hb hby hd) hrr, hrun, hended, _, _, rfl, ⟨N, by show G _ T.heap; rw [eT]; exact q⟩, ⟨_, rfl⟩, hW, hsame.mono (by omega) (by omega)⟩
theorem Ru.retJ (C : Ru l Z own code maxL ret nm R n0 G W) {z : Int64} (hr : ret = some .long) (hd : decode code pc = .ok (.lreturn, 1)) (hk : k ≤ R.cells) (hn : n ≤ R.slots) (q : G (some (.long z)) h) : W h k n pc Ls (.long z :: rest) := by
  obtain ⟨p, e, s, m, args, below, meth, c, ⟨hx, hby, hml, hown, hZ, hre, hlk, hnm⟩, rfl⟩ := C
  intro T locs k' n' q1 q2 X eT N
  obtain ⟨fs, hrr, hrun, hended, hW, hsame⟩ := X.leave (v := some (.long z)) (fun h => by rw [hre, hr] at h; cases h)
  exact ⟨_, _, retOut X hx (hre.trans hr) rfl (Or.inr (Or.inl ⟨rfl, rfl, z, rfl⟩)) (hb hby hd) hrr, hrun, hended, _, _, rfl, ⟨N, by show G _ T.heap; rw [eT]; exact q⟩, ⟨_, rfl⟩, hW, hsame.mono (by omega) (by omega)⟩
theorem Ru.retA (C : Ru l Z own code maxL ret nm R n0 G W) {a : Addr} {t : FieldType} (hr : ret = some t) (ht : t.isReference = true) (hd : decode code pc = .ok (.areturn, 1)) (hk : k ≤ R.cells) (hn : n ≤ R.slots) (q : G (some (.ref a)) h) : W h k n pc Ls (.ref a :: rest) := by
  obtain ⟨p, e, s, m, args, below, meth, c, ⟨hx, hby, hml, hown, hZ, hre, hlk, hnm⟩, rfl⟩ := C
  intro T locs k' n' q1 q2 X eT N
  obtain ⟨fs, hrr, hrun, hended, hW, hsame⟩ := X.leave (v := some (.ref a)) (fun h => by rw [hre, hr] at h; cases h)
  have hnr : narrow t (.ref a) = .ref a := by cases t <;> first | rfl | cases ht
  exact ⟨_, _, retOut X hx (hre.trans hr) hnr (Or.inr (Or.inr (Or.inr (Or.inr ⟨rfl, ht, rfl⟩)))) (hb hby hd) hrr, hrun, hended, _, _, rfl, ⟨N, by show G _ T.heap; rw [eT]; exact q⟩, ⟨_, rfl⟩, hW, hsame.mono (by omega) (by omega)⟩
end Steps
/-! kinds of results -/
def RI (P : Int32 → Heap → Prop) : Option Value → Heap → Prop := fun v h => ∃ r, v = some (.int r) ∧ P r h
def RJ (P : Int64 → Heap → Prop) : Option Value → Heap → Prop := fun v h => ∃ r, v = some (.long r) ∧ P r h
def RA (P : Addr → Heap → Prop) : Option Value → Heap → Prop := fun v h => ∃ r, v = some (.ref r) ∧ P r h
def RV (P : Heap → Prop) : Option Value → Heap → Prop := fun v h => v = none ∧ P h
theorem kI {P : Int32 → Heap → Prop} {W : WT} {k n pc : Nat} {Ls : Array Slot} {rest : List Value} (q : ∀ r h, P r h → W h k n pc Ls (.int r :: rest)) : ∀ v h, RI P v h → W h k n pc Ls (v.toList ++ rest) := by
  rintro _ h ⟨r, rfl, p⟩; exact q r h p
theorem kJ {P : Int64 → Heap → Prop} {W : WT} {k n pc : Nat} {Ls : Array Slot} {rest : List Value} (q : ∀ r h, P r h → W h k n pc Ls (.long r :: rest)) : ∀ v h, RJ P v h → W h k n pc Ls (v.toList ++ rest) := by
  rintro _ h ⟨r, rfl, p⟩; exact q r h p
theorem kA {P : Addr → Heap → Prop} {W : WT} {k n pc : Nat} {Ls : Array Slot} {rest : List Value} (q : ∀ r h, P r h → W h k n pc Ls (.ref r :: rest)) : ∀ v h, RA P v h → W h k n pc Ls (v.toList ++ rest) := by
  rintro _ h ⟨r, rfl, p⟩; exact q r h p
theorem kV {P : Heap → Prop} {W : WT} {k n pc : Nat} {Ls : Array Slot} {rest : List Value} (q : ∀ h, P h → W h k n pc Ls rest) : ∀ v h, RV P v h → W h k n pc Ls (v.toList ++ rest) := by
  rintro _ h ⟨rfl, p⟩; exact q h p
/-- the same, for a callee that leaves the heap as it was and returns just this -/
theorem kI0 {P : Int32 → Prop} {h0 : Heap} {W : WT} {k n pc : Nat} {Ls : Array Slot} {rest : List Value} (q : ∀ r, P r → W h0 k n pc Ls (.int r :: rest)) : ∀ v h, RI (fun r h => P r ∧ h = h0) v h → W h k n pc Ls (v.toList ++ rest) := by
  rintro _ h ⟨r, rfl, p, rfl⟩; exact q r p
theorem kJ0 {P : Int64 → Prop} {h0 : Heap} {W : WT} {k n pc : Nat} {Ls : Array Slot} {rest : List Value} (q : ∀ r, P r → W h0 k n pc Ls (.long r :: rest)) : ∀ v h, RJ (fun r h => P r ∧ h = h0) v h → W h k n pc Ls (v.toList ++ rest) := by
  rintro _ h ⟨r, rfl, p, rfl⟩; exact q r p
theorem kIe {x : Int32} {h0 : Heap} {W : WT} {k n pc : Nat} {Ls : Array Slot} {rest : List Value} (q : W h0 k n pc Ls (.int x :: rest)) : ∀ v h, RI (fun r h => r = x ∧ h = h0) v h → W h k n pc Ls (v.toList ++ rest) := by
  rintro _ h ⟨r, rfl, rfl, rfl⟩; exact q
theorem kJe {x : Int64} {h0 : Heap} {W : WT} {k n pc : Nat} {Ls : Array Slot} {rest : List Value} (q : W h0 k n pc Ls (.long x :: rest)) : ∀ v h, RJ (fun r h => r = x ∧ h = h0) v h → W h k n pc Ls (v.toList ++ rest) := by
  rintro _ h ⟨r, rfl, rfl, rfl⟩; exact q
theorem exaLt {Z : State} {h : Heap} {a : Addr} {C : String} (F : Exa Z h a C) : a < h.size := by obtain ⟨c, _, h1, -⟩ := F; exact (Array.getElem?_eq_some_iff.mp h1).1
end Jvm.OwnW

namespace Jvm.Pilot.@@N@@
open Jvm Jvm.ClassFile Sem Op Lib Jvm.Free Jvm.Stand Jvm.LawKit Jvm.RoadKit Bundle Jvm.Pilot.@@N@@.Jvm.D Jvm.OwnW
end Jvm.Pilot.@@N@@
namespace Jvm.OwnP
open Jvm.RoadKit
theorem nn_toInt {j : Int32} (h : ¬ j < 0) : j.toInt = (j.toInt.toNat : Int) := by
  rw [Int32.lt_iff_toInt_lt] at h
  have : ¬ j.toInt < 0 := h
  omega
theorem getD_some {α : Type} {vs : List α} {i : Nat} {d : α} (h : i < vs.length) : vs[i]? = some (vs.getD i d) := by
  rw [List.getD_eq_getElem?_getD, List.getElem?_eq_getElem h]; rfl
theorem and3 (c : Int32) : c &&& 3 = 0 ∨ c &&& 3 = 1 ∨ c &&& 3 = 2 ∨ c &&& 3 = 3 := by
  have m := c_mask c 3 2 (by decide) (by decide)
  have h : (c &&& 3).toInt = 0 ∨ (c &&& 3).toInt = 1 ∨ (c &&& 3).toInt = 2 ∨ (c &&& 3).toInt = 3 := by omega
  rcases h with h | h | h | h
  · exact Or.inl (Int32.toInt_inj.mp h)
  · exact Or.inr (Or.inl (Int32.toInt_inj.mp h))
  · exact Or.inr (Or.inr (Or.inl (Int32.toInt_inj.mp h)))
  · exact Or.inr (Or.inr (Or.inr (Int32.toInt_inj.mp h)))
theorem fill_step {α : Type} {L M : List α} {i : Nat} (hl : L.length = M.length) (h : ∀ j, j < i → L[j]? = M[j]?) {v : α} (hv : M[i]? = some v) : (L.set i v).length = M.length ∧ ∀ j, j < i + 1 → (L.set i v)[j]? = M[j]? := by
  have hi : i < L.length := by rw [hl]; exact (List.getElem?_eq_some_iff.mp hv).1
  refine ⟨by rw [List.length_set]; exact hl, fun j hj => ?_⟩
  by_cases e : j = i
  · subst e; rw [List.getElem?_set_self hi, hv]
  · rw [List.getElem?_set_ne (Ne.symm e)]; exact h j (by omega)
theorem fill_done {α : Type} {L M : List α} {i : Nat} (hl : L.length = M.length) (h : ∀ j, j < i → L[j]? = M[j]?) (hi : M.length ≤ i) : L = M := by
  apply List.ext_getElem?
  intro j
  by_cases e : j < i
  · exact h j e
  · rw [List.getElem?_eq_none (by omega), List.getElem?_eq_none (by omega)]
theorem lt_iff {x y : Int32} {a b : Nat} (hx : x.toInt = (a : Int)) (hy : y.toInt = (b : Int)) : x < y ↔ a < b := by
  rw [Int32.lt_iff_toInt_lt, hx, hy]; omega
theorem inc_toInt {x v : Int32} {a : Nat} (hx : x.toInt = (a : Int)) (h : a < 2147483647) (e : v = x + 1) : v.toInt = ((a + 1 : Nat) : Int) := by
  have s := c_iadd x 1; have b := rng32 (x + 1); have o : (1 : Int32).toInt = 1 := by decide
  rw [e]; omega
theorem narZ {x : Int32} (h : x = 0 ∨ x = 1) : Jvm.narrow .boolean (.int x) = .int x ∧ Jvm.fits .boolean (.int x) = true := by
  rcases h with rfl | rfl <;> exact ⟨by decide, by decide⟩
theorem rem3 {c : Int32} (h : ¬ c < 0) : c % 3 = 0 ∨ c % 3 = 1 ∨ c % 3 = 2 := by
  rw [Int32.lt_iff_toInt_lt] at h
  have h0 : ¬ c.toInt < 0 := h
  have m := (c_irem c 3 3 (by decide)).1 (by omega)
  have h : (c % 3).toInt = 0 ∨ (c % 3).toInt = 1 ∨ (c % 3).toInt = 2 := by omega
  rcases h with h | h | h
  · exact Or.inl (Int32.toInt_inj.mp h)
  · exact Or.inr (Or.inl (Int32.toInt_inj.mp h))
  · exact Or.inr (Or.inr (Int32.toInt_inj.mp h))
end Jvm.OwnP
namespace Jvm.Pilot.@@N@@
open Jvm Jvm.ClassFile Sem Op Lib Jvm.Free Jvm.Stand Jvm.LawKit Jvm.RoadKit Bundle Jvm.Pilot.@@N@@.Jvm.D Jvm.OwnW

theorem own_g {q : Int32} {v : Int64} (e : v = (q &&& 511).toInt64 + 1) : 1 ≤ v.toInt ∧ v.toInt ≤ 512 := by
  have m := c_mask q 511 9 (by decide) (by decide)
  have s := c_ladd (q &&& 511).toInt64 1; have b := rng64 ((q &&& 511).toInt64 + 1); have o : (1 : Int64).toInt = 1 := by decide
  rw [← e, Int32.toInt_toInt64] at s; rw [← e] at b
  omega
theorem own_ne {a b g : Int64} {q : Int32} (eg : g = (q &&& 511).toInt64 + 1) (e : b = a + g) : ¬ (a = b) := by
  intro h; subst h
  have s := c_ladd a g; have k := own_g eg
  rw [← e] at s
  omega
theorem own_sub {a b c g : Int64} (e : b = a + 0) (f : c = b + g) : c = a + g := by rw [f, e, Int64.add_zero]
theorem own_eq {a b : Int64} (e : b = a + 0) : a = b := by rw [e, Int64.add_zero]

theorem od2_0 : decode prog_9_method_1_code 0 = .ok (.aload_n 0, 1) := by decide +kernel
theorem od2_1 : decode prog_9_method_1_code 1 = .ok (.invokespecial 1, 3) := by decide +kernel
theorem ow13 {a0 : Array Value} {Z : State} (hw : ∀ d ∈ tables_1, d.before a0 Z = true) : (Jvm.Cond.methodLink "com/example/steady_limiter/steadylimiter/KeyState" (1 : Nat) ({ cls := "java/lang/Object", name := "<init>", desc := "()V" } : Jvm.MethodName)).before a0 Z = true := hw _ (List.mem_of_getElem? (i := 13) rfl)
theorem ow14 {a0 : Array Value} {Z : State} (hw : ∀ d ∈ tables_1, d.before a0 Z = true) : (Jvm.Cond.instanceMethod ({ cls := "java/lang/Object", name := "<init>", desc := "()V" } : Jvm.MethodName)).before a0 Z = true := hw _ (List.mem_of_getElem? (i := 14) rfl)
theorem ow15 {a0 : Array Value} {Z : State} (hw : ∀ d ∈ tables_1, d.before a0 Z = true) : (Jvm.Cond.code ({ cls := "java/lang/Object", name := "<init>", desc := "()V" } : Jvm.MethodName) object_method_1_code (1 : Nat) (Option.none : Option Jvm.ClassFile.FieldType)).before a0 Z = true := hw _ (List.mem_of_getElem? (i := 15) rfl)
theorem od2_4 : decode prog_9_method_1_code 4 = .ok (.aload_n 0, 1) := by decide +kernel
theorem od2_5 : decode prog_9_method_1_code 5 = .ok (.lload_n 1, 1) := by decide +kernel
theorem ow17 {a0 : Array Value} {Z : State} (hw : ∀ d ∈ tables_1, d.before a0 Z = true) : (Jvm.Cond.lays "com/example/steady_limiter/steadylimiter/SlidingWindowLog$PermitLog" "com/example/steady_limiter/steadylimiter/KeyState" "lastNanos" "J").before a0 Z = true := hw _ (List.mem_of_getElem? (i := 17) rfl)
theorem ow16 {a0 : Array Value} {Z : State} (hw : ∀ d ∈ tables_1, d.before a0 Z = true) : (Jvm.Cond.fieldLink "com/example/steady_limiter/steadylimiter/KeyState" (7 : Nat) "com/example/steady_limiter/steadylimiter/KeyState" "lastNanos" "J").before a0 Z = true := hw _ (List.mem_of_getElem? (i := 16) rfl)
theorem ow3 {a0 : Array Value} {Z : State} (hw : ∀ d ∈ tables_1, d.before a0 Z = true) : (Jvm.Cond.instantiable "com/example/steady_limiter/steadylimiter/SlidingWindowLog$PermitLog" (9 : Nat)).before a0 Z = true := hw _ (List.mem_of_getElem? (i := 3) rfl)
theorem pf_J : parseFieldDescriptor "J" = some .long := by decide
theorem od2_6 : decode prog_9_method_1_code 6 = .ok (.putfield 7, 3) := by decide +kernel
theorem ow19 {a0 : Array Value} {Z : State} (hw : ∀ d ∈ tables_1, d.before a0 Z = true) : (Jvm.Cond.lays "com/example/steady_limiter/steadylimiter/SlidingWindowLog$PermitLog" "com/example/steady_limiter/steadylimiter/SlidingWindowLog$PermitLog" "times" "[J").before a0 Z = true := hw _ (List.mem_of_getElem? (i := 19) rfl)
theorem pf__J : parseFieldDescriptor "[J" = some (.array .long) := by decide
theorem sne_19_17 {a0 : Array Value} {Z : State} (hw : ∀ d ∈ tables_1, d.before a0 Z = true) : Jvm.RoadKit.slotOf Z "com/example/steady_limiter/steadylimiter/SlidingWindowLog$PermitLog" "times" "[J" ≠ Jvm.RoadKit.slotOf Z "com/example/steady_limiter/steadylimiter/KeyState" "lastNanos" "J" := slot_ne (C := "com/example/steady_limiter/steadylimiter/SlidingWindowLog$PermitLog") (a0 := a0) (Or.inl (ow19 hw)) (Or.inl (ow17 hw)) (by decide) pf__J pf_J
theorem ow21 {a0 : Array Value} {Z : State} (hw : ∀ d ∈ tables_1, d.before a0 Z = true) : (Jvm.Cond.lays "com/example/steady_limiter/steadylimiter/SlidingWindowLog$PermitLog" "com/example/steady_limiter/steadylimiter/SlidingWindowLog$PermitLog" "permits" "[J").before a0 Z = true := hw _ (List.mem_of_getElem? (i := 21) rfl)
theorem sne_21_17 {a0 : Array Value} {Z : State} (hw : ∀ d ∈ tables_1, d.before a0 Z = true) : Jvm.RoadKit.slotOf Z "com/example/steady_limiter/steadylimiter/SlidingWindowLog$PermitLog" "permits" "[J" ≠ Jvm.RoadKit.slotOf Z "com/example/steady_limiter/steadylimiter/KeyState" "lastNanos" "J" := slot_ne (C := "com/example/steady_limiter/steadylimiter/SlidingWindowLog$PermitLog") (a0 := a0) (Or.inl (ow21 hw)) (Or.inl (ow17 hw)) (by decide) pf__J pf_J
theorem ow34 {a0 : Array Value} {Z : State} (hw : ∀ d ∈ tables_1, d.before a0 Z = true) : (Jvm.Cond.lays "com/example/steady_limiter/steadylimiter/SlidingWindowLog$PermitLog" "com/example/steady_limiter/steadylimiter/SlidingWindowLog$PermitLog" "head" "I").before a0 Z = true := hw _ (List.mem_of_getElem? (i := 34) rfl)
theorem pf_I : parseFieldDescriptor "I" = some .int := by decide
theorem sne_34_17 {a0 : Array Value} {Z : State} (hw : ∀ d ∈ tables_1, d.before a0 Z = true) : Jvm.RoadKit.slotOf Z "com/example/steady_limiter/steadylimiter/SlidingWindowLog$PermitLog" "head" "I" ≠ Jvm.RoadKit.slotOf Z "com/example/steady_limiter/steadylimiter/KeyState" "lastNanos" "J" := slot_ne (C := "com/example/steady_limiter/steadylimiter/SlidingWindowLog$PermitLog") (a0 := a0) (Or.inl (ow34 hw)) (Or.inl (ow17 hw)) (by decide) pf_I pf_J
theorem ow28 {a0 : Array Value} {Z : State} (hw : ∀ d ∈ tables_1, d.before a0 Z = true) : (Jvm.Cond.lays "com/example/steady_limiter/steadylimiter/SlidingWindowLog$PermitLog" "com/example/steady_limiter/steadylimiter/SlidingWindowLog$PermitLog" "size" "I").before a0 Z = true := hw _ (List.mem_of_getElem? (i := 28) rfl)
theorem sne_28_17 {a0 : Array Value} {Z : State} (hw : ∀ d ∈ tables_1, d.before a0 Z = true) : Jvm.RoadKit.slotOf Z "com/example/steady_limiter/steadylimiter/SlidingWindowLog$PermitLog" "size" "I" ≠ Jvm.RoadKit.slotOf Z "com/example/steady_limiter/steadylimiter/KeyState" "lastNanos" "J" := slot_ne (C := "com/example/steady_limiter/steadylimiter/SlidingWindowLog$PermitLog") (a0 := a0) (Or.inl (ow28 hw)) (Or.inl (ow17 hw)) (by decide) pf_I pf_J
theorem ow36 {a0 : Array Value} {Z : State} (hw : ∀ d ∈ tables_1, d.before a0 Z = true) : (Jvm.Cond.lays "com/example/steady_limiter/steadylimiter/SlidingWindowLog$PermitLog" "com/example/steady_limiter/steadylimiter/SlidingWindowLog$PermitLog" "counted" "J").before a0 Z = true := hw _ (List.mem_of_getElem? (i := 36) rfl)
theorem sne_36_17 {a0 : Array Value} {Z : State} (hw : ∀ d ∈ tables_1, d.before a0 Z = true) : Jvm.RoadKit.slotOf Z "com/example/steady_limiter/steadylimiter/SlidingWindowLog$PermitLog" "counted" "J" ≠ Jvm.RoadKit.slotOf Z "com/example/steady_limiter/steadylimiter/KeyState" "lastNanos" "J" := slot_ne (C := "com/example/steady_limiter/steadylimiter/SlidingWindowLog$PermitLog") (a0 := a0) (Or.inl (ow36 hw)) (Or.inl (ow17 hw)) (by decide) pf_J pf_J
theorem od2_9 : decode prog_9_method_1_code 9 = .ok (.return_, 1) := by decide +kernel
theorem ef_own_rm2 (m : MethodId) (x0 : Addr) (x1 : Int64) : entryFrame m #[(.ref x0), (.long x1)] 3 = mkF m 0 #[.val (.ref x0), .val (.long x1), .second] [] := by first | (simp [entryFrame, mkF, argsToLocals, Value.category]; done) | rfl
theorem pn_com_example_steady_limiter_steadylimiter_KeyState__init___J_V : plainFor (⟨"com/example/steady_limiter/steadylimiter/KeyState", "<init>", "(J)V"⟩ : MethodName) = true := plainFor_of_name (by first | (simp [plainName, overriddenIn]; done) | decide +kernel)
set_option maxRecDepth 65536 in
set_option maxHeartbeats 40000000 in
theorem own_rm2 (l : Launch) (Z : State) (a0 : Array Value) (hw : ∀ d ∈ tables_1, d.before a0 Z = true) (n0 : Nat) (hO : Heap) (a : Addr) (x : Int64) (Z0 : n0 ≤ hO.size) (E_a : Exa Z hO a "com/example/steady_limiter/steadylimiter/SlidingWindowLog$PermitLog") (F_a_lastNanos : Fld Z hO a "com/example/steady_limiter/steadylimiter/KeyState" "lastNanos" "J" (.long (0 : Int64))) (F_a_times : Fld Z hO a "com/example/steady_limiter/steadylimiter/SlidingWindowLog$PermitLog" "times" "[J" .null) (F_a_permits : Fld Z hO a "com/example/steady_limiter/steadylimiter/SlidingWindowLog$PermitLog" "permits" "[J" .null) (F_a_head : Fld Z hO a "com/example/steady_limiter/steadylimiter/SlidingWindowLog$PermitLog" "head" "I" (.int (0 : Int32))) (F_a_size : Fld Z hO a "com/example/steady_limiter/steadylimiter/SlidingWindowLog$PermitLog" "size" "I" (.int (0 : Int32))) (F_a_counted : Fld Z hO a "com/example/steady_limiter/steadylimiter/SlidingWindowLog$PermitLog" "counted" "J" (.long (0 : Int64))) (g_a : n0 ≤ a) :
    MeetsW l Z n0 (⟨"com/example/steady_limiter/steadylimiter/KeyState", "<init>", "(J)V"⟩ : MethodName) prog_9_method_1_code 3 none ({ frames := 1, cells := 0, slots := 0, locals := 12 } : Room) #[(.ref a), (.long x)] hO (RV fun h => Keep hO h [a] ∧ Fld Z h a "com/example/steady_limiter/steadylimiter/SlidingWindowLog$PermitLog" "times" "[J" .null ∧ Fld Z h a "com/example/steady_limiter/steadylimiter/SlidingWindowLog$PermitLog" "permits" "[J" .null ∧ Fld Z h a "com/example/steady_limiter/steadylimiter/SlidingWindowLog$PermitLog" "head" "I" (.int (0 : Int32)) ∧ Fld Z h a "com/example/steady_limiter/steadylimiter/SlidingWindowLog$PermitLog" "size" "I" (.int (0 : Int32)) ∧ Fld Z h a "com/example/steady_limiter/steadylimiter/SlidingWindowLog$PermitLog" "counted" "J" (.long (0 : Int64))) := by
  refine MeetsW.intro pn_com_example_steady_limiter_steadylimiter_KeyState__init___J_V (fun m => ef_own_rm2 m a x) ?_
  intro W C
  replace C : Ru l Z "com/example/steady_limiter/steadylimiter/KeyState" prog_9_method_1_code 3 none "<init>" ({ frames := 1, cells := 0, slots := 0, locals := 12 } : Room) n0 (RV fun h => Keep hO h [a] ∧ Fld Z h a "com/example/steady_limiter/steadylimiter/SlidingWindowLog$PermitLog" "times" "[J" .null ∧ Fld Z h a "com/example/steady_limiter/steadylimiter/SlidingWindowLog$PermitLog" "permits" "[J" .null ∧ Fld Z h a "com/example/steady_limiter/steadylimiter/SlidingWindowLog$PermitLog" "head" "I" (.int (0 : Int32)) ∧ Fld Z h a "com/example/steady_limiter/steadylimiter/SlidingWindowLog$PermitLog" "size" "I" (.int (0 : Int32)) ∧ Fld Z h a "com/example/steady_limiter/steadylimiter/SlidingWindowLog$PermitLog" "counted" "J" (.long (0 : Int64))) W := C
  have K : Keep hO hO [a] := Keep.refl _ _
  refine C.aloadN (pc' := 1) od2_0 rfl rfl rfl ?_
  refine C.initObj (w := 0) (ow13 hw) (ow14 hw) (ow15 hw) (pc' := 4) od2_1 rfl rfl (by decide) (Nat.le_of_eq rfl) (by decide) ?_
  refine C.aloadN (pc' := 5) od2_4 rfl rfl rfl ?_
  refine C.lloadN (pc' := 6) od2_5 rfl rfl ?_
  refine C.putf (ow16 hw) Via.refl F_a_lastNanos E_a (Or.inl (ow17 hw)) (ow3 hw) pf_J rfl rfl g_a (pc' := 9) od2_6 rfl (fun h6 X6 => ?_)
  replace F_a_lastNanos := F_a_lastNanos.same X6
  replace E_a := E_a.wr X6
  replace F_a_times := F_a_times.other X6 (Or.inr (sne_19_17 hw))
  replace F_a_permits := F_a_permits.other X6 (Or.inr (sne_21_17 hw))
  replace F_a_head := F_a_head.other X6 (Or.inr (sne_34_17 hw))
  replace F_a_size := F_a_size.other X6 (Or.inr (sne_28_17 hw))
  replace F_a_counted := F_a_counted.other X6 (Or.inr (sne_36_17 hw))
  replace K := K.wr X6 (Or.inl (List.mem_of_getElem? (i := 0) rfl))
  refine C.retV rfl od2_9 (by decide) (by decide) ⟨rfl, ?_⟩
  exact ⟨K, F_a_times, F_a_permits, F_a_head, F_a_size, F_a_counted⟩
theorem od1_0 : decode prog_20_method_1_code 0 = .ok (.aload_n 0, 1) := by decide +kernel
theorem od1_1 : decode prog_20_method_1_code 1 = .ok (.lload_n 1, 1) := by decide +kernel
theorem od1_2 : decode prog_20_method_1_code 2 = .ok (.invokespecial 1, 3) := by decide +kernel
theorem pd__J_V : parseMethodDescriptor "(J)V" = some ⟨[.long], none⟩ := by decide +kernel
theorem ow12 {a0 : Array Value} {Z : State} (hw : ∀ d ∈ tables_1, d.before a0 Z = true) : (Jvm.Cond.code ({ cls := "com/example/steady_limiter/steadylimiter/KeyState", name := "<init>", desc := "(J)V" } : Jvm.MethodName) prog_9_method_1_code (3 : Nat) (Option.none : Option Jvm.ClassFile.FieldType)).before a0 Z = true := hw _ (List.mem_of_getElem? (i := 12) rfl)
theorem ow11 {a0 : Array Value} {Z : State} (hw : ∀ d ∈ tables_1, d.before a0 Z = true) : (Jvm.Cond.initialized "com/example/steady_limiter/steadylimiter/KeyState").before a0 Z = true := hw _ (List.mem_of_getElem? (i := 11) rfl)
theorem ow8 {a0 : Array Value} {Z : State} (hw : ∀ d ∈ tables_1, d.before a0 Z = true) : (Jvm.Cond.methodLink "com/example/steady_limiter/steadylimiter/SlidingWindowLog$PermitLog" (1 : Nat) ({ cls := "com/example/steady_limiter/steadylimiter/KeyState", name := "<init>", desc := "(J)V" } : Jvm.MethodName)).before a0 Z = true := hw _ (List.mem_of_getElem? (i := 8) rfl)
theorem ow9 {a0 : Array Value} {Z : State} (hw : ∀ d ∈ tables_1, d.before a0 Z = true) : (Jvm.Cond.instanceMethod ({ cls := "com/example/steady_limiter/steadylimiter/KeyState", name := "<init>", desc := "(J)V" } : Jvm.MethodName)).before a0 Z = true := hw _ (List.mem_of_getElem? (i := 9) rfl)
theorem od1_5 : decode prog_20_method_1_code 5 = .ok (.aload_n 0, 1) := by decide +kernel
theorem od1_6 : decode prog_20_method_1_code 6 = .ok (.iconst 2, 1) := by decide +kernel
theorem ow1 {a0 : Array Value} {Z : State} (hw : ∀ d ∈ tables_1, d.before a0 Z = true) : (Jvm.Cond.arrayClass Jvm.ClassFile.FieldType.long).before a0 Z = true := hw _ (List.mem_of_getElem? (i := 1) rfl)
theorem od1_7 : decode prog_20_method_1_code 7 = .ok (.newarray .long, 2) := by decide +kernel
theorem ow18 {a0 : Array Value} {Z : State} (hw : ∀ d ∈ tables_1, d.before a0 Z = true) : (Jvm.Cond.fieldLink "com/example/steady_limiter/steadylimiter/SlidingWindowLog$PermitLog" (9 : Nat) "com/example/steady_limiter/steadylimiter/SlidingWindowLog$PermitLog" "times" "[J").before a0 Z = true := hw _ (List.mem_of_getElem? (i := 18) rfl)
theorem od1_9 : decode prog_20_method_1_code 9 = .ok (.putfield 9, 3) := by decide +kernel
theorem sne_21_19 {a0 : Array Value} {Z : State} (hw : ∀ d ∈ tables_1, d.before a0 Z = true) : Jvm.RoadKit.slotOf Z "com/example/steady_limiter/steadylimiter/SlidingWindowLog$PermitLog" "permits" "[J" ≠ Jvm.RoadKit.slotOf Z "com/example/steady_limiter/steadylimiter/SlidingWindowLog$PermitLog" "times" "[J" := slot_ne (C := "com/example/steady_limiter/steadylimiter/SlidingWindowLog$PermitLog") (a0 := a0) (Or.inl (ow21 hw)) (Or.inl (ow19 hw)) (by decide) pf__J pf__J
theorem sne_34_19 {a0 : Array Value} {Z : State} (hw : ∀ d ∈ tables_1, d.before a0 Z = true) : Jvm.RoadKit.slotOf Z "com/example/steady_limiter/steadylimiter/SlidingWindowLog$PermitLog" "head" "I" ≠ Jvm.RoadKit.slotOf Z "com/example/steady_limiter/steadylimiter/SlidingWindowLog$PermitLog" "times" "[J" := slot_ne (C := "com/example/steady_limiter/steadylimiter/SlidingWindowLog$PermitLog") (a0 := a0) (Or.inl (ow34 hw)) (Or.inl (ow19 hw)) (by decide) pf_I pf__J
theorem sne_28_19 {a0 : Array Value} {Z : State} (hw : ∀ d ∈ tables_1, d.before a0 Z = true) : Jvm.RoadKit.slotOf Z "com/example/steady_limiter/steadylimiter/SlidingWindowLog$PermitLog" "size" "I" ≠ Jvm.RoadKit.slotOf Z "com/example/steady_limiter/steadylimiter/SlidingWindowLog$PermitLog" "times" "[J" := slot_ne (C := "com/example/steady_limiter/steadylimiter/SlidingWindowLog$PermitLog") (a0 := a0) (Or.inl (ow28 hw)) (Or.inl (ow19 hw)) (by decide) pf_I pf__J
theorem sne_36_19 {a0 : Array Value} {Z : State} (hw : ∀ d ∈ tables_1, d.before a0 Z = true) : Jvm.RoadKit.slotOf Z "com/example/steady_limiter/steadylimiter/SlidingWindowLog$PermitLog" "counted" "J" ≠ Jvm.RoadKit.slotOf Z "com/example/steady_limiter/steadylimiter/SlidingWindowLog$PermitLog" "times" "[J" := slot_ne (C := "com/example/steady_limiter/steadylimiter/SlidingWindowLog$PermitLog") (a0 := a0) (Or.inl (ow36 hw)) (Or.inl (ow19 hw)) (by decide) pf_J pf__J
theorem od1_12 : decode prog_20_method_1_code 12 = .ok (.aload_n 0, 1) := by decide +kernel
theorem od1_13 : decode prog_20_method_1_code 13 = .ok (.iconst 2, 1) := by decide +kernel
theorem od1_14 : decode prog_20_method_1_code 14 = .ok (.newarray .long, 2) := by decide +kernel
theorem ow20 {a0 : Array Value} {Z : State} (hw : ∀ d ∈ tables_1, d.before a0 Z = true) : (Jvm.Cond.fieldLink "com/example/steady_limiter/steadylimiter/SlidingWindowLog$PermitLog" (13 : Nat) "com/example/steady_limiter/steadylimiter/SlidingWindowLog$PermitLog" "permits" "[J").before a0 Z = true := hw _ (List.mem_of_getElem? (i := 20) rfl)
theorem od1_16 : decode prog_20_method_1_code 16 = .ok (.putfield 13, 3) := by decide +kernel
theorem sne_34_21 {a0 : Array Value} {Z : State} (hw : ∀ d ∈ tables_1, d.before a0 Z = true) : Jvm.RoadKit.slotOf Z "com/example/steady_limiter/steadylimiter/SlidingWindowLog$PermitLog" "head" "I" ≠ Jvm.RoadKit.slotOf Z "com/example/steady_limiter/steadylimiter/SlidingWindowLog$PermitLog" "permits" "[J" := slot_ne (C := "com/example/steady_limiter/steadylimiter/SlidingWindowLog$PermitLog") (a0 := a0) (Or.inl (ow34 hw)) (Or.inl (ow21 hw)) (by decide) pf_I pf__J
theorem sne_28_21 {a0 : Array Value} {Z : State} (hw : ∀ d ∈ tables_1, d.before a0 Z = true) : Jvm.RoadKit.slotOf Z "com/example/steady_limiter/steadylimiter/SlidingWindowLog$PermitLog" "size" "I" ≠ Jvm.RoadKit.slotOf Z "com/example/steady_limiter/steadylimiter/SlidingWindowLog$PermitLog" "permits" "[J" := slot_ne (C := "com/example/steady_limiter/steadylimiter/SlidingWindowLog$PermitLog") (a0 := a0) (Or.inl (ow28 hw)) (Or.inl (ow21 hw)) (by decide) pf_I pf__J
theorem sne_36_21 {a0 : Array Value} {Z : State} (hw : ∀ d ∈ tables_1, d.before a0 Z = true) : Jvm.RoadKit.slotOf Z "com/example/steady_limiter/steadylimiter/SlidingWindowLog$PermitLog" "counted" "J" ≠ Jvm.RoadKit.slotOf Z "com/example/steady_limiter/steadylimiter/SlidingWindowLog$PermitLog" "permits" "[J" := slot_ne (C := "com/example/steady_limiter/steadylimiter/SlidingWindowLog$PermitLog") (a0 := a0) (Or.inl (ow36 hw)) (Or.inl (ow21 hw)) (by decide) pf_J pf__J
theorem sne_19_21 {a0 : Array Value} {Z : State} (hw : ∀ d ∈ tables_1, d.before a0 Z = true) : Jvm.RoadKit.slotOf Z "com/example/steady_limiter/steadylimiter/SlidingWindowLog$PermitLog" "times" "[J" ≠ Jvm.RoadKit.slotOf Z "com/example/steady_limiter/steadylimiter/SlidingWindowLog$PermitLog" "permits" "[J" := slot_ne (C := "com/example/steady_limiter/steadylimiter/SlidingWindowLog$PermitLog") (a0 := a0) (Or.inl (ow19 hw)) (Or.inl (ow21 hw)) (by decide) pf__J pf__J
theorem od1_19 : decode prog_20_method_1_code 19 = .ok (.return_, 1) := by decide +kernel
theorem ef_own_rm1 (m : MethodId) (x0 : Addr) (x1 : Int64) : entryFrame m #[(.ref x0), (.long x1)] 3 = mkF m 0 #[.val (.ref x0), .val (.long x1), .second] [] := by first | (simp [entryFrame, mkF, argsToLocals, Value.category]; done) | rfl
theorem pn_com_example_steady_limiter_steadylimiter_SlidingWindowLog_PermitLog__init___J_V : plainFor (⟨"com/example/steady_limiter/steadylimiter/SlidingWindowLog$PermitLog", "<init>", "(J)V"⟩ : MethodName) = true := plainFor_of_name (by first | (simp [plainName, overriddenIn]; done) | decide +kernel)
set_option maxRecDepth 65536 in
set_option maxHeartbeats 40000000 in
theorem own_rm1 (l : Launch) (Z : State) (a0 : Array Value) (hw : ∀ d ∈ tables_1, d.before a0 Z = true) (n0 : Nat) (hO : Heap) (a : Addr) (x : Int64) (Z0 : n0 ≤ hO.size) (E_a : Exa Z hO a "com/example/steady_limiter/steadylimiter/SlidingWindowLog$PermitLog") (F_a_lastNanos : Fld Z hO a "com/example/steady_limiter/steadylimiter/KeyState" "lastNanos" "J" (.long (0 : Int64))) (F_a_times : Fld Z hO a "com/example/steady_limiter/steadylimiter/SlidingWindowLog$PermitLog" "times" "[J" .null) (F_a_permits : Fld Z hO a "com/example/steady_limiter/steadylimiter/SlidingWindowLog$PermitLog" "permits" "[J" .null) (F_a_head : Fld Z hO a "com/example/steady_limiter/steadylimiter/SlidingWindowLog$PermitLog" "head" "I" (.int (0 : Int32))) (F_a_size : Fld Z hO a "com/example/steady_limiter/steadylimiter/SlidingWindowLog$PermitLog" "size" "I" (.int (0 : Int32))) (F_a_counted : Fld Z hO a "com/example/steady_limiter/steadylimiter/SlidingWindowLog$PermitLog" "counted" "J" (.long (0 : Int64))) (g_a : n0 ≤ a) :
    MeetsW l Z n0 (⟨"com/example/steady_limiter/steadylimiter/SlidingWindowLog$PermitLog", "<init>", "(J)V"⟩ : MethodName) prog_20_method_1_code 3 none ({ frames := 2, cells := 2, slots := 4, locals := 26 } : Room) #[(.ref a), (.long x)] hO (RV fun h => ∃ ta : Addr, ∃ pa : Addr, Keep hO h [a] ∧ hO.size ≤ ta ∧ hO.size ≤ pa ∧ ta ≠ pa ∧ Fld Z h a "com/example/steady_limiter/steadylimiter/SlidingWindowLog$PermitLog" "times" "[J" (.ref ta) ∧ Fld Z h a "com/example/steady_limiter/steadylimiter/SlidingWindowLog$PermitLog" "permits" "[J" (.ref pa) ∧ Fld Z h a "com/example/steady_limiter/steadylimiter/SlidingWindowLog$PermitLog" "head" "I" (.int (0 : Int32)) ∧ Fld Z h a "com/example/steady_limiter/steadylimiter/SlidingWindowLog$PermitLog" "size" "I" (.int (0 : Int32)) ∧ Fld Z h a "com/example/steady_limiter/steadylimiter/SlidingWindowLog$PermitLog" "counted" "J" (.long (0 : Int64)) ∧ AJ Z h ta [(0 : Int64), (0 : Int64)] ∧ AJ Z h pa [(0 : Int64), (0 : Int64)]) := by
  refine MeetsW.intro pn_com_example_steady_limiter_steadylimiter_SlidingWindowLog_PermitLog__init___J_V (fun m => ef_own_rm1 m a x) ?_
  intro W C
  replace C : Ru l Z "com/example/steady_limiter/steadylimiter/SlidingWindowLog$PermitLog" prog_20_method_1_code 3 none "<init>" ({ frames := 2, cells := 2, slots := 4, locals := 26 } : Room) n0 (RV fun h => ∃ ta : Addr, ∃ pa : Addr, Keep hO h [a] ∧ hO.size ≤ ta ∧ hO.size ≤ pa ∧ ta ≠ pa ∧ Fld Z h a "com/example/steady_limiter/steadylimiter/SlidingWindowLog$PermitLog" "times" "[J" (.ref ta) ∧ Fld Z h a "com/example/steady_limiter/steadylimiter/SlidingWindowLog$PermitLog" "permits" "[J" (.ref pa) ∧ Fld Z h a "com/example/steady_limiter/steadylimiter/SlidingWindowLog$PermitLog" "head" "I" (.int (0 : Int32)) ∧ Fld Z h a "com/example/steady_limiter/steadylimiter/SlidingWindowLog$PermitLog" "size" "I" (.int (0 : Int32)) ∧ Fld Z h a "com/example/steady_limiter/steadylimiter/SlidingWindowLog$PermitLog" "counted" "J" (.long (0 : Int64)) ∧ AJ Z h ta [(0 : Int64), (0 : Int64)] ∧ AJ Z h pa [(0 : Int64), (0 : Int64)]) W := C
  have K : Keep hO hO [a] := Keep.refl _ _
  refine C.aloadN (pc' := 1) od1_0 rfl rfl rfl ?_
  refine C.lloadN (pc' := 2) od1_1 rfl rfl ?_
  refine C.callc (w := 0) (own_rm2 l Z a0 hw n0 hO a x (Nat.le_trans Z0 K.1) E_a F_a_lastNanos F_a_times F_a_permits F_a_head F_a_size F_a_counted g_a) rfl (ow8 hw) (ow9 hw) (ow11 hw) (ow12 hw) (pc' := 5) od1_2 rfl rfl rfl (by decide) pd__J_V rfl (by decide) (Nat.le_of_eq rfl) (by decide) (by decide) (by decide) (kV fun h2 q2 => ?_)
  obtain ⟨K2, N2_0, N2_1, N2_2, N2_3, N2_4⟩ := q2
  replace E_a := E_a.keep K2
  have F_a_times : Fld Z h2 a "com/example/steady_limiter/steadylimiter/SlidingWindowLog$PermitLog" "times" "[J" .null := N2_0
  have F_a_permits : Fld Z h2 a "com/example/steady_limiter/steadylimiter/SlidingWindowLog$PermitLog" "permits" "[J" .null := N2_1
  have F_a_head : Fld Z h2 a "com/example/steady_limiter/steadylimiter/SlidingWindowLog$PermitLog" "head" "I" (.int (0 : Int32)) := N2_2
  have F_a_size : Fld Z h2 a "com/example/steady_limiter/steadylimiter/SlidingWindowLog$PermitLog" "size" "I" (.int (0 : Int32)) := N2_3
  have F_a_counted : Fld Z h2 a "com/example/steady_limiter/steadylimiter/SlidingWindowLog$PermitLog" "counted" "J" (.long (0 : Int64)) := N2_4
  replace K := K.trans K2 (allS (Or.inl (List.mem_of_getElem? (i := 0) rfl)) all0)
  refine C.aloadN (pc' := 6) od1_5 rfl rfl rfl ?_
  refine C.iconst (v := 2) (pc' := 7) od1_6 rfl rfl ?_
  refine C.newAJ (N := 2) (cap := 2) (ow1 hw) (pc' := 9) od1_7 rfl (by decide) (by decide) (by decide) (by decide) (by decide) (fun h7 b7 hb7 X7 A_b7 => ?_)
  have ne_a_b7 : a ≠ b7 := by rw [hb7]; exact Nat.ne_of_lt (exaLt E_a)
  have sz_b7 : hO.size ≤ b7 := by rw [hb7]; exact K.1
  have g_b7 : n0 ≤ b7 := Nat.le_trans Z0 sz_b7
  replace E_a := E_a.ext X7
  replace F_a_times := F_a_times.ext X7
  replace F_a_permits := F_a_permits.ext X7
  replace F_a_head := F_a_head.ext X7
  replace F_a_size := F_a_size.ext X7
  replace F_a_counted := F_a_counted.ext X7
  replace K := K.ext X7
  replace A_b7 : AJ Z h7 b7 [(0 : Int64), (0 : Int64)] := A_b7
  refine C.putf (ow18 hw) Via.refl F_a_times E_a (Or.inl (ow19 hw)) (ow3 hw) pf__J rfl rfl g_a (pc' := 12) od1_9 rfl (fun h9 X9 => ?_)
  replace F_a_times := F_a_times.same X9
  replace E_a := E_a.wr X9
  replace F_a_permits := F_a_permits.other X9 (Or.inr (sne_21_19 hw))
  replace F_a_head := F_a_head.other X9 (Or.inr (sne_34_19 hw))
  replace F_a_size := F_a_size.other X9 (Or.inr (sne_28_19 hw))
  replace F_a_counted := F_a_counted.other X9 (Or.inr (sne_36_19 hw))
  replace A_b7 := A_b7.other X9 (Ne.symm ne_a_b7)
  replace K := K.wr X9 (Or.inl (List.mem_of_getElem? (i := 0) rfl))
  refine C.aloadN (pc' := 13) od1_12 rfl rfl rfl ?_
  refine C.iconst (v := 2) (pc' := 14) od1_13 rfl rfl ?_
  refine C.newAJ (N := 2) (cap := 2) (ow1 hw) (pc' := 16) od1_14 rfl (by decide) (by decide) (by decide) (by decide) (by decide) (fun h14 b14 hb14 X14 A_b14 => ?_)
  have ne_a_b14 : a ≠ b14 := by rw [hb14]; exact Nat.ne_of_lt (exaLt E_a)
  have ne_b7_b14 : b7 ≠ b14 := by rw [hb14]; exact Nat.ne_of_lt A_b7.lt
  have sz_b14 : hO.size ≤ b14 := by rw [hb14]; exact K.1
  have g_b14 : n0 ≤ b14 := Nat.le_trans Z0 sz_b14
  replace E_a := E_a.ext X14
  replace F_a_permits := F_a_permits.ext X14
  replace F_a_head := F_a_head.ext X14
  replace F_a_size := F_a_size.ext X14
  replace F_a_counted := F_a_counted.ext X14
  replace A_b7 := A_b7.ext X14
  replace F_a_times := F_a_times.ext X14
  replace K := K.ext X14
  replace A_b14 : AJ Z h14 b14 [(0 : Int64), (0 : Int64)] := A_b14
  refine C.putf (ow20 hw) Via.refl F_a_permits E_a (Or.inl (ow21 hw)) (ow3 hw) pf__J rfl rfl g_a (pc' := 19) od1_16 rfl (fun h16 X16 => ?_)
  replace F_a_permits := F_a_permits.same X16
  replace E_a := E_a.wr X16
  replace F_a_head := F_a_head.other X16 (Or.inr (sne_34_21 hw))
  replace F_a_size := F_a_size.other X16 (Or.inr (sne_28_21 hw))
  replace F_a_counted := F_a_counted.other X16 (Or.inr (sne_36_21 hw))
  replace A_b7 := A_b7.other X16 (Ne.symm ne_a_b7)
  replace F_a_times := F_a_times.other X16 (Or.inr (sne_19_21 hw))
  replace A_b14 := A_b14.other X16 (Ne.symm ne_a_b14)
  replace K := K.wr X16 (Or.inl (List.mem_of_getElem? (i := 0) rfl))
  refine C.retV rfl od1_19 (by decide) (by decide) ⟨rfl, ?_⟩
  exact ⟨b7, b14, K, sz_b7, sz_b14, ne_b7_b14, F_a_times, F_a_permits, F_a_head, F_a_size, F_a_counted, A_b7, A_b14⟩
theorem od5_0 : decode prog_20_method_6_code 0 = .ok (.aload_n 0, 1) := by decide +kernel
theorem ow33 {a0 : Array Value} {Z : State} (hw : ∀ d ∈ tables_1, d.before a0 Z = true) : (Jvm.Cond.fieldLink "com/example/steady_limiter/steadylimiter/SlidingWindowLog$PermitLog" (24 : Nat) "com/example/steady_limiter/steadylimiter/SlidingWindowLog$PermitLog" "head" "I").before a0 Z = true := hw _ (List.mem_of_getElem? (i := 33) rfl)
theorem od5_1 : decode prog_20_method_6_code 1 = .ok (.getfield 24, 3) := by decide +kernel
theorem od5_4 : decode prog_20_method_6_code 4 = .ok (.iload_n 1, 1) := by decide +kernel
theorem od5_5 : decode prog_20_method_6_code 5 = .ok (.iadd, 1) := by decide +kernel
theorem od5_6 : decode prog_20_method_6_code 6 = .ok (.aload_n 0, 1) := by decide +kernel
theorem od5_7 : decode prog_20_method_6_code 7 = .ok (.getfield 9, 3) := by decide +kernel
theorem od5_10 : decode prog_20_method_6_code 10 = .ok (.arraylength, 1) := by decide +kernel
theorem od5_11 : decode prog_20_method_6_code 11 = .ok (.iconst 1, 1) := by decide +kernel
theorem od5_12 : decode prog_20_method_6_code 12 = .ok (.isub, 1) := by decide +kernel
theorem od5_13 : decode prog_20_method_6_code 13 = .ok (.iand, 1) := by decide +kernel
theorem od5_14 : decode prog_20_method_6_code 14 = .ok (.ireturn, 1) := by decide +kernel
theorem ef_own_rm5 (m : MethodId) (x0 : Addr) (x1 : Int32) : entryFrame m #[(.ref x0), (.int x1)] 2 = mkF m 0 #[.val (.ref x0), .val (.int x1)] [] := by first | (simp [entryFrame, mkF, argsToLocals, Value.category]; done) | rfl
theorem pn_com_example_steady_limiter_steadylimiter_SlidingWindowLog_PermitLog_slot__I_I : plainFor (⟨"com/example/steady_limiter/steadylimiter/SlidingWindowLog$PermitLog", "slot", "(I)I"⟩ : MethodName) = true := plainFor_of_name (by first | (simp [plainName, overriddenIn]; done) | decide +kernel)
set_option maxRecDepth 65536 in
set_option maxHeartbeats 40000000 in
theorem own_rm5 (l : Launch) (Z : State) (a0 : Array Value) (hw : ∀ d ∈ tables_1, d.before a0 Z = true) (n0 : Nat) (hO : Heap) (a : Addr) (i : Int32) (ta : Addr) (hd : Int32) (T : List Int64) (len : Int32) (F_a_head : Fld Z hO a "com/example/steady_limiter/steadylimiter/SlidingWindowLog$PermitLog" "head" "I" (.int hd)) (F_a_times : Fld Z hO a "com/example/steady_limiter/steadylimiter/SlidingWindowLog$PermitLog" "times" "[J" (.ref ta)) (A_ta : AJ Z hO ta T) (hlen : len.toInt = (T.length : Int)) :
    MeetsW l Z n0 (⟨"com/example/steady_limiter/steadylimiter/SlidingWindowLog$PermitLog", "slot", "(I)I"⟩ : MethodName) prog_20_method_6_code 2 (some .int) ({ frames := 0, cells := 0, slots := 0, locals := 0 } : Room) #[(.ref a), (.int i)] hO (RI fun r h => r = ((hd + i) &&& (len - (1 : Int32))) ∧ h = hO) := by
  refine MeetsW.intro pn_com_example_steady_limiter_steadylimiter_SlidingWindowLog_PermitLog_slot__I_I (fun m => ef_own_rm5 m a i) ?_
  intro W C
  replace C : Ru l Z "com/example/steady_limiter/steadylimiter/SlidingWindowLog$PermitLog" prog_20_method_6_code 2 (some .int) "slot" ({ frames := 0, cells := 0, slots := 0, locals := 0 } : Room) n0 (RI fun r h => r = ((hd + i) &&& (len - (1 : Int32))) ∧ h = hO) W := C
  refine C.aloadN (pc' := 1) od5_0 rfl rfl rfl ?_
  refine C.getf (ow33 hw) Via.refl F_a_head (pc' := 4) od5_1 rfl ?_
  refine C.iloadN (pc' := 5) od5_4 rfl rfl ?_
  refine C.iadd (pc' := 6) od5_5 rfl ?_
  refine C.aloadN (pc' := 7) od5_6 rfl rfl rfl ?_
  refine C.getf (ow18 hw) Via.refl F_a_times (pc' := 10) od5_7 rfl ?_
  refine C.lenAJ (z := len) A_ta hlen (pc' := 11) od5_10 rfl ?_
  refine C.iconst (v := 1) (pc' := 12) od5_11 rfl rfl ?_
  refine C.isub (pc' := 13) od5_12 rfl ?_
  refine C.iand (pc' := 14) od5_13 rfl ?_
  refine C.retI rfl od5_14 (by decide) (by decide) ⟨_, rfl, ?_⟩
  exact ⟨(by subst_vars; rfl), rfl⟩
theorem od6_0 : decode prog_20_method_2_code 0 = .ok (.aload_n 0, 1) := by decide +kernel
theorem od6_1 : decode prog_20_method_2_code 1 = .ok (.getfield 9, 3) := by decide +kernel
theorem od6_4 : decode prog_20_method_2_code 4 = .ok (.aload_n 0, 1) := by decide +kernel
theorem od6_5 : decode prog_20_method_2_code 5 = .ok (.iload_n 1, 1) := by decide +kernel
theorem od6_6 : decode prog_20_method_2_code 6 = .ok (.invokevirtual 16, 3) := by decide +kernel
theorem pd__I_I : parseMethodDescriptor "(I)I" = some ⟨[.int], some .int⟩ := by decide +kernel
theorem ow32 {a0 : Array Value} {Z : State} (hw : ∀ d ∈ tables_1, d.before a0 Z = true) : (Jvm.Cond.code ({ cls := "com/example/steady_limiter/steadylimiter/SlidingWindowLog$PermitLog", name := "slot", desc := "(I)I" } : Jvm.MethodName) prog_20_method_6_code (2 : Nat) (Option.some Jvm.ClassFile.FieldType.int)).before a0 Z = true := hw _ (List.mem_of_getElem? (i := 32) rfl)
theorem ow4 {a0 : Array Value} {Z : State} (hw : ∀ d ∈ tables_1, d.before a0 Z = true) : (Jvm.Cond.initialized "com/example/steady_limiter/steadylimiter/SlidingWindowLog$PermitLog").before a0 Z = true := hw _ (List.mem_of_getElem? (i := 4) rfl)
theorem ow29 {a0 : Array Value} {Z : State} (hw : ∀ d ∈ tables_1, d.before a0 Z = true) : (Jvm.Cond.methodLink "com/example/steady_limiter/steadylimiter/SlidingWindowLog$PermitLog" (16 : Nat) ({ cls := "com/example/steady_limiter/steadylimiter/SlidingWindowLog$PermitLog", name := "slot", desc := "(I)I" } : Jvm.MethodName)).before a0 Z = true := hw _ (List.mem_of_getElem? (i := 29) rfl)
theorem ow30 {a0 : Array Value} {Z : State} (hw : ∀ d ∈ tables_1, d.before a0 Z = true) : (Jvm.Cond.instanceMethod ({ cls := "com/example/steady_limiter/steadylimiter/SlidingWindowLog$PermitLog", name := "slot", desc := "(I)I" } : Jvm.MethodName)).before a0 Z = true := hw _ (List.mem_of_getElem? (i := 30) rfl)
theorem ow31 {a0 : Array Value} {Z : State} (hw : ∀ d ∈ tables_1, d.before a0 Z = true) : (Jvm.Cond.privateMethod ({ cls := "com/example/steady_limiter/steadylimiter/SlidingWindowLog$PermitLog", name := "slot", desc := "(I)I" } : Jvm.MethodName)).before a0 Z = true := hw _ (List.mem_of_getElem? (i := 31) rfl)
theorem od6_9 : decode prog_20_method_2_code 9 = .ok (.laload, 1) := by decide +kernel
theorem od6_10 : decode prog_20_method_2_code 10 = .ok (.lreturn, 1) := by decide +kernel
theorem ef_own_rm6 (m : MethodId) (x0 : Addr) (x1 : Int32) : entryFrame m #[(.ref x0), (.int x1)] 2 = mkF m 0 #[.val (.ref x0), .val (.int x1)] [] := by first | (simp [entryFrame, mkF, argsToLocals, Value.category]; done) | rfl
theorem pn_com_example_steady_limiter_steadylimiter_SlidingWindowLog_PermitLog_timeAt__I_J : plainFor (⟨"com/example/steady_limiter/steadylimiter/SlidingWindowLog$PermitLog", "timeAt", "(I)J"⟩ : MethodName) = true := plainFor_of_name (by first | (simp [plainName, overriddenIn]; done) | decide +kernel)
set_option maxRecDepth 65536 in
set_option maxHeartbeats 40000000 in
theorem own_rm6 (l : Launch) (Z : State) (a0 : Array Value) (hw : ∀ d ∈ tables_1, d.before a0 Z = true) (n0 : Nat) (hO : Heap) (a : Addr) (i : Int32) (ta : Addr) (hd : Int32) (T : List Int64) (len : Int32) (x : Nat) (E_a : Exa Z hO a "com/example/steady_limiter/steadylimiter/SlidingWindowLog$PermitLog") (F_a_head : Fld Z hO a "com/example/steady_limiter/steadylimiter/SlidingWindowLog$PermitLog" "head" "I" (.int hd)) (F_a_times : Fld Z hO a "com/example/steady_limiter/steadylimiter/SlidingWindowLog$PermitLog" "times" "[J" (.ref ta)) (A_ta : AJ Z hO ta T) (hlen : len.toInt = (T.length : Int)) (hx : ((hd + i) &&& (len - (1 : Int32))).toInt = (x : Int)) (hxt : x < T.length) :
    MeetsW l Z n0 (⟨"com/example/steady_limiter/steadylimiter/SlidingWindowLog$PermitLog", "timeAt", "(I)J"⟩ : MethodName) prog_20_method_2_code 2 (some .long) ({ frames := 1, cells := 0, slots := 0, locals := 14 } : Room) #[(.ref a), (.int i)] hO (RJ fun r h => r = (T.getD x 0) ∧ h = hO) := by
  refine MeetsW.intro pn_com_example_steady_limiter_steadylimiter_SlidingWindowLog_PermitLog_timeAt__I_J (fun m => ef_own_rm6 m a i) ?_
  intro W C
  replace C : Ru l Z "com/example/steady_limiter/steadylimiter/SlidingWindowLog$PermitLog" prog_20_method_2_code 2 (some .long) "timeAt" ({ frames := 1, cells := 0, slots := 0, locals := 14 } : Room) n0 (RJ fun r h => r = (T.getD x 0) ∧ h = hO) W := C
  refine C.aloadN (pc' := 1) od6_0 rfl rfl rfl ?_
  refine C.getf (ow18 hw) Via.refl F_a_times (pc' := 4) od6_1 rfl ?_
  refine C.aloadN (pc' := 5) od6_4 rfl rfl rfl ?_
  refine C.iloadN (pc' := 6) od6_5 rfl rfl ?_
  refine C.callp (w := 1) (own_rm5 l Z a0 hw n0 hO a i ta hd T len F_a_head F_a_times A_ta hlen) E_a (ow29 hw) (ow30 hw) (ow3 hw) (ow31 hw) (ow4 hw) (ow32 hw) (pc' := 9) od6_6 rfl rfl rfl (by decide) pd__I_I rfl (by decide) (Nat.le_of_eq rfl) (by decide) (by decide) (by decide) (kIe ?_)
  refine C.ldAJ (i := x) (v := (T.getD x 0)) A_ta hx (Jvm.OwnP.getD_some hxt) (pc' := 10) od6_9 rfl ?_
  refine C.retJ rfl od6_10 (by decide) (by decide) ⟨_, rfl, ?_⟩
  exact ⟨rfl, rfl⟩
theorem od8_0 : decode prog_20_method_3_code 0 = .ok (.aload_n 0, 1) := by decide +kernel
theorem od8_1 : decode prog_20_method_3_code 1 = .ok (.getfield 13, 3) := by decide +kernel
theorem od8_4 : decode prog_20_method_3_code 4 = .ok (.aload_n 0, 1) := by decide +kernel
theorem od8_5 : decode prog_20_method_3_code 5 = .ok (.iload_n 1, 1) := by decide +kernel
theorem od8_6 : decode prog_20_method_3_code 6 = .ok (.invokevirtual 16, 3) := by decide +kernel
theorem od8_9 : decode prog_20_method_3_code 9 = .ok (.laload, 1) := by decide +kernel
theorem od8_10 : decode prog_20_method_3_code 10 = .ok (.lreturn, 1) := by decide +kernel
theorem ef_own_rm8 (m : MethodId) (x0 : Addr) (x1 : Int32) : entryFrame m #[(.ref x0), (.int x1)] 2 = mkF m 0 #[.val (.ref x0), .val (.int x1)] [] := by first | (simp [entryFrame, mkF, argsToLocals, Value.category]; done) | rfl
theorem pn_com_example_steady_limiter_steadylimiter_SlidingWindowLog_PermitLog_permitsAt__I_J : plainFor (⟨"com/example/steady_limiter/steadylimiter/SlidingWindowLog$PermitLog", "permitsAt", "(I)J"⟩ : MethodName) = true := plainFor_of_name (by first | (simp [plainName, overriddenIn]; done) | decide +kernel)
set_option maxRecDepth 65536 in
set_option maxHeartbeats 40000000 in
theorem own_rm8 (l : Launch) (Z : State) (a0 : Array Value) (hw : ∀ d ∈ tables_1, d.before a0 Z = true) (n0 : Nat) (hO : Heap) (a : Addr) (i : Int32) (ta : Addr) (pa : Addr) (hd : Int32) (T : List Int64) (Pm : List Int64) (len : Int32) (x : Nat) (E_a : Exa Z hO a "com/example/steady_limiter/steadylimiter/SlidingWindowLog$PermitLog") (F_a_head : Fld Z hO a "com/example/steady_limiter/steadylimiter/SlidingWindowLog$PermitLog" "head" "I" (.int hd)) (F_a_times : Fld Z hO a "com/example/steady_limiter/steadylimiter/SlidingWindowLog$PermitLog" "times" "[J" (.ref ta)) (F_a_permits : Fld Z hO a "com/example/steady_limiter/steadylimiter/SlidingWindowLog$PermitLog" "permits" "[J" (.ref pa)) (A_ta : AJ Z hO ta T) (A_pa : AJ Z hO pa Pm) (hlen : len.toInt = (T.length : Int)) (hx : ((hd + i) &&& (len - (1 : Int32))).toInt = (x : Int)) (hxp : x < Pm.length) :
    MeetsW l Z n0 (⟨"com/example/steady_limiter/steadylimiter/SlidingWindowLog$PermitLog", "permitsAt", "(I)J"⟩ : MethodName) prog_20_method_3_code 2 (some .long) ({ frames := 1, cells := 0, slots := 0, locals := 14 } : Room) #[(.ref a), (.int i)] hO (RJ fun r h => r = (Pm.getD x 0) ∧ h = hO) := by
  refine MeetsW.intro pn_com_example_steady_limiter_steadylimiter_SlidingWindowLog_PermitLog_permitsAt__I_J (fun m => ef_own_rm8 m a i) ?_
  intro W C
  replace C : Ru l Z "com/example/steady_limiter/steadylimiter/SlidingWindowLog$PermitLog" prog_20_method_3_code 2 (some .long) "permitsAt" ({ frames := 1, cells := 0, slots := 0, locals := 14 } : Room) n0 (RJ fun r h => r = (Pm.getD x 0) ∧ h = hO) W := C
  refine C.aloadN (pc' := 1) od8_0 rfl rfl rfl ?_
  refine C.getf (ow20 hw) Via.refl F_a_permits (pc' := 4) od8_1 rfl ?_
  refine C.aloadN (pc' := 5) od8_4 rfl rfl rfl ?_
  refine C.iloadN (pc' := 6) od8_5 rfl rfl ?_
  refine C.callp (w := 1) (own_rm5 l Z a0 hw n0 hO a i ta hd T len F_a_head F_a_times A_ta hlen) E_a (ow29 hw) (ow30 hw) (ow3 hw) (ow31 hw) (ow4 hw) (ow32 hw) (pc' := 9) od8_6 rfl rfl rfl (by decide) pd__I_I rfl (by decide) (Nat.le_of_eq rfl) (by decide) (by decide) (by decide) (kIe ?_)
  refine C.ldAJ (i := x) (v := (Pm.getD x 0)) A_pa hx (Jvm.OwnP.getD_some hxp) (pc' := 10) od8_9 rfl ?_
  refine C.retJ rfl od8_10 (by decide) (by decide) ⟨_, rfl, ?_⟩
  exact ⟨rfl, rfl⟩
theorem od10_0 : decode prog_20_method_7_code 0 = .ok (.iload_n 1, 1) := by decide +kernel
theorem od10_1 : decode prog_20_method_7_code 1 = .ok (.newarray .long, 2) := by decide +kernel
theorem od10_3 : decode prog_20_method_7_code 3 = .ok (.astore_n 2, 1) := by decide +kernel
theorem od10_4 : decode prog_20_method_7_code 4 = .ok (.iload_n 1, 1) := by decide +kernel
theorem od10_5 : decode prog_20_method_7_code 5 = .ok (.newarray .long, 2) := by decide +kernel
theorem od10_7 : decode prog_20_method_7_code 7 = .ok (.astore_n 3, 1) := by decide +kernel
theorem od10_8 : decode prog_20_method_7_code 8 = .ok (.iconst 0, 1) := by decide +kernel
theorem od10_9 : decode prog_20_method_7_code 9 = .ok (.istore 4, 2) := by decide +kernel
theorem od10_11 : decode prog_20_method_7_code 11 = .ok (.iload 4, 2) := by decide +kernel
theorem od10_13 : decode prog_20_method_7_code 13 = .ok (.aload_n 0, 1) := by decide +kernel
theorem ow27 {a0 : Array Value} {Z : State} (hw : ∀ d ∈ tables_1, d.before a0 Z = true) : (Jvm.Cond.fieldLink "com/example/steady_limiter/steadylimiter/SlidingWindowLog$PermitLog" (28 : Nat) "com/example/steady_limiter/steadylimiter/SlidingWindowLog$PermitLog" "size" "I").before a0 Z = true := hw _ (List.mem_of_getElem? (i := 27) rfl)
theorem od10_14 : decode prog_20_method_7_code 14 = .ok (.getfield 28, 3) := by decide +kernel
theorem od10_17 : decode prog_20_method_7_code 17 = .ok (.if_icmp .ge 29, 3) := by decide +kernel
theorem od10_20 : decode prog_20_method_7_code 20 = .ok (.aload_n 2, 1) := by decide +kernel
theorem od10_21 : decode prog_20_method_7_code 21 = .ok (.iload 4, 2) := by decide +kernel
theorem od10_23 : decode prog_20_method_7_code 23 = .ok (.aload_n 0, 1) := by decide +kernel
theorem od10_24 : decode prog_20_method_7_code 24 = .ok (.iload 4, 2) := by decide +kernel
theorem od10_26 : decode prog_20_method_7_code 26 = .ok (.invokevirtual 35, 3) := by decide +kernel
theorem pd__I_J : parseMethodDescriptor "(I)J" = some ⟨[.int], some .long⟩ := by decide +kernel
theorem ow41 {a0 : Array Value} {Z : State} (hw : ∀ d ∈ tables_1, d.before a0 Z = true) : (Jvm.Cond.code ({ cls := "com/example/steady_limiter/steadylimiter/SlidingWindowLog$PermitLog", name := "timeAt", desc := "(I)J" } : Jvm.MethodName) prog_20_method_2_code (2 : Nat) (Option.some Jvm.ClassFile.FieldType.long)).before a0 Z = true := hw _ (List.mem_of_getElem? (i := 41) rfl)
theorem ow37 {a0 : Array Value} {Z : State} (hw : ∀ d ∈ tables_1, d.before a0 Z = true) : (Jvm.Cond.methodLink "com/example/steady_limiter/steadylimiter/SlidingWindowLog$PermitLog" (35 : Nat) ({ cls := "com/example/steady_limiter/steadylimiter/SlidingWindowLog$PermitLog", name := "timeAt", desc := "(I)J" } : Jvm.MethodName)).before a0 Z = true := hw _ (List.mem_of_getElem? (i := 37) rfl)
theorem ow38 {a0 : Array Value} {Z : State} (hw : ∀ d ∈ tables_1, d.before a0 Z = true) : (Jvm.Cond.declares ({ cls := "com/example/steady_limiter/steadylimiter/SlidingWindowLog$PermitLog", name := "timeAt", desc := "(I)J" } : Jvm.MethodName)).before a0 Z = true := hw _ (List.mem_of_getElem? (i := 38) rfl)
theorem ow40 {a0 : Array Value} {Z : State} (hw : ∀ d ∈ tables_1, d.before a0 Z = true) : (Jvm.Cond.selects "com/example/steady_limiter/steadylimiter/SlidingWindowLog$PermitLog" ({ cls := "com/example/steady_limiter/steadylimiter/SlidingWindowLog$PermitLog", name := "timeAt", desc := "(I)J" } : Jvm.MethodName) ({ cls := "com/example/steady_limiter/steadylimiter/SlidingWindowLog$PermitLog", name := "timeAt", desc := "(I)J" } : Jvm.MethodName)).before a0 Z = true := hw _ (List.mem_of_getElem? (i := 40) rfl)
theorem ow39 {a0 : Array Value} {Z : State} (hw : ∀ d ∈ tables_1, d.before a0 Z = true) : (Jvm.Cond.instanceMethod ({ cls := "com/example/steady_limiter/steadylimiter/SlidingWindowLog$PermitLog", name := "timeAt", desc := "(I)J" } : Jvm.MethodName)).before a0 Z = true := hw _ (List.mem_of_getElem? (i := 39) rfl)
theorem od10_29 : decode prog_20_method_7_code 29 = .ok (.lastore, 1) := by decide +kernel
theorem od10_30 : decode prog_20_method_7_code 30 = .ok (.aload_n 3, 1) := by decide +kernel
theorem od10_31 : decode prog_20_method_7_code 31 = .ok (.iload 4, 2) := by decide +kernel
theorem od10_33 : decode prog_20_method_7_code 33 = .ok (.aload_n 0, 1) := by decide +kernel
theorem od10_34 : decode prog_20_method_7_code 34 = .ok (.iload 4, 2) := by decide +kernel
theorem od10_36 : decode prog_20_method_7_code 36 = .ok (.invokevirtual 39, 3) := by decide +kernel
theorem ow53 {a0 : Array Value} {Z : State} (hw : ∀ d ∈ tables_1, d.before a0 Z = true) : (Jvm.Cond.code ({ cls := "com/example/steady_limiter/steadylimiter/SlidingWindowLog$PermitLog", name := "permitsAt", desc := "(I)J" } : Jvm.MethodName) prog_20_method_3_code (2 : Nat) (Option.some Jvm.ClassFile.FieldType.long)).before a0 Z = true := hw _ (List.mem_of_getElem? (i := 53) rfl)
theorem ow63 {a0 : Array Value} {Z : State} (hw : ∀ d ∈ tables_1, d.before a0 Z = true) : (Jvm.Cond.methodLink "com/example/steady_limiter/steadylimiter/SlidingWindowLog$PermitLog" (39 : Nat) ({ cls := "com/example/steady_limiter/steadylimiter/SlidingWindowLog$PermitLog", name := "permitsAt", desc := "(I)J" } : Jvm.MethodName)).before a0 Z = true := hw _ (List.mem_of_getElem? (i := 63) rfl)
theorem ow50 {a0 : Array Value} {Z : State} (hw : ∀ d ∈ tables_1, d.before a0 Z = true) : (Jvm.Cond.declares ({ cls := "com/example/steady_limiter/steadylimiter/SlidingWindowLog$PermitLog", name := "permitsAt", desc := "(I)J" } : Jvm.MethodName)).before a0 Z = true := hw _ (List.mem_of_getElem? (i := 50) rfl)
theorem ow52 {a0 : Array Value} {Z : State} (hw : ∀ d ∈ tables_1, d.before a0 Z = true) : (Jvm.Cond.selects "com/example/steady_limiter/steadylimiter/SlidingWindowLog$PermitLog" ({ cls := "com/example/steady_limiter/steadylimiter/SlidingWindowLog$PermitLog", name := "permitsAt", desc := "(I)J" } : Jvm.MethodName) ({ cls := "com/example/steady_limiter/steadylimiter/SlidingWindowLog$PermitLog", name := "permitsAt", desc := "(I)J" } : Jvm.MethodName)).before a0 Z = true := hw _ (List.mem_of_getElem? (i := 52) rfl)
theorem ow51 {a0 : Array Value} {Z : State} (hw : ∀ d ∈ tables_1, d.before a0 Z = true) : (Jvm.Cond.instanceMethod ({ cls := "com/example/steady_limiter/steadylimiter/SlidingWindowLog$PermitLog", name := "permitsAt", desc := "(I)J" } : Jvm.MethodName)).before a0 Z = true := hw _ (List.mem_of_getElem? (i := 51) rfl)
theorem od10_39 : decode prog_20_method_7_code 39 = .ok (.lastore, 1) := by decide +kernel
theorem od10_40 : decode prog_20_method_7_code 40 = .ok (.iinc 4 1, 3) := by decide +kernel
theorem od10_43 : decode prog_20_method_7_code 43 = .ok (.goto (-32), 3) := by decide +kernel
theorem od10_46 : decode prog_20_method_7_code 46 = .ok (.aload_n 0, 1) := by decide +kernel
theorem od10_47 : decode prog_20_method_7_code 47 = .ok (.aload_n 2, 1) := by decide +kernel
theorem od10_48 : decode prog_20_method_7_code 48 = .ok (.putfield 9, 3) := by decide +kernel
theorem od10_51 : decode prog_20_method_7_code 51 = .ok (.aload_n 0, 1) := by decide +kernel
theorem od10_52 : decode prog_20_method_7_code 52 = .ok (.aload_n 3, 1) := by decide +kernel
theorem od10_53 : decode prog_20_method_7_code 53 = .ok (.putfield 13, 3) := by decide +kernel
theorem od10_56 : decode prog_20_method_7_code 56 = .ok (.aload_n 0, 1) := by decide +kernel
theorem od10_57 : decode prog_20_method_7_code 57 = .ok (.iconst 0, 1) := by decide +kernel
theorem od10_58 : decode prog_20_method_7_code 58 = .ok (.putfield 24, 3) := by decide +kernel
theorem sne_28_34 {a0 : Array Value} {Z : State} (hw : ∀ d ∈ tables_1, d.before a0 Z = true) : Jvm.RoadKit.slotOf Z "com/example/steady_limiter/steadylimiter/SlidingWindowLog$PermitLog" "size" "I" ≠ Jvm.RoadKit.slotOf Z "com/example/steady_limiter/steadylimiter/SlidingWindowLog$PermitLog" "head" "I" := slot_ne (C := "com/example/steady_limiter/steadylimiter/SlidingWindowLog$PermitLog") (a0 := a0) (Or.inl (ow28 hw)) (Or.inl (ow34 hw)) (by decide) pf_I pf_I
theorem sne_36_34 {a0 : Array Value} {Z : State} (hw : ∀ d ∈ tables_1, d.before a0 Z = true) : Jvm.RoadKit.slotOf Z "com/example/steady_limiter/steadylimiter/SlidingWindowLog$PermitLog" "counted" "J" ≠ Jvm.RoadKit.slotOf Z "com/example/steady_limiter/steadylimiter/SlidingWindowLog$PermitLog" "head" "I" := slot_ne (C := "com/example/steady_limiter/steadylimiter/SlidingWindowLog$PermitLog") (a0 := a0) (Or.inl (ow36 hw)) (Or.inl (ow34 hw)) (by decide) pf_J pf_I
theorem sne_19_34 {a0 : Array Value} {Z : State} (hw : ∀ d ∈ tables_1, d.before a0 Z = true) : Jvm.RoadKit.slotOf Z "com/example/steady_limiter/steadylimiter/SlidingWindowLog$PermitLog" "times" "[J" ≠ Jvm.RoadKit.slotOf Z "com/example/steady_limiter/steadylimiter/SlidingWindowLog$PermitLog" "head" "I" := slot_ne (C := "com/example/steady_limiter/steadylimiter/SlidingWindowLog$PermitLog") (a0 := a0) (Or.inl (ow19 hw)) (Or.inl (ow34 hw)) (by decide) pf__J pf_I
theorem sne_21_34 {a0 : Array Value} {Z : State} (hw : ∀ d ∈ tables_1, d.before a0 Z = true) : Jvm.RoadKit.slotOf Z "com/example/steady_limiter/steadylimiter/SlidingWindowLog$PermitLog" "permits" "[J" ≠ Jvm.RoadKit.slotOf Z "com/example/steady_limiter/steadylimiter/SlidingWindowLog$PermitLog" "head" "I" := slot_ne (C := "com/example/steady_limiter/steadylimiter/SlidingWindowLog$PermitLog") (a0 := a0) (Or.inl (ow21 hw)) (Or.inl (ow34 hw)) (by decide) pf__J pf_I
theorem od10_61 : decode prog_20_method_7_code 61 = .ok (.return_, 1) := by decide +kernel
theorem ef_own_resize2 (m : MethodId) (x0 : Addr) (x1 : Int32) : entryFrame m #[(.ref x0), (.int x1)] 5 = mkF m 0 #[.val (.ref x0), .val (.int x1), .unset, .unset, .unset] [] := by first | (simp [entryFrame, mkF, argsToLocals, Value.category]; done) | rfl
theorem pn_com_example_steady_limiter_steadylimiter_SlidingWindowLog_PermitLog_resize__I_V : plainFor (⟨"com/example/steady_limiter/steadylimiter/SlidingWindowLog$PermitLog", "resize", "(I)V"⟩ : MethodName) = true := plainFor_of_name (by first | (simp [plainName, overriddenIn]; done) | decide +kernel)
set_option maxRecDepth 65536 in
set_option maxHeartbeats 40000000 in
theorem own_resize2 (l : Launch) (Z : State) (a0 : Array Value) (hw : ∀ d ∈ tables_1, d.before a0 Z = true) (n0 : Nat) (hO : Heap) (a : Addr) (c : Int32) (ta : Addr) (pa : Addr) (hd : Int32) (sz : Int32) (cnt : Int64) (T : List Int64) (Pm : List Int64) (len : Int32) (x0 : Nat) (x1 : Nat) (Z0 : n0 ≤ hO.size) (E_a : Exa Z hO a "com/example/steady_limiter/steadylimiter/SlidingWindowLog$PermitLog") (F_a_times : Fld Z hO a "com/example/steady_limiter/steadylimiter/SlidingWindowLog$PermitLog" "times" "[J" (.ref ta)) (F_a_permits : Fld Z hO a "com/example/steady_limiter/steadylimiter/SlidingWindowLog$PermitLog" "permits" "[J" (.ref pa)) (F_a_head : Fld Z hO a "com/example/steady_limiter/steadylimiter/SlidingWindowLog$PermitLog" "head" "I" (.int hd)) (F_a_size : Fld Z hO a "com/example/steady_limiter/steadylimiter/SlidingWindowLog$PermitLog" "size" "I" (.int sz)) (F_a_counted : Fld Z hO a "com/example/steady_limiter/steadylimiter/SlidingWindowLog$PermitLog" "counted" "J" (.long cnt)) (A_ta : AJ Z hO ta T) (A_pa : AJ Z hO pa Pm) (g_a : n0 ≤ a) (ne_a_ta : a ≠ ta) (ne_a_pa : a ≠ pa) (hlen : len.toInt = (T.length : Int)) (hc : c.toInt = ((4 : Nat) : Int)) (hsz : sz = (2 : Int32)) (hx0 : ((hd + (0 : Int32)) &&& (len - (1 : Int32))).toInt = (x0 : Int)) (ht0 : x0 < T.length) (hp0 : x0 < Pm.length) (hx1 : ((hd + (1 : Int32)) &&& (len - (1 : Int32))).toInt = (x1 : Int)) (ht1 : x1 < T.length) (hp1 : x1 < Pm.length) :
    MeetsW l Z n0 (⟨"com/example/steady_limiter/steadylimiter/SlidingWindowLog$PermitLog", "resize", "(I)V"⟩ : MethodName) prog_20_method_7_code 5 none ({ frames := 2, cells := 2, slots := 8, locals := 29 } : Room) #[(.ref a), (.int c)] hO (RV fun h => ∃ tb : Addr, ∃ pb : Addr, Keep hO h [a] ∧ hO.size ≤ tb ∧ hO.size ≤ pb ∧ tb ≠ pb ∧ Fld Z h a "com/example/steady_limiter/steadylimiter/SlidingWindowLog$PermitLog" "times" "[J" (.ref tb) ∧ Fld Z h a "com/example/steady_limiter/steadylimiter/SlidingWindowLog$PermitLog" "permits" "[J" (.ref pb) ∧ Fld Z h a "com/example/steady_limiter/steadylimiter/SlidingWindowLog$PermitLog" "head" "I" (.int (0 : Int32)) ∧ Fld Z h a "com/example/steady_limiter/steadylimiter/SlidingWindowLog$PermitLog" "size" "I" (.int sz) ∧ Fld Z h a "com/example/steady_limiter/steadylimiter/SlidingWindowLog$PermitLog" "counted" "J" (.long cnt) ∧ AJ Z h tb [(T.getD x0 0), (T.getD x1 0), (0 : Int64), (0 : Int64)] ∧ AJ Z h pb [(Pm.getD x0 0), (Pm.getD x1 0), (0 : Int64), (0 : Int64)]) := by
  refine MeetsW.intro pn_com_example_steady_limiter_steadylimiter_SlidingWindowLog_PermitLog_resize__I_V (fun m => ef_own_resize2 m a c) ?_
  intro W C
  replace C : Ru l Z "com/example/steady_limiter/steadylimiter/SlidingWindowLog$PermitLog" prog_20_method_7_code 5 none "resize" ({ frames := 2, cells := 2, slots := 8, locals := 29 } : Room) n0 (RV fun h => ∃ tb : Addr, ∃ pb : Addr, Keep hO h [a] ∧ hO.size ≤ tb ∧ hO.size ≤ pb ∧ tb ≠ pb ∧ Fld Z h a "com/example/steady_limiter/steadylimiter/SlidingWindowLog$PermitLog" "times" "[J" (.ref tb) ∧ Fld Z h a "com/example/steady_limiter/steadylimiter/SlidingWindowLog$PermitLog" "permits" "[J" (.ref pb) ∧ Fld Z h a "com/example/steady_limiter/steadylimiter/SlidingWindowLog$PermitLog" "head" "I" (.int (0 : Int32)) ∧ Fld Z h a "com/example/steady_limiter/steadylimiter/SlidingWindowLog$PermitLog" "size" "I" (.int sz) ∧ Fld Z h a "com/example/steady_limiter/steadylimiter/SlidingWindowLog$PermitLog" "counted" "J" (.long cnt) ∧ AJ Z h tb [(T.getD x0 0), (T.getD x1 0), (0 : Int64), (0 : Int64)] ∧ AJ Z h pb [(Pm.getD x0 0), (Pm.getD x1 0), (0 : Int64), (0 : Int64)]) W := C
  have K : Keep hO hO [a] := Keep.refl _ _
  refine C.iloadN (pc' := 1) od10_0 rfl rfl ?_
  refine C.newAJ (N := 4) (cap := 4) (ow1 hw) (pc' := 3) od10_1 rfl hc (by decide) (by decide) (by decide) (by decide) (fun h1 b1 hb1 X1 A_b1 => ?_)
  have ne_a_b1 : a ≠ b1 := by rw [hb1]; exact Nat.ne_of_lt (exaLt E_a)
  have ne_ta_b1 : ta ≠ b1 := by rw [hb1]; exact Nat.ne_of_lt A_ta.lt
  have ne_pa_b1 : pa ≠ b1 := by rw [hb1]; exact Nat.ne_of_lt A_pa.lt
  have sz_b1 : hO.size ≤ b1 := by rw [hb1]; exact K.1
  have g_b1 : n0 ≤ b1 := Nat.le_trans Z0 sz_b1
  replace E_a := E_a.ext X1
  replace F_a_times := F_a_times.ext X1
  replace F_a_permits := F_a_permits.ext X1
  replace F_a_head := F_a_head.ext X1
  replace F_a_size := F_a_size.ext X1
  replace F_a_counted := F_a_counted.ext X1
  replace A_ta := A_ta.ext X1
  replace A_pa := A_pa.ext X1
  replace K := K.ext X1
  replace A_b1 : AJ Z h1 b1 [(0 : Int64), (0 : Int64), (0 : Int64), (0 : Int64)] := A_b1
  refine C.astoreN (l' := #[.val (.ref a), .val (.int c), .val (.ref b1), .unset, .unset]) (pc' := 4) od10_3 rfl rfl rfl ?_
  refine C.iloadN (pc' := 5) od10_4 rfl rfl ?_
  refine C.newAJ (N := 4) (cap := 4) (ow1 hw) (pc' := 7) od10_5 rfl hc (by decide) (by decide) (by decide) (by decide) (fun h5 b5 hb5 X5 A_b5 => ?_)
  have ne_a_b5 : a ≠ b5 := by rw [hb5]; exact Nat.ne_of_lt (exaLt E_a)
  have ne_ta_b5 : ta ≠ b5 := by rw [hb5]; exact Nat.ne_of_lt A_ta.lt
  have ne_pa_b5 : pa ≠ b5 := by rw [hb5]; exact Nat.ne_of_lt A_pa.lt
  have ne_b1_b5 : b1 ≠ b5 := by rw [hb5]; exact Nat.ne_of_lt A_b1.lt
  have sz_b5 : hO.size ≤ b5 := by rw [hb5]; exact K.1
  have g_b5 : n0 ≤ b5 := Nat.le_trans Z0 sz_b5
  replace E_a := E_a.ext X5
  replace F_a_times := F_a_times.ext X5
  replace F_a_permits := F_a_permits.ext X5
  replace F_a_head := F_a_head.ext X5
  replace F_a_size := F_a_size.ext X5
  replace F_a_counted := F_a_counted.ext X5
  replace A_ta := A_ta.ext X5
  replace A_pa := A_pa.ext X5
  replace A_b1 := A_b1.ext X5
  replace K := K.ext X5
  replace A_b5 : AJ Z h5 b5 [(0 : Int64), (0 : Int64), (0 : Int64), (0 : Int64)] := A_b5
  refine C.astoreN (l' := #[.val (.ref a), .val (.int c), .val (.ref b1), .val (.ref b5), .unset]) (pc' := 8) od10_7 rfl rfl rfl ?_
  refine C.iconst (v := 0) (pc' := 9) od10_8 rfl rfl ?_
  refine C.istoreX (l' := #[.val (.ref a), .val (.int c), .val (.ref b1), .val (.ref b5), .val (.int (0 : Int32))]) (pc' := 11) od10_9 rfl rfl ?_
  refine C.iload (pc' := 13) od10_11 rfl rfl ?_
  refine C.aloadN (pc' := 14) od10_13 rfl rfl rfl ?_
  refine C.getf (ow27 hw) Via.refl F_a_size (pc' := 17) od10_14 rfl ?_
  refine C.icmp_ge (pc' := 20) (pt := 46) od10_17 rfl rfl (fun c17 => absurd (by rw [hsz]; decide) c17) (fun c17 => ?_)
  refine C.aloadN (pc' := 21) od10_20 rfl rfl rfl ?_
  refine C.iload (pc' := 23) od10_21 rfl rfl ?_
  refine C.aloadN (pc' := 24) od10_23 rfl rfl rfl ?_
  refine C.iload (pc' := 26) od10_24 rfl rfl ?_
  refine C.callv (w := 2) (own_rm6 l Z a0 hw n0 h5 a (0 : Int32) ta hd T len x0 E_a F_a_head F_a_times A_ta hlen hx0 ht0) E_a (ow37 hw) (ow38 hw) (ow40 hw) (ow39 hw) (ow4 hw) (ow41 hw) (pc' := 29) od10_26 rfl rfl rfl (by decide) pd__I_J rfl (by decide) (Nat.le_of_eq rfl) (by decide) (by decide) (by decide) (kJe ?_)
  refine C.stAJ (i := 0) A_b1 (by decide) (by show 0 < 4; decide) g_b1 (pc' := 30) od10_29 rfl (fun h29 X29 B29 => ?_)
  replace E_a := E_a.wr X29
  replace F_a_times := F_a_times.other X29 (Or.inl ne_a_b1)
  replace F_a_permits := F_a_permits.other X29 (Or.inl ne_a_b1)
  replace F_a_head := F_a_head.other X29 (Or.inl ne_a_b1)
  replace F_a_size := F_a_size.other X29 (Or.inl ne_a_b1)
  replace F_a_counted := F_a_counted.other X29 (Or.inl ne_a_b1)
  replace A_ta := A_ta.other X29 ne_ta_b1
  replace A_pa := A_pa.other X29 ne_pa_b1
  replace A_b5 := A_b5.other X29 (Ne.symm ne_b1_b5)
  have A_b1 : AJ Z h29 b1 [(T.getD x0 0), (0 : Int64), (0 : Int64), (0 : Int64)] := B29
  replace K := K.wr X29 (Or.inr sz_b1)
  refine C.aloadN (pc' := 31) od10_30 rfl rfl rfl ?_
  refine C.iload (pc' := 33) od10_31 rfl rfl ?_
  refine C.aloadN (pc' := 34) od10_33 rfl rfl rfl ?_
  refine C.iload (pc' := 36) od10_34 rfl rfl ?_
  refine C.callv (w := 2) (own_rm8 l Z a0 hw n0 h29 a (0 : Int32) ta pa hd T Pm len x0 E_a F_a_head F_a_times F_a_permits A_ta A_pa hlen hx0 hp0) E_a (ow63 hw) (ow50 hw) (ow52 hw) (ow51 hw) (ow4 hw) (ow53 hw) (pc' := 39) od10_36 rfl rfl rfl (by decide) pd__I_J rfl (by decide) (Nat.le_of_eq rfl) (by decide) (by decide) (by decide) (kJe ?_)
  refine C.stAJ (i := 0) A_b5 (by decide) (by show 0 < 4; decide) g_b5 (pc' := 40) od10_39 rfl (fun h39 X39 B39 => ?_)
  replace E_a := E_a.wr X39
  replace F_a_times := F_a_times.other X39 (Or.inl ne_a_b5)
  replace F_a_permits := F_a_permits.other X39 (Or.inl ne_a_b5)
  replace F_a_head := F_a_head.other X39 (Or.inl ne_a_b5)
  replace F_a_size := F_a_size.other X39 (Or.inl ne_a_b5)
  replace F_a_counted := F_a_counted.other X39 (Or.inl ne_a_b5)
  replace A_ta := A_ta.other X39 ne_ta_b5
  replace A_pa := A_pa.other X39 ne_pa_b5
  replace A_b1 := A_b1.other X39 ne_b1_b5
  have A_b5 : AJ Z h39 b5 [(Pm.getD x0 0), (0 : Int64), (0 : Int64), (0 : Int64)] := B39
  replace K := K.wr X39 (Or.inr sz_b5)
  refine C.iinc (d := 1) (f := fun v_ => #[.val (.ref a), .val (.int c), .val (.ref b1), .val (.ref b5), .val (.int v_)]) (pc' := 43) od10_40 rfl rfl rfl (fun _ => rfl) (fun v40 e40 => ?_)
  obtain rfl : v40 = (1 : Int32) := e40.trans (by decide)
  refine C.goto (pc' := 11) od10_43 rfl ?_
  refine C.iload (pc' := 13) od10_11 rfl rfl ?_
  refine C.aloadN (pc' := 14) od10_13 rfl rfl rfl ?_
  refine C.getf (ow27 hw) Via.refl F_a_size (pc' := 17) od10_14 rfl ?_
  refine C.icmp_ge (pc' := 20) (pt := 46) od10_17 rfl rfl (fun c17 => absurd (by rw [hsz]; decide) c17) (fun c17 => ?_)
  refine C.aloadN (pc' := 21) od10_20 rfl rfl rfl ?_
  refine C.iload (pc' := 23) od10_21 rfl rfl ?_
  refine C.aloadN (pc' := 24) od10_23 rfl rfl rfl ?_
  refine C.iload (pc' := 26) od10_24 rfl rfl ?_
  refine C.callv (w := 2) (own_rm6 l Z a0 hw n0 h39 a (1 : Int32) ta hd T len x1 E_a F_a_head F_a_times A_ta hlen hx1 ht1) E_a (ow37 hw) (ow38 hw) (ow40 hw) (ow39 hw) (ow4 hw) (ow41 hw) (pc' := 29) od10_26 rfl rfl rfl (by decide) pd__I_J rfl (by decide) (Nat.le_of_eq rfl) (by decide) (by decide) (by decide) (kJe ?_)
  refine C.stAJ (i := 1) A_b1 (by decide) (by show 1 < 4; decide) g_b1 (pc' := 30) od10_29 rfl (fun h29 X29 B29 => ?_)
  replace E_a := E_a.wr X29
  replace F_a_times := F_a_times.other X29 (Or.inl ne_a_b1)
  replace F_a_permits := F_a_permits.other X29 (Or.inl ne_a_b1)
  replace F_a_head := F_a_head.other X29 (Or.inl ne_a_b1)
  replace F_a_size := F_a_size.other X29 (Or.inl ne_a_b1)
  replace F_a_counted := F_a_counted.other X29 (Or.inl ne_a_b1)
  replace A_ta := A_ta.other X29 ne_ta_b1
  replace A_pa := A_pa.other X29 ne_pa_b1
  replace A_b5 := A_b5.other X29 (Ne.symm ne_b1_b5)
  have A_b1 : AJ Z h29 b1 [(T.getD x0 0), (T.getD x1 0), (0 : Int64), (0 : Int64)] := B29
  replace K := K.wr X29 (Or.inr sz_b1)
  refine C.aloadN (pc' := 31) od10_30 rfl rfl rfl ?_
  refine C.iload (pc' := 33) od10_31 rfl rfl ?_
  refine C.aloadN (pc' := 34) od10_33 rfl rfl rfl ?_
  refine C.iload (pc' := 36) od10_34 rfl rfl ?_
  refine C.callv (w := 2) (own_rm8 l Z a0 hw n0 h29 a (1 : Int32) ta pa hd T Pm len x1 E_a F_a_head F_a_times F_a_permits A_ta A_pa hlen hx1 hp1) E_a (ow63 hw) (ow50 hw) (ow52 hw) (ow51 hw) (ow4 hw) (ow53 hw) (pc' := 39) od10_36 rfl rfl rfl (by decide) pd__I_J rfl (by decide) (Nat.le_of_eq rfl) (by decide) (by decide) (by decide) (kJe ?_)
  refine C.stAJ (i := 1) A_b5 (by decide) (by show 1 < 4; decide) g_b5 (pc' := 40) od10_39 rfl (fun h39 X39 B39 => ?_)
  replace E_a := E_a.wr X39
  replace F_a_times := F_a_times.other X39 (Or.inl ne_a_b5)
  replace F_a_permits := F_a_permits.other X39 (Or.inl ne_a_b5)
  replace F_a_head := F_a_head.other X39 (Or.inl ne_a_b5)
  replace F_a_size := F_a_size.other X39 (Or.inl ne_a_b5)
  replace F_a_counted := F_a_counted.other X39 (Or.inl ne_a_b5)
  replace A_ta := A_ta.other X39 ne_ta_b5
  replace A_pa := A_pa.other X39 ne_pa_b5
  replace A_b1 := A_b1.other X39 ne_b1_b5
  have A_b5 : AJ Z h39 b5 [(Pm.getD x0 0), (Pm.getD x1 0), (0 : Int64), (0 : Int64)] := B39
  replace K := K.wr X39 (Or.inr sz_b5)
  refine C.iinc (d := 1) (f := fun v_ => #[.val (.ref a), .val (.int c), .val (.ref b1), .val (.ref b5), .val (.int v_)]) (pc' := 43) od10_40 rfl rfl rfl (fun _ => rfl) (fun v40 e40 => ?_)
  obtain rfl : v40 = (2 : Int32) := e40.trans (by decide)
  refine C.goto (pc' := 11) od10_43 rfl ?_
  refine C.iload (pc' := 13) od10_11 rfl rfl ?_
  refine C.aloadN (pc' := 14) od10_13 rfl rfl rfl ?_
  refine C.getf (ow27 hw) Via.refl F_a_size (pc' := 17) od10_14 rfl ?_
  refine C.icmp_ge (pc' := 20) (pt := 46) od10_17 rfl rfl (fun c17 => ?_) (fun c17 => absurd c17 (by rw [hsz]; decide))
  refine C.aloadN (pc' := 47) od10_46 rfl rfl rfl ?_
  refine C.aloadN (pc' := 48) od10_47 rfl rfl rfl ?_
  refine C.putf (ow18 hw) Via.refl F_a_times E_a (Or.inl (ow19 hw)) (ow3 hw) pf__J rfl rfl g_a (pc' := 51) od10_48 rfl (fun h48 X48 => ?_)
  replace F_a_times := F_a_times.same X48
  replace E_a := E_a.wr X48
  replace F_a_permits := F_a_permits.other X48 (Or.inr (sne_21_19 hw))
  replace F_a_head := F_a_head.other X48 (Or.inr (sne_34_19 hw))
  replace F_a_size := F_a_size.other X48 (Or.inr (sne_28_19 hw))
  replace F_a_counted := F_a_counted.other X48 (Or.inr (sne_36_19 hw))
  replace A_ta := A_ta.other X48 (Ne.symm ne_a_ta)
  replace A_pa := A_pa.other X48 (Ne.symm ne_a_pa)
  replace A_b1 := A_b1.other X48 (Ne.symm ne_a_b1)
  replace A_b5 := A_b5.other X48 (Ne.symm ne_a_b5)
  replace K := K.wr X48 (Or.inl (List.mem_of_getElem? (i := 0) rfl))
  refine C.aloadN (pc' := 52) od10_51 rfl rfl rfl ?_
  refine C.aloadN (pc' := 53) od10_52 rfl rfl rfl ?_
  refine C.putf (ow20 hw) Via.refl F_a_permits E_a (Or.inl (ow21 hw)) (ow3 hw) pf__J rfl rfl g_a (pc' := 56) od10_53 rfl (fun h53 X53 => ?_)
  replace F_a_permits := F_a_permits.same X53
  replace E_a := E_a.wr X53
  replace F_a_head := F_a_head.other X53 (Or.inr (sne_34_21 hw))
  replace F_a_size := F_a_size.other X53 (Or.inr (sne_28_21 hw))
  replace F_a_counted := F_a_counted.other X53 (Or.inr (sne_36_21 hw))
  replace A_ta := A_ta.other X53 (Ne.symm ne_a_ta)
  replace A_pa := A_pa.other X53 (Ne.symm ne_a_pa)
  replace A_b1 := A_b1.other X53 (Ne.symm ne_a_b1)
  replace A_b5 := A_b5.other X53 (Ne.symm ne_a_b5)
  replace F_a_times := F_a_times.other X53 (Or.inr (sne_19_21 hw))
  replace K := K.wr X53 (Or.inl (List.mem_of_getElem? (i := 0) rfl))
  refine C.aloadN (pc' := 57) od10_56 rfl rfl rfl ?_
  refine C.iconst (v := 0) (pc' := 58) od10_57 rfl rfl ?_
  refine C.putf (ow33 hw) Via.refl F_a_head E_a (Or.inl (ow34 hw)) (ow3 hw) pf_I rfl rfl g_a (pc' := 61) od10_58 rfl (fun h58 X58 => ?_)
  replace F_a_head := F_a_head.same X58
  replace E_a := E_a.wr X58
  replace F_a_size := F_a_size.other X58 (Or.inr (sne_28_34 hw))
  replace F_a_counted := F_a_counted.other X58 (Or.inr (sne_36_34 hw))
  replace A_ta := A_ta.other X58 (Ne.symm ne_a_ta)
  replace A_pa := A_pa.other X58 (Ne.symm ne_a_pa)
  replace A_b1 := A_b1.other X58 (Ne.symm ne_a_b1)
  replace A_b5 := A_b5.other X58 (Ne.symm ne_a_b5)
  replace F_a_times := F_a_times.other X58 (Or.inr (sne_19_34 hw))
  replace F_a_permits := F_a_permits.other X58 (Or.inr (sne_21_34 hw))
  replace K := K.wr X58 (Or.inl (List.mem_of_getElem? (i := 0) rfl))
  refine C.retV rfl od10_61 (by decide) (by decide) ⟨rfl, ?_⟩
  exact ⟨b1, b5, K, sz_b1, sz_b5, ne_b1_b5, F_a_times, F_a_permits, F_a_head, F_a_size, F_a_counted, A_b1, A_b5⟩
theorem ef_own_resize1 (m : MethodId) (x0 : Addr) (x1 : Int32) : entryFrame m #[(.ref x0), (.int x1)] 5 = mkF m 0 #[.val (.ref x0), .val (.int x1), .unset, .unset, .unset] [] := by first | (simp [entryFrame, mkF, argsToLocals, Value.category]; done) | rfl
set_option maxRecDepth 65536 in
set_option maxHeartbeats 40000000 in
theorem own_resize1 (l : Launch) (Z : State) (a0 : Array Value) (hw : ∀ d ∈ tables_1, d.before a0 Z = true) (n0 : Nat) (hO : Heap) (a : Addr) (c : Int32) (ta : Addr) (pa : Addr) (hd : Int32) (sz : Int32) (cnt : Int64) (T : List Int64) (Pm : List Int64) (len : Int32) (x0 : Nat) (Z0 : n0 ≤ hO.size) (E_a : Exa Z hO a "com/example/steady_limiter/steadylimiter/SlidingWindowLog$PermitLog") (F_a_times : Fld Z hO a "com/example/steady_limiter/steadylimiter/SlidingWindowLog$PermitLog" "times" "[J" (.ref ta)) (F_a_permits : Fld Z hO a "com/example/steady_limiter/steadylimiter/SlidingWindowLog$PermitLog" "permits" "[J" (.ref pa)) (F_a_head : Fld Z hO a "com/example/steady_limiter/steadylimiter/SlidingWindowLog$PermitLog" "head" "I" (.int hd)) (F_a_size : Fld Z hO a "com/example/steady_limiter/steadylimiter/SlidingWindowLog$PermitLog" "size" "I" (.int sz)) (F_a_counted : Fld Z hO a "com/example/steady_limiter/steadylimiter/SlidingWindowLog$PermitLog" "counted" "J" (.long cnt)) (A_ta : AJ Z hO ta T) (A_pa : AJ Z hO pa Pm) (g_a : n0 ≤ a) (ne_a_ta : a ≠ ta) (ne_a_pa : a ≠ pa) (hlen : len.toInt = (T.length : Int)) (hc : c.toInt = ((2 : Nat) : Int)) (hsz : sz = (1 : Int32)) (hx0 : ((hd + (0 : Int32)) &&& (len - (1 : Int32))).toInt = (x0 : Int)) (ht0 : x0 < T.length) (hp0 : x0 < Pm.length) :
    MeetsW l Z n0 (⟨"com/example/steady_limiter/steadylimiter/SlidingWindowLog$PermitLog", "resize", "(I)V"⟩ : MethodName) prog_20_method_7_code 5 none ({ frames := 2, cells := 2, slots := 4, locals := 29 } : Room) #[(.ref a), (.int c)] hO (RV fun h => ∃ tb : Addr, ∃ pb : Addr, Keep hO h [a] ∧ hO.size ≤ tb ∧ hO.size ≤ pb ∧ tb ≠ pb ∧ Fld Z h a "com/example/steady_limiter/steadylimiter/SlidingWindowLog$PermitLog" "times" "[J" (.ref tb) ∧ Fld Z h a "com/example/steady_limiter/steadylimiter/SlidingWindowLog$PermitLog" "permits" "[J" (.ref pb) ∧ Fld Z h a "com/example/steady_limiter/steadylimiter/SlidingWindowLog$PermitLog" "head" "I" (.int (0 : Int32)) ∧ Fld Z h a "com/example/steady_limiter/steadylimiter/SlidingWindowLog$PermitLog" "size" "I" (.int sz) ∧ Fld Z h a "com/example/steady_limiter/steadylimiter/SlidingWindowLog$PermitLog" "counted" "J" (.long cnt) ∧ AJ Z h tb [(T.getD x0 0), (0 : Int64)] ∧ AJ Z h pb [(Pm.getD x0 0), (0 : Int64)]) := by
  refine MeetsW.intro pn_com_example_steady_limiter_steadylimiter_SlidingWindowLog_PermitLog_resize__I_V (fun m => ef_own_resize1 m a c) ?_
  intro W C
  replace C : Ru l Z "com/example/steady_limiter/steadylimiter/SlidingWindowLog$PermitLog" prog_20_method_7_code 5 none "resize" ({ frames := 2, cells := 2, slots := 4, locals := 29 } : Room) n0 (RV fun h => ∃ tb : Addr, ∃ pb : Addr, Keep hO h [a] ∧ hO.size ≤ tb ∧ hO.size ≤ pb ∧ tb ≠ pb ∧ Fld Z h a "com/example/steady_limiter/steadylimiter/SlidingWindowLog$PermitLog" "times" "[J" (.ref tb) ∧ Fld Z h a "com/example/steady_limiter/steadylimiter/SlidingWindowLog$PermitLog" "permits" "[J" (.ref pb) ∧ Fld Z h a "com/example/steady_limiter/steadylimiter/SlidingWindowLog$PermitLog" "head" "I" (.int (0 : Int32)) ∧ Fld Z h a "com/example/steady_limiter/steadylimiter/SlidingWindowLog$PermitLog" "size" "I" (.int sz) ∧ Fld Z h a "com/example/steady_limiter/steadylimiter/SlidingWindowLog$PermitLog" "counted" "J" (.long cnt) ∧ AJ Z h tb [(T.getD x0 0), (0 : Int64)] ∧ AJ Z h pb [(Pm.getD x0 0), (0 : Int64)]) W := C
  have K : Keep hO hO [a] := Keep.refl _ _
  refine C.iloadN (pc' := 1) od10_0 rfl rfl ?_
  refine C.newAJ (N := 2) (cap := 2) (ow1 hw) (pc' := 3) od10_1 rfl hc (by decide) (by decide) (by decide) (by decide) (fun h1 b1 hb1 X1 A_b1 => ?_)
  have ne_a_b1 : a ≠ b1 := by rw [hb1]; exact Nat.ne_of_lt (exaLt E_a)
  have ne_ta_b1 : ta ≠ b1 := by rw [hb1]; exact Nat.ne_of_lt A_ta.lt
  have ne_pa_b1 : pa ≠ b1 := by rw [hb1]; exact Nat.ne_of_lt A_pa.lt
  have sz_b1 : hO.size ≤ b1 := by rw [hb1]; exact K.1
  have g_b1 : n0 ≤ b1 := Nat.le_trans Z0 sz_b1
  replace E_a := E_a.ext X1
  replace F_a_times := F_a_times.ext X1
  replace F_a_permits := F_a_permits.ext X1
  replace F_a_head := F_a_head.ext X1
  replace F_a_size := F_a_size.ext X1
  replace F_a_counted := F_a_counted.ext X1
  replace A_ta := A_ta.ext X1
  replace A_pa := A_pa.ext X1
  replace K := K.ext X1
  replace A_b1 : AJ Z h1 b1 [(0 : Int64), (0 : Int64)] := A_b1
  refine C.astoreN (l' := #[.val (.ref a), .val (.int c), .val (.ref b1), .unset, .unset]) (pc' := 4) od10_3 rfl rfl rfl ?_
  refine C.iloadN (pc' := 5) od10_4 rfl rfl ?_
  refine C.newAJ (N := 2) (cap := 2) (ow1 hw) (pc' := 7) od10_5 rfl hc (by decide) (by decide) (by decide) (by decide) (fun h5 b5 hb5 X5 A_b5 => ?_)
  have ne_a_b5 : a ≠ b5 := by rw [hb5]; exact Nat.ne_of_lt (exaLt E_a)
  have ne_ta_b5 : ta ≠ b5 := by rw [hb5]; exact Nat.ne_of_lt A_ta.lt
  have ne_pa_b5 : pa ≠ b5 := by rw [hb5]; exact Nat.ne_of_lt A_pa.lt
  have ne_b1_b5 : b1 ≠ b5 := by rw [hb5]; exact Nat.ne_of_lt A_b1.lt
  have sz_b5 : hO.size ≤ b5 := by rw [hb5]; exact K.1
  have g_b5 : n0 ≤ b5 := Nat.le_trans Z0 sz_b5
  replace E_a := E_a.ext X5
  replace F_a_times := F_a_times.ext X5
  replace F_a_permits := F_a_permits.ext X5
  replace F_a_head := F_a_head.ext X5
  replace F_a_size := F_a_size.ext X5
  replace F_a_counted := F_a_counted.ext X5
  replace A_ta := A_ta.ext X5
  replace A_pa := A_pa.ext X5
  replace A_b1 := A_b1.ext X5
  replace K := K.ext X5
  replace A_b5 : AJ Z h5 b5 [(0 : Int64), (0 : Int64)] := A_b5
  refine C.astoreN (l' := #[.val (.ref a), .val (.int c), .val (.ref b1), .val (.ref b5), .unset]) (pc' := 8) od10_7 rfl rfl rfl ?_
  refine C.iconst (v := 0) (pc' := 9) od10_8 rfl rfl ?_
  refine C.istoreX (l' := #[.val (.ref a), .val (.int c), .val (.ref b1), .val (.ref b5), .val (.int (0 : Int32))]) (pc' := 11) od10_9 rfl rfl ?_
  refine C.iload (pc' := 13) od10_11 rfl rfl ?_
  refine C.aloadN (pc' := 14) od10_13 rfl rfl rfl ?_
  refine C.getf (ow27 hw) Via.refl F_a_size (pc' := 17) od10_14 rfl ?_
  refine C.icmp_ge (pc' := 20) (pt := 46) od10_17 rfl rfl (fun c17 => absurd (by rw [hsz]; decide) c17) (fun c17 => ?_)
  refine C.aloadN (pc' := 21) od10_20 rfl rfl rfl ?_
  refine C.iload (pc' := 23) od10_21 rfl rfl ?_
  refine C.aloadN (pc' := 24) od10_23 rfl rfl rfl ?_
  refine C.iload (pc' := 26) od10_24 rfl rfl ?_
  refine C.callv (w := 2) (own_rm6 l Z a0 hw n0 h5 a (0 : Int32) ta hd T len x0 E_a F_a_head F_a_times A_ta hlen hx0 ht0) E_a (ow37 hw) (ow38 hw) (ow40 hw) (ow39 hw) (ow4 hw) (ow41 hw) (pc' := 29) od10_26 rfl rfl rfl (by decide) pd__I_J rfl (by decide) (Nat.le_of_eq rfl) (by decide) (by decide) (by decide) (kJe ?_)
  refine C.stAJ (i := 0) A_b1 (by decide) (by show 0 < 2; decide) g_b1 (pc' := 30) od10_29 rfl (fun h29 X29 B29 => ?_)
  replace E_a := E_a.wr X29
  replace F_a_times := F_a_times.other X29 (Or.inl ne_a_b1)
  replace F_a_permits := F_a_permits.other X29 (Or.inl ne_a_b1)
  replace F_a_head := F_a_head.other X29 (Or.inl ne_a_b1)
  replace F_a_size := F_a_size.other X29 (Or.inl ne_a_b1)
  replace F_a_counted := F_a_counted.other X29 (Or.inl ne_a_b1)
  replace A_ta := A_ta.other X29 ne_ta_b1
  replace A_pa := A_pa.other X29 ne_pa_b1
  replace A_b5 := A_b5.other X29 (Ne.symm ne_b1_b5)
  have A_b1 : AJ Z h29 b1 [(T.getD x0 0), (0 : Int64)] := B29
  replace K := K.wr X29 (Or.inr sz_b1)
  refine C.aloadN (pc' := 31) od10_30 rfl rfl rfl ?_
  refine C.iload (pc' := 33) od10_31 rfl rfl ?_
  refine C.aloadN (pc' := 34) od10_33 rfl rfl rfl ?_
  refine C.iload (pc' := 36) od10_34 rfl rfl ?_
  refine C.callv (w := 2) (own_rm8 l Z a0 hw n0 h29 a (0 : Int32) ta pa hd T Pm len x0 E_a F_a_head F_a_times F_a_permits A_ta A_pa hlen hx0 hp0) E_a (ow63 hw) (ow50 hw) (ow52 hw) (ow51 hw) (ow4 hw) (ow53 hw) (pc' := 39) od10_36 rfl rfl rfl (by decide) pd__I_J rfl (by decide) (Nat.le_of_eq rfl) (by decide) (by decide) (by decide) (kJe ?_)
  refine C.stAJ (i := 0) A_b5 (by decide) (by show 0 < 2; decide) g_b5 (pc' := 40) od10_39 rfl (fun h39 X39 B39 => ?_)
  replace E_a := E_a.wr X39
  replace F_a_times := F_a_times.other X39 (Or.inl ne_a_b5)
  replace F_a_permits := F_a_permits.other X39 (Or.inl ne_a_b5)
  replace F_a_head := F_a_head.other X39 (Or.inl ne_a_b5)
  replace F_a_size := F_a_size.other X39 (Or.inl ne_a_b5)
  replace F_a_counted := F_a_counted.other X39 (Or.inl ne_a_b5)
  replace A_ta := A_ta.other X39 ne_ta_b5
  replace A_pa := A_pa.other X39 ne_pa_b5
  replace A_b1 := A_b1.other X39 ne_b1_b5
  have A_b5 : AJ Z h39 b5 [(Pm.getD x0 0), (0 : Int64)] := B39
  replace K := K.wr X39 (Or.inr sz_b5)
  refine C.iinc (d := 1) (f := fun v_ => #[.val (.ref a), .val (.int c), .val (.ref b1), .val (.ref b5), .val (.int v_)]) (pc' := 43) od10_40 rfl rfl rfl (fun _ => rfl) (fun v40 e40 => ?_)
  obtain rfl : v40 = (1 : Int32) := e40.trans (by decide)
  refine C.goto (pc' := 11) od10_43 rfl ?_
  refine C.iload (pc' := 13) od10_11 rfl rfl ?_
  refine C.aloadN (pc' := 14) od10_13 rfl rfl rfl ?_
  refine C.getf (ow27 hw) Via.refl F_a_size (pc' := 17) od10_14 rfl ?_
  refine C.icmp_ge (pc' := 20) (pt := 46) od10_17 rfl rfl (fun c17 => ?_) (fun c17 => absurd c17 (by rw [hsz]; decide))
  refine C.aloadN (pc' := 47) od10_46 rfl rfl rfl ?_
  refine C.aloadN (pc' := 48) od10_47 rfl rfl rfl ?_
  refine C.putf (ow18 hw) Via.refl F_a_times E_a (Or.inl (ow19 hw)) (ow3 hw) pf__J rfl rfl g_a (pc' := 51) od10_48 rfl (fun h48 X48 => ?_)
  replace F_a_times := F_a_times.same X48
  replace E_a := E_a.wr X48
  replace F_a_permits := F_a_permits.other X48 (Or.inr (sne_21_19 hw))
  replace F_a_head := F_a_head.other X48 (Or.inr (sne_34_19 hw))
  replace F_a_size := F_a_size.other X48 (Or.inr (sne_28_19 hw))
  replace F_a_counted := F_a_counted.other X48 (Or.inr (sne_36_19 hw))
  replace A_ta := A_ta.other X48 (Ne.symm ne_a_ta)
  replace A_pa := A_pa.other X48 (Ne.symm ne_a_pa)
  replace A_b1 := A_b1.other X48 (Ne.symm ne_a_b1)
  replace A_b5 := A_b5.other X48 (Ne.symm ne_a_b5)
  replace K := K.wr X48 (Or.inl (List.mem_of_getElem? (i := 0) rfl))
  refine C.aloadN (pc' := 52) od10_51 rfl rfl rfl ?_
  refine C.aloadN (pc' := 53) od10_52 rfl rfl rfl ?_
  refine C.putf (ow20 hw) Via.refl F_a_permits E_a (Or.inl (ow21 hw)) (ow3 hw) pf__J rfl rfl g_a (pc' := 56) od10_53 rfl (fun h53 X53 => ?_)
  replace F_a_permits := F_a_permits.same X53
  replace E_a := E_a.wr X53
  replace F_a_head := F_a_head.other X53 (Or.inr (sne_34_21 hw))
  replace F_a_size := F_a_size.other X53 (Or.inr (sne_28_21 hw))
  replace F_a_counted := F_a_counted.other X53 (Or.inr (sne_36_21 hw))
  replace A_ta := A_ta.other X53 (Ne.symm ne_a_ta)
  replace A_pa := A_pa.other X53 (Ne.symm ne_a_pa)
  replace A_b1 := A_b1.other X53 (Ne.symm ne_a_b1)
  replace A_b5 := A_b5.other X53 (Ne.symm ne_a_b5)
  replace F_a_times := F_a_times.other X53 (Or.inr (sne_19_21 hw))
  replace K := K.wr X53 (Or.inl (List.mem_of_getElem? (i := 0) rfl))
  refine C.aloadN (pc' := 57) od10_56 rfl rfl rfl ?_
  refine C.iconst (v := 0) (pc' := 58) od10_57 rfl rfl ?_
  refine C.putf (ow33 hw) Via.refl F_a_head E_a (Or.inl (ow34 hw)) (ow3 hw) pf_I rfl rfl g_a (pc' := 61) od10_58 rfl (fun h58 X58 => ?_)
  replace F_a_head := F_a_head.same X58
  replace E_a := E_a.wr X58
  replace F_a_size := F_a_size.other X58 (Or.inr (sne_28_34 hw))
  replace F_a_counted := F_a_counted.other X58 (Or.inr (sne_36_34 hw))
  replace A_ta := A_ta.other X58 (Ne.symm ne_a_ta)
  replace A_pa := A_pa.other X58 (Ne.symm ne_a_pa)
  replace A_b1 := A_b1.other X58 (Ne.symm ne_a_b1)
  replace A_b5 := A_b5.other X58 (Ne.symm ne_a_b5)
  replace F_a_times := F_a_times.other X58 (Or.inr (sne_19_34 hw))
  replace F_a_permits := F_a_permits.other X58 (Or.inr (sne_21_34 hw))
  replace K := K.wr X58 (Or.inl (List.mem_of_getElem? (i := 0) rfl))
  refine C.retV rfl od10_61 (by decide) (by decide) ⟨rfl, ?_⟩
  exact ⟨b1, b5, K, sz_b1, sz_b5, ne_b1_b5, F_a_times, F_a_permits, F_a_head, F_a_size, F_a_counted, A_b1, A_b5⟩
theorem od4_0 : decode prog_20_method_5_code 0 = .ok (.aload_n 0, 1) := by decide +kernel
theorem od4_1 : decode prog_20_method_5_code 1 = .ok (.getfield 28, 3) := by decide +kernel
theorem od4_4 : decode prog_20_method_5_code 4 = .ok (.ifCond .le 40, 3) := by decide +kernel
theorem od4_7 : decode prog_20_method_5_code 7 = .ok (.aload_n 0, 1) := by decide +kernel
theorem od4_8 : decode prog_20_method_5_code 8 = .ok (.aload_n 0, 1) := by decide +kernel
theorem od4_9 : decode prog_20_method_5_code 9 = .ok (.getfield 28, 3) := by decide +kernel
theorem od4_12 : decode prog_20_method_5_code 12 = .ok (.iconst 1, 1) := by decide +kernel
theorem od4_13 : decode prog_20_method_5_code 13 = .ok (.isub, 1) := by decide +kernel
theorem od4_14 : decode prog_20_method_5_code 14 = .ok (.invokevirtual 35, 3) := by decide +kernel
theorem od4_17 : decode prog_20_method_5_code 17 = .ok (.lload_n 1, 1) := by decide +kernel
theorem od4_18 : decode prog_20_method_5_code 18 = .ok (.lcmp, 1) := by decide +kernel
theorem od4_19 : decode prog_20_method_5_code 19 = .ok (.ifCond .ne 25, 3) := by decide +kernel
theorem od4_22 : decode prog_20_method_5_code 22 = .ok (.aload_n 0, 1) := by decide +kernel
theorem od4_23 : decode prog_20_method_5_code 23 = .ok (.getfield 13, 3) := by decide +kernel
theorem od4_26 : decode prog_20_method_5_code 26 = .ok (.aload_n 0, 1) := by decide +kernel
theorem od4_27 : decode prog_20_method_5_code 27 = .ok (.aload_n 0, 1) := by decide +kernel
theorem od4_28 : decode prog_20_method_5_code 28 = .ok (.getfield 28, 3) := by decide +kernel
theorem od4_31 : decode prog_20_method_5_code 31 = .ok (.iconst 1, 1) := by decide +kernel
theorem od4_32 : decode prog_20_method_5_code 32 = .ok (.isub, 1) := by decide +kernel
theorem od4_33 : decode prog_20_method_5_code 33 = .ok (.invokevirtual 16, 3) := by decide +kernel
theorem od4_36 : decode prog_20_method_5_code 36 = .ok (.dup2, 1) := by decide +kernel
theorem od4_37 : decode prog_20_method_5_code 37 = .ok (.laload, 1) := by decide +kernel
theorem od4_38 : decode prog_20_method_5_code 38 = .ok (.lload_n 3, 1) := by decide +kernel
theorem od4_39 : decode prog_20_method_5_code 39 = .ok (.ladd, 1) := by decide +kernel
theorem od4_40 : decode prog_20_method_5_code 40 = .ok (.lastore, 1) := by decide +kernel
theorem od4_41 : decode prog_20_method_5_code 41 = .ok (.goto 62, 3) := by decide +kernel
theorem od4_103 : decode prog_20_method_5_code 103 = .ok (.aload_n 0, 1) := by decide +kernel
theorem od4_104 : decode prog_20_method_5_code 104 = .ok (.dup, 1) := by decide +kernel
theorem ow35 {a0 : Array Value} {Z : State} (hw : ∀ d ∈ tables_1, d.before a0 Z = true) : (Jvm.Cond.fieldLink "com/example/steady_limiter/steadylimiter/SlidingWindowLog$PermitLog" (20 : Nat) "com/example/steady_limiter/steadylimiter/SlidingWindowLog$PermitLog" "counted" "J").before a0 Z = true := hw _ (List.mem_of_getElem? (i := 35) rfl)
theorem od4_105 : decode prog_20_method_5_code 105 = .ok (.getfield 20, 3) := by decide +kernel
theorem od4_108 : decode prog_20_method_5_code 108 = .ok (.lload_n 3, 1) := by decide +kernel
theorem od4_109 : decode prog_20_method_5_code 109 = .ok (.ladd, 1) := by decide +kernel
theorem od4_110 : decode prog_20_method_5_code 110 = .ok (.putfield 20, 3) := by decide +kernel
theorem sne_19_36 {a0 : Array Value} {Z : State} (hw : ∀ d ∈ tables_1, d.before a0 Z = true) : Jvm.RoadKit.slotOf Z "com/example/steady_limiter/steadylimiter/SlidingWindowLog$PermitLog" "times" "[J" ≠ Jvm.RoadKit.slotOf Z "com/example/steady_limiter/steadylimiter/SlidingWindowLog$PermitLog" "counted" "J" := slot_ne (C := "com/example/steady_limiter/steadylimiter/SlidingWindowLog$PermitLog") (a0 := a0) (Or.inl (ow19 hw)) (Or.inl (ow36 hw)) (by decide) pf__J pf_J
theorem sne_21_36 {a0 : Array Value} {Z : State} (hw : ∀ d ∈ tables_1, d.before a0 Z = true) : Jvm.RoadKit.slotOf Z "com/example/steady_limiter/steadylimiter/SlidingWindowLog$PermitLog" "permits" "[J" ≠ Jvm.RoadKit.slotOf Z "com/example/steady_limiter/steadylimiter/SlidingWindowLog$PermitLog" "counted" "J" := slot_ne (C := "com/example/steady_limiter/steadylimiter/SlidingWindowLog$PermitLog") (a0 := a0) (Or.inl (ow21 hw)) (Or.inl (ow36 hw)) (by decide) pf__J pf_J
theorem sne_34_36 {a0 : Array Value} {Z : State} (hw : ∀ d ∈ tables_1, d.before a0 Z = true) : Jvm.RoadKit.slotOf Z "com/example/steady_limiter/steadylimiter/SlidingWindowLog$PermitLog" "head" "I" ≠ Jvm.RoadKit.slotOf Z "com/example/steady_limiter/steadylimiter/SlidingWindowLog$PermitLog" "counted" "J" := slot_ne (C := "com/example/steady_limiter/steadylimiter/SlidingWindowLog$PermitLog") (a0 := a0) (Or.inl (ow34 hw)) (Or.inl (ow36 hw)) (by decide) pf_I pf_J
theorem sne_28_36 {a0 : Array Value} {Z : State} (hw : ∀ d ∈ tables_1, d.before a0 Z = true) : Jvm.RoadKit.slotOf Z "com/example/steady_limiter/steadylimiter/SlidingWindowLog$PermitLog" "size" "I" ≠ Jvm.RoadKit.slotOf Z "com/example/steady_limiter/steadylimiter/SlidingWindowLog$PermitLog" "counted" "J" := slot_ne (C := "com/example/steady_limiter/steadylimiter/SlidingWindowLog$PermitLog") (a0 := a0) (Or.inl (ow28 hw)) (Or.inl (ow36 hw)) (by decide) pf_I pf_J
theorem od4_113 : decode prog_20_method_5_code 113 = .ok (.return_, 1) := by decide +kernel
theorem ef_own_addA (m : MethodId) (x0 : Addr) (x1 : Int64) (x2 : Int64) : entryFrame m #[(.ref x0), (.long x1), (.long x2)] 6 = mkF m 0 #[.val (.ref x0), .val (.long x1), .second, .val (.long x2), .second, .unset] [] := by first | (simp [entryFrame, mkF, argsToLocals, Value.category]; done) | rfl
theorem pn_com_example_steady_limiter_steadylimiter_SlidingWindowLog_PermitLog_add__JJ_V : plainFor (⟨"com/example/steady_limiter/steadylimiter/SlidingWindowLog$PermitLog", "add", "(JJ)V"⟩ : MethodName) = true := plainFor_of_name (by first | (simp [plainName, overriddenIn]; done) | decide +kernel)
set_option maxRecDepth 65536 in
set_option maxHeartbeats 40000000 in
theorem own_addA (l : Launch) (Z : State) (a0 : Array Value) (hw : ∀ d ∈ tables_1, d.before a0 Z = true) (n0 : Nat) (hO : Heap) (a : Addr) (t : Int64) (c : Int64) (ta : Addr) (pa : Addr) (hd : Int32) (sz : Int32) (cnt : Int64) (T : List Int64) (Pm : List Int64) (len : Int32) (x : Nat) (Z0 : n0 ≤ hO.size) (E_a : Exa Z hO a "com/example/steady_limiter/steadylimiter/SlidingWindowLog$PermitLog") (F_a_times : Fld Z hO a "com/example/steady_limiter/steadylimiter/SlidingWindowLog$PermitLog" "times" "[J" (.ref ta)) (F_a_permits : Fld Z hO a "com/example/steady_limiter/steadylimiter/SlidingWindowLog$PermitLog" "permits" "[J" (.ref pa)) (F_a_head : Fld Z hO a "com/example/steady_limiter/steadylimiter/SlidingWindowLog$PermitLog" "head" "I" (.int hd)) (F_a_size : Fld Z hO a "com/example/steady_limiter/steadylimiter/SlidingWindowLog$PermitLog" "size" "I" (.int sz)) (F_a_counted : Fld Z hO a "com/example/steady_limiter/steadylimiter/SlidingWindowLog$PermitLog" "counted" "J" (.long cnt)) (A_ta : AJ Z hO ta T) (A_pa : AJ Z hO pa Pm) (g_a : n0 ≤ a) (g_ta : n0 ≤ ta) (g_pa : n0 ≤ pa) (ne_a_ta : a ≠ ta) (ne_a_pa : a ≠ pa) (ne_ta_pa : ta ≠ pa) (hlen : len.toInt = (T.length : Int)) (h0 : 0 < sz) (hx : ((hd + (sz - (1 : Int32))) &&& (len - (1 : Int32))).toInt = (x : Int)) (hxt : x < T.length) (hxp : x < Pm.length) (hm : T.getD x 0 = t) :
    MeetsW l Z n0 (⟨"com/example/steady_limiter/steadylimiter/SlidingWindowLog$PermitLog", "add", "(JJ)V"⟩ : MethodName) prog_20_method_5_code 6 none ({ frames := 2, cells := 0, slots := 0, locals := 27 } : Room) #[(.ref a), (.long t), (.long c)] hO (RV fun h => Keep hO h [a, pa] ∧ Fld Z h a "com/example/steady_limiter/steadylimiter/SlidingWindowLog$PermitLog" "times" "[J" (.ref ta) ∧ Fld Z h a "com/example/steady_limiter/steadylimiter/SlidingWindowLog$PermitLog" "permits" "[J" (.ref pa) ∧ Fld Z h a "com/example/steady_limiter/steadylimiter/SlidingWindowLog$PermitLog" "head" "I" (.int hd) ∧ Fld Z h a "com/example/steady_limiter/steadylimiter/SlidingWindowLog$PermitLog" "size" "I" (.int sz) ∧ Fld Z h a "com/example/steady_limiter/steadylimiter/SlidingWindowLog$PermitLog" "counted" "J" (.long (cnt + c)) ∧ AJ Z h pa (Pm.set x (Pm.getD x 0 + c))) := by
  refine MeetsW.intro pn_com_example_steady_limiter_steadylimiter_SlidingWindowLog_PermitLog_add__JJ_V (fun m => ef_own_addA m a t c) ?_
  intro W C
  replace C : Ru l Z "com/example/steady_limiter/steadylimiter/SlidingWindowLog$PermitLog" prog_20_method_5_code 6 none "add" ({ frames := 2, cells := 0, slots := 0, locals := 27 } : Room) n0 (RV fun h => Keep hO h [a, pa] ∧ Fld Z h a "com/example/steady_limiter/steadylimiter/SlidingWindowLog$PermitLog" "times" "[J" (.ref ta) ∧ Fld Z h a "com/example/steady_limiter/steadylimiter/SlidingWindowLog$PermitLog" "permits" "[J" (.ref pa) ∧ Fld Z h a "com/example/steady_limiter/steadylimiter/SlidingWindowLog$PermitLog" "head" "I" (.int hd) ∧ Fld Z h a "com/example/steady_limiter/steadylimiter/SlidingWindowLog$PermitLog" "size" "I" (.int sz) ∧ Fld Z h a "com/example/steady_limiter/steadylimiter/SlidingWindowLog$PermitLog" "counted" "J" (.long (cnt + c)) ∧ AJ Z h pa (Pm.set x (Pm.getD x 0 + c))) W := C
  have K : Keep hO hO [a, pa] := Keep.refl _ _
  refine C.aloadN (pc' := 1) od4_0 rfl rfl rfl ?_
  refine C.getf (ow27 hw) Via.refl F_a_size (pc' := 4) od4_1 rfl ?_
  refine C.if_le (pc' := 7) (pt := 44) od4_4 rfl rfl (fun c4 => absurd h0 c4) (fun c4 => ?_)
  refine C.aloadN (pc' := 8) od4_7 rfl rfl rfl ?_
  refine C.aloadN (pc' := 9) od4_8 rfl rfl rfl ?_
  refine C.getf (ow27 hw) Via.refl F_a_size (pc' := 12) od4_9 rfl ?_
  refine C.iconst (v := 1) (pc' := 13) od4_12 rfl rfl ?_
  refine C.isub (pc' := 14) od4_13 rfl ?_
  refine C.callv (w := 0) (own_rm6 l Z a0 hw n0 hO a (sz - (1 : Int32)) ta hd T len x E_a F_a_head F_a_times A_ta hlen hx hxt) E_a (ow37 hw) (ow38 hw) (ow40 hw) (ow39 hw) (ow4 hw) (ow41 hw) (pc' := 17) od4_14 rfl rfl rfl (by decide) pd__I_J rfl (by decide) (Nat.le_of_eq rfl) (by decide) (by decide) (by decide) (kJe ?_)
  refine C.lloadN (pc' := 18) od4_17 rfl rfl ?_
  refine C.lif_ne (pc' := 22) (pt := 44) od4_18 rfl od4_19 rfl rfl (fun c18 => absurd hm c18) (fun c18 => ?_)
  refine C.aloadN (pc' := 23) od4_22 rfl rfl rfl ?_
  refine C.getf (ow20 hw) Via.refl F_a_permits (pc' := 26) od4_23 rfl ?_
  refine C.aloadN (pc' := 27) od4_26 rfl rfl rfl ?_
  refine C.aloadN (pc' := 28) od4_27 rfl rfl rfl ?_
  refine C.getf (ow27 hw) Via.refl F_a_size (pc' := 31) od4_28 rfl ?_
  refine C.iconst (v := 1) (pc' := 32) od4_31 rfl rfl ?_
  refine C.isub (pc' := 33) od4_32 rfl ?_
  refine C.callp (w := 1) (own_rm5 l Z a0 hw n0 hO a (sz - (1 : Int32)) ta hd T len F_a_head F_a_times A_ta hlen) E_a (ow29 hw) (ow30 hw) (ow3 hw) (ow31 hw) (ow4 hw) (ow32 hw) (pc' := 36) od4_33 rfl rfl rfl (by decide) pd__I_I rfl (by decide) (Nat.le_of_eq rfl) (by decide) (by decide) (by decide) (kIe ?_)
  refine C.dup2 (pc' := 37) od4_36 rfl rfl rfl ?_
  refine C.ldAJ (i := x) (v := (Pm.getD x 0)) A_pa hx (Jvm.OwnP.getD_some hxp) (pc' := 38) od4_37 rfl ?_
  refine C.lloadN (pc' := 39) od4_38 rfl rfl ?_
  refine C.ladd (pc' := 40) od4_39 rfl ?_
  refine C.stAJ (i := x) A_pa hx hxp g_pa (pc' := 41) od4_40 rfl (fun h40 X40 B40 => ?_)
  replace E_a := E_a.wr X40
  replace F_a_times := F_a_times.other X40 (Or.inl ne_a_pa)
  replace F_a_permits := F_a_permits.other X40 (Or.inl ne_a_pa)
  replace F_a_head := F_a_head.other X40 (Or.inl ne_a_pa)
  replace F_a_size := F_a_size.other X40 (Or.inl ne_a_pa)
  replace F_a_counted := F_a_counted.other X40 (Or.inl ne_a_pa)
  replace A_ta := A_ta.other X40 ne_ta_pa
  have A_pa : AJ Z h40 pa (Pm.set x ((Pm.getD x 0) + c)) := B40
  replace K := K.wr X40 (Or.inl (List.mem_of_getElem? (i := 1) rfl))
  refine C.goto (pc' := 103) od4_41 rfl ?_
  refine C.aloadN (pc' := 104) od4_103 rfl rfl rfl ?_
  refine C.dup (pc' := 105) od4_104 rfl rfl ?_
  refine C.getf (ow35 hw) Via.refl F_a_counted (pc' := 108) od4_105 rfl ?_
  refine C.lloadN (pc' := 109) od4_108 rfl rfl ?_
  refine C.ladd (pc' := 110) od4_109 rfl ?_
  refine C.putf (ow35 hw) Via.refl F_a_counted E_a (Or.inl (ow36 hw)) (ow3 hw) pf_J rfl rfl g_a (pc' := 113) od4_110 rfl (fun h110 X110 => ?_)
  replace F_a_counted := F_a_counted.same X110
  replace E_a := E_a.wr X110
  replace F_a_times := F_a_times.other X110 (Or.inr (sne_19_36 hw))
  replace F_a_permits := F_a_permits.other X110 (Or.inr (sne_21_36 hw))
  replace F_a_head := F_a_head.other X110 (Or.inr (sne_34_36 hw))
  replace F_a_size := F_a_size.other X110 (Or.inr (sne_28_36 hw))
  replace A_ta := A_ta.other X110 (Ne.symm ne_a_ta)
  replace A_pa := A_pa.other X110 (Ne.symm ne_a_pa)
  replace K := K.wr X110 (Or.inl (List.mem_of_getElem? (i := 0) rfl))
  refine C.retV rfl od4_113 (by decide) (by decide) ⟨rfl, ?_⟩
  exact ⟨K, F_a_times, F_a_permits, F_a_head, F_a_size, F_a_counted, A_pa⟩
theorem od4_44 : decode prog_20_method_5_code 44 = .ok (.aload_n 0, 1) := by decide +kernel
theorem od4_45 : decode prog_20_method_5_code 45 = .ok (.getfield 28, 3) := by decide +kernel
theorem od4_48 : decode prog_20_method_5_code 48 = .ok (.aload_n 0, 1) := by decide +kernel
theorem od4_49 : decode prog_20_method_5_code 49 = .ok (.getfield 9, 3) := by decide +kernel
theorem od4_52 : decode prog_20_method_5_code 52 = .ok (.arraylength, 1) := by decide +kernel
theorem od4_53 : decode prog_20_method_5_code 53 = .ok (.if_icmp .ne 14, 3) := by decide +kernel
theorem od4_67 : decode prog_20_method_5_code 67 = .ok (.aload_n 0, 1) := by decide +kernel
theorem od4_68 : decode prog_20_method_5_code 68 = .ok (.aload_n 0, 1) := by decide +kernel
theorem od4_69 : decode prog_20_method_5_code 69 = .ok (.getfield 28, 3) := by decide +kernel
theorem od4_72 : decode prog_20_method_5_code 72 = .ok (.invokevirtual 16, 3) := by decide +kernel
theorem od4_75 : decode prog_20_method_5_code 75 = .ok (.istore 5, 2) := by decide +kernel
theorem od4_77 : decode prog_20_method_5_code 77 = .ok (.aload_n 0, 1) := by decide +kernel
theorem od4_78 : decode prog_20_method_5_code 78 = .ok (.getfield 9, 3) := by decide +kernel
theorem od4_81 : decode prog_20_method_5_code 81 = .ok (.iload 5, 2) := by decide +kernel
theorem od4_83 : decode prog_20_method_5_code 83 = .ok (.lload_n 1, 1) := by decide +kernel
theorem od4_84 : decode prog_20_method_5_code 84 = .ok (.lastore, 1) := by decide +kernel
theorem od4_85 : decode prog_20_method_5_code 85 = .ok (.aload_n 0, 1) := by decide +kernel
theorem od4_86 : decode prog_20_method_5_code 86 = .ok (.getfield 13, 3) := by decide +kernel
theorem od4_89 : decode prog_20_method_5_code 89 = .ok (.iload 5, 2) := by decide +kernel
theorem od4_91 : decode prog_20_method_5_code 91 = .ok (.lload_n 3, 1) := by decide +kernel
theorem od4_92 : decode prog_20_method_5_code 92 = .ok (.lastore, 1) := by decide +kernel
theorem od4_93 : decode prog_20_method_5_code 93 = .ok (.aload_n 0, 1) := by decide +kernel
theorem od4_94 : decode prog_20_method_5_code 94 = .ok (.dup, 1) := by decide +kernel
theorem od4_95 : decode prog_20_method_5_code 95 = .ok (.getfield 28, 3) := by decide +kernel
theorem od4_98 : decode prog_20_method_5_code 98 = .ok (.iconst 1, 1) := by decide +kernel
theorem od4_99 : decode prog_20_method_5_code 99 = .ok (.iadd, 1) := by decide +kernel
theorem od4_100 : decode prog_20_method_5_code 100 = .ok (.putfield 28, 3) := by decide +kernel
theorem sne_19_28 {a0 : Array Value} {Z : State} (hw : ∀ d ∈ tables_1, d.before a0 Z = true) : Jvm.RoadKit.slotOf Z "com/example/steady_limiter/steadylimiter/SlidingWindowLog$PermitLog" "times" "[J" ≠ Jvm.RoadKit.slotOf Z "com/example/steady_limiter/steadylimiter/SlidingWindowLog$PermitLog" "size" "I" := slot_ne (C := "com/example/steady_limiter/steadylimiter/SlidingWindowLog$PermitLog") (a0 := a0) (Or.inl (ow19 hw)) (Or.inl (ow28 hw)) (by decide) pf__J pf_I
theorem sne_21_28 {a0 : Array Value} {Z : State} (hw : ∀ d ∈ tables_1, d.before a0 Z = true) : Jvm.RoadKit.slotOf Z "com/example/steady_limiter/steadylimiter/SlidingWindowLog$PermitLog" "permits" "[J" ≠ Jvm.RoadKit.slotOf Z "com/example/steady_limiter/steadylimiter/SlidingWindowLog$PermitLog" "size" "I" := slot_ne (C := "com/example/steady_limiter/steadylimiter/SlidingWindowLog$PermitLog") (a0 := a0) (Or.inl (ow21 hw)) (Or.inl (ow28 hw)) (by decide) pf__J pf_I
theorem sne_34_28 {a0 : Array Value} {Z : State} (hw : ∀ d ∈ tables_1, d.before a0 Z = true) : Jvm.RoadKit.slotOf Z "com/example/steady_limiter/steadylimiter/SlidingWindowLog$PermitLog" "head" "I" ≠ Jvm.RoadKit.slotOf Z "com/example/steady_limiter/steadylimiter/SlidingWindowLog$PermitLog" "size" "I" := slot_ne (C := "com/example/steady_limiter/steadylimiter/SlidingWindowLog$PermitLog") (a0 := a0) (Or.inl (ow34 hw)) (Or.inl (ow28 hw)) (by decide) pf_I pf_I
theorem sne_36_28 {a0 : Array Value} {Z : State} (hw : ∀ d ∈ tables_1, d.before a0 Z = true) : Jvm.RoadKit.slotOf Z "com/example/steady_limiter/steadylimiter/SlidingWindowLog$PermitLog" "counted" "J" ≠ Jvm.RoadKit.slotOf Z "com/example/steady_limiter/steadylimiter/SlidingWindowLog$PermitLog" "size" "I" := slot_ne (C := "com/example/steady_limiter/steadylimiter/SlidingWindowLog$PermitLog") (a0 := a0) (Or.inl (ow36 hw)) (Or.inl (ow28 hw)) (by decide) pf_J pf_I
theorem ef_own_addB0 (m : MethodId) (x0 : Addr) (x1 : Int64) (x2 : Int64) : entryFrame m #[(.ref x0), (.long x1), (.long x2)] 6 = mkF m 0 #[.val (.ref x0), .val (.long x1), .second, .val (.long x2), .second, .unset] [] := by first | (simp [entryFrame, mkF, argsToLocals, Value.category]; done) | rfl
set_option maxRecDepth 65536 in
set_option maxHeartbeats 40000000 in
theorem own_addB0 (l : Launch) (Z : State) (a0 : Array Value) (hw : ∀ d ∈ tables_1, d.before a0 Z = true) (n0 : Nat) (hO : Heap) (a : Addr) (t : Int64) (c : Int64) (ta : Addr) (pa : Addr) (hd : Int32) (sz : Int32) (cnt : Int64) (T : List Int64) (Pm : List Int64) (len : Int32) (y : Nat) (Z0 : n0 ≤ hO.size) (E_a : Exa Z hO a "com/example/steady_limiter/steadylimiter/SlidingWindowLog$PermitLog") (F_a_times : Fld Z hO a "com/example/steady_limiter/steadylimiter/SlidingWindowLog$PermitLog" "times" "[J" (.ref ta)) (F_a_permits : Fld Z hO a "com/example/steady_limiter/steadylimiter/SlidingWindowLog$PermitLog" "permits" "[J" (.ref pa)) (F_a_head : Fld Z hO a "com/example/steady_limiter/steadylimiter/SlidingWindowLog$PermitLog" "head" "I" (.int hd)) (F_a_size : Fld Z hO a "com/example/steady_limiter/steadylimiter/SlidingWindowLog$PermitLog" "size" "I" (.int sz)) (F_a_counted : Fld Z hO a "com/example/steady_limiter/steadylimiter/SlidingWindowLog$PermitLog" "counted" "J" (.long cnt)) (A_ta : AJ Z hO ta T) (A_pa : AJ Z hO pa Pm) (g_a : n0 ≤ a) (g_ta : n0 ≤ ta) (g_pa : n0 ≤ pa) (ne_a_ta : a ≠ ta) (ne_a_pa : a ≠ pa) (ne_ta_pa : ta ≠ pa) (hlen : len.toInt = (T.length : Int)) (h0 : ¬ (0 < sz)) (hy : ((hd + sz) &&& (len - (1 : Int32))).toInt = (y : Int)) (hyt : y < T.length) (hyp : y < Pm.length) (hnl : ¬ (sz = len)) :
    MeetsW l Z n0 (⟨"com/example/steady_limiter/steadylimiter/SlidingWindowLog$PermitLog", "add", "(JJ)V"⟩ : MethodName) prog_20_method_5_code 6 none ({ frames := 1, cells := 0, slots := 0, locals := 13 } : Room) #[(.ref a), (.long t), (.long c)] hO (RV fun h => Keep hO h [a, ta, pa] ∧ Fld Z h a "com/example/steady_limiter/steadylimiter/SlidingWindowLog$PermitLog" "times" "[J" (.ref ta) ∧ Fld Z h a "com/example/steady_limiter/steadylimiter/SlidingWindowLog$PermitLog" "permits" "[J" (.ref pa) ∧ Fld Z h a "com/example/steady_limiter/steadylimiter/SlidingWindowLog$PermitLog" "head" "I" (.int hd) ∧ Fld Z h a "com/example/steady_limiter/steadylimiter/SlidingWindowLog$PermitLog" "size" "I" (.int (sz + (1 : Int32))) ∧ Fld Z h a "com/example/steady_limiter/steadylimiter/SlidingWindowLog$PermitLog" "counted" "J" (.long (cnt + c)) ∧ AJ Z h ta (T.set y t) ∧ AJ Z h pa (Pm.set y c)) := by
  refine MeetsW.intro pn_com_example_steady_limiter_steadylimiter_SlidingWindowLog_PermitLog_add__JJ_V (fun m => ef_own_addB0 m a t c) ?_
  intro W C
  replace C : Ru l Z "com/example/steady_limiter/steadylimiter/SlidingWindowLog$PermitLog" prog_20_method_5_code 6 none "add" ({ frames := 1, cells := 0, slots := 0, locals := 13 } : Room) n0 (RV fun h => Keep hO h [a, ta, pa] ∧ Fld Z h a "com/example/steady_limiter/steadylimiter/SlidingWindowLog$PermitLog" "times" "[J" (.ref ta) ∧ Fld Z h a "com/example/steady_limiter/steadylimiter/SlidingWindowLog$PermitLog" "permits" "[J" (.ref pa) ∧ Fld Z h a "com/example/steady_limiter/steadylimiter/SlidingWindowLog$PermitLog" "head" "I" (.int hd) ∧ Fld Z h a "com/example/steady_limiter/steadylimiter/SlidingWindowLog$PermitLog" "size" "I" (.int (sz + (1 : Int32))) ∧ Fld Z h a "com/example/steady_limiter/steadylimiter/SlidingWindowLog$PermitLog" "counted" "J" (.long (cnt + c)) ∧ AJ Z h ta (T.set y t) ∧ AJ Z h pa (Pm.set y c)) W := C
  have K : Keep hO hO [a, ta, pa] := Keep.refl _ _
  refine C.aloadN (pc' := 1) od4_0 rfl rfl rfl ?_
  refine C.getf (ow27 hw) Via.refl F_a_size (pc' := 4) od4_1 rfl ?_
  refine C.if_le (pc' := 7) (pt := 44) od4_4 rfl rfl (fun c4 => ?_) (fun c4 => absurd c4 h0)
  refine C.aloadN (pc' := 45) od4_44 rfl rfl rfl ?_
  refine C.getf (ow27 hw) Via.refl F_a_size (pc' := 48) od4_45 rfl ?_
  refine C.aloadN (pc' := 49) od4_48 rfl rfl rfl ?_
  refine C.getf (ow18 hw) Via.refl F_a_times (pc' := 52) od4_49 rfl ?_
  refine C.lenAJ (z := len) A_ta hlen (pc' := 53) od4_52 rfl ?_
  refine C.icmp_ne (pc' := 56) (pt := 67) od4_53 rfl rfl (fun c53 => ?_) (fun c53 => absurd c53 hnl)
  refine C.aloadN (pc' := 68) od4_67 rfl rfl rfl ?_
  refine C.aloadN (pc' := 69) od4_68 rfl rfl rfl ?_
  refine C.getf (ow27 hw) Via.refl F_a_size (pc' := 72) od4_69 rfl ?_
  refine C.callp (w := 0) (own_rm5 l Z a0 hw n0 hO a sz ta hd T len F_a_head F_a_times A_ta hlen) E_a (ow29 hw) (ow30 hw) (ow3 hw) (ow31 hw) (ow4 hw) (ow32 hw) (pc' := 75) od4_72 rfl rfl rfl (by decide) pd__I_I rfl (by decide) (Nat.le_of_eq rfl) (by decide) (by decide) (by decide) (kIe ?_)
  refine C.istoreX (l' := #[.val (.ref a), .val (.long t), .second, .val (.long c), .second, .val (.int ((hd + sz) &&& (len - (1 : Int32))))]) (pc' := 77) od4_75 rfl rfl ?_
  refine C.aloadN (pc' := 78) od4_77 rfl rfl rfl ?_
  refine C.getf (ow18 hw) Via.refl F_a_times (pc' := 81) od4_78 rfl ?_
  refine C.iload (pc' := 83) od4_81 rfl rfl ?_
  refine C.lloadN (pc' := 84) od4_83 rfl rfl ?_
  refine C.stAJ (i := y) A_ta hy hyt g_ta (pc' := 85) od4_84 rfl (fun h84 X84 B84 => ?_)
  replace E_a := E_a.wr X84
  replace F_a_times := F_a_times.other X84 (Or.inl ne_a_ta)
  replace F_a_permits := F_a_permits.other X84 (Or.inl ne_a_ta)
  replace F_a_head := F_a_head.other X84 (Or.inl ne_a_ta)
  replace F_a_size := F_a_size.other X84 (Or.inl ne_a_ta)
  replace F_a_counted := F_a_counted.other X84 (Or.inl ne_a_ta)
  replace A_pa := A_pa.other X84 (Ne.symm ne_ta_pa)
  have A_ta : AJ Z h84 ta (T.set y t) := B84
  replace K := K.wr X84 (Or.inl (List.mem_of_getElem? (i := 1) rfl))
  refine C.aloadN (pc' := 86) od4_85 rfl rfl rfl ?_
  refine C.getf (ow20 hw) Via.refl F_a_permits (pc' := 89) od4_86 rfl ?_
  refine C.iload (pc' := 91) od4_89 rfl rfl ?_
  refine C.lloadN (pc' := 92) od4_91 rfl rfl ?_
  refine C.stAJ (i := y) A_pa hy hyp g_pa (pc' := 93) od4_92 rfl (fun h92 X92 B92 => ?_)
  replace E_a := E_a.wr X92
  replace F_a_times := F_a_times.other X92 (Or.inl ne_a_pa)
  replace F_a_permits := F_a_permits.other X92 (Or.inl ne_a_pa)
  replace F_a_head := F_a_head.other X92 (Or.inl ne_a_pa)
  replace F_a_size := F_a_size.other X92 (Or.inl ne_a_pa)
  replace F_a_counted := F_a_counted.other X92 (Or.inl ne_a_pa)
  replace A_ta := A_ta.other X92 ne_ta_pa
  have A_pa : AJ Z h92 pa (Pm.set y c) := B92
  replace K := K.wr X92 (Or.inl (List.mem_of_getElem? (i := 2) rfl))
  refine C.aloadN (pc' := 94) od4_93 rfl rfl rfl ?_
  refine C.dup (pc' := 95) od4_94 rfl rfl ?_
  refine C.getf (ow27 hw) Via.refl F_a_size (pc' := 98) od4_95 rfl ?_
  refine C.iconst (v := 1) (pc' := 99) od4_98 rfl rfl ?_
  refine C.iadd (pc' := 100) od4_99 rfl ?_
  refine C.putf (ow27 hw) Via.refl F_a_size E_a (Or.inl (ow28 hw)) (ow3 hw) pf_I rfl rfl g_a (pc' := 103) od4_100 rfl (fun h100 X100 => ?_)
  replace F_a_size := F_a_size.same X100
  replace E_a := E_a.wr X100
  replace F_a_times := F_a_times.other X100 (Or.inr (sne_19_28 hw))
  replace F_a_permits := F_a_permits.other X100 (Or.inr (sne_21_28 hw))
  replace F_a_head := F_a_head.other X100 (Or.inr (sne_34_28 hw))
  replace F_a_counted := F_a_counted.other X100 (Or.inr (sne_36_28 hw))
  replace A_ta := A_ta.other X100 (Ne.symm ne_a_ta)
  replace A_pa := A_pa.other X100 (Ne.symm ne_a_pa)
  replace K := K.wr X100 (Or.inl (List.mem_of_getElem? (i := 0) rfl))
  refine C.aloadN (pc' := 104) od4_103 rfl rfl rfl ?_
  refine C.dup (pc' := 105) od4_104 rfl rfl ?_
  refine C.getf (ow35 hw) Via.refl F_a_counted (pc' := 108) od4_105 rfl ?_
  refine C.lloadN (pc' := 109) od4_108 rfl rfl ?_
  refine C.ladd (pc' := 110) od4_109 rfl ?_
  refine C.putf (ow35 hw) Via.refl F_a_counted E_a (Or.inl (ow36 hw)) (ow3 hw) pf_J rfl rfl g_a (pc' := 113) od4_110 rfl (fun h110 X110 => ?_)
  replace F_a_counted := F_a_counted.same X110
  replace E_a := E_a.wr X110
  replace F_a_times := F_a_times.other X110 (Or.inr (sne_19_36 hw))
  replace F_a_permits := F_a_permits.other X110 (Or.inr (sne_21_36 hw))
  replace F_a_head := F_a_head.other X110 (Or.inr (sne_34_36 hw))
  replace A_ta := A_ta.other X110 (Ne.symm ne_a_ta)
  replace A_pa := A_pa.other X110 (Ne.symm ne_a_pa)
  replace F_a_size := F_a_size.other X110 (Or.inr (sne_28_36 hw))
  replace K := K.wr X110 (Or.inl (List.mem_of_getElem? (i := 0) rfl))
  refine C.retV rfl od4_113 (by decide) (by decide) ⟨rfl, ?_⟩
  exact ⟨K, F_a_times, F_a_permits, F_a_head, F_a_size, F_a_counted, A_ta, A_pa⟩
theorem ef_own_addB1 (m : MethodId) (x0 : Addr) (x1 : Int64) (x2 : Int64) : entryFrame m #[(.ref x0), (.long x1), (.long x2)] 6 = mkF m 0 #[.val (.ref x0), .val (.long x1), .second, .val (.long x2), .second, .unset] [] := by first | (simp [entryFrame, mkF, argsToLocals, Value.category]; done) | rfl
set_option maxRecDepth 65536 in
set_option maxHeartbeats 40000000 in
theorem own_addB1 (l : Launch) (Z : State) (a0 : Array Value) (hw : ∀ d ∈ tables_1, d.before a0 Z = true) (n0 : Nat) (hO : Heap) (a : Addr) (t : Int64) (c : Int64) (ta : Addr) (pa : Addr) (hd : Int32) (sz : Int32) (cnt : Int64) (T : List Int64) (Pm : List Int64) (len : Int32) (x : Nat) (y : Nat) (Z0 : n0 ≤ hO.size) (E_a : Exa Z hO a "com/example/steady_limiter/steadylimiter/SlidingWindowLog$PermitLog") (F_a_times : Fld Z hO a "com/example/steady_limiter/steadylimiter/SlidingWindowLog$PermitLog" "times" "[J" (.ref ta)) (F_a_permits : Fld Z hO a "com/example/steady_limiter/steadylimiter/SlidingWindowLog$PermitLog" "permits" "[J" (.ref pa)) (F_a_head : Fld Z hO a "com/example/steady_limiter/steadylimiter/SlidingWindowLog$PermitLog" "head" "I" (.int hd)) (F_a_size : Fld Z hO a "com/example/steady_limiter/steadylimiter/SlidingWindowLog$PermitLog" "size" "I" (.int sz)) (F_a_counted : Fld Z hO a "com/example/steady_limiter/steadylimiter/SlidingWindowLog$PermitLog" "counted" "J" (.long cnt)) (A_ta : AJ Z hO ta T) (A_pa : AJ Z hO pa Pm) (g_a : n0 ≤ a) (g_ta : n0 ≤ ta) (g_pa : n0 ≤ pa) (ne_a_ta : a ≠ ta) (ne_a_pa : a ≠ pa) (ne_ta_pa : ta ≠ pa) (hlen : len.toInt = (T.length : Int)) (h0 : 0 < sz) (hx : ((hd + (sz - (1 : Int32))) &&& (len - (1 : Int32))).toInt = (x : Int)) (hxt : x < T.length) (hxp : x < Pm.length) (hne : ¬ (T.getD x 0 = t)) (hy : ((hd + sz) &&& (len - (1 : Int32))).toInt = (y : Int)) (hyt : y < T.length) (hyp : y < Pm.length) (hnl : ¬ (sz = len)) :
    MeetsW l Z n0 (⟨"com/example/steady_limiter/steadylimiter/SlidingWindowLog$PermitLog", "add", "(JJ)V"⟩ : MethodName) prog_20_method_5_code 6 none ({ frames := 2, cells := 0, slots := 0, locals := 27 } : Room) #[(.ref a), (.long t), (.long c)] hO (RV fun h => Keep hO h [a, ta, pa] ∧ Fld Z h a "com/example/steady_limiter/steadylimiter/SlidingWindowLog$PermitLog" "times" "[J" (.ref ta) ∧ Fld Z h a "com/example/steady_limiter/steadylimiter/SlidingWindowLog$PermitLog" "permits" "[J" (.ref pa) ∧ Fld Z h a "com/example/steady_limiter/steadylimiter/SlidingWindowLog$PermitLog" "head" "I" (.int hd) ∧ Fld Z h a "com/example/steady_limiter/steadylimiter/SlidingWindowLog$PermitLog" "size" "I" (.int (sz + (1 : Int32))) ∧ Fld Z h a "com/example/steady_limiter/steadylimiter/SlidingWindowLog$PermitLog" "counted" "J" (.long (cnt + c)) ∧ AJ Z h ta (T.set y t) ∧ AJ Z h pa (Pm.set y c)) := by
  refine MeetsW.intro pn_com_example_steady_limiter_steadylimiter_SlidingWindowLog_PermitLog_add__JJ_V (fun m => ef_own_addB1 m a t c) ?_
  intro W C
  replace C : Ru l Z "com/example/steady_limiter/steadylimiter/SlidingWindowLog$PermitLog" prog_20_method_5_code 6 none "add" ({ frames := 2, cells := 0, slots := 0, locals := 27 } : Room) n0 (RV fun h => Keep hO h [a, ta, pa] ∧ Fld Z h a "com/example/steady_limiter/steadylimiter/SlidingWindowLog$PermitLog" "times" "[J" (.ref ta) ∧ Fld Z h a "com/example/steady_limiter/steadylimiter/SlidingWindowLog$PermitLog" "permits" "[J" (.ref pa) ∧ Fld Z h a "com/example/steady_limiter/steadylimiter/SlidingWindowLog$PermitLog" "head" "I" (.int hd) ∧ Fld Z h a "com/example/steady_limiter/steadylimiter/SlidingWindowLog$PermitLog" "size" "I" (.int (sz + (1 : Int32))) ∧ Fld Z h a "com/example/steady_limiter/steadylimiter/SlidingWindowLog$PermitLog" "counted" "J" (.long (cnt + c)) ∧ AJ Z h ta (T.set y t) ∧ AJ Z h pa (Pm.set y c)) W := C
  have K : Keep hO hO [a, ta, pa] := Keep.refl _ _
  refine C.aloadN (pc' := 1) od4_0 rfl rfl rfl ?_
  refine C.getf (ow27 hw) Via.refl F_a_size (pc' := 4) od4_1 rfl ?_
  refine C.if_le (pc' := 7) (pt := 44) od4_4 rfl rfl (fun c4 => absurd h0 c4) (fun c4 => ?_)
  refine C.aloadN (pc' := 8) od4_7 rfl rfl rfl ?_
  refine C.aloadN (pc' := 9) od4_8 rfl rfl rfl ?_
  refine C.getf (ow27 hw) Via.refl F_a_size (pc' := 12) od4_9 rfl ?_
  refine C.iconst (v := 1) (pc' := 13) od4_12 rfl rfl ?_
  refine C.isub (pc' := 14) od4_13 rfl ?_
  refine C.callv (w := 0) (own_rm6 l Z a0 hw n0 hO a (sz - (1 : Int32)) ta hd T len x E_a F_a_head F_a_times A_ta hlen hx hxt) E_a (ow37 hw) (ow38 hw) (ow40 hw) (ow39 hw) (ow4 hw) (ow41 hw) (pc' := 17) od4_14 rfl rfl rfl (by decide) pd__I_J rfl (by decide) (Nat.le_of_eq rfl) (by decide) (by decide) (by decide) (kJe ?_)
  refine C.lloadN (pc' := 18) od4_17 rfl rfl ?_
  refine C.lif_ne (pc' := 22) (pt := 44) od4_18 rfl od4_19 rfl rfl (fun c18 => ?_) (fun c18 => absurd c18 hne)
  refine C.aloadN (pc' := 45) od4_44 rfl rfl rfl ?_
  refine C.getf (ow27 hw) Via.refl F_a_size (pc' := 48) od4_45 rfl ?_
  refine C.aloadN (pc' := 49) od4_48 rfl rfl rfl ?_
  refine C.getf (ow18 hw) Via.refl F_a_times (pc' := 52) od4_49 rfl ?_
  refine C.lenAJ (z := len) A_ta hlen (pc' := 53) od4_52 rfl ?_
  refine C.icmp_ne (pc' := 56) (pt := 67) od4_53 rfl rfl (fun c53 => ?_) (fun c53 => absurd c53 hnl)
  refine C.aloadN (pc' := 68) od4_67 rfl rfl rfl ?_
  refine C.aloadN (pc' := 69) od4_68 rfl rfl rfl ?_
  refine C.getf (ow27 hw) Via.refl F_a_size (pc' := 72) od4_69 rfl ?_
  refine C.callp (w := 0) (own_rm5 l Z a0 hw n0 hO a sz ta hd T len F_a_head F_a_times A_ta hlen) E_a (ow29 hw) (ow30 hw) (ow3 hw) (ow31 hw) (ow4 hw) (ow32 hw) (pc' := 75) od4_72 rfl rfl rfl (by decide) pd__I_I rfl (by decide) (Nat.le_of_eq rfl) (by decide) (by decide) (by decide) (kIe ?_)
  refine C.istoreX (l' := #[.val (.ref a), .val (.long t), .second, .val (.long c), .second, .val (.int ((hd + sz) &&& (len - (1 : Int32))))]) (pc' := 77) od4_75 rfl rfl ?_
  refine C.aloadN (pc' := 78) od4_77 rfl rfl rfl ?_
  refine C.getf (ow18 hw) Via.refl F_a_times (pc' := 81) od4_78 rfl ?_
  refine C.iload (pc' := 83) od4_81 rfl rfl ?_
  refine C.lloadN (pc' := 84) od4_83 rfl rfl ?_
  refine C.stAJ (i := y) A_ta hy hyt g_ta (pc' := 85) od4_84 rfl (fun h84 X84 B84 => ?_)
  replace E_a := E_a.wr X84
  replace F_a_times := F_a_times.other X84 (Or.inl ne_a_ta)
  replace F_a_permits := F_a_permits.other X84 (Or.inl ne_a_ta)
  replace F_a_head := F_a_head.other X84 (Or.inl ne_a_ta)
  replace F_a_size := F_a_size.other X84 (Or.inl ne_a_ta)
  replace F_a_counted := F_a_counted.other X84 (Or.inl ne_a_ta)
  replace A_pa := A_pa.other X84 (Ne.symm ne_ta_pa)
  have A_ta : AJ Z h84 ta (T.set y t) := B84
  replace K := K.wr X84 (Or.inl (List.mem_of_getElem? (i := 1) rfl))
  refine C.aloadN (pc' := 86) od4_85 rfl rfl rfl ?_
  refine C.getf (ow20 hw) Via.refl F_a_permits (pc' := 89) od4_86 rfl ?_
  refine C.iload (pc' := 91) od4_89 rfl rfl ?_
  refine C.lloadN (pc' := 92) od4_91 rfl rfl ?_
  refine C.stAJ (i := y) A_pa hy hyp g_pa (pc' := 93) od4_92 rfl (fun h92 X92 B92 => ?_)
  replace E_a := E_a.wr X92
  replace F_a_times := F_a_times.other X92 (Or.inl ne_a_pa)
  replace F_a_permits := F_a_permits.other X92 (Or.inl ne_a_pa)
  replace F_a_head := F_a_head.other X92 (Or.inl ne_a_pa)
  replace F_a_size := F_a_size.other X92 (Or.inl ne_a_pa)
  replace F_a_counted := F_a_counted.other X92 (Or.inl ne_a_pa)
  replace A_ta := A_ta.other X92 ne_ta_pa
  have A_pa : AJ Z h92 pa (Pm.set y c) := B92
  replace K := K.wr X92 (Or.inl (List.mem_of_getElem? (i := 2) rfl))
  refine C.aloadN (pc' := 94) od4_93 rfl rfl rfl ?_
  refine C.dup (pc' := 95) od4_94 rfl rfl ?_
  refine C.getf (ow27 hw) Via.refl F_a_size (pc' := 98) od4_95 rfl ?_
  refine C.iconst (v := 1) (pc' := 99) od4_98 rfl rfl ?_
  refine C.iadd (pc' := 100) od4_99 rfl ?_
  refine C.putf (ow27 hw) Via.refl F_a_size E_a (Or.inl (ow28 hw)) (ow3 hw) pf_I rfl rfl g_a (pc' := 103) od4_100 rfl (fun h100 X100 => ?_)
  replace F_a_size := F_a_size.same X100
  replace E_a := E_a.wr X100
  replace F_a_times := F_a_times.other X100 (Or.inr (sne_19_28 hw))
  replace F_a_permits := F_a_permits.other X100 (Or.inr (sne_21_28 hw))
  replace F_a_head := F_a_head.other X100 (Or.inr (sne_34_28 hw))
  replace F_a_counted := F_a_counted.other X100 (Or.inr (sne_36_28 hw))
  replace A_ta := A_ta.other X100 (Ne.symm ne_a_ta)
  replace A_pa := A_pa.other X100 (Ne.symm ne_a_pa)
  replace K := K.wr X100 (Or.inl (List.mem_of_getElem? (i := 0) rfl))
  refine C.aloadN (pc' := 104) od4_103 rfl rfl rfl ?_
  refine C.dup (pc' := 105) od4_104 rfl rfl ?_
  refine C.getf (ow35 hw) Via.refl F_a_counted (pc' := 108) od4_105 rfl ?_
  refine C.lloadN (pc' := 109) od4_108 rfl rfl ?_
  refine C.ladd (pc' := 110) od4_109 rfl ?_
  refine C.putf (ow35 hw) Via.refl F_a_counted E_a (Or.inl (ow36 hw)) (ow3 hw) pf_J rfl rfl g_a (pc' := 113) od4_110 rfl (fun h110 X110 => ?_)
  replace F_a_counted := F_a_counted.same X110
  replace E_a := E_a.wr X110
  replace F_a_times := F_a_times.other X110 (Or.inr (sne_19_36 hw))
  replace F_a_permits := F_a_permits.other X110 (Or.inr (sne_21_36 hw))
  replace F_a_head := F_a_head.other X110 (Or.inr (sne_34_36 hw))
  replace A_ta := A_ta.other X110 (Ne.symm ne_a_ta)
  replace A_pa := A_pa.other X110 (Ne.symm ne_a_pa)
  replace F_a_size := F_a_size.other X110 (Or.inr (sne_28_36 hw))
  replace K := K.wr X110 (Or.inl (List.mem_of_getElem? (i := 0) rfl))
  refine C.retV rfl od4_113 (by decide) (by decide) ⟨rfl, ?_⟩
  exact ⟨K, F_a_times, F_a_permits, F_a_head, F_a_size, F_a_counted, A_ta, A_pa⟩
theorem od4_56 : decode prog_20_method_5_code 56 = .ok (.aload_n 0, 1) := by decide +kernel
theorem od4_57 : decode prog_20_method_5_code 57 = .ok (.aload_n 0, 1) := by decide +kernel
theorem od4_58 : decode prog_20_method_5_code 58 = .ok (.getfield 9, 3) := by decide +kernel
theorem od4_61 : decode prog_20_method_5_code 61 = .ok (.arraylength, 1) := by decide +kernel
theorem od4_62 : decode prog_20_method_5_code 62 = .ok (.iconst 2, 1) := by decide +kernel
theorem od4_63 : decode prog_20_method_5_code 63 = .ok (.imul, 1) := by decide +kernel
theorem od4_64 : decode prog_20_method_5_code 64 = .ok (.invokevirtual 31, 3) := by decide +kernel
theorem pd__I_V : parseMethodDescriptor "(I)V" = some ⟨[.int], none⟩ := by decide +kernel
theorem ow62 {a0 : Array Value} {Z : State} (hw : ∀ d ∈ tables_1, d.before a0 Z = true) : (Jvm.Cond.code ({ cls := "com/example/steady_limiter/steadylimiter/SlidingWindowLog$PermitLog", name := "resize", desc := "(I)V" } : Jvm.MethodName) prog_20_method_7_code (5 : Nat) (Option.none : Option Jvm.ClassFile.FieldType)).before a0 Z = true := hw _ (List.mem_of_getElem? (i := 62) rfl)
theorem ow59 {a0 : Array Value} {Z : State} (hw : ∀ d ∈ tables_1, d.before a0 Z = true) : (Jvm.Cond.methodLink "com/example/steady_limiter/steadylimiter/SlidingWindowLog$PermitLog" (31 : Nat) ({ cls := "com/example/steady_limiter/steadylimiter/SlidingWindowLog$PermitLog", name := "resize", desc := "(I)V" } : Jvm.MethodName)).before a0 Z = true := hw _ (List.mem_of_getElem? (i := 59) rfl)
theorem ow60 {a0 : Array Value} {Z : State} (hw : ∀ d ∈ tables_1, d.before a0 Z = true) : (Jvm.Cond.instanceMethod ({ cls := "com/example/steady_limiter/steadylimiter/SlidingWindowLog$PermitLog", name := "resize", desc := "(I)V" } : Jvm.MethodName)).before a0 Z = true := hw _ (List.mem_of_getElem? (i := 60) rfl)
theorem ow61 {a0 : Array Value} {Z : State} (hw : ∀ d ∈ tables_1, d.before a0 Z = true) : (Jvm.Cond.privateMethod ({ cls := "com/example/steady_limiter/steadylimiter/SlidingWindowLog$PermitLog", name := "resize", desc := "(I)V" } : Jvm.MethodName)).before a0 Z = true := hw _ (List.mem_of_getElem? (i := 61) rfl)
theorem ef_own_addC (m : MethodId) (x0 : Addr) (x1 : Int64) (x2 : Int64) : entryFrame m #[(.ref x0), (.long x1), (.long x2)] 6 = mkF m 0 #[.val (.ref x0), .val (.long x1), .second, .val (.long x2), .second, .unset] [] := by first | (simp [entryFrame, mkF, argsToLocals, Value.category]; done) | rfl
set_option maxRecDepth 65536 in
set_option maxHeartbeats 40000000 in
theorem own_addC (l : Launch) (Z : State) (a0 : Array Value) (hw : ∀ d ∈ tables_1, d.before a0 Z = true) (n0 : Nat) (hO : Heap) (a : Addr) (t : Int64) (c : Int64) (ta : Addr) (pa : Addr) (hd : Int32) (sz : Int32) (cnt : Int64) (t0 : Int64) (t1 : Int64) (p0 : Int64) (p1 : Int64) (x : Nat) (x0 : Nat) (x1 : Nat) (Z0 : n0 ≤ hO.size) (E_a : Exa Z hO a "com/example/steady_limiter/steadylimiter/SlidingWindowLog$PermitLog") (F_a_times : Fld Z hO a "com/example/steady_limiter/steadylimiter/SlidingWindowLog$PermitLog" "times" "[J" (.ref ta)) (F_a_permits : Fld Z hO a "com/example/steady_limiter/steadylimiter/SlidingWindowLog$PermitLog" "permits" "[J" (.ref pa)) (F_a_head : Fld Z hO a "com/example/steady_limiter/steadylimiter/SlidingWindowLog$PermitLog" "head" "I" (.int hd)) (F_a_size : Fld Z hO a "com/example/steady_limiter/steadylimiter/SlidingWindowLog$PermitLog" "size" "I" (.int sz)) (F_a_counted : Fld Z hO a "com/example/steady_limiter/steadylimiter/SlidingWindowLog$PermitLog" "counted" "J" (.long cnt)) (A_ta : AJ Z hO ta [t0, t1]) (A_pa : AJ Z hO pa [p0, p1]) (g_a : n0 ≤ a) (ne_a_ta : a ≠ ta) (ne_a_pa : a ≠ pa) (hsz : sz = (2 : Int32)) (hx : ((hd + (sz - (1 : Int32))) &&& ((2 : Int32) - (1 : Int32))).toInt = (x : Int)) (hxt : x < 2) (hne : ¬ ([t0, t1].getD x 0 = t)) (hx0 : ((hd + (0 : Int32)) &&& ((2 : Int32) - (1 : Int32))).toInt = (x0 : Int)) (hx1 : ((hd + (1 : Int32)) &&& ((2 : Int32) - (1 : Int32))).toInt = (x1 : Int)) (h2 : x0 < 2) (h3 : x1 < 2) :
    MeetsW l Z n0 (⟨"com/example/steady_limiter/steadylimiter/SlidingWindowLog$PermitLog", "add", "(JJ)V"⟩ : MethodName) prog_20_method_5_code 6 none ({ frames := 3, cells := 2, slots := 8, locals := 45 } : Room) #[(.ref a), (.long t), (.long c)] hO (RV fun h => ∃ tb : Addr, ∃ pb : Addr, Keep hO h [a] ∧ hO.size ≤ tb ∧ hO.size ≤ pb ∧ tb ≠ pb ∧ Fld Z h a "com/example/steady_limiter/steadylimiter/SlidingWindowLog$PermitLog" "times" "[J" (.ref tb) ∧ Fld Z h a "com/example/steady_limiter/steadylimiter/SlidingWindowLog$PermitLog" "permits" "[J" (.ref pb) ∧ Fld Z h a "com/example/steady_limiter/steadylimiter/SlidingWindowLog$PermitLog" "head" "I" (.int (0 : Int32)) ∧ Fld Z h a "com/example/steady_limiter/steadylimiter/SlidingWindowLog$PermitLog" "size" "I" (.int (sz + (1 : Int32))) ∧ Fld Z h a "com/example/steady_limiter/steadylimiter/SlidingWindowLog$PermitLog" "counted" "J" (.long (cnt + c)) ∧ AJ Z h tb [([t0, t1].getD x0 0), ([t0, t1].getD x1 0), t, (0 : Int64)] ∧ AJ Z h pb [([p0, p1].getD x0 0), ([p0, p1].getD x1 0), c, (0 : Int64)]) := by
  refine MeetsW.intro pn_com_example_steady_limiter_steadylimiter_SlidingWindowLog_PermitLog_add__JJ_V (fun m => ef_own_addC m a t c) ?_
  intro W C
  replace C : Ru l Z "com/example/steady_limiter/steadylimiter/SlidingWindowLog$PermitLog" prog_20_method_5_code 6 none "add" ({ frames := 3, cells := 2, slots := 8, locals := 45 } : Room) n0 (RV fun h => ∃ tb : Addr, ∃ pb : Addr, Keep hO h [a] ∧ hO.size ≤ tb ∧ hO.size ≤ pb ∧ tb ≠ pb ∧ Fld Z h a "com/example/steady_limiter/steadylimiter/SlidingWindowLog$PermitLog" "times" "[J" (.ref tb) ∧ Fld Z h a "com/example/steady_limiter/steadylimiter/SlidingWindowLog$PermitLog" "permits" "[J" (.ref pb) ∧ Fld Z h a "com/example/steady_limiter/steadylimiter/SlidingWindowLog$PermitLog" "head" "I" (.int (0 : Int32)) ∧ Fld Z h a "com/example/steady_limiter/steadylimiter/SlidingWindowLog$PermitLog" "size" "I" (.int (sz + (1 : Int32))) ∧ Fld Z h a "com/example/steady_limiter/steadylimiter/SlidingWindowLog$PermitLog" "counted" "J" (.long (cnt + c)) ∧ AJ Z h tb [([t0, t1].getD x0 0), ([t0, t1].getD x1 0), t, (0 : Int64)] ∧ AJ Z h pb [([p0, p1].getD x0 0), ([p0, p1].getD x1 0), c, (0 : Int64)]) W := C
  have K : Keep hO hO [a] := Keep.refl _ _
  refine C.aloadN (pc' := 1) od4_0 rfl rfl rfl ?_
  refine C.getf (ow27 hw) Via.refl F_a_size (pc' := 4) od4_1 rfl ?_
  refine C.if_le (pc' := 7) (pt := 44) od4_4 rfl rfl (fun c4 => absurd (by rw [hsz]; decide) c4) (fun c4 => ?_)
  refine C.aloadN (pc' := 8) od4_7 rfl rfl rfl ?_
  refine C.aloadN (pc' := 9) od4_8 rfl rfl rfl ?_
  refine C.getf (ow27 hw) Via.refl F_a_size (pc' := 12) od4_9 rfl ?_
  refine C.iconst (v := 1) (pc' := 13) od4_12 rfl rfl ?_
  refine C.isub (pc' := 14) od4_13 rfl ?_
  refine C.callv (w := 0) (own_rm6 l Z a0 hw n0 hO a (sz - (1 : Int32)) ta hd [t0, t1] (2 : Int32) x E_a F_a_head F_a_times A_ta (show (2 : Int32).toInt = ((2 : Nat) : Int) from by decide) hx hxt) E_a (ow37 hw) (ow38 hw) (ow40 hw) (ow39 hw) (ow4 hw) (ow41 hw) (pc' := 17) od4_14 rfl rfl rfl (by decide) pd__I_J rfl (by decide) (Nat.le_of_eq rfl) (by decide) (by decide) (by decide) (kJe ?_)
  refine C.lloadN (pc' := 18) od4_17 rfl rfl ?_
  refine C.lif_ne (pc' := 22) (pt := 44) od4_18 rfl od4_19 rfl rfl (fun c18 => ?_) (fun c18 => absurd c18 hne)
  refine C.aloadN (pc' := 45) od4_44 rfl rfl rfl ?_
  refine C.getf (ow27 hw) Via.refl F_a_size (pc' := 48) od4_45 rfl ?_
  refine C.aloadN (pc' := 49) od4_48 rfl rfl rfl ?_
  refine C.getf (ow18 hw) Via.refl F_a_times (pc' := 52) od4_49 rfl ?_
  refine C.lenAJ (z := 2) A_ta (by show (2 : Int32).toInt = ((2 : Nat) : Int); decide) (pc' := 53) od4_52 rfl ?_
  refine C.icmp_ne (pc' := 56) (pt := 67) od4_53 rfl rfl (fun c53 => absurd hsz c53) (fun c53 => ?_)
  refine C.aloadN (pc' := 57) od4_56 rfl rfl rfl ?_
  refine C.aloadN (pc' := 58) od4_57 rfl rfl rfl ?_
  refine C.getf (ow18 hw) Via.refl F_a_times (pc' := 61) od4_58 rfl ?_
  refine C.lenAJ (z := 2) A_ta (by show (2 : Int32).toInt = ((2 : Nat) : Int); decide) (pc' := 62) od4_61 rfl ?_
  refine C.iconst (v := 2) (pc' := 63) od4_62 rfl rfl ?_
  refine C.imul (pc' := 64) od4_63 rfl ?_
  refine C.callp (w := 0) (own_resize2 l Z a0 hw n0 hO a ((2 : Int32) * (2 : Int32)) ta pa hd sz cnt [t0, t1] [p0, p1] (2 : Int32) x0 x1 (Nat.le_trans Z0 K.1) E_a F_a_times F_a_permits F_a_head F_a_size F_a_counted A_ta A_pa g_a ne_a_ta ne_a_pa (show (2 : Int32).toInt = ((2 : Nat) : Int) from by decide) (by decide) hsz hx0 h2 h2 hx1 h3 h3) E_a (ow59 hw) (ow60 hw) (ow3 hw) (ow61 hw) (ow4 hw) (ow62 hw) (pc' := 67) od4_64 rfl rfl rfl (by decide) pd__I_V rfl (by decide) (Nat.le_of_eq rfl) (by decide) (by decide) (by decide) (kV fun h64 q64 => ?_)
  obtain ⟨tb64, pb64, K64, z64_tb64, z64_pb64, ne_tb64_pb64, N64_0, N64_1, N64_2, N64_3, N64_4, N64_5, N64_6⟩ := q64
  have ne_a_tb64 : a ≠ tb64 := Nat.ne_of_lt (Nat.lt_of_lt_of_le (exaLt E_a) z64_tb64)
  have ne_ta_tb64 : ta ≠ tb64 := Nat.ne_of_lt (Nat.lt_of_lt_of_le A_ta.lt z64_tb64)
  have ne_pa_tb64 : pa ≠ tb64 := Nat.ne_of_lt (Nat.lt_of_lt_of_le A_pa.lt z64_tb64)
  have sz_tb64 : hO.size ≤ tb64 := Nat.le_trans K.1 z64_tb64
  have g_tb64 : n0 ≤ tb64 := Nat.le_trans Z0 sz_tb64
  have ne_a_pb64 : a ≠ pb64 := Nat.ne_of_lt (Nat.lt_of_lt_of_le (exaLt E_a) z64_pb64)
  have ne_ta_pb64 : ta ≠ pb64 := Nat.ne_of_lt (Nat.lt_of_lt_of_le A_ta.lt z64_pb64)
  have ne_pa_pb64 : pa ≠ pb64 := Nat.ne_of_lt (Nat.lt_of_lt_of_le A_pa.lt z64_pb64)
  have sz_pb64 : hO.size ≤ pb64 := Nat.le_trans K.1 z64_pb64
  have g_pb64 : n0 ≤ pb64 := Nat.le_trans Z0 sz_pb64
  replace E_a := E_a.keep K64
  replace A_ta := A_ta.keep K64 (ninS (Ne.symm ne_a_ta) nin0)
  replace A_pa := A_pa.keep K64 (ninS (Ne.symm ne_a_pa) nin0)
  have F_a_times : Fld Z h64 a "com/example/steady_limiter/steadylimiter/SlidingWindowLog$PermitLog" "times" "[J" (.ref tb64) := N64_0
  have F_a_permits : Fld Z h64 a "com/example/steady_limiter/steadylimiter/SlidingWindowLog$PermitLog" "permits" "[J" (.ref pb64) := N64_1
  have F_a_head : Fld Z h64 a "com/example/steady_limiter/steadylimiter/SlidingWindowLog$PermitLog" "head" "I" (.int (0 : Int32)) := N64_2
  have F_a_size : Fld Z h64 a "com/example/steady_limiter/steadylimiter/SlidingWindowLog$PermitLog" "size" "I" (.int sz) := N64_3
  have F_a_counted : Fld Z h64 a "com/example/steady_limiter/steadylimiter/SlidingWindowLog$PermitLog" "counted" "J" (.long cnt) := N64_4
  have A_tb64 : AJ Z h64 tb64 [([t0, t1].getD x0 0), ([t0, t1].getD x1 0), (0 : Int64), (0 : Int64)] := N64_5
  have A_pb64 : AJ Z h64 pb64 [([p0, p1].getD x0 0), ([p0, p1].getD x1 0), (0 : Int64), (0 : Int64)] := N64_6
  replace K := K.trans K64 (allS (Or.inl (List.mem_of_getElem? (i := 0) rfl)) all0)
  refine C.aloadN (pc' := 68) od4_67 rfl rfl rfl ?_
  refine C.aloadN (pc' := 69) od4_68 rfl rfl rfl ?_
  refine C.getf (ow27 hw) Via.refl F_a_size (pc' := 72) od4_69 rfl ?_
  refine C.callp (w := 0) (own_rm5 l Z a0 hw n0 h64 a sz tb64 (0 : Int32) [([t0, t1].getD x0 0), ([t0, t1].getD x1 0), (0 : Int64), (0 : Int64)] (4 : Int32) F_a_head F_a_times A_tb64 (show (4 : Int32).toInt = ((4 : Nat) : Int) from by decide)) E_a (ow29 hw) (ow30 hw) (ow3 hw) (ow31 hw) (ow4 hw) (ow32 hw) (pc' := 75) od4_72 rfl rfl rfl (by decide) pd__I_I rfl (by decide) (Nat.le_of_eq rfl) (by decide) (by decide) (by decide) (kIe ?_)
  refine C.istoreX (l' := #[.val (.ref a), .val (.long t), .second, .val (.long c), .second, .val (.int (((0 : Int32) + sz) &&& ((4 : Int32) - (1 : Int32))))]) (pc' := 77) od4_75 rfl rfl ?_
  refine C.aloadN (pc' := 78) od4_77 rfl rfl rfl ?_
  refine C.getf (ow18 hw) Via.refl F_a_times (pc' := 81) od4_78 rfl ?_
  refine C.iload (pc' := 83) od4_81 rfl rfl ?_
  refine C.lloadN (pc' := 84) od4_83 rfl rfl ?_
  refine C.stAJ (i := 2) A_tb64 (by rw [hsz]; decide) (show 2 < 4 from by decide) g_tb64 (pc' := 85) od4_84 rfl (fun h84 X84 B84 => ?_)
  replace E_a := E_a.wr X84
  replace A_ta := A_ta.other X84 ne_ta_tb64
  replace A_pa := A_pa.other X84 ne_pa_tb64
  replace F_a_times := F_a_times.other X84 (Or.inl ne_a_tb64)
  replace F_a_permits := F_a_permits.other X84 (Or.inl ne_a_tb64)
  replace F_a_head := F_a_head.other X84 (Or.inl ne_a_tb64)
  replace F_a_size := F_a_size.other X84 (Or.inl ne_a_tb64)
  replace F_a_counted := F_a_counted.other X84 (Or.inl ne_a_tb64)
  replace A_pb64 := A_pb64.other X84 (Ne.symm ne_tb64_pb64)
  have A_tb64 : AJ Z h84 tb64 ([([t0, t1].getD x0 0), ([t0, t1].getD x1 0), (0 : Int64), (0 : Int64)].set 2 t) := B84
  replace K := K.wr X84 (Or.inr sz_tb64)
  refine C.aloadN (pc' := 86) od4_85 rfl rfl rfl ?_
  refine C.getf (ow20 hw) Via.refl F_a_permits (pc' := 89) od4_86 rfl ?_
  refine C.iload (pc' := 91) od4_89 rfl rfl ?_
  refine C.lloadN (pc' := 92) od4_91 rfl rfl ?_
  refine C.stAJ (i := 2) A_pb64 (by rw [hsz]; decide) (show 2 < 4 from by decide) g_pb64 (pc' := 93) od4_92 rfl (fun h92 X92 B92 => ?_)
  replace E_a := E_a.wr X92
  replace A_ta := A_ta.other X92 ne_ta_pb64
  replace A_pa := A_pa.other X92 ne_pa_pb64
  replace F_a_times := F_a_times.other X92 (Or.inl ne_a_pb64)
  replace F_a_permits := F_a_permits.other X92 (Or.inl ne_a_pb64)
  replace F_a_head := F_a_head.other X92 (Or.inl ne_a_pb64)
  replace F_a_size := F_a_size.other X92 (Or.inl ne_a_pb64)
  replace F_a_counted := F_a_counted.other X92 (Or.inl ne_a_pb64)
  replace A_tb64 := A_tb64.other X92 ne_tb64_pb64
  have A_pb64 : AJ Z h92 pb64 ([([p0, p1].getD x0 0), ([p0, p1].getD x1 0), (0 : Int64), (0 : Int64)].set 2 c) := B92
  replace K := K.wr X92 (Or.inr sz_pb64)
  refine C.aloadN (pc' := 94) od4_93 rfl rfl rfl ?_
  refine C.dup (pc' := 95) od4_94 rfl rfl ?_
  refine C.getf (ow27 hw) Via.refl F_a_size (pc' := 98) od4_95 rfl ?_
  refine C.iconst (v := 1) (pc' := 99) od4_98 rfl rfl ?_
  refine C.iadd (pc' := 100) od4_99 rfl ?_
  refine C.putf (ow27 hw) Via.refl F_a_size E_a (Or.inl (ow28 hw)) (ow3 hw) pf_I rfl rfl g_a (pc' := 103) od4_100 rfl (fun h100 X100 => ?_)
  replace F_a_size := F_a_size.same X100
  replace E_a := E_a.wr X100
  replace A_ta := A_ta.other X100 (Ne.symm ne_a_ta)
  replace A_pa := A_pa.other X100 (Ne.symm ne_a_pa)
  replace F_a_times := F_a_times.other X100 (Or.inr (sne_19_28 hw))
  replace F_a_permits := F_a_permits.other X100 (Or.inr (sne_21_28 hw))
  replace F_a_head := F_a_head.other X100 (Or.inr (sne_34_28 hw))
  replace F_a_counted := F_a_counted.other X100 (Or.inr (sne_36_28 hw))
  replace A_tb64 := A_tb64.other X100 (Ne.symm ne_a_tb64)
  replace A_pb64 := A_pb64.other X100 (Ne.symm ne_a_pb64)
  replace K := K.wr X100 (Or.inl (List.mem_of_getElem? (i := 0) rfl))
  refine C.aloadN (pc' := 104) od4_103 rfl rfl rfl ?_
  refine C.dup (pc' := 105) od4_104 rfl rfl ?_
  refine C.getf (ow35 hw) Via.refl F_a_counted (pc' := 108) od4_105 rfl ?_
  refine C.lloadN (pc' := 109) od4_108 rfl rfl ?_
  refine C.ladd (pc' := 110) od4_109 rfl ?_
  refine C.putf (ow35 hw) Via.refl F_a_counted E_a (Or.inl (ow36 hw)) (ow3 hw) pf_J rfl rfl g_a (pc' := 113) od4_110 rfl (fun h110 X110 => ?_)
  replace F_a_counted := F_a_counted.same X110
  replace E_a := E_a.wr X110
  replace A_ta := A_ta.other X110 (Ne.symm ne_a_ta)
  replace A_pa := A_pa.other X110 (Ne.symm ne_a_pa)
  replace F_a_times := F_a_times.other X110 (Or.inr (sne_19_36 hw))
  replace F_a_permits := F_a_permits.other X110 (Or.inr (sne_21_36 hw))
  replace F_a_head := F_a_head.other X110 (Or.inr (sne_34_36 hw))
  replace A_tb64 := A_tb64.other X110 (Ne.symm ne_a_tb64)
  replace A_pb64 := A_pb64.other X110 (Ne.symm ne_a_pb64)
  replace F_a_size := F_a_size.other X110 (Or.inr (sne_28_36 hw))
  replace K := K.wr X110 (Or.inl (List.mem_of_getElem? (i := 0) rfl))
  refine C.retV rfl od4_113 (by decide) (by decide) ⟨rfl, ?_⟩
  exact ⟨tb64, pb64, K, sz_tb64, sz_pb64, ne_tb64_pb64, F_a_times, F_a_permits, F_a_head, F_a_size, F_a_counted, A_tb64, A_pb64⟩
theorem od9_0 : decode prog_20_method_4_code 0 = .ok (.aload_n 0, 1) := by decide +kernel
theorem od9_1 : decode prog_20_method_4_code 1 = .ok (.dup, 1) := by decide +kernel
theorem od9_2 : decode prog_20_method_4_code 2 = .ok (.getfield 20, 3) := by decide +kernel
theorem od9_5 : decode prog_20_method_4_code 5 = .ok (.aload_n 0, 1) := by decide +kernel
theorem od9_6 : decode prog_20_method_4_code 6 = .ok (.getfield 13, 3) := by decide +kernel
theorem od9_9 : decode prog_20_method_4_code 9 = .ok (.aload_n 0, 1) := by decide +kernel
theorem od9_10 : decode prog_20_method_4_code 10 = .ok (.getfield 24, 3) := by decide +kernel
theorem od9_13 : decode prog_20_method_4_code 13 = .ok (.laload, 1) := by decide +kernel
theorem od9_14 : decode prog_20_method_4_code 14 = .ok (.lsub, 1) := by decide +kernel
theorem od9_15 : decode prog_20_method_4_code 15 = .ok (.putfield 20, 3) := by decide +kernel
theorem od9_18 : decode prog_20_method_4_code 18 = .ok (.aload_n 0, 1) := by decide +kernel
theorem od9_19 : decode prog_20_method_4_code 19 = .ok (.aload_n 0, 1) := by decide +kernel
theorem od9_20 : decode prog_20_method_4_code 20 = .ok (.iconst 1, 1) := by decide +kernel
theorem od9_21 : decode prog_20_method_4_code 21 = .ok (.invokevirtual 16, 3) := by decide +kernel
theorem od9_24 : decode prog_20_method_4_code 24 = .ok (.putfield 24, 3) := by decide +kernel
theorem od9_27 : decode prog_20_method_4_code 27 = .ok (.aload_n 0, 1) := by decide +kernel
theorem od9_28 : decode prog_20_method_4_code 28 = .ok (.dup, 1) := by decide +kernel
theorem od9_29 : decode prog_20_method_4_code 29 = .ok (.getfield 28, 3) := by decide +kernel
theorem od9_32 : decode prog_20_method_4_code 32 = .ok (.iconst 1, 1) := by decide +kernel
theorem od9_33 : decode prog_20_method_4_code 33 = .ok (.isub, 1) := by decide +kernel
theorem od9_34 : decode prog_20_method_4_code 34 = .ok (.putfield 28, 3) := by decide +kernel
theorem od9_37 : decode prog_20_method_4_code 37 = .ok (.aload_n 0, 1) := by decide +kernel
theorem od9_38 : decode prog_20_method_4_code 38 = .ok (.getfield 28, 3) := by decide +kernel
theorem od9_41 : decode prog_20_method_4_code 41 = .ok (.aload_n 0, 1) := by decide +kernel
theorem od9_42 : decode prog_20_method_4_code 42 = .ok (.getfield 9, 3) := by decide +kernel
theorem od9_45 : decode prog_20_method_4_code 45 = .ok (.arraylength, 1) := by decide +kernel
theorem od9_46 : decode prog_20_method_4_code 46 = .ok (.iconst 4, 1) := by decide +kernel
theorem od9_47 : decode prog_20_method_4_code 47 = .ok (.idiv, 1) := by decide +kernel
theorem od9_48 : decode prog_20_method_4_code 48 = .ok (.if_icmp .gt 23, 3) := by decide +kernel
theorem od9_71 : decode prog_20_method_4_code 71 = .ok (.return_, 1) := by decide +kernel
theorem od9_51 : decode prog_20_method_4_code 51 = .ok (.aload_n 0, 1) := by decide +kernel
theorem od9_52 : decode prog_20_method_4_code 52 = .ok (.getfield 9, 3) := by decide +kernel
theorem od9_55 : decode prog_20_method_4_code 55 = .ok (.arraylength, 1) := by decide +kernel
theorem od9_56 : decode prog_20_method_4_code 56 = .ok (.iconst 2, 1) := by decide +kernel
theorem od9_57 : decode prog_20_method_4_code 57 = .ok (.if_icmp .le 14, 3) := by decide +kernel
theorem ef_own_drop0 (m : MethodId) (x0 : Addr) : entryFrame m #[(.ref x0)] 1 = mkF m 0 #[.val (.ref x0)] [] := by first | (simp [entryFrame, mkF, argsToLocals, Value.category]; done) | rfl
theorem pn_com_example_steady_limiter_steadylimiter_SlidingWindowLog_PermitLog_dropOldest___V : plainFor (⟨"com/example/steady_limiter/steadylimiter/SlidingWindowLog$PermitLog", "dropOldest", "()V"⟩ : MethodName) = true := plainFor_of_name (by first | (simp [plainName, overriddenIn]; done) | decide +kernel)
set_option maxRecDepth 65536 in
set_option maxHeartbeats 40000000 in
theorem own_drop0 (l : Launch) (Z : State) (a0 : Array Value) (hw : ∀ d ∈ tables_1, d.before a0 Z = true) (n0 : Nat) (hO : Heap) (a : Addr) (ta : Addr) (pa : Addr) (hd : Int32) (sz : Int32) (cnt : Int64) (T : List Int64) (Pm : List Int64) (len : Int32) (y : Nat) (Z0 : n0 ≤ hO.size) (E_a : Exa Z hO a "com/example/steady_limiter/steadylimiter/SlidingWindowLog$PermitLog") (F_a_times : Fld Z hO a "com/example/steady_limiter/steadylimiter/SlidingWindowLog$PermitLog" "times" "[J" (.ref ta)) (F_a_permits : Fld Z hO a "com/example/steady_limiter/steadylimiter/SlidingWindowLog$PermitLog" "permits" "[J" (.ref pa)) (F_a_head : Fld Z hO a "com/example/steady_limiter/steadylimiter/SlidingWindowLog$PermitLog" "head" "I" (.int hd)) (F_a_size : Fld Z hO a "com/example/steady_limiter/steadylimiter/SlidingWindowLog$PermitLog" "size" "I" (.int sz)) (F_a_counted : Fld Z hO a "com/example/steady_limiter/steadylimiter/SlidingWindowLog$PermitLog" "counted" "J" (.long cnt)) (A_ta : AJ Z hO ta T) (A_pa : AJ Z hO pa Pm) (g_a : n0 ≤ a) (ne_a_ta : a ≠ ta) (ne_a_pa : a ≠ pa) (hlen : len.toInt = (T.length : Int)) (hy : hd.toInt = (y : Int)) (hyp : y < Pm.length) (hn : (len / (4 : Int32)) < (sz - (1 : Int32)) ∨ ¬ ((2 : Int32) < len)) :
    MeetsW l Z n0 (⟨"com/example/steady_limiter/steadylimiter/SlidingWindowLog$PermitLog", "dropOldest", "()V"⟩ : MethodName) prog_20_method_4_code 1 none ({ frames := 1, cells := 0, slots := 0, locals := 14 } : Room) #[(.ref a)] hO (RV fun h => Keep hO h [a] ∧ Fld Z h a "com/example/steady_limiter/steadylimiter/SlidingWindowLog$PermitLog" "times" "[J" (.ref ta) ∧ Fld Z h a "com/example/steady_limiter/steadylimiter/SlidingWindowLog$PermitLog" "permits" "[J" (.ref pa) ∧ Fld Z h a "com/example/steady_limiter/steadylimiter/SlidingWindowLog$PermitLog" "head" "I" (.int ((hd + (1 : Int32)) &&& (len - (1 : Int32)))) ∧ Fld Z h a "com/example/steady_limiter/steadylimiter/SlidingWindowLog$PermitLog" "size" "I" (.int (sz - (1 : Int32))) ∧ Fld Z h a "com/example/steady_limiter/steadylimiter/SlidingWindowLog$PermitLog" "counted" "J" (.long (cnt - Pm.getD y 0))) := by
  refine MeetsW.intro pn_com_example_steady_limiter_steadylimiter_SlidingWindowLog_PermitLog_dropOldest___V (fun m => ef_own_drop0 m a) ?_
  intro W C
  replace C : Ru l Z "com/example/steady_limiter/steadylimiter/SlidingWindowLog$PermitLog" prog_20_method_4_code 1 none "dropOldest" ({ frames := 1, cells := 0, slots := 0, locals := 14 } : Room) n0 (RV fun h => Keep hO h [a] ∧ Fld Z h a "com/example/steady_limiter/steadylimiter/SlidingWindowLog$PermitLog" "times" "[J" (.ref ta) ∧ Fld Z h a "com/example/steady_limiter/steadylimiter/SlidingWindowLog$PermitLog" "permits" "[J" (.ref pa) ∧ Fld Z h a "com/example/steady_limiter/steadylimiter/SlidingWindowLog$PermitLog" "head" "I" (.int ((hd + (1 : Int32)) &&& (len - (1 : Int32)))) ∧ Fld Z h a "com/example/steady_limiter/steadylimiter/SlidingWindowLog$PermitLog" "size" "I" (.int (sz - (1 : Int32))) ∧ Fld Z h a "com/example/steady_limiter/steadylimiter/SlidingWindowLog$PermitLog" "counted" "J" (.long (cnt - Pm.getD y 0))) W := C
  have K : Keep hO hO [a] := Keep.refl _ _
  refine C.aloadN (pc' := 1) od9_0 rfl rfl rfl ?_
  refine C.dup (pc' := 2) od9_1 rfl rfl ?_
  refine C.getf (ow35 hw) Via.refl F_a_counted (pc' := 5) od9_2 rfl ?_
  refine C.aloadN (pc' := 6) od9_5 rfl rfl rfl ?_
  refine C.getf (ow20 hw) Via.refl F_a_permits (pc' := 9) od9_6 rfl ?_
  refine C.aloadN (pc' := 10) od9_9 rfl rfl rfl ?_
  refine C.getf (ow33 hw) Via.refl F_a_head (pc' := 13) od9_10 rfl ?_
  refine C.ldAJ (i := y) (v := (Pm.getD y 0)) A_pa hy (Jvm.OwnP.getD_some hyp) (pc' := 14) od9_13 rfl ?_
  refine C.lsub (pc' := 15) od9_14 rfl ?_
  refine C.putf (ow35 hw) Via.refl F_a_counted E_a (Or.inl (ow36 hw)) (ow3 hw) pf_J rfl rfl g_a (pc' := 18) od9_15 rfl (fun h15 X15 => ?_)
  replace F_a_counted := F_a_counted.same X15
  replace E_a := E_a.wr X15
  replace F_a_times := F_a_times.other X15 (Or.inr (sne_19_36 hw))
  replace F_a_permits := F_a_permits.other X15 (Or.inr (sne_21_36 hw))
  replace F_a_head := F_a_head.other X15 (Or.inr (sne_34_36 hw))
  replace F_a_size := F_a_size.other X15 (Or.inr (sne_28_36 hw))
  replace A_ta := A_ta.other X15 (Ne.symm ne_a_ta)
  replace A_pa := A_pa.other X15 (Ne.symm ne_a_pa)
  replace K := K.wr X15 (Or.inl (List.mem_of_getElem? (i := 0) rfl))
  refine C.aloadN (pc' := 19) od9_18 rfl rfl rfl ?_
  refine C.aloadN (pc' := 20) od9_19 rfl rfl rfl ?_
  refine C.iconst (v := 1) (pc' := 21) od9_20 rfl rfl ?_
  refine C.callp (w := 1) (own_rm5 l Z a0 hw n0 h15 a (1 : Int32) ta hd T len F_a_head F_a_times A_ta hlen) E_a (ow29 hw) (ow30 hw) (ow3 hw) (ow31 hw) (ow4 hw) (ow32 hw) (pc' := 24) od9_21 rfl rfl rfl (by decide) pd__I_I rfl (by decide) (Nat.le_of_eq rfl) (by decide) (by decide) (by decide) (kIe ?_)
  refine C.putf (ow33 hw) Via.refl F_a_head E_a (Or.inl (ow34 hw)) (ow3 hw) pf_I rfl rfl g_a (pc' := 27) od9_24 rfl (fun h24 X24 => ?_)
  replace F_a_head := F_a_head.same X24
  replace E_a := E_a.wr X24
  replace F_a_times := F_a_times.other X24 (Or.inr (sne_19_34 hw))
  replace F_a_permits := F_a_permits.other X24 (Or.inr (sne_21_34 hw))
  replace F_a_size := F_a_size.other X24 (Or.inr (sne_28_34 hw))
  replace A_ta := A_ta.other X24 (Ne.symm ne_a_ta)
  replace A_pa := A_pa.other X24 (Ne.symm ne_a_pa)
  replace F_a_counted := F_a_counted.other X24 (Or.inr (sne_36_34 hw))
  replace K := K.wr X24 (Or.inl (List.mem_of_getElem? (i := 0) rfl))
  refine C.aloadN (pc' := 28) od9_27 rfl rfl rfl ?_
  refine C.dup (pc' := 29) od9_28 rfl rfl ?_
  refine C.getf (ow27 hw) Via.refl F_a_size (pc' := 32) od9_29 rfl ?_
  refine C.iconst (v := 1) (pc' := 33) od9_32 rfl rfl ?_
  refine C.isub (pc' := 34) od9_33 rfl ?_
  refine C.putf (ow27 hw) Via.refl F_a_size E_a (Or.inl (ow28 hw)) (ow3 hw) pf_I rfl rfl g_a (pc' := 37) od9_34 rfl (fun h34 X34 => ?_)
  replace F_a_size := F_a_size.same X34
  replace E_a := E_a.wr X34
  replace F_a_times := F_a_times.other X34 (Or.inr (sne_19_28 hw))
  replace F_a_permits := F_a_permits.other X34 (Or.inr (sne_21_28 hw))
  replace A_ta := A_ta.other X34 (Ne.symm ne_a_ta)
  replace A_pa := A_pa.other X34 (Ne.symm ne_a_pa)
  replace F_a_counted := F_a_counted.other X34 (Or.inr (sne_36_28 hw))
  replace F_a_head := F_a_head.other X34 (Or.inr (sne_34_28 hw))
  replace K := K.wr X34 (Or.inl (List.mem_of_getElem? (i := 0) rfl))
  refine C.aloadN (pc' := 38) od9_37 rfl rfl rfl ?_
  refine C.getf (ow27 hw) Via.refl F_a_size (pc' := 41) od9_38 rfl ?_
  refine C.aloadN (pc' := 42) od9_41 rfl rfl rfl ?_
  refine C.getf (ow18 hw) Via.refl F_a_times (pc' := 45) od9_42 rfl ?_
  refine C.lenAJ (z := len) A_ta hlen (pc' := 46) od9_45 rfl ?_
  refine C.iconst (v := 4) (pc' := 47) od9_46 rfl rfl ?_
  refine C.idiv (pc' := 48) od9_47 rfl (by decide) ?_
  refine C.icmp_gt (pc' := 51) (pt := 71) od9_48 rfl rfl (fun c48 => ?_) (fun c48 => ?_)
  · skip
    refine C.retV rfl od9_71 (by decide) (by decide) ⟨rfl, ?_⟩
    exact ⟨K, F_a_times, F_a_permits, F_a_head, F_a_size, F_a_counted⟩
  · skip
    refine C.aloadN (pc' := 52) od9_51 rfl rfl rfl ?_
    refine C.getf (ow18 hw) Via.refl F_a_times (pc' := 55) od9_52 rfl ?_
    refine C.lenAJ (z := len) A_ta hlen (pc' := 56) od9_55 rfl ?_
    refine C.iconst (v := 2) (pc' := 57) od9_56 rfl rfl ?_
    refine C.icmp_le (pc' := 60) (pt := 71) od9_57 rfl rfl (fun c57 => ?_) (fun c57 => absurd c57 (hn.resolve_left c48))
    refine C.retV rfl od9_71 (by decide) (by decide) ⟨rfl, ?_⟩
    exact ⟨K, F_a_times, F_a_permits, F_a_head, F_a_size, F_a_counted⟩
theorem od9_60 : decode prog_20_method_4_code 60 = .ok (.aload_n 0, 1) := by decide +kernel
theorem od9_61 : decode prog_20_method_4_code 61 = .ok (.aload_n 0, 1) := by decide +kernel
theorem od9_62 : decode prog_20_method_4_code 62 = .ok (.getfield 9, 3) := by decide +kernel
theorem od9_65 : decode prog_20_method_4_code 65 = .ok (.arraylength, 1) := by decide +kernel
theorem od9_66 : decode prog_20_method_4_code 66 = .ok (.iconst 2, 1) := by decide +kernel
theorem od9_67 : decode prog_20_method_4_code 67 = .ok (.idiv, 1) := by decide +kernel
theorem od9_68 : decode prog_20_method_4_code 68 = .ok (.invokevirtual 31, 3) := by decide +kernel
theorem ef_own_drop1 (m : MethodId) (x0 : Addr) : entryFrame m #[(.ref x0)] 1 = mkF m 0 #[.val (.ref x0)] [] := by first | (simp [entryFrame, mkF, argsToLocals, Value.category]; done) | rfl
set_option maxRecDepth 65536 in
set_option maxHeartbeats 40000000 in
theorem own_drop1 (l : Launch) (Z : State) (a0 : Array Value) (hw : ∀ d ∈ tables_1, d.before a0 Z = true) (n0 : Nat) (hO : Heap) (a : Addr) (ta : Addr) (pa : Addr) (hd : Int32) (sz : Int32) (cnt : Int64) (T : List Int64) (Pm : List Int64) (len : Int32) (y : Nat) (x0 : Nat) (Z0 : n0 ≤ hO.size) (E_a : Exa Z hO a "com/example/steady_limiter/steadylimiter/SlidingWindowLog$PermitLog") (F_a_times : Fld Z hO a "com/example/steady_limiter/steadylimiter/SlidingWindowLog$PermitLog" "times" "[J" (.ref ta)) (F_a_permits : Fld Z hO a "com/example/steady_limiter/steadylimiter/SlidingWindowLog$PermitLog" "permits" "[J" (.ref pa)) (F_a_head : Fld Z hO a "com/example/steady_limiter/steadylimiter/SlidingWindowLog$PermitLog" "head" "I" (.int hd)) (F_a_size : Fld Z hO a "com/example/steady_limiter/steadylimiter/SlidingWindowLog$PermitLog" "size" "I" (.int sz)) (F_a_counted : Fld Z hO a "com/example/steady_limiter/steadylimiter/SlidingWindowLog$PermitLog" "counted" "J" (.long cnt)) (A_ta : AJ Z hO ta T) (A_pa : AJ Z hO pa Pm) (g_a : n0 ≤ a) (ne_a_ta : a ≠ ta) (ne_a_pa : a ≠ pa) (hlen : len.toInt = (T.length : Int)) (hy : hd.toInt = (y : Int)) (hyp : y < Pm.length) (hl4 : len = (4 : Int32)) (hs2 : sz - (1 : Int32) = (1 : Int32)) (hx0 : ((((hd + (1 : Int32)) &&& (len - (1 : Int32))) + (0 : Int32)) &&& (len - (1 : Int32))).toInt = (x0 : Int)) (ht0 : x0 < T.length) (hp0 : x0 < Pm.length) :
    MeetsW l Z n0 (⟨"com/example/steady_limiter/steadylimiter/SlidingWindowLog$PermitLog", "dropOldest", "()V"⟩ : MethodName) prog_20_method_4_code 1 none ({ frames := 3, cells := 2, slots := 4, locals := 45 } : Room) #[(.ref a)] hO (RV fun h => ∃ tb : Addr, ∃ pb : Addr, Keep hO h [a] ∧ hO.size ≤ tb ∧ hO.size ≤ pb ∧ tb ≠ pb ∧ Fld Z h a "com/example/steady_limiter/steadylimiter/SlidingWindowLog$PermitLog" "times" "[J" (.ref tb) ∧ Fld Z h a "com/example/steady_limiter/steadylimiter/SlidingWindowLog$PermitLog" "permits" "[J" (.ref pb) ∧ Fld Z h a "com/example/steady_limiter/steadylimiter/SlidingWindowLog$PermitLog" "head" "I" (.int (0 : Int32)) ∧ Fld Z h a "com/example/steady_limiter/steadylimiter/SlidingWindowLog$PermitLog" "size" "I" (.int (sz - (1 : Int32))) ∧ Fld Z h a "com/example/steady_limiter/steadylimiter/SlidingWindowLog$PermitLog" "counted" "J" (.long (cnt - Pm.getD y 0)) ∧ AJ Z h tb [(T.getD x0 0), (0 : Int64)] ∧ AJ Z h pb [(Pm.getD x0 0), (0 : Int64)]) := by
  refine MeetsW.intro pn_com_example_steady_limiter_steadylimiter_SlidingWindowLog_PermitLog_dropOldest___V (fun m => ef_own_drop1 m a) ?_
  intro W C
  replace C : Ru l Z "com/example/steady_limiter/steadylimiter/SlidingWindowLog$PermitLog" prog_20_method_4_code 1 none "dropOldest" ({ frames := 3, cells := 2, slots := 4, locals := 45 } : Room) n0 (RV fun h => ∃ tb : Addr, ∃ pb : Addr, Keep hO h [a] ∧ hO.size ≤ tb ∧ hO.size ≤ pb ∧ tb ≠ pb ∧ Fld Z h a "com/example/steady_limiter/steadylimiter/SlidingWindowLog$PermitLog" "times" "[J" (.ref tb) ∧ Fld Z h a "com/example/steady_limiter/steadylimiter/SlidingWindowLog$PermitLog" "permits" "[J" (.ref pb) ∧ Fld Z h a "com/example/steady_limiter/steadylimiter/SlidingWindowLog$PermitLog" "head" "I" (.int (0 : Int32)) ∧ Fld Z h a "com/example/steady_limiter/steadylimiter/SlidingWindowLog$PermitLog" "size" "I" (.int (sz - (1 : Int32))) ∧ Fld Z h a "com/example/steady_limiter/steadylimiter/SlidingWindowLog$PermitLog" "counted" "J" (.long (cnt - Pm.getD y 0)) ∧ AJ Z h tb [(T.getD x0 0), (0 : Int64)] ∧ AJ Z h pb [(Pm.getD x0 0), (0 : Int64)]) W := C
  have K : Keep hO hO [a] := Keep.refl _ _
  refine C.aloadN (pc' := 1) od9_0 rfl rfl rfl ?_
  refine C.dup (pc' := 2) od9_1 rfl rfl ?_
  refine C.getf (ow35 hw) Via.refl F_a_counted (pc' := 5) od9_2 rfl ?_
  refine C.aloadN (pc' := 6) od9_5 rfl rfl rfl ?_
  refine C.getf (ow20 hw) Via.refl F_a_permits (pc' := 9) od9_6 rfl ?_
  refine C.aloadN (pc' := 10) od9_9 rfl rfl rfl ?_
  refine C.getf (ow33 hw) Via.refl F_a_head (pc' := 13) od9_10 rfl ?_
  refine C.ldAJ (i := y) (v := (Pm.getD y 0)) A_pa hy (Jvm.OwnP.getD_some hyp) (pc' := 14) od9_13 rfl ?_
  refine C.lsub (pc' := 15) od9_14 rfl ?_
  refine C.putf (ow35 hw) Via.refl F_a_counted E_a (Or.inl (ow36 hw)) (ow3 hw) pf_J rfl rfl g_a (pc' := 18) od9_15 rfl (fun h15 X15 => ?_)
  replace F_a_counted := F_a_counted.same X15
  replace E_a := E_a.wr X15
  replace F_a_times := F_a_times.other X15 (Or.inr (sne_19_36 hw))
  replace F_a_permits := F_a_permits.other X15 (Or.inr (sne_21_36 hw))
  replace F_a_head := F_a_head.other X15 (Or.inr (sne_34_36 hw))
  replace F_a_size := F_a_size.other X15 (Or.inr (sne_28_36 hw))
  replace A_ta := A_ta.other X15 (Ne.symm ne_a_ta)
  replace A_pa := A_pa.other X15 (Ne.symm ne_a_pa)
  replace K := K.wr X15 (Or.inl (List.mem_of_getElem? (i := 0) rfl))
  refine C.aloadN (pc' := 19) od9_18 rfl rfl rfl ?_
  refine C.aloadN (pc' := 20) od9_19 rfl rfl rfl ?_
  refine C.iconst (v := 1) (pc' := 21) od9_20 rfl rfl ?_
  refine C.callp (w := 1) (own_rm5 l Z a0 hw n0 h15 a (1 : Int32) ta hd T len F_a_head F_a_times A_ta hlen) E_a (ow29 hw) (ow30 hw) (ow3 hw) (ow31 hw) (ow4 hw) (ow32 hw) (pc' := 24) od9_21 rfl rfl rfl (by decide) pd__I_I rfl (by decide) (Nat.le_of_eq rfl) (by decide) (by decide) (by decide) (kIe ?_)
  refine C.putf (ow33 hw) Via.refl F_a_head E_a (Or.inl (ow34 hw)) (ow3 hw) pf_I rfl rfl g_a (pc' := 27) od9_24 rfl (fun h24 X24 => ?_)
  replace F_a_head := F_a_head.same X24
  replace E_a := E_a.wr X24
  replace F_a_times := F_a_times.other X24 (Or.inr (sne_19_34 hw))
  replace F_a_permits := F_a_permits.other X24 (Or.inr (sne_21_34 hw))
  replace F_a_size := F_a_size.other X24 (Or.inr (sne_28_34 hw))
  replace A_ta := A_ta.other X24 (Ne.symm ne_a_ta)
  replace A_pa := A_pa.other X24 (Ne.symm ne_a_pa)
  replace F_a_counted := F_a_counted.other X24 (Or.inr (sne_36_34 hw))
  replace K := K.wr X24 (Or.inl (List.mem_of_getElem? (i := 0) rfl))
  refine C.aloadN (pc' := 28) od9_27 rfl rfl rfl ?_
  refine C.dup (pc' := 29) od9_28 rfl rfl ?_
  refine C.getf (ow27 hw) Via.refl F_a_size (pc' := 32) od9_29 rfl ?_
  refine C.iconst (v := 1) (pc' := 33) od9_32 rfl rfl ?_
  refine C.isub (pc' := 34) od9_33 rfl ?_
  refine C.putf (ow27 hw) Via.refl F_a_size E_a (Or.inl (ow28 hw)) (ow3 hw) pf_I rfl rfl g_a (pc' := 37) od9_34 rfl (fun h34 X34 => ?_)
  replace F_a_size := F_a_size.same X34
  replace E_a := E_a.wr X34
  replace F_a_times := F_a_times.other X34 (Or.inr (sne_19_28 hw))
  replace F_a_permits := F_a_permits.other X34 (Or.inr (sne_21_28 hw))
  replace A_ta := A_ta.other X34 (Ne.symm ne_a_ta)
  replace A_pa := A_pa.other X34 (Ne.symm ne_a_pa)
  replace F_a_counted := F_a_counted.other X34 (Or.inr (sne_36_28 hw))
  replace F_a_head := F_a_head.other X34 (Or.inr (sne_34_28 hw))
  replace K := K.wr X34 (Or.inl (List.mem_of_getElem? (i := 0) rfl))
  refine C.aloadN (pc' := 38) od9_37 rfl rfl rfl ?_
  refine C.getf (ow27 hw) Via.refl F_a_size (pc' := 41) od9_38 rfl ?_
  refine C.aloadN (pc' := 42) od9_41 rfl rfl rfl ?_
  refine C.getf (ow18 hw) Via.refl F_a_times (pc' := 45) od9_42 rfl ?_
  refine C.lenAJ (z := len) A_ta hlen (pc' := 46) od9_45 rfl ?_
  refine C.iconst (v := 4) (pc' := 47) od9_46 rfl rfl ?_
  refine C.idiv (pc' := 48) od9_47 rfl (by decide) ?_
  refine C.icmp_gt (pc' := 51) (pt := 71) od9_48 rfl rfl (fun c48 => absurd c48 (by rw [hs2, hl4]; decide)) (fun c48 => ?_)
  refine C.aloadN (pc' := 52) od9_51 rfl rfl rfl ?_
  refine C.getf (ow18 hw) Via.refl F_a_times (pc' := 55) od9_52 rfl ?_
  refine C.lenAJ (z := len) A_ta hlen (pc' := 56) od9_55 rfl ?_
  refine C.iconst (v := 2) (pc' := 57) od9_56 rfl rfl ?_
  refine C.icmp_le (pc' := 60) (pt := 71) od9_57 rfl rfl (fun c57 => absurd (by rw [hl4]; decide) c57) (fun c57 => ?_)
  refine C.aloadN (pc' := 61) od9_60 rfl rfl rfl ?_
  refine C.aloadN (pc' := 62) od9_61 rfl rfl rfl ?_
  refine C.getf (ow18 hw) Via.refl F_a_times (pc' := 65) od9_62 rfl ?_
  refine C.lenAJ (z := len) A_ta hlen (pc' := 66) od9_65 rfl ?_
  refine C.iconst (v := 2) (pc' := 67) od9_66 rfl rfl ?_
  refine C.idiv (pc' := 68) od9_67 rfl (by decide) ?_
  refine C.callp (w := 0) (own_resize1 l Z a0 hw n0 h34 a (len / (2 : Int32)) ta pa ((hd + (1 : Int32)) &&& (len - (1 : Int32))) (sz - (1 : Int32)) (cnt - (Pm.getD y 0)) T Pm len x0 (Nat.le_trans Z0 K.1) E_a F_a_times F_a_permits F_a_head F_a_size F_a_counted A_ta A_pa g_a ne_a_ta ne_a_pa hlen (by rw [hl4]; decide) hs2 hx0 ht0 hp0) E_a (ow59 hw) (ow60 hw) (ow3 hw) (ow61 hw) (ow4 hw) (ow62 hw) (pc' := 71) od9_68 rfl rfl rfl (by decide) pd__I_V rfl (by decide) (Nat.le_of_eq rfl) (by decide) (by decide) (by decide) (kV fun h68 q68 => ?_)
  obtain ⟨tb68, pb68, K68, z68_tb68, z68_pb68, ne_tb68_pb68, N68_0, N68_1, N68_2, N68_3, N68_4, N68_5, N68_6⟩ := q68
  have ne_a_tb68 : a ≠ tb68 := Nat.ne_of_lt (Nat.lt_of_lt_of_le (exaLt E_a) z68_tb68)
  have ne_ta_tb68 : ta ≠ tb68 := Nat.ne_of_lt (Nat.lt_of_lt_of_le A_ta.lt z68_tb68)
  have ne_pa_tb68 : pa ≠ tb68 := Nat.ne_of_lt (Nat.lt_of_lt_of_le A_pa.lt z68_tb68)
  have sz_tb68 : hO.size ≤ tb68 := Nat.le_trans K.1 z68_tb68
  have g_tb68 : n0 ≤ tb68 := Nat.le_trans Z0 sz_tb68
  have ne_a_pb68 : a ≠ pb68 := Nat.ne_of_lt (Nat.lt_of_lt_of_le (exaLt E_a) z68_pb68)
  have ne_ta_pb68 : ta ≠ pb68 := Nat.ne_of_lt (Nat.lt_of_lt_of_le A_ta.lt z68_pb68)
  have ne_pa_pb68 : pa ≠ pb68 := Nat.ne_of_lt (Nat.lt_of_lt_of_le A_pa.lt z68_pb68)
  have sz_pb68 : hO.size ≤ pb68 := Nat.le_trans K.1 z68_pb68
  have g_pb68 : n0 ≤ pb68 := Nat.le_trans Z0 sz_pb68
  replace E_a := E_a.keep K68
  replace A_ta := A_ta.keep K68 (ninS (Ne.symm ne_a_ta) nin0)
  replace A_pa := A_pa.keep K68 (ninS (Ne.symm ne_a_pa) nin0)
  have F_a_times : Fld Z h68 a "com/example/steady_limiter/steadylimiter/SlidingWindowLog$PermitLog" "times" "[J" (.ref tb68) := N68_0
  have F_a_permits : Fld Z h68 a "com/example/steady_limiter/steadylimiter/SlidingWindowLog$PermitLog" "permits" "[J" (.ref pb68) := N68_1
  have F_a_head : Fld Z h68 a "com/example/steady_limiter/steadylimiter/SlidingWindowLog$PermitLog" "head" "I" (.int (0 : Int32)) := N68_2
  have F_a_size : Fld Z h68 a "com/example/steady_limiter/steadylimiter/SlidingWindowLog$PermitLog" "size" "I" (.int (sz - (1 : Int32))) := N68_3
  have F_a_counted : Fld Z h68 a "com/example/steady_limiter/steadylimiter/SlidingWindowLog$PermitLog" "counted" "J" (.long (cnt - (Pm.getD y 0))) := N68_4
  have A_tb68 : AJ Z h68 tb68 [(T.getD x0 0), (0 : Int64)] := N68_5
  have A_pb68 : AJ Z h68 pb68 [(Pm.getD x0 0), (0 : Int64)] := N68_6
  replace K := K.trans K68 (allS (Or.inl (List.mem_of_getElem? (i := 0) rfl)) all0)
  refine C.retV rfl od9_71 (by decide) (by decide) ⟨rfl, ?_⟩
  exact ⟨tb68, pb68, K, sz_tb68, sz_pb68, ne_tb68_pb68, F_a_times, F_a_permits, F_a_head, F_a_size, F_a_counted, A_tb68, A_pb68⟩
theorem od7_0 : decode method_3_code 0 = .ok (.iload_n 3, 1) := by decide +kernel
theorem od7_1 : decode method_3_code 1 = .ok (.ifCond .eq 15, 3) := by decide +kernel
theorem od7_4 : decode method_3_code 4 = .ok (.aload_n 1, 1) := by decide +kernel
theorem od7_5 : decode method_3_code 5 = .ok (.iload_n 2, 1) := by decide +kernel
theorem od7_6 : decode method_3_code 6 = .ok (.iconst 1, 1) := by decide +kernel
theorem od7_7 : decode method_3_code 7 = .ok (.isub, 1) := by decide +kernel
theorem od7_8 : decode method_3_code 8 = .ok (.dup2, 1) := by decide +kernel
theorem od7_9 : decode method_3_code 9 = .ok (.laload, 1) := by decide +kernel
theorem od7_10 : decode method_3_code 10 = .ok (.lload 6, 2) := by decide +kernel
theorem od7_12 : decode method_3_code 12 = .ok (.ladd, 1) := by decide +kernel
theorem od7_13 : decode method_3_code 13 = .ok (.lastore, 1) := by decide +kernel
theorem od7_14 : decode method_3_code 14 = .ok (.iload_n 2, 1) := by decide +kernel
theorem od7_15 : decode method_3_code 15 = .ok (.ireturn, 1) := by decide +kernel
theorem ef_own_step1 (m : MethodId) (x0 : Addr) (x1 : Addr) (x2 : Int32) (x3 : Int32) (x4 : Int64) (x5 : Int64) : entryFrame m #[(.ref x0), (.ref x1), (.int x2), (.int x3), (.long x4), (.long x5)] 8 = mkF m 0 #[.val (.ref x0), .val (.ref x1), .val (.int x2), .val (.int x3), .val (.long x4), .second, .val (.long x5), .second] [] := by first | (simp [entryFrame, mkF, argsToLocals, Value.category]; done) | rfl
theorem pn_com_example_steady_limiter_steadylimiter_PermitLogAddPinLaw_step___J_JIZJJ_I : plainFor (⟨"com/example/steady_limiter/steadylimiter/PermitLogAddPinLaw", "step", "([J[JIZJJ)I"⟩ : MethodName) = true := plainFor_of_name (by first | (simp [plainName, overriddenIn]; done) | decide +kernel)
set_option maxRecDepth 65536 in
set_option maxHeartbeats 40000000 in
theorem own_step1 (l : Launch) (Z : State) (a0 : Array Value) (hw : ∀ d ∈ tables_1, d.before a0 Z = true) (n0 : Nat) (hO : Heap) (e : Addr) (q : Addr) (n : Int32) (sm : Int32) (t : Int64) (c : Int64) (Le : List Int64) (Lp : List Int64) (i : Nat) (Z0 : n0 ≤ hO.size) (A_e : AJ Z hO e Le) (A_q : AJ Z hO q Lp) (g_e : n0 ≤ e) (g_q : n0 ≤ q) (ne_e_q : e ≠ q) (hs : ¬ (sm = 0)) (hi : (n - (1 : Int32)).toInt = (i : Int)) (hl : i < Lp.length) :
    MeetsW l Z n0 (⟨"com/example/steady_limiter/steadylimiter/PermitLogAddPinLaw", "step", "([J[JIZJJ)I"⟩ : MethodName) method_3_code 8 (some .int) ({ frames := 0, cells := 0, slots := 0, locals := 0 } : Room) #[(.ref e), (.ref q), (.int n), (.int sm), (.long t), (.long c)] hO (RI fun r h => r = n ∧ Keep hO h [q] ∧ AJ Z h q (Lp.set i (Lp.getD i 0 + c))) := by
  refine MeetsW.intro pn_com_example_steady_limiter_steadylimiter_PermitLogAddPinLaw_step___J_JIZJJ_I (fun m => ef_own_step1 m e q n sm t c) ?_
  intro W C
  replace C : Ru l Z "com/example/steady_limiter/steadylimiter/PermitLogAddPinLaw" method_3_code 8 (some .int) "step" ({ frames := 0, cells := 0, slots := 0, locals := 0 } : Room) n0 (RI fun r h => r = n ∧ Keep hO h [q] ∧ AJ Z h q (Lp.set i (Lp.getD i 0 + c))) W := C
  have K : Keep hO hO [q] := Keep.refl _ _
  refine C.iloadN (pc' := 1) od7_0 rfl rfl ?_
  refine C.if_eq (pc' := 4) (pt := 16) od7_1 rfl rfl (fun c1 => absurd c1 hs) (fun c1 => ?_)
  refine C.aloadN (pc' := 5) od7_4 rfl rfl rfl ?_
  refine C.iloadN (pc' := 6) od7_5 rfl rfl ?_
  refine C.iconst (v := 1) (pc' := 7) od7_6 rfl rfl ?_
  refine C.isub (pc' := 8) od7_7 rfl ?_
  refine C.dup2 (pc' := 9) od7_8 rfl rfl rfl ?_
  refine C.ldAJ (i := i) (v := (Lp.getD i 0)) A_q hi (Jvm.OwnP.getD_some hl) (pc' := 10) od7_9 rfl ?_
  refine C.lload (pc' := 12) od7_10 rfl rfl ?_
  refine C.ladd (pc' := 13) od7_12 rfl ?_
  refine C.stAJ (i := i) A_q hi hl g_q (pc' := 14) od7_13 rfl (fun h13 X13 B13 => ?_)
  replace A_e := A_e.other X13 ne_e_q
  have A_q : AJ Z h13 q (Lp.set i ((Lp.getD i 0) + c)) := B13
  replace K := K.wr X13 (Or.inl (List.mem_of_getElem? (i := 0) rfl))
  refine C.iloadN (pc' := 15) od7_14 rfl rfl ?_
  refine C.retI rfl od7_15 (by decide) (by decide) ⟨_, rfl, ?_⟩
  exact ⟨(by subst_vars; rfl), K, A_q⟩
theorem od7_16 : decode method_3_code 16 = .ok (.aload_n 0, 1) := by decide +kernel
theorem od7_17 : decode method_3_code 17 = .ok (.iload_n 2, 1) := by decide +kernel
theorem od7_18 : decode method_3_code 18 = .ok (.lload 4, 2) := by decide +kernel
theorem od7_20 : decode method_3_code 20 = .ok (.lastore, 1) := by decide +kernel
theorem od7_21 : decode method_3_code 21 = .ok (.aload_n 1, 1) := by decide +kernel
theorem od7_22 : decode method_3_code 22 = .ok (.iload_n 2, 1) := by decide +kernel
theorem od7_23 : decode method_3_code 23 = .ok (.lload 6, 2) := by decide +kernel
theorem od7_25 : decode method_3_code 25 = .ok (.lastore, 1) := by decide +kernel
theorem od7_26 : decode method_3_code 26 = .ok (.iload_n 2, 1) := by decide +kernel
theorem od7_27 : decode method_3_code 27 = .ok (.iconst 1, 1) := by decide +kernel
theorem od7_28 : decode method_3_code 28 = .ok (.iadd, 1) := by decide +kernel
theorem od7_29 : decode method_3_code 29 = .ok (.ireturn, 1) := by decide +kernel
theorem ef_own_step0 (m : MethodId) (x0 : Addr) (x1 : Addr) (x2 : Int32) (x3 : Int32) (x4 : Int64) (x5 : Int64) : entryFrame m #[(.ref x0), (.ref x1), (.int x2), (.int x3), (.long x4), (.long x5)] 8 = mkF m 0 #[.val (.ref x0), .val (.ref x1), .val (.int x2), .val (.int x3), .val (.long x4), .second, .val (.long x5), .second] [] := by first | (simp [entryFrame, mkF, argsToLocals, Value.category]; done) | rfl
set_option maxRecDepth 65536 in
set_option maxHeartbeats 40000000 in
theorem own_step0 (l : Launch) (Z : State) (a0 : Array Value) (hw : ∀ d ∈ tables_1, d.before a0 Z = true) (n0 : Nat) (hO : Heap) (e : Addr) (q : Addr) (n : Int32) (sm : Int32) (t : Int64) (c : Int64) (Le : List Int64) (Lp : List Int64) (i : Nat) (Z0 : n0 ≤ hO.size) (A_e : AJ Z hO e Le) (A_q : AJ Z hO q Lp) (g_e : n0 ≤ e) (g_q : n0 ≤ q) (ne_e_q : e ≠ q) (hs : sm = 0) (hi : n.toInt = (i : Int)) (hl : i < Le.length) (hl2 : i < Lp.length) :
    MeetsW l Z n0 (⟨"com/example/steady_limiter/steadylimiter/PermitLogAddPinLaw", "step", "([J[JIZJJ)I"⟩ : MethodName) method_3_code 8 (some .int) ({ frames := 0, cells := 0, slots := 0, locals := 0 } : Room) #[(.ref e), (.ref q), (.int n), (.int sm), (.long t), (.long c)] hO (RI fun r h => r = (n + (1 : Int32)) ∧ Keep hO h [e, q] ∧ AJ Z h e (Le.set i t) ∧ AJ Z h q (Lp.set i c)) := by
  refine MeetsW.intro pn_com_example_steady_limiter_steadylimiter_PermitLogAddPinLaw_step___J_JIZJJ_I (fun m => ef_own_step0 m e q n sm t c) ?_
  intro W C
  replace C : Ru l Z "com/example/steady_limiter/steadylimiter/PermitLogAddPinLaw" method_3_code 8 (some .int) "step" ({ frames := 0, cells := 0, slots := 0, locals := 0 } : Room) n0 (RI fun r h => r = (n + (1 : Int32)) ∧ Keep hO h [e, q] ∧ AJ Z h e (Le.set i t) ∧ AJ Z h q (Lp.set i c)) W := C
  have K : Keep hO hO [e, q] := Keep.refl _ _
  refine C.iloadN (pc' := 1) od7_0 rfl rfl ?_
  refine C.if_eq (pc' := 4) (pt := 16) od7_1 rfl rfl (fun c1 => ?_) (fun c1 => absurd hs c1)
  refine C.aloadN (pc' := 17) od7_16 rfl rfl rfl ?_
  refine C.iloadN (pc' := 18) od7_17 rfl rfl ?_
  refine C.lload (pc' := 20) od7_18 rfl rfl ?_
  refine C.stAJ (i := i) A_e hi hl g_e (pc' := 21) od7_20 rfl (fun h20 X20 B20 => ?_)
  replace A_q := A_q.other X20 (Ne.symm ne_e_q)
  have A_e : AJ Z h20 e (Le.set i t) := B20
  replace K := K.wr X20 (Or.inl (List.mem_of_getElem? (i := 0) rfl))
  refine C.aloadN (pc' := 22) od7_21 rfl rfl rfl ?_
  refine C.iloadN (pc' := 23) od7_22 rfl rfl ?_
  refine C.lload (pc' := 25) od7_23 rfl rfl ?_
  refine C.stAJ (i := i) A_q hi hl2 g_q (pc' := 26) od7_25 rfl (fun h25 X25 B25 => ?_)
  replace A_e := A_e.other X25 ne_e_q
  have A_q : AJ Z h25 q (Lp.set i c) := B25
  replace K := K.wr X25 (Or.inl (List.mem_of_getElem? (i := 1) rfl))
  refine C.iloadN (pc' := 27) od7_26 rfl rfl ?_
  refine C.iconst (v := 1) (pc' := 28) od7_27 rfl rfl ?_
  refine C.iadd (pc' := 29) od7_28 rfl ?_
  refine C.retI rfl od7_29 (by decide) (by decide) ⟨_, rfl, ?_⟩
  exact ⟨(by subst_vars; rfl), K, A_e, A_q⟩
theorem ow0 {a0 : Array Value} {Z : State} (hw : ∀ d ∈ tables_1, d.before a0 Z = true) : (Jvm.Cond.constantLong "com/example/steady_limiter/steadylimiter/PermitLogAddPinLaw" (7 : Nat) (1152921504606846975 : Int64)).before a0 Z = true := hw _ (List.mem_of_getElem? (i := 0) rfl)
theorem ow2 {a0 : Array Value} {Z : State} (hw : ∀ d ∈ tables_1, d.before a0 Z = true) : (Jvm.Cond.classLink "com/example/steady_limiter/steadylimiter/PermitLogAddPinLaw" (9 : Nat) "com/example/steady_limiter/steadylimiter/SlidingWindowLog$PermitLog").before a0 Z = true := hw _ (List.mem_of_getElem? (i := 2) rfl)
theorem ow7 {a0 : Array Value} {Z : State} (hw : ∀ d ∈ tables_1, d.before a0 Z = true) : (Jvm.Cond.code ({ cls := "com/example/steady_limiter/steadylimiter/SlidingWindowLog$PermitLog", name := "<init>", desc := "(J)V" } : Jvm.MethodName) prog_20_method_1_code (3 : Nat) (Option.none : Option Jvm.ClassFile.FieldType)).before a0 Z = true := hw _ (List.mem_of_getElem? (i := 7) rfl)
theorem ow5 {a0 : Array Value} {Z : State} (hw : ∀ d ∈ tables_1, d.before a0 Z = true) : (Jvm.Cond.methodLink "com/example/steady_limiter/steadylimiter/PermitLogAddPinLaw" (11 : Nat) ({ cls := "com/example/steady_limiter/steadylimiter/SlidingWindowLog$PermitLog", name := "<init>", desc := "(J)V" } : Jvm.MethodName)).before a0 Z = true := hw _ (List.mem_of_getElem? (i := 5) rfl)
theorem ow6 {a0 : Array Value} {Z : State} (hw : ∀ d ∈ tables_1, d.before a0 Z = true) : (Jvm.Cond.instanceMethod ({ cls := "com/example/steady_limiter/steadylimiter/SlidingWindowLog$PermitLog", name := "<init>", desc := "(J)V" } : Jvm.MethodName)).before a0 Z = true := hw _ (List.mem_of_getElem? (i := 6) rfl)
theorem pd__JJ_V : parseMethodDescriptor "(JJ)V" = some ⟨[.long, .long], none⟩ := by decide +kernel
theorem ow26 {a0 : Array Value} {Z : State} (hw : ∀ d ∈ tables_1, d.before a0 Z = true) : (Jvm.Cond.code ({ cls := "com/example/steady_limiter/steadylimiter/SlidingWindowLog$PermitLog", name := "add", desc := "(JJ)V" } : Jvm.MethodName) prog_20_method_5_code (6 : Nat) (Option.none : Option Jvm.ClassFile.FieldType)).before a0 Z = true := hw _ (List.mem_of_getElem? (i := 26) rfl)
theorem ow22 {a0 : Array Value} {Z : State} (hw : ∀ d ∈ tables_1, d.before a0 Z = true) : (Jvm.Cond.methodLink "com/example/steady_limiter/steadylimiter/PermitLogAddPinLaw" (14 : Nat) ({ cls := "com/example/steady_limiter/steadylimiter/SlidingWindowLog$PermitLog", name := "add", desc := "(JJ)V" } : Jvm.MethodName)).before a0 Z = true := hw _ (List.mem_of_getElem? (i := 22) rfl)
theorem ow23 {a0 : Array Value} {Z : State} (hw : ∀ d ∈ tables_1, d.before a0 Z = true) : (Jvm.Cond.declares ({ cls := "com/example/steady_limiter/steadylimiter/SlidingWindowLog$PermitLog", name := "add", desc := "(JJ)V" } : Jvm.MethodName)).before a0 Z = true := hw _ (List.mem_of_getElem? (i := 23) rfl)
theorem ow25 {a0 : Array Value} {Z : State} (hw : ∀ d ∈ tables_1, d.before a0 Z = true) : (Jvm.Cond.selects "com/example/steady_limiter/steadylimiter/SlidingWindowLog$PermitLog" ({ cls := "com/example/steady_limiter/steadylimiter/SlidingWindowLog$PermitLog", name := "add", desc := "(JJ)V" } : Jvm.MethodName) ({ cls := "com/example/steady_limiter/steadylimiter/SlidingWindowLog$PermitLog", name := "add", desc := "(JJ)V" } : Jvm.MethodName)).before a0 Z = true := hw _ (List.mem_of_getElem? (i := 25) rfl)
theorem ow24 {a0 : Array Value} {Z : State} (hw : ∀ d ∈ tables_1, d.before a0 Z = true) : (Jvm.Cond.instanceMethod ({ cls := "com/example/steady_limiter/steadylimiter/SlidingWindowLog$PermitLog", name := "add", desc := "(JJ)V" } : Jvm.MethodName)).before a0 Z = true := hw _ (List.mem_of_getElem? (i := 24) rfl)
theorem pd___J_JIZJJ_I : parseMethodDescriptor "([J[JIZJJ)I" = some ⟨[(.array .long), (.array .long), .int, .boolean, .long, .long], some .int⟩ := by decide +kernel
theorem ow45 {a0 : Array Value} {Z : State} (hw : ∀ d ∈ tables_1, d.before a0 Z = true) : (Jvm.Cond.code ({ cls := "com/example/steady_limiter/steadylimiter/PermitLogAddPinLaw", name := "step", desc := "([J[JIZJJ)I" } : Jvm.MethodName) method_3_code (8 : Nat) (Option.some Jvm.ClassFile.FieldType.int)).before a0 Z = true := hw _ (List.mem_of_getElem? (i := 45) rfl)
theorem ow44 {a0 : Array Value} {Z : State} (hw : ∀ d ∈ tables_1, d.before a0 Z = true) : (Jvm.Cond.initialized "com/example/steady_limiter/steadylimiter/PermitLogAddPinLaw").before a0 Z = true := hw _ (List.mem_of_getElem? (i := 44) rfl)
theorem ow42 {a0 : Array Value} {Z : State} (hw : ∀ d ∈ tables_1, d.before a0 Z = true) : (Jvm.Cond.methodLink "com/example/steady_limiter/steadylimiter/PermitLogAddPinLaw" (21 : Nat) ({ cls := "com/example/steady_limiter/steadylimiter/PermitLogAddPinLaw", name := "step", desc := "([J[JIZJJ)I" } : Jvm.MethodName)).before a0 Z = true := hw _ (List.mem_of_getElem? (i := 42) rfl)
theorem ow43 {a0 : Array Value} {Z : State} (hw : ∀ d ∈ tables_1, d.before a0 Z = true) : (Jvm.Cond.static ({ cls := "com/example/steady_limiter/steadylimiter/PermitLogAddPinLaw", name := "step", desc := "([J[JIZJJ)I" } : Jvm.MethodName)).before a0 Z = true := hw _ (List.mem_of_getElem? (i := 43) rfl)
theorem ow46 {a0 : Array Value} {Z : State} (hw : ∀ d ∈ tables_1, d.before a0 Z = true) : (Jvm.Cond.fieldLink "com/example/steady_limiter/steadylimiter/PermitLogAddPinLaw" (27 : Nat) "com/example/steady_limiter/steadylimiter/SlidingWindowLog$PermitLog" "size" "I").before a0 Z = true := hw _ (List.mem_of_getElem? (i := 46) rfl)
theorem ow47 {a0 : Array Value} {Z : State} (hw : ∀ d ∈ tables_1, d.before a0 Z = true) : (Jvm.Cond.fieldLink "com/example/steady_limiter/steadylimiter/PermitLogAddPinLaw" (31 : Nat) "com/example/steady_limiter/steadylimiter/SlidingWindowLog$PermitLog" "counted" "J").before a0 Z = true := hw _ (List.mem_of_getElem? (i := 47) rfl)
theorem own_auto327 {v17 v27 v7 : Int64} : ((((0 : Int64) + v7) + v17) + v27) = ((v7 + v17) + v27) := by grind
theorem ow48 {a0 : Array Value} {Z : State} (hw : ∀ d ∈ tables_1, d.before a0 Z = true) : (Jvm.Cond.methodLink "com/example/steady_limiter/steadylimiter/PermitLogAddPinLaw" (35 : Nat) ({ cls := "com/example/steady_limiter/steadylimiter/SlidingWindowLog$PermitLog", name := "timeAt", desc := "(I)J" } : Jvm.MethodName)).before a0 Z = true := hw _ (List.mem_of_getElem? (i := 48) rfl)
theorem ow49 {a0 : Array Value} {Z : State} (hw : ∀ d ∈ tables_1, d.before a0 Z = true) : (Jvm.Cond.methodLink "com/example/steady_limiter/steadylimiter/PermitLogAddPinLaw" (39 : Nat) ({ cls := "com/example/steady_limiter/steadylimiter/SlidingWindowLog$PermitLog", name := "permitsAt", desc := "(I)J" } : Jvm.MethodName)).before a0 Z = true := hw _ (List.mem_of_getElem? (i := 49) rfl)
theorem pd___V : parseMethodDescriptor "()V" = some ⟨[], none⟩ := by decide +kernel
theorem ow58 {a0 : Array Value} {Z : State} (hw : ∀ d ∈ tables_1, d.before a0 Z = true) : (Jvm.Cond.code ({ cls := "com/example/steady_limiter/steadylimiter/SlidingWindowLog$PermitLog", name := "dropOldest", desc := "()V" } : Jvm.MethodName) prog_20_method_4_code (1 : Nat) (Option.none : Option Jvm.ClassFile.FieldType)).before a0 Z = true := hw _ (List.mem_of_getElem? (i := 58) rfl)
theorem ow54 {a0 : Array Value} {Z : State} (hw : ∀ d ∈ tables_1, d.before a0 Z = true) : (Jvm.Cond.methodLink "com/example/steady_limiter/steadylimiter/PermitLogAddPinLaw" (18 : Nat) ({ cls := "com/example/steady_limiter/steadylimiter/SlidingWindowLog$PermitLog", name := "dropOldest", desc := "()V" } : Jvm.MethodName)).before a0 Z = true := hw _ (List.mem_of_getElem? (i := 54) rfl)
theorem ow55 {a0 : Array Value} {Z : State} (hw : ∀ d ∈ tables_1, d.before a0 Z = true) : (Jvm.Cond.declares ({ cls := "com/example/steady_limiter/steadylimiter/SlidingWindowLog$PermitLog", name := "dropOldest", desc := "()V" } : Jvm.MethodName)).before a0 Z = true := hw _ (List.mem_of_getElem? (i := 55) rfl)
theorem ow57 {a0 : Array Value} {Z : State} (hw : ∀ d ∈ tables_1, d.before a0 Z = true) : (Jvm.Cond.selects "com/example/steady_limiter/steadylimiter/SlidingWindowLog$PermitLog" ({ cls := "com/example/steady_limiter/steadylimiter/SlidingWindowLog$PermitLog", name := "dropOldest", desc := "()V" } : Jvm.MethodName) ({ cls := "com/example/steady_limiter/steadylimiter/SlidingWindowLog$PermitLog", name := "dropOldest", desc := "()V" } : Jvm.MethodName)).before a0 Z = true := hw _ (List.mem_of_getElem? (i := 57) rfl)
theorem ow56 {a0 : Array Value} {Z : State} (hw : ∀ d ∈ tables_1, d.before a0 Z = true) : (Jvm.Cond.instanceMethod ({ cls := "com/example/steady_limiter/steadylimiter/SlidingWindowLog$PermitLog", name := "dropOldest", desc := "()V" } : Jvm.MethodName)).before a0 Z = true := hw _ (List.mem_of_getElem? (i := 56) rfl)
theorem own_auto336 {v139 v17 v27 v7 : Int64} : ((((((0 : Int64) + v139) - v139) + v7) + v17) + v27) = ((v7 + v17) + v27) := by grind
theorem own_auto337 {v17 v27 v7 : Int64} : ((((0 : Int64) + v7) + v17) + v27) = ((v7 + v17) + v27) := by grind
theorem own_auto338 {v139 v17 v27 v7 : Int64} : ((((((0 : Int64) + v139) - v139) + v7) + v17) + v27) = ((v7 + v17) + v27) := by grind
theorem own_auto339 {v17 v27 v7 : Int64} : ((((0 : Int64) + v7) + v17) + v27) = ((v7 + v17) + v27) := by grind
theorem own_auto340 {v139 v17 v27 v7 : Int64} : ((((((0 : Int64) + v139) - v139) + v7) + v17) + v27) = ((v7 + v17) + v27) := by grind
theorem own_auto341 {v17 v27 v7 : Int64} : ((((0 : Int64) + v7) + v17) + v27) = ((v7 + v17) + v27) := by grind
theorem own_auto342 {v139 v17 v27 v7 : Int64} : ((((((0 : Int64) + v139) - v139) + v7) + v17) + v27) = ((v7 + v17) + v27) := by grind
theorem ef_own_rm0 (m : MethodId) (x0 : Int64) (x1 : Int32) (x2 : Int64) (x3 : Int64) (x4 : Int64) (x5 : Int32) : entryFrame m #[(.long x0), (.int x1), (.long x2), (.long x3), (.long x4), (.int x5)] maxLocals = mkF m 0 #[.val (.long x0), .second, .val (.int x1), .val (.long x2), .second, .val (.long x3), .second, .val (.long x4), .second, .val (.int x5), .unset, .unset, .unset, .unset, .unset, .unset, .unset, .unset, .unset, .unset, .unset, .unset, .unset, .unset, .unset, .unset, .unset, .unset, .unset, .unset, .unset, .unset, .unset, .unset] [] := by first | (simp [entryFrame, mkF, argsToLocals, Value.category, maxLocals]; done) | rfl
theorem pn_com_example_steady_limiter_steadylimiter_PermitLogAddPinLaw_law__JIJJJI_Z : plainFor (⟨"com/example/steady_limiter/steadylimiter/PermitLogAddPinLaw", "law", "(JIJJJI)Z"⟩ : MethodName) = true := plainFor_of_name (by first | (simp [plainName, overriddenIn]; done) | decide +kernel)
set_option maxRecDepth 65536 in
set_option maxHeartbeats 40000000 in
theorem own_rm0 (l : Launch) (Z : State) (a0 : Array Value) (hw : ∀ d ∈ tables_1, d.before a0 Z = true) (n0 : Nat) (hO : Heap) (p1 : Int64) (p2 : Int32) (p3 : Int64) (p4 : Int64) (p5 : Int64) (p6 : Int32) (Z0 : n0 ≤ hO.size) :
    MeetsW l Z n0 x code maxLocals ret room_1 #[(.long p1), (.int p2), (.long p3), (.long p4), (.long p5), (.int p6)] hO (RI fun r h => r = 1) := by
  refine MeetsW.intro (show plainFor x = true from pn_com_example_steady_limiter_steadylimiter_PermitLogAddPinLaw_law__JIJJJI_Z) (fun m => ef_own_rm0 m p1 p2 p3 p4 p5 p6) ?_
  intro W C
  replace C : Ru l Z "com/example/steady_limiter/steadylimiter/PermitLogAddPinLaw" code maxLocals ret "law" room_1 n0 (RI fun r h => r = 1) W := C
  have K : Keep hO hO [] := Keep.refl _ _
  refine C.lloadN (pc' := 1) at_0 rfl rfl ?_
  refine C.ldcJ (ow0 hw) (pc' := 4) at_1 rfl ?_
  refine C.land (pc' := 5) at_4 rfl ?_
  refine C.lconst (v := 1) (pc' := 6) at_5 rfl rfl ?_
  refine C.ladd (pc' := 7) at_6 rfl ?_
  refine C.lstore (f := fun v_ => #[.val (.long p1), .second, .val (.int p2), .val (.long p3), .second, .val (.long p4), .second, .val (.long p5), .second, .val (.int p6), .val (.long v_), .second, .unset, .unset, .unset, .unset, .unset, .unset, .unset, .unset, .unset, .unset, .unset, .unset, .unset, .unset, .unset, .unset, .unset, .unset, .unset, .unset, .unset, .unset]) (pc' := 9) at_7 rfl (fun _ => rfl) (fun v7 e7 => ?_)
  refine C.lload (pc' := 11) at_9 rfl rfl ?_
  refine C.ldcJ (ow0 hw) (pc' := 14) at_11 rfl ?_
  refine C.land (pc' := 15) at_14 rfl ?_
  refine C.lconst (v := 1) (pc' := 16) at_15 rfl rfl ?_
  refine C.ladd (pc' := 17) at_16 rfl ?_
  refine C.lstore (f := fun v_ => #[.val (.long p1), .second, .val (.int p2), .val (.long p3), .second, .val (.long p4), .second, .val (.long p5), .second, .val (.int p6), .val (.long v7), .second, .val (.long v_), .second, .unset, .unset, .unset, .unset, .unset, .unset, .unset, .unset, .unset, .unset, .unset, .unset, .unset, .unset, .unset, .unset, .unset, .unset, .unset, .unset]) (pc' := 19) at_17 rfl (fun _ => rfl) (fun v17 e17 => ?_)
  refine C.lload (pc' := 21) at_19 rfl rfl ?_
  refine C.ldcJ (ow0 hw) (pc' := 24) at_21 rfl ?_
  refine C.land (pc' := 25) at_24 rfl ?_
  refine C.lconst (v := 1) (pc' := 26) at_25 rfl rfl ?_
  refine C.ladd (pc' := 27) at_26 rfl ?_
  refine C.lstore (f := fun v_ => #[.val (.long p1), .second, .val (.int p2), .val (.long p3), .second, .val (.long p4), .second, .val (.long p5), .second, .val (.int p6), .val (.long v7), .second, .val (.long v17), .second, .val (.long v_), .second, .unset, .unset, .unset, .unset, .unset, .unset, .unset, .unset, .unset, .unset, .unset, .unset, .unset, .unset, .unset, .unset, .unset, .unset]) (pc' := 29) at_27 rfl (fun _ => rfl) (fun v27 e27 => ?_)
  refine C.iloadN (pc' := 30) at_29 rfl rfl ?_
  refine C.iconst (v := 1) (pc' := 31) at_30 rfl rfl ?_
  refine C.iand (pc' := 32) at_31 rfl ?_
  refine C.if_ne (pc' := 35) (pt := 39) at_32 rfl rfl (fun c32 => ?_) (fun c32 => ?_)
  · skip
    refine C.iconst (v := 0) (pc' := 40) at_39 rfl rfl ?_
    refine C.istoreX (l' := #[.val (.long p1), .second, .val (.int p2), .val (.long p3), .second, .val (.long p4), .second, .val (.long p5), .second, .val (.int p6), .val (.long v7), .second, .val (.long v17), .second, .val (.long v27), .second, .val (.int (0 : Int32)), .unset, .unset, .unset, .unset, .unset, .unset, .unset, .unset, .unset, .unset, .unset, .unset, .unset, .unset, .unset, .unset, .unset]) (pc' := 42) at_40 rfl rfl ?_
    refine C.iload (pc' := 44) at_42 rfl rfl ?_
    refine C.if_eq (pc' := 47) (pt := 51) at_44 rfl rfl (fun c44 => ?_) (fun c44 => absurd (by decide) c44)
    refine C.iloadN (pc' := 52) at_51 rfl rfl ?_
    refine C.iconst (v := 1) (pc' := 53) at_52 rfl rfl ?_
    refine C.iushr (s := 1) (pc' := 54) at_53 rfl (by decide) ?_
    refine C.sipush (v := 511) (pc' := 57) at_54 rfl rfl ?_
    refine C.iand (pc' := 58) at_57 rfl ?_
    refine C.i2l (pc' := 59) at_58 rfl ?_
    refine C.lconst (v := 1) (pc' := 60) at_59 rfl rfl ?_
    refine C.ladd (pc' := 61) at_60 rfl ?_
    refine C.lstore (f := fun v_ => #[.val (.long p1), .second, .val (.int p2), .val (.long p3), .second, .val (.long p4), .second, .val (.long p5), .second, .val (.int p6), .val (.long v7), .second, .val (.long v17), .second, .val (.long v27), .second, .val (.int (0 : Int32)), .val (.long v_), .second, .unset, .unset, .unset, .unset, .unset, .unset, .unset, .unset, .unset, .unset, .unset, .unset, .unset, .unset, .unset]) (pc' := 63) at_61 rfl (fun _ => rfl) (fun v61 e61 => ?_)
    refine C.iloadN (pc' := 64) at_63 rfl rfl ?_
    refine C.bipush (v := 10) (pc' := 66) at_64 rfl rfl ?_
    refine C.iushr (s := 10) (pc' := 67) at_66 rfl (by decide) ?_
    refine C.iconst (v := 1) (pc' := 68) at_67 rfl rfl ?_
    refine C.iand (pc' := 69) at_68 rfl ?_
    refine C.if_ne (pc' := 72) (pt := 76) at_69 rfl rfl (fun c69 => ?_) (fun c69 => ?_)
    · skip
      refine C.iconst (v := 0) (pc' := 77) at_76 rfl rfl ?_
      refine C.istoreX (l' := #[.val (.long p1), .second, .val (.int p2), .val (.long p3), .second, .val (.long p4), .second, .val (.long p5), .second, .val (.int p6), .val (.long v7), .second, .val (.long v17), .second, .val (.long v27), .second, .val (.int (0 : Int32)), .val (.long v61), .second, .val (.int (0 : Int32)), .unset, .unset, .unset, .unset, .unset, .unset, .unset, .unset, .unset, .unset, .unset, .unset, .unset, .unset]) (pc' := 79) at_77 rfl rfl ?_
      refine C.iload (pc' := 81) at_79 rfl rfl ?_
      refine C.if_eq (pc' := 84) (pt := 88) at_81 rfl rfl (fun c81 => ?_) (fun c81 => absurd (by decide) c81)
      refine C.iloadN (pc' := 89) at_88 rfl rfl ?_
      refine C.bipush (v := 11) (pc' := 91) at_89 rfl rfl ?_
      refine C.iushr (s := 11) (pc' := 92) at_91 rfl (by decide) ?_
      refine C.sipush (v := 511) (pc' := 95) at_92 rfl rfl ?_
      refine C.iand (pc' := 96) at_95 rfl ?_
      refine C.i2l (pc' := 97) at_96 rfl ?_
      refine C.lconst (v := 1) (pc' := 98) at_97 rfl rfl ?_
      refine C.ladd (pc' := 99) at_98 rfl ?_
      refine C.lstore (f := fun v_ => #[.val (.long p1), .second, .val (.int p2), .val (.long p3), .second, .val (.long p4), .second, .val (.long p5), .second, .val (.int p6), .val (.long v7), .second, .val (.long v17), .second, .val (.long v27), .second, .val (.int (0 : Int32)), .val (.long v61), .second, .val (.int (0 : Int32)), .val (.long v_), .second, .unset, .unset, .unset, .unset, .unset, .unset, .unset, .unset, .unset, .unset, .unset, .unset]) (pc' := 101) at_99 rfl (fun _ => rfl) (fun v99 e99 => ?_)
      refine C.lloadN (pc' := 102) at_101 rfl rfl ?_
      refine C.lload (pc' := 104) at_102 rfl rfl ?_
      refine C.ladd (pc' := 105) at_104 rfl ?_
      refine C.lstore (f := fun v_ => #[.val (.long p1), .second, .val (.int p2), .val (.long p3), .second, .val (.long p4), .second, .val (.long p5), .second, .val (.int p6), .val (.long v7), .second, .val (.long v17), .second, .val (.long v27), .second, .val (.int (0 : Int32)), .val (.long v61), .second, .val (.int (0 : Int32)), .val (.long v99), .second, .val (.long v_), .second, .unset, .unset, .unset, .unset, .unset, .unset, .unset, .unset, .unset, .unset]) (pc' := 107) at_105 rfl (fun _ => rfl) (fun v105 e105 => ?_)
      refine C.lload (pc' := 109) at_107 rfl rfl ?_
      refine C.lload (pc' := 111) at_109 rfl rfl ?_
      refine C.ladd (pc' := 112) at_111 rfl ?_
      refine C.lstore (f := fun v_ => #[.val (.long p1), .second, .val (.int p2), .val (.long p3), .second, .val (.long p4), .second, .val (.long p5), .second, .val (.int p6), .val (.long v7), .second, .val (.long v17), .second, .val (.long v27), .second, .val (.int (0 : Int32)), .val (.long v61), .second, .val (.int (0 : Int32)), .val (.long v99), .second, .val (.long v105), .second, .val (.long v_), .second, .unset, .unset, .unset, .unset, .unset, .unset, .unset, .unset]) (pc' := 114) at_112 rfl (fun _ => rfl) (fun v112 e112 => ?_)
      refine C.iload (pc' := 116) at_114 rfl rfl ?_
      refine C.iconst (v := 1) (pc' := 117) at_116 rfl rfl ?_
      refine C.iand (pc' := 118) at_117 rfl ?_
      refine C.if_eq (pc' := 121) (pt := 125) at_118 rfl rfl (fun c118 => ?_) (fun c118 => ?_)
      · skip
        refine C.iconst (v := 0) (pc' := 126) at_125 rfl rfl ?_
        refine C.istoreX (l' := #[.val (.long p1), .second, .val (.int p2), .val (.long p3), .second, .val (.long p4), .second, .val (.long p5), .second, .val (.int p6), .val (.long v7), .second, .val (.long v17), .second, .val (.long v27), .second, .val (.int (0 : Int32)), .val (.long v61), .second, .val (.int (0 : Int32)), .val (.long v99), .second, .val (.long v105), .second, .val (.long v112), .second, .val (.int (0 : Int32)), .unset, .unset, .unset, .unset, .unset, .unset, .unset]) (pc' := 128) at_126 rfl rfl ?_
        refine C.iload (pc' := 130) at_128 rfl rfl ?_
        refine C.iconst (v := 1) (pc' := 131) at_130 rfl rfl ?_
        refine C.iushr (s := 1) (pc' := 132) at_131 rfl (by decide) ?_
        refine C.sipush (v := 255) (pc' := 135) at_132 rfl rfl ?_
        refine C.iand (pc' := 136) at_135 rfl ?_
        refine C.i2l (pc' := 137) at_136 rfl ?_
        refine C.lconst (v := 1) (pc' := 138) at_137 rfl rfl ?_
        refine C.ladd (pc' := 139) at_138 rfl ?_
        refine C.lstore (f := fun v_ => #[.val (.long p1), .second, .val (.int p2), .val (.long p3), .second, .val (.long p4), .second, .val (.long p5), .second, .val (.int p6), .val (.long v7), .second, .val (.long v17), .second, .val (.long v27), .second, .val (.int (0 : Int32)), .val (.long v61), .second, .val (.int (0 : Int32)), .val (.long v99), .second, .val (.long v105), .second, .val (.long v112), .second, .val (.int (0 : Int32)), .val (.long v_), .second, .unset, .unset, .unset, .unset, .unset]) (pc' := 141) at_139 rfl (fun _ => rfl) (fun v139 e139 => ?_)
        refine C.iconst (v := 3) (pc' := 142) at_141 rfl rfl ?_
        refine C.newAJ (N := 3) (cap := 3) (ow1 hw) (pc' := 144) at_142 rfl (by decide) (by decide) (by decide) (by decide) (by decide) (fun h142 b142 hb142 X142 A_b142 => ?_)
        have sz_b142 : hO.size ≤ b142 := by rw [hb142]; exact K.1
        have g_b142 : n0 ≤ b142 := Nat.le_trans Z0 sz_b142
        replace K := K.ext X142
        replace A_b142 : AJ Z h142 b142 [(0 : Int64), (0 : Int64), (0 : Int64)] := A_b142
        refine C.astore (l' := #[.val (.long p1), .second, .val (.int p2), .val (.long p3), .second, .val (.long p4), .second, .val (.long p5), .second, .val (.int p6), .val (.long v7), .second, .val (.long v17), .second, .val (.long v27), .second, .val (.int (0 : Int32)), .val (.long v61), .second, .val (.int (0 : Int32)), .val (.long v99), .second, .val (.long v105), .second, .val (.long v112), .second, .val (.int (0 : Int32)), .val (.long v139), .second, .val (.ref b142), .unset, .unset, .unset, .unset]) (pc' := 146) at_144 rfl rfl rfl ?_
        refine C.iconst (v := 3) (pc' := 147) at_146 rfl rfl ?_
        refine C.newAJ (N := 3) (cap := 3) (ow1 hw) (pc' := 149) at_147 rfl (by decide) (by decide) (by decide) (by decide) (by decide) (fun h147 b147 hb147 X147 A_b147 => ?_)
        have ne_b142_b147 : b142 ≠ b147 := by rw [hb147]; exact Nat.ne_of_lt A_b142.lt
        have sz_b147 : hO.size ≤ b147 := by rw [hb147]; exact K.1
        have g_b147 : n0 ≤ b147 := Nat.le_trans Z0 sz_b147
        replace A_b142 := A_b142.ext X147
        replace K := K.ext X147
        replace A_b147 : AJ Z h147 b147 [(0 : Int64), (0 : Int64), (0 : Int64)] := A_b147
        refine C.astore (l' := #[.val (.long p1), .second, .val (.int p2), .val (.long p3), .second, .val (.long p4), .second, .val (.long p5), .second, .val (.int p6), .val (.long v7), .second, .val (.long v17), .second, .val (.long v27), .second, .val (.int (0 : Int32)), .val (.long v61), .second, .val (.int (0 : Int32)), .val (.long v99), .second, .val (.long v105), .second, .val (.long v112), .second, .val (.int (0 : Int32)), .val (.long v139), .second, .val (.ref b142), .val (.ref b147), .unset, .unset, .unset]) (pc' := 151) at_149 rfl rfl rfl ?_
        refine C.new (ow2 hw) (ow3 hw) (ow4 hw) (pc' := 154) at_151 rfl (by decide) (by decide) (fun h151 b151 hb151 X151 E_b151 D151 => ?_)
        have ne_b142_b151 : b142 ≠ b151 := by rw [hb151]; exact Nat.ne_of_lt A_b142.lt
        have ne_b147_b151 : b147 ≠ b151 := by rw [hb151]; exact Nat.ne_of_lt A_b147.lt
        have sz_b151 : hO.size ≤ b151 := by rw [hb151]; exact K.1
        have g_b151 : n0 ≤ b151 := Nat.le_trans Z0 sz_b151
        replace A_b142 := A_b142.ext X151
        replace A_b147 := A_b147.ext X151
        replace K := K.ext X151
        have F_b151_lastNanos : Fld Z h151 b151 "com/example/steady_limiter/steadylimiter/KeyState" "lastNanos" "J" (.long (0 : Int64)) := D151 (Or.inl (ow17 hw)) pf_J
        have F_b151_times : Fld Z h151 b151 "com/example/steady_limiter/steadylimiter/SlidingWindowLog$PermitLog" "times" "[J" .null := D151 (Or.inl (ow19 hw)) pf__J
        have F_b151_permits : Fld Z h151 b151 "com/example/steady_limiter/steadylimiter/SlidingWindowLog$PermitLog" "permits" "[J" .null := D151 (Or.inl (ow21 hw)) pf__J
        have F_b151_size : Fld Z h151 b151 "com/example/steady_limiter/steadylimiter/SlidingWindowLog$PermitLog" "size" "I" (.int (0 : Int32)) := D151 (Or.inl (ow28 hw)) pf_I
        have F_b151_head : Fld Z h151 b151 "com/example/steady_limiter/steadylimiter/SlidingWindowLog$PermitLog" "head" "I" (.int (0 : Int32)) := D151 (Or.inl (ow34 hw)) pf_I
        have F_b151_counted : Fld Z h151 b151 "com/example/steady_limiter/steadylimiter/SlidingWindowLog$PermitLog" "counted" "J" (.long (0 : Int64)) := D151 (Or.inl (ow36 hw)) pf_J
        refine C.dup (pc' := 155) at_154 rfl rfl ?_
        refine C.lloadN (pc' := 156) at_155 rfl rfl ?_
        refine C.callc (w := 1) (own_rm1 l Z a0 hw n0 h151 b151 p1 (Nat.le_trans Z0 K.1) E_b151 F_b151_lastNanos F_b151_times F_b151_permits F_b151_head F_b151_size F_b151_counted g_b151) rfl (ow5 hw) (ow6 hw) (ow4 hw) (ow7 hw) (pc' := 159) at_156 rfl rfl rfl (by decide) pd__J_V rfl (by decide) (Nat.le_of_eq rfl) (by decide) (by decide) (by decide) (kV fun h156 q156 => ?_)
        obtain ⟨ta156, pa156, K156, z156_ta156, z156_pa156, ne_ta156_pa156, N156_0, N156_1, N156_2, N156_3, N156_4, N156_5, N156_6⟩ := q156
        have ne_b142_ta156 : b142 ≠ ta156 := Nat.ne_of_lt (Nat.lt_of_lt_of_le A_b142.lt z156_ta156)
        have ne_b147_ta156 : b147 ≠ ta156 := Nat.ne_of_lt (Nat.lt_of_lt_of_le A_b147.lt z156_ta156)
        have ne_b151_ta156 : b151 ≠ ta156 := Nat.ne_of_lt (Nat.lt_of_lt_of_le (exaLt E_b151) z156_ta156)
        have sz_ta156 : hO.size ≤ ta156 := Nat.le_trans K.1 z156_ta156
        have g_ta156 : n0 ≤ ta156 := Nat.le_trans Z0 sz_ta156
        have ne_b142_pa156 : b142 ≠ pa156 := Nat.ne_of_lt (Nat.lt_of_lt_of_le A_b142.lt z156_pa156)
        have ne_b147_pa156 : b147 ≠ pa156 := Nat.ne_of_lt (Nat.lt_of_lt_of_le A_b147.lt z156_pa156)
        have ne_b151_pa156 : b151 ≠ pa156 := Nat.ne_of_lt (Nat.lt_of_lt_of_le (exaLt E_b151) z156_pa156)
        have sz_pa156 : hO.size ≤ pa156 := Nat.le_trans K.1 z156_pa156
        have g_pa156 : n0 ≤ pa156 := Nat.le_trans Z0 sz_pa156
        replace A_b142 := A_b142.keep K156 (ninS ne_b142_b151 nin0)
        replace A_b147 := A_b147.keep K156 (ninS ne_b147_b151 nin0)
        replace E_b151 := E_b151.keep K156
        have F_b151_times : Fld Z h156 b151 "com/example/steady_limiter/steadylimiter/SlidingWindowLog$PermitLog" "times" "[J" (.ref ta156) := N156_0
        have F_b151_permits : Fld Z h156 b151 "com/example/steady_limiter/steadylimiter/SlidingWindowLog$PermitLog" "permits" "[J" (.ref pa156) := N156_1
        have F_b151_head : Fld Z h156 b151 "com/example/steady_limiter/steadylimiter/SlidingWindowLog$PermitLog" "head" "I" (.int (0 : Int32)) := N156_2
        have F_b151_size : Fld Z h156 b151 "com/example/steady_limiter/steadylimiter/SlidingWindowLog$PermitLog" "size" "I" (.int (0 : Int32)) := N156_3
        have F_b151_counted : Fld Z h156 b151 "com/example/steady_limiter/steadylimiter/SlidingWindowLog$PermitLog" "counted" "J" (.long (0 : Int64)) := N156_4
        have A_ta156 : AJ Z h156 ta156 [(0 : Int64), (0 : Int64)] := N156_5
        have A_pa156 : AJ Z h156 pa156 [(0 : Int64), (0 : Int64)] := N156_6
        replace K := K.trans K156 (allS (Or.inr sz_b151) all0)
        refine C.astore (l' := #[.val (.long p1), .second, .val (.int p2), .val (.long p3), .second, .val (.long p4), .second, .val (.long p5), .second, .val (.int p6), .val (.long v7), .second, .val (.long v17), .second, .val (.long v27), .second, .val (.int (0 : Int32)), .val (.long v61), .second, .val (.int (0 : Int32)), .val (.long v99), .second, .val (.long v105), .second, .val (.long v112), .second, .val (.int (0 : Int32)), .val (.long v139), .second, .val (.ref b142), .val (.ref b147), .val (.ref b151), .unset, .unset]) (pc' := 161) at_159 rfl rfl rfl ?_
        refine C.iload (pc' := 163) at_161 rfl rfl ?_
        refine C.if_eq (pc' := 166) (pt := 181) at_163 rfl rfl (fun c163 => ?_) (fun c163 => absurd (by decide) c163)
        refine C.aload (pc' := 183) at_181 rfl rfl rfl ?_
        refine C.lloadN (pc' := 184) at_183 rfl rfl ?_
        refine C.lload (pc' := 186) at_184 rfl rfl ?_
        refine C.callv (w := 0) (own_addB0 l Z a0 hw n0 h156 b151 p1 v7 ta156 pa156 (0 : Int32) (0 : Int32) (0 : Int64) [(0 : Int64), (0 : Int64)] [(0 : Int64), (0 : Int64)] (2 : Int32) 0 (Nat.le_trans Z0 K.1) E_b151 F_b151_times F_b151_permits F_b151_head F_b151_size F_b151_counted A_ta156 A_pa156 g_b151 g_ta156 g_pa156 ne_b151_ta156 ne_b151_pa156 ne_ta156_pa156 (show (2 : Int32).toInt = ((2 : Nat) : Int) from by decide) (by decide) (by decide) (show 0 < 2 from by decide) (show 0 < 2 from by decide) (by decide)) E_b151 (ow22 hw) (ow23 hw) (ow25 hw) (ow24 hw) (ow4 hw) (ow26 hw) (pc' := 189) at_186 rfl rfl rfl (by decide) pd__JJ_V rfl (by decide) (Nat.le_of_eq rfl) (by decide) (by decide) (by decide) (kV fun h186 q186 => ?_)
        obtain ⟨K186, N186_0, N186_1, N186_2, N186_3, N186_4, N186_5, N186_6⟩ := q186
        replace A_b142 := A_b142.keep K186 (ninS ne_b142_b151 (ninS ne_b142_ta156 (ninS ne_b142_pa156 nin0)))
        replace A_b147 := A_b147.keep K186 (ninS ne_b147_b151 (ninS ne_b147_ta156 (ninS ne_b147_pa156 nin0)))
        replace E_b151 := E_b151.keep K186
        have F_b151_times : Fld Z h186 b151 "com/example/steady_limiter/steadylimiter/SlidingWindowLog$PermitLog" "times" "[J" (.ref ta156) := N186_0
        have F_b151_permits : Fld Z h186 b151 "com/example/steady_limiter/steadylimiter/SlidingWindowLog$PermitLog" "permits" "[J" (.ref pa156) := N186_1
        have F_b151_head : Fld Z h186 b151 "com/example/steady_limiter/steadylimiter/SlidingWindowLog$PermitLog" "head" "I" (.int (0 : Int32)) := N186_2
        have F_b151_size : Fld Z h186 b151 "com/example/steady_limiter/steadylimiter/SlidingWindowLog$PermitLog" "size" "I" (.int ((0 : Int32) + (1 : Int32))) := N186_3
        have F_b151_counted : Fld Z h186 b151 "com/example/steady_limiter/steadylimiter/SlidingWindowLog$PermitLog" "counted" "J" (.long ((0 : Int64) + v7)) := N186_4
        have A_ta156 : AJ Z h186 ta156 [p1, (0 : Int64)] := N186_5
        have A_pa156 : AJ Z h186 pa156 [v7, (0 : Int64)] := N186_6
        replace K := K.trans K186 (allS (Or.inr sz_b151) (allS (Or.inr sz_ta156) (allS (Or.inr sz_pa156) all0)))
        refine C.aload (pc' := 191) at_189 rfl rfl rfl ?_
        refine C.lload (pc' := 193) at_191 rfl rfl ?_
        refine C.lload (pc' := 195) at_193 rfl rfl ?_
        refine C.callv (w := 0) (own_addB1 l Z a0 hw n0 h186 b151 v105 v17 ta156 pa156 (0 : Int32) ((0 : Int32) + (1 : Int32)) ((0 : Int64) + v7) [p1, (0 : Int64)] [v7, (0 : Int64)] (2 : Int32) 0 1 (Nat.le_trans Z0 K.1) E_b151 F_b151_times F_b151_permits F_b151_head F_b151_size F_b151_counted A_ta156 A_pa156 g_b151 g_ta156 g_pa156 ne_b151_ta156 ne_b151_pa156 ne_ta156_pa156 (show (2 : Int32).toInt = ((2 : Nat) : Int) from by decide) (by decide) (by decide) (show 0 < 2 from by decide) (show 0 < 2 from by decide) (own_ne e61 e105) (by decide) (show 1 < 2 from by decide) (show 1 < 2 from by decide) (by decide)) E_b151 (ow22 hw) (ow23 hw) (ow25 hw) (ow24 hw) (ow4 hw) (ow26 hw) (pc' := 198) at_195 rfl rfl rfl (by decide) pd__JJ_V rfl (by decide) (Nat.le_of_eq rfl) (by decide) (by decide) (by decide) (kV fun h195 q195 => ?_)
        obtain ⟨K195, N195_0, N195_1, N195_2, N195_3, N195_4, N195_5, N195_6⟩ := q195
        replace A_b142 := A_b142.keep K195 (ninS ne_b142_b151 (ninS ne_b142_ta156 (ninS ne_b142_pa156 nin0)))
        replace A_b147 := A_b147.keep K195 (ninS ne_b147_b151 (ninS ne_b147_ta156 (ninS ne_b147_pa156 nin0)))
        replace E_b151 := E_b151.keep K195
        have F_b151_times : Fld Z h195 b151 "com/example/steady_limiter/steadylimiter/SlidingWindowLog$PermitLog" "times" "[J" (.ref ta156) := N195_0
        have F_b151_permits : Fld Z h195 b151 "com/example/steady_limiter/steadylimiter/SlidingWindowLog$PermitLog" "permits" "[J" (.ref pa156) := N195_1
        have F_b151_head : Fld Z h195 b151 "com/example/steady_limiter/steadylimiter/SlidingWindowLog$PermitLog" "head" "I" (.int (0 : Int32)) := N195_2
        have F_b151_size : Fld Z h195 b151 "com/example/steady_limiter/steadylimiter/SlidingWindowLog$PermitLog" "size" "I" (.int (((0 : Int32) + (1 : Int32)) + (1 : Int32))) := N195_3
        have F_b151_counted : Fld Z h195 b151 "com/example/steady_limiter/steadylimiter/SlidingWindowLog$PermitLog" "counted" "J" (.long (((0 : Int64) + v7) + v17)) := N195_4
        have A_ta156 : AJ Z h195 ta156 [p1, v105] := N195_5
        have A_pa156 : AJ Z h195 pa156 [v7, v17] := N195_6
        replace K := K.trans K195 (allS (Or.inr sz_b151) (allS (Or.inr sz_ta156) (allS (Or.inr sz_pa156) all0)))
        refine C.aload (pc' := 200) at_198 rfl rfl rfl ?_
        refine C.lload (pc' := 202) at_200 rfl rfl ?_
        refine C.lload (pc' := 204) at_202 rfl rfl ?_
        refine C.callv (w := 0) (own_addC l Z a0 hw n0 h195 b151 v112 v27 ta156 pa156 (0 : Int32) (((0 : Int32) + (1 : Int32)) + (1 : Int32)) (((0 : Int64) + v7) + v17) p1 v105 v7 v17 1 0 1 (Nat.le_trans Z0 K.1) E_b151 F_b151_times F_b151_permits F_b151_head F_b151_size F_b151_counted A_ta156 A_pa156 g_b151 ne_b151_ta156 ne_b151_pa156 (by decide) (by decide) (by decide) (own_ne e99 e112) (by decide) (by decide) (by decide) (by decide)) E_b151 (ow22 hw) (ow23 hw) (ow25 hw) (ow24 hw) (ow4 hw) (ow26 hw) (pc' := 207) at_204 rfl rfl rfl (by decide) pd__JJ_V rfl (by decide) (Nat.le_of_eq rfl) (by decide) (by decide) (by decide) (kV fun h204 q204 => ?_)
        obtain ⟨tb204, pb204, K204, z204_tb204, z204_pb204, ne_tb204_pb204, N204_0, N204_1, N204_2, N204_3, N204_4, N204_5, N204_6⟩ := q204
        have ne_b142_tb204 : b142 ≠ tb204 := Nat.ne_of_lt (Nat.lt_of_lt_of_le A_b142.lt z204_tb204)
        have ne_b147_tb204 : b147 ≠ tb204 := Nat.ne_of_lt (Nat.lt_of_lt_of_le A_b147.lt z204_tb204)
        have ne_b151_tb204 : b151 ≠ tb204 := Nat.ne_of_lt (Nat.lt_of_lt_of_le (exaLt E_b151) z204_tb204)
        have ne_ta156_tb204 : ta156 ≠ tb204 := Nat.ne_of_lt (Nat.lt_of_lt_of_le A_ta156.lt z204_tb204)
        have ne_pa156_tb204 : pa156 ≠ tb204 := Nat.ne_of_lt (Nat.lt_of_lt_of_le A_pa156.lt z204_tb204)
        have sz_tb204 : hO.size ≤ tb204 := Nat.le_trans K.1 z204_tb204
        have g_tb204 : n0 ≤ tb204 := Nat.le_trans Z0 sz_tb204
        have ne_b142_pb204 : b142 ≠ pb204 := Nat.ne_of_lt (Nat.lt_of_lt_of_le A_b142.lt z204_pb204)
        have ne_b147_pb204 : b147 ≠ pb204 := Nat.ne_of_lt (Nat.lt_of_lt_of_le A_b147.lt z204_pb204)
        have ne_b151_pb204 : b151 ≠ pb204 := Nat.ne_of_lt (Nat.lt_of_lt_of_le (exaLt E_b151) z204_pb204)
        have ne_ta156_pb204 : ta156 ≠ pb204 := Nat.ne_of_lt (Nat.lt_of_lt_of_le A_ta156.lt z204_pb204)
        have ne_pa156_pb204 : pa156 ≠ pb204 := Nat.ne_of_lt (Nat.lt_of_lt_of_le A_pa156.lt z204_pb204)
        have sz_pb204 : hO.size ≤ pb204 := Nat.le_trans K.1 z204_pb204
        have g_pb204 : n0 ≤ pb204 := Nat.le_trans Z0 sz_pb204
        replace A_b142 := A_b142.keep K204 (ninS ne_b142_b151 nin0)
        replace A_b147 := A_b147.keep K204 (ninS ne_b147_b151 nin0)
        replace E_b151 := E_b151.keep K204
        replace A_ta156 := A_ta156.keep K204 (ninS (Ne.symm ne_b151_ta156) nin0)
        replace A_pa156 := A_pa156.keep K204 (ninS (Ne.symm ne_b151_pa156) nin0)
        have F_b151_times : Fld Z h204 b151 "com/example/steady_limiter/steadylimiter/SlidingWindowLog$PermitLog" "times" "[J" (.ref tb204) := N204_0
        have F_b151_permits : Fld Z h204 b151 "com/example/steady_limiter/steadylimiter/SlidingWindowLog$PermitLog" "permits" "[J" (.ref pb204) := N204_1
        have F_b151_head : Fld Z h204 b151 "com/example/steady_limiter/steadylimiter/SlidingWindowLog$PermitLog" "head" "I" (.int (0 : Int32)) := N204_2
        have F_b151_size : Fld Z h204 b151 "com/example/steady_limiter/steadylimiter/SlidingWindowLog$PermitLog" "size" "I" (.int ((((0 : Int32) + (1 : Int32)) + (1 : Int32)) + (1 : Int32))) := N204_3
        have F_b151_counted : Fld Z h204 b151 "com/example/steady_limiter/steadylimiter/SlidingWindowLog$PermitLog" "counted" "J" (.long ((((0 : Int64) + v7) + v17) + v27)) := N204_4
        have A_tb204 : AJ Z h204 tb204 [p1, v105, v112, (0 : Int64)] := N204_5
        have A_pb204 : AJ Z h204 pb204 [v7, v17, v27, (0 : Int64)] := N204_6
        replace K := K.trans K204 (allS (Or.inr sz_b151) all0)
        refine C.aload (pc' := 209) at_207 rfl rfl rfl ?_
        refine C.iconst (v := 0) (pc' := 210) at_209 rfl rfl ?_
        refine C.lloadN (pc' := 211) at_210 rfl rfl ?_
        refine C.stAJ (i := 0) A_b142 (by decide) (by show 0 < 3; decide) g_b142 (pc' := 212) at_211 rfl (fun h211 X211 B211 => ?_)
        replace A_b147 := A_b147.other X211 (Ne.symm ne_b142_b147)
        replace E_b151 := E_b151.wr X211
        replace A_ta156 := A_ta156.other X211 (Ne.symm ne_b142_ta156)
        replace A_pa156 := A_pa156.other X211 (Ne.symm ne_b142_pa156)
        replace F_b151_times := F_b151_times.other X211 (Or.inl (Ne.symm ne_b142_b151))
        replace F_b151_permits := F_b151_permits.other X211 (Or.inl (Ne.symm ne_b142_b151))
        replace F_b151_head := F_b151_head.other X211 (Or.inl (Ne.symm ne_b142_b151))
        replace F_b151_size := F_b151_size.other X211 (Or.inl (Ne.symm ne_b142_b151))
        replace F_b151_counted := F_b151_counted.other X211 (Or.inl (Ne.symm ne_b142_b151))
        replace A_tb204 := A_tb204.other X211 (Ne.symm ne_b142_tb204)
        replace A_pb204 := A_pb204.other X211 (Ne.symm ne_b142_pb204)
        have A_b142 : AJ Z h211 b142 [p1, (0 : Int64), (0 : Int64)] := B211
        replace K := K.wr X211 (Or.inr sz_b142)
        refine C.aload (pc' := 214) at_212 rfl rfl rfl ?_
        refine C.iconst (v := 0) (pc' := 215) at_214 rfl rfl ?_
        refine C.lload (pc' := 217) at_215 rfl rfl ?_
        refine C.stAJ (i := 0) A_b147 (by decide) (by show 0 < 3; decide) g_b147 (pc' := 218) at_217 rfl (fun h217 X217 B217 => ?_)
        replace E_b151 := E_b151.wr X217
        replace A_ta156 := A_ta156.other X217 (Ne.symm ne_b147_ta156)
        replace A_pa156 := A_pa156.other X217 (Ne.symm ne_b147_pa156)
        replace F_b151_times := F_b151_times.other X217 (Or.inl (Ne.symm ne_b147_b151))
        replace F_b151_permits := F_b151_permits.other X217 (Or.inl (Ne.symm ne_b147_b151))
        replace F_b151_head := F_b151_head.other X217 (Or.inl (Ne.symm ne_b147_b151))
        replace F_b151_size := F_b151_size.other X217 (Or.inl (Ne.symm ne_b147_b151))
        replace F_b151_counted := F_b151_counted.other X217 (Or.inl (Ne.symm ne_b147_b151))
        replace A_tb204 := A_tb204.other X217 (Ne.symm ne_b147_tb204)
        replace A_pb204 := A_pb204.other X217 (Ne.symm ne_b147_pb204)
        replace A_b142 := A_b142.other X217 ne_b142_b147
        have A_b147 : AJ Z h217 b147 [v7, (0 : Int64), (0 : Int64)] := B217
        replace K := K.wr X217 (Or.inr sz_b147)
        refine C.iconst (v := 1) (pc' := 219) at_218 rfl rfl ?_
        refine C.istoreX (l' := #[.val (.long p1), .second, .val (.int p2), .val (.long p3), .second, .val (.long p4), .second, .val (.long p5), .second, .val (.int p6), .val (.long v7), .second, .val (.long v17), .second, .val (.long v27), .second, .val (.int (0 : Int32)), .val (.long v61), .second, .val (.int (0 : Int32)), .val (.long v99), .second, .val (.long v105), .second, .val (.long v112), .second, .val (.int (0 : Int32)), .val (.long v139), .second, .val (.ref b142), .val (.ref b147), .val (.ref b151), .val (.int (1 : Int32)), .unset]) (pc' := 221) at_219 rfl rfl ?_
        refine C.aload (pc' := 223) at_221 rfl rfl rfl ?_
        refine C.aload (pc' := 225) at_223 rfl rfl rfl ?_
        refine C.iload (pc' := 227) at_225 rfl rfl ?_
        refine C.iload (pc' := 229) at_227 rfl rfl ?_
        refine C.lload (pc' := 231) at_229 rfl rfl ?_
        refine C.lload (pc' := 233) at_231 rfl rfl ?_
        refine C.calls (w := 0) (own_step0 l Z a0 hw n0 h217 b142 b147 (1 : Int32) (0 : Int32) v105 v17 [p1, (0 : Int64), (0 : Int64)] [v7, (0 : Int64), (0 : Int64)] 1 (Nat.le_trans Z0 K.1) A_b142 A_b147 g_b142 g_b147 ne_b142_b147 rfl (by decide) (show 1 < 3 from by decide) (show 1 < 3 from by decide)) (ow42 hw) (ow43 hw) (ow44 hw) (ow45 hw) (pc' := 236) at_233 rfl rfl rfl (by decide) pd___J_JIZJJ_I rfl (by decide) (Nat.le_of_eq rfl) (by decide) (by decide) (by decide) (kI fun r233 h233 q233 => ?_)
        obtain ⟨rfl, K233, N233_0, N233_1⟩ := q233
        replace E_b151 := E_b151.keep K233
        replace A_ta156 := A_ta156.keep K233 (ninS (Ne.symm ne_b142_ta156) (ninS (Ne.symm ne_b147_ta156) nin0))
        replace A_pa156 := A_pa156.keep K233 (ninS (Ne.symm ne_b142_pa156) (ninS (Ne.symm ne_b147_pa156) nin0))
        replace F_b151_times := F_b151_times.keep K233 (ninS (Ne.symm ne_b142_b151) (ninS (Ne.symm ne_b147_b151) nin0))
        replace F_b151_permits := F_b151_permits.keep K233 (ninS (Ne.symm ne_b142_b151) (ninS (Ne.symm ne_b147_b151) nin0))
        replace F_b151_head := F_b151_head.keep K233 (ninS (Ne.symm ne_b142_b151) (ninS (Ne.symm ne_b147_b151) nin0))
        replace F_b151_size := F_b151_size.keep K233 (ninS (Ne.symm ne_b142_b151) (ninS (Ne.symm ne_b147_b151) nin0))
        replace F_b151_counted := F_b151_counted.keep K233 (ninS (Ne.symm ne_b142_b151) (ninS (Ne.symm ne_b147_b151) nin0))
        replace A_tb204 := A_tb204.keep K233 (ninS (Ne.symm ne_b142_tb204) (ninS (Ne.symm ne_b147_tb204) nin0))
        replace A_pb204 := A_pb204.keep K233 (ninS (Ne.symm ne_b142_pb204) (ninS (Ne.symm ne_b147_pb204) nin0))
        have A_b142 : AJ Z h233 b142 [p1, v105, (0 : Int64)] := N233_0
        have A_b147 : AJ Z h233 b147 [v7, v17, (0 : Int64)] := N233_1
        replace K := K.trans K233 (allS (Or.inr sz_b142) (allS (Or.inr sz_b147) all0))
        refine C.istoreX (l' := #[.val (.long p1), .second, .val (.int p2), .val (.long p3), .second, .val (.long p4), .second, .val (.long p5), .second, .val (.int p6), .val (.long v7), .second, .val (.long v17), .second, .val (.long v27), .second, .val (.int (0 : Int32)), .val (.long v61), .second, .val (.int (0 : Int32)), .val (.long v99), .second, .val (.long v105), .second, .val (.long v112), .second, .val (.int (0 : Int32)), .val (.long v139), .second, .val (.ref b142), .val (.ref b147), .val (.ref b151), .val (.int ((1 : Int32) + (1 : Int32))), .unset]) (pc' := 238) at_236 rfl rfl ?_
        refine C.aload (pc' := 240) at_238 rfl rfl rfl ?_
        refine C.aload (pc' := 242) at_240 rfl rfl rfl ?_
        refine C.iload (pc' := 244) at_242 rfl rfl ?_
        refine C.iload (pc' := 246) at_244 rfl rfl ?_
        refine C.lload (pc' := 248) at_246 rfl rfl ?_
        refine C.lload (pc' := 250) at_248 rfl rfl ?_
        refine C.calls (w := 0) (own_step0 l Z a0 hw n0 h233 b142 b147 ((1 : Int32) + (1 : Int32)) (0 : Int32) v112 v27 [p1, v105, (0 : Int64)] [v7, v17, (0 : Int64)] 2 (Nat.le_trans Z0 K.1) A_b142 A_b147 g_b142 g_b147 ne_b142_b147 rfl (by decide) (show 2 < 3 from by decide) (show 2 < 3 from by decide)) (ow42 hw) (ow43 hw) (ow44 hw) (ow45 hw) (pc' := 253) at_250 rfl rfl rfl (by decide) pd___J_JIZJJ_I rfl (by decide) (Nat.le_of_eq rfl) (by decide) (by decide) (by decide) (kI fun r250 h250 q250 => ?_)
        obtain ⟨rfl, K250, N250_0, N250_1⟩ := q250
        replace E_b151 := E_b151.keep K250
        replace A_ta156 := A_ta156.keep K250 (ninS (Ne.symm ne_b142_ta156) (ninS (Ne.symm ne_b147_ta156) nin0))
        replace A_pa156 := A_pa156.keep K250 (ninS (Ne.symm ne_b142_pa156) (ninS (Ne.symm ne_b147_pa156) nin0))
        replace F_b151_times := F_b151_times.keep K250 (ninS (Ne.symm ne_b142_b151) (ninS (Ne.symm ne_b147_b151) nin0))
        replace F_b151_permits := F_b151_permits.keep K250 (ninS (Ne.symm ne_b142_b151) (ninS (Ne.symm ne_b147_b151) nin0))
        replace F_b151_head := F_b151_head.keep K250 (ninS (Ne.symm ne_b142_b151) (ninS (Ne.symm ne_b147_b151) nin0))
        replace F_b151_size := F_b151_size.keep K250 (ninS (Ne.symm ne_b142_b151) (ninS (Ne.symm ne_b147_b151) nin0))
        replace F_b151_counted := F_b151_counted.keep K250 (ninS (Ne.symm ne_b142_b151) (ninS (Ne.symm ne_b147_b151) nin0))
        replace A_tb204 := A_tb204.keep K250 (ninS (Ne.symm ne_b142_tb204) (ninS (Ne.symm ne_b147_tb204) nin0))
        replace A_pb204 := A_pb204.keep K250 (ninS (Ne.symm ne_b142_pb204) (ninS (Ne.symm ne_b147_pb204) nin0))
        have A_b142 : AJ Z h250 b142 [p1, v105, v112] := N250_0
        have A_b147 : AJ Z h250 b147 [v7, v17, v27] := N250_1
        replace K := K.trans K250 (allS (Or.inr sz_b142) (allS (Or.inr sz_b147) all0))
        refine C.istoreX (l' := #[.val (.long p1), .second, .val (.int p2), .val (.long p3), .second, .val (.long p4), .second, .val (.long p5), .second, .val (.int p6), .val (.long v7), .second, .val (.long v17), .second, .val (.long v27), .second, .val (.int (0 : Int32)), .val (.long v61), .second, .val (.int (0 : Int32)), .val (.long v99), .second, .val (.long v105), .second, .val (.long v112), .second, .val (.int (0 : Int32)), .val (.long v139), .second, .val (.ref b142), .val (.ref b147), .val (.ref b151), .val (.int (((1 : Int32) + (1 : Int32)) + (1 : Int32))), .unset]) (pc' := 255) at_253 rfl rfl ?_
        refine C.aload (pc' := 257) at_255 rfl rfl rfl ?_
        refine C.getf (ow46 hw) Via.refl F_b151_size (pc' := 260) at_257 rfl ?_
        refine C.iload (pc' := 262) at_260 rfl rfl ?_
        refine C.icmp_ne (pc' := 265) (pt := 286) at_262 rfl rfl (fun c262 => absurd (by decide) c262) (fun c262 => ?_)
        refine C.aload (pc' := 267) at_265 rfl rfl rfl ?_
        refine C.getf (ow47 hw) Via.refl F_b151_counted (pc' := 270) at_267 rfl ?_
        refine C.lload (pc' := 272) at_270 rfl rfl ?_
        refine C.lload (pc' := 274) at_272 rfl rfl ?_
        refine C.ladd (pc' := 275) at_274 rfl ?_
        refine C.lload (pc' := 277) at_275 rfl rfl ?_
        refine C.ladd (pc' := 278) at_277 rfl ?_
        refine C.lif_ne (pc' := 282) (pt := 286) at_278 rfl at_279 rfl rfl (fun c278 => absurd own_auto327 c278) (fun c278 => ?_)
        refine C.iconst (v := 1) (pc' := 283) at_282 rfl rfl ?_
        refine C.goto (pc' := 287) at_283 rfl ?_
        refine C.istoreX (l' := #[.val (.long p1), .second, .val (.int p2), .val (.long p3), .second, .val (.long p4), .second, .val (.long p5), .second, .val (.int p6), .val (.long v7), .second, .val (.long v17), .second, .val (.long v27), .second, .val (.int (0 : Int32)), .val (.long v61), .second, .val (.int (0 : Int32)), .val (.long v99), .second, .val (.long v105), .second, .val (.long v112), .second, .val (.int (0 : Int32)), .val (.long v139), .second, .val (.ref b142), .val (.ref b147), .val (.ref b151), .val (.int (((1 : Int32) + (1 : Int32)) + (1 : Int32))), .val (.int (1 : Int32))]) (pc' := 289) at_287 rfl rfl ?_
        refine C.iload (pc' := 291) at_289 rfl rfl ?_
        refine C.if_eq (pc' := 294) (pt := 326) at_291 rfl rfl (fun c291 => absurd c291 (by decide)) (fun c291 => ?_)
        refine C.aload (pc' := 296) at_294 rfl rfl rfl ?_
        refine C.iconst (v := 0) (pc' := 297) at_296 rfl rfl ?_
        refine C.callv (w := 0) (own_rm6 l Z a0 hw n0 h250 b151 (0 : Int32) tb204 (0 : Int32) [p1, v105, v112, (0 : Int64)] (4 : Int32) 0 E_b151 F_b151_head F_b151_times A_tb204 (show (4 : Int32).toInt = ((4 : Nat) : Int) from by decide) (by decide) (show 0 < 4 from by decide)) E_b151 (ow48 hw) (ow38 hw) (ow40 hw) (ow39 hw) (ow4 hw) (ow41 hw) (pc' := 300) at_297 rfl rfl rfl (by decide) pd__I_J rfl (by decide) (Nat.le_of_eq rfl) (by decide) (by decide) (by decide) (kJe ?_)
        refine C.aload (pc' := 302) at_300 rfl rfl rfl ?_
        refine C.iconst (v := 0) (pc' := 303) at_302 rfl rfl ?_
        refine C.ldAJ (i := 0) (v := p1) A_b142 (by decide) rfl (pc' := 304) at_303 rfl ?_
        refine C.lif_ne (pc' := 308) (pt := 326) at_304 rfl at_305 rfl rfl (fun c304 => absurd rfl c304) (fun c304 => ?_)
        refine C.aload (pc' := 310) at_308 rfl rfl rfl ?_
        refine C.iconst (v := 0) (pc' := 311) at_310 rfl rfl ?_
        refine C.callv (w := 0) (own_rm8 l Z a0 hw n0 h250 b151 (0 : Int32) tb204 pb204 (0 : Int32) [p1, v105, v112, (0 : Int64)] [v7, v17, v27, (0 : Int64)] (4 : Int32) 0 E_b151 F_b151_head F_b151_times F_b151_permits A_tb204 A_pb204 (show (4 : Int32).toInt = ((4 : Nat) : Int) from by decide) (by decide) (show 0 < 4 from by decide)) E_b151 (ow49 hw) (ow50 hw) (ow52 hw) (ow51 hw) (ow4 hw) (ow53 hw) (pc' := 314) at_311 rfl rfl rfl (by decide) pd__I_J rfl (by decide) (Nat.le_of_eq rfl) (by decide) (by decide) (by decide) (kJe ?_)
        refine C.aload (pc' := 316) at_314 rfl rfl rfl ?_
        refine C.iconst (v := 0) (pc' := 317) at_316 rfl rfl ?_
        refine C.ldAJ (i := 0) (v := v7) A_b147 (by decide) rfl (pc' := 318) at_317 rfl ?_
        refine C.lif_ne (pc' := 322) (pt := 326) at_318 rfl at_319 rfl rfl (fun c318 => absurd rfl c318) (fun c318 => ?_)
        refine C.iconst (v := 1) (pc' := 323) at_322 rfl rfl ?_
        refine C.goto (pc' := 327) at_323 rfl ?_
        refine C.istoreX (l' := #[.val (.long p1), .second, .val (.int p2), .val (.long p3), .second, .val (.long p4), .second, .val (.long p5), .second, .val (.int p6), .val (.long v7), .second, .val (.long v17), .second, .val (.long v27), .second, .val (.int (0 : Int32)), .val (.long v61), .second, .val (.int (0 : Int32)), .val (.long v99), .second, .val (.long v105), .second, .val (.long v112), .second, .val (.int (0 : Int32)), .val (.long v139), .second, .val (.ref b142), .val (.ref b147), .val (.ref b151), .val (.int (((1 : Int32) + (1 : Int32)) + (1 : Int32))), .val (.int (1 : Int32))]) (pc' := 329) at_327 rfl rfl ?_
        refine C.iload (pc' := 331) at_329 rfl rfl ?_
        refine C.iconst (v := 1) (pc' := 332) at_331 rfl rfl ?_
        refine C.icmp_le (pc' := 335) (pt := 375) at_332 rfl rfl (fun c332 => absurd (by decide) c332) (fun c332 => ?_)
        refine C.iload (pc' := 337) at_335 rfl rfl ?_
        refine C.if_eq (pc' := 340) (pt := 372) at_337 rfl rfl (fun c337 => absurd c337 (by decide)) (fun c337 => ?_)
        refine C.aload (pc' := 342) at_340 rfl rfl rfl ?_
        refine C.iconst (v := 1) (pc' := 343) at_342 rfl rfl ?_
        refine C.callv (w := 0) (own_rm6 l Z a0 hw n0 h250 b151 (1 : Int32) tb204 (0 : Int32) [p1, v105, v112, (0 : Int64)] (4 : Int32) 1 E_b151 F_b151_head F_b151_times A_tb204 (show (4 : Int32).toInt = ((4 : Nat) : Int) from by decide) (by decide) (show 1 < 4 from by decide)) E_b151 (ow48 hw) (ow38 hw) (ow40 hw) (ow39 hw) (ow4 hw) (ow41 hw) (pc' := 346) at_343 rfl rfl rfl (by decide) pd__I_J rfl (by decide) (Nat.le_of_eq rfl) (by decide) (by decide) (by decide) (kJe ?_)
        refine C.aload (pc' := 348) at_346 rfl rfl rfl ?_
        refine C.iconst (v := 1) (pc' := 349) at_348 rfl rfl ?_
        refine C.ldAJ (i := 1) (v := v105) A_b142 (by decide) rfl (pc' := 350) at_349 rfl ?_
        refine C.lif_ne (pc' := 354) (pt := 372) at_350 rfl at_351 rfl rfl (fun c350 => absurd rfl c350) (fun c350 => ?_)
        refine C.aload (pc' := 356) at_354 rfl rfl rfl ?_
        refine C.iconst (v := 1) (pc' := 357) at_356 rfl rfl ?_
        refine C.callv (w := 0) (own_rm8 l Z a0 hw n0 h250 b151 (1 : Int32) tb204 pb204 (0 : Int32) [p1, v105, v112, (0 : Int64)] [v7, v17, v27, (0 : Int64)] (4 : Int32) 1 E_b151 F_b151_head F_b151_times F_b151_permits A_tb204 A_pb204 (show (4 : Int32).toInt = ((4 : Nat) : Int) from by decide) (by decide) (show 1 < 4 from by decide)) E_b151 (ow49 hw) (ow50 hw) (ow52 hw) (ow51 hw) (ow4 hw) (ow53 hw) (pc' := 360) at_357 rfl rfl rfl (by decide) pd__I_J rfl (by decide) (Nat.le_of_eq rfl) (by decide) (by decide) (by decide) (kJe ?_)
        refine C.aload (pc' := 362) at_360 rfl rfl rfl ?_
        refine C.iconst (v := 1) (pc' := 363) at_362 rfl rfl ?_
        refine C.ldAJ (i := 1) (v := v17) A_b147 (by decide) rfl (pc' := 364) at_363 rfl ?_
        refine C.lif_ne (pc' := 368) (pt := 372) at_364 rfl at_365 rfl rfl (fun c364 => absurd rfl c364) (fun c364 => ?_)
        refine C.iconst (v := 1) (pc' := 369) at_368 rfl rfl ?_
        refine C.goto (pc' := 373) at_369 rfl ?_
        refine C.istoreX (l' := #[.val (.long p1), .second, .val (.int p2), .val (.long p3), .second, .val (.long p4), .second, .val (.long p5), .second, .val (.int p6), .val (.long v7), .second, .val (.long v17), .second, .val (.long v27), .second, .val (.int (0 : Int32)), .val (.long v61), .second, .val (.int (0 : Int32)), .val (.long v99), .second, .val (.long v105), .second, .val (.long v112), .second, .val (.int (0 : Int32)), .val (.long v139), .second, .val (.ref b142), .val (.ref b147), .val (.ref b151), .val (.int (((1 : Int32) + (1 : Int32)) + (1 : Int32))), .val (.int (1 : Int32))]) (pc' := 375) at_373 rfl rfl ?_
        refine C.iload (pc' := 377) at_375 rfl rfl ?_
        refine C.iconst (v := 2) (pc' := 378) at_377 rfl rfl ?_
        refine C.icmp_le (pc' := 381) (pt := 421) at_378 rfl rfl (fun c378 => absurd (by decide) c378) (fun c378 => ?_)
        refine C.iload (pc' := 383) at_381 rfl rfl ?_
        refine C.if_eq (pc' := 386) (pt := 418) at_383 rfl rfl (fun c383 => absurd c383 (by decide)) (fun c383 => ?_)
        refine C.aload (pc' := 388) at_386 rfl rfl rfl ?_
        refine C.iconst (v := 2) (pc' := 389) at_388 rfl rfl ?_
        refine C.callv (w := 0) (own_rm6 l Z a0 hw n0 h250 b151 (2 : Int32) tb204 (0 : Int32) [p1, v105, v112, (0 : Int64)] (4 : Int32) 2 E_b151 F_b151_head F_b151_times A_tb204 (show (4 : Int32).toInt = ((4 : Nat) : Int) from by decide) (by decide) (show 2 < 4 from by decide)) E_b151 (ow48 hw) (ow38 hw) (ow40 hw) (ow39 hw) (ow4 hw) (ow41 hw) (pc' := 392) at_389 rfl rfl rfl (by decide) pd__I_J rfl (by decide) (Nat.le_of_eq rfl) (by decide) (by decide) (by decide) (kJe ?_)
        refine C.aload (pc' := 394) at_392 rfl rfl rfl ?_
        refine C.iconst (v := 2) (pc' := 395) at_394 rfl rfl ?_
        refine C.ldAJ (i := 2) (v := v112) A_b142 (by decide) rfl (pc' := 396) at_395 rfl ?_
        refine C.lif_ne (pc' := 400) (pt := 418) at_396 rfl at_397 rfl rfl (fun c396 => absurd rfl c396) (fun c396 => ?_)
        refine C.aload (pc' := 402) at_400 rfl rfl rfl ?_
        refine C.iconst (v := 2) (pc' := 403) at_402 rfl rfl ?_
        refine C.callv (w := 0) (own_rm8 l Z a0 hw n0 h250 b151 (2 : Int32) tb204 pb204 (0 : Int32) [p1, v105, v112, (0 : Int64)] [v7, v17, v27, (0 : Int64)] (4 : Int32) 2 E_b151 F_b151_head F_b151_times F_b151_permits A_tb204 A_pb204 (show (4 : Int32).toInt = ((4 : Nat) : Int) from by decide) (by decide) (show 2 < 4 from by decide)) E_b151 (ow49 hw) (ow50 hw) (ow52 hw) (ow51 hw) (ow4 hw) (ow53 hw) (pc' := 406) at_403 rfl rfl rfl (by decide) pd__I_J rfl (by decide) (Nat.le_of_eq rfl) (by decide) (by decide) (by decide) (kJe ?_)
        refine C.aload (pc' := 408) at_406 rfl rfl rfl ?_
        refine C.iconst (v := 2) (pc' := 409) at_408 rfl rfl ?_
        refine C.ldAJ (i := 2) (v := v27) A_b147 (by decide) rfl (pc' := 410) at_409 rfl ?_
        refine C.lif_ne (pc' := 414) (pt := 418) at_410 rfl at_411 rfl rfl (fun c410 => absurd rfl c410) (fun c410 => ?_)
        refine C.iconst (v := 1) (pc' := 415) at_414 rfl rfl ?_
        refine C.goto (pc' := 419) at_415 rfl ?_
        refine C.istoreX (l' := #[.val (.long p1), .second, .val (.int p2), .val (.long p3), .second, .val (.long p4), .second, .val (.long p5), .second, .val (.int p6), .val (.long v7), .second, .val (.long v17), .second, .val (.long v27), .second, .val (.int (0 : Int32)), .val (.long v61), .second, .val (.int (0 : Int32)), .val (.long v99), .second, .val (.long v105), .second, .val (.long v112), .second, .val (.int (0 : Int32)), .val (.long v139), .second, .val (.ref b142), .val (.ref b147), .val (.ref b151), .val (.int (((1 : Int32) + (1 : Int32)) + (1 : Int32))), .val (.int (1 : Int32))]) (pc' := 421) at_419 rfl rfl ?_
        refine C.iload (pc' := 423) at_421 rfl rfl ?_
        refine C.retZ (show ret = some .boolean from rfl) (by decide) at_423 (by decide) (by decide) ⟨_, rfl, rfl⟩
      · skip
        refine C.iconst (v := 1) (pc' := 122) at_121 rfl rfl ?_
        refine C.goto (pc' := 126) at_122 rfl ?_
        refine C.istoreX (l' := #[.val (.long p1), .second, .val (.int p2), .val (.long p3), .second, .val (.long p4), .second, .val (.long p5), .second, .val (.int p6), .val (.long v7), .second, .val (.long v17), .second, .val (.long v27), .second, .val (.int (0 : Int32)), .val (.long v61), .second, .val (.int (0 : Int32)), .val (.long v99), .second, .val (.long v105), .second, .val (.long v112), .second, .val (.int (1 : Int32)), .unset, .unset, .unset, .unset, .unset, .unset, .unset]) (pc' := 128) at_126 rfl rfl ?_
        refine C.iload (pc' := 130) at_128 rfl rfl ?_
        refine C.iconst (v := 1) (pc' := 131) at_130 rfl rfl ?_
        refine C.iushr (s := 1) (pc' := 132) at_131 rfl (by decide) ?_
        refine C.sipush (v := 255) (pc' := 135) at_132 rfl rfl ?_
        refine C.iand (pc' := 136) at_135 rfl ?_
        refine C.i2l (pc' := 137) at_136 rfl ?_
        refine C.lconst (v := 1) (pc' := 138) at_137 rfl rfl ?_
        refine C.ladd (pc' := 139) at_138 rfl ?_
        refine C.lstore (f := fun v_ => #[.val (.long p1), .second, .val (.int p2), .val (.long p3), .second, .val (.long p4), .second, .val (.long p5), .second, .val (.int p6), .val (.long v7), .second, .val (.long v17), .second, .val (.long v27), .second, .val (.int (0 : Int32)), .val (.long v61), .second, .val (.int (0 : Int32)), .val (.long v99), .second, .val (.long v105), .second, .val (.long v112), .second, .val (.int (1 : Int32)), .val (.long v_), .second, .unset, .unset, .unset, .unset, .unset]) (pc' := 141) at_139 rfl (fun _ => rfl) (fun v139 e139 => ?_)
        refine C.iconst (v := 3) (pc' := 142) at_141 rfl rfl ?_
        refine C.newAJ (N := 3) (cap := 3) (ow1 hw) (pc' := 144) at_142 rfl (by decide) (by decide) (by decide) (by decide) (by decide) (fun h142 b142 hb142 X142 A_b142 => ?_)
        have sz_b142 : hO.size ≤ b142 := by rw [hb142]; exact K.1
        have g_b142 : n0 ≤ b142 := Nat.le_trans Z0 sz_b142
        replace K := K.ext X142
        replace A_b142 : AJ Z h142 b142 [(0 : Int64), (0 : Int64), (0 : Int64)] := A_b142
        refine C.astore (l' := #[.val (.long p1), .second, .val (.int p2), .val (.long p3), .second, .val (.long p4), .second, .val (.long p5), .second, .val (.int p6), .val (.long v7), .second, .val (.long v17), .second, .val (.long v27), .second, .val (.int (0 : Int32)), .val (.long v61), .second, .val (.int (0 : Int32)), .val (.long v99), .second, .val (.long v105), .second, .val (.long v112), .second, .val (.int (1 : Int32)), .val (.long v139), .second, .val (.ref b142), .unset, .unset, .unset, .unset]) (pc' := 146) at_144 rfl rfl rfl ?_
        refine C.iconst (v := 3) (pc' := 147) at_146 rfl rfl ?_
        refine C.newAJ (N := 3) (cap := 3) (ow1 hw) (pc' := 149) at_147 rfl (by decide) (by decide) (by decide) (by decide) (by decide) (fun h147 b147 hb147 X147 A_b147 => ?_)
        have ne_b142_b147 : b142 ≠ b147 := by rw [hb147]; exact Nat.ne_of_lt A_b142.lt
        have sz_b147 : hO.size ≤ b147 := by rw [hb147]; exact K.1
        have g_b147 : n0 ≤ b147 := Nat.le_trans Z0 sz_b147
        replace A_b142 := A_b142.ext X147
        replace K := K.ext X147
        replace A_b147 : AJ Z h147 b147 [(0 : Int64), (0 : Int64), (0 : Int64)] := A_b147
        refine C.astore (l' := #[.val (.long p1), .second, .val (.int p2), .val (.long p3), .second, .val (.long p4), .second, .val (.long p5), .second, .val (.int p6), .val (.long v7), .second, .val (.long v17), .second, .val (.long v27), .second, .val (.int (0 : Int32)), .val (.long v61), .second, .val (.int (0 : Int32)), .val (.long v99), .second, .val (.long v105), .second, .val (.long v112), .second, .val (.int (1 : Int32)), .val (.long v139), .second, .val (.ref b142), .val (.ref b147), .unset, .unset, .unset]) (pc' := 151) at_149 rfl rfl rfl ?_
        refine C.new (ow2 hw) (ow3 hw) (ow4 hw) (pc' := 154) at_151 rfl (by decide) (by decide) (fun h151 b151 hb151 X151 E_b151 D151 => ?_)
        have ne_b142_b151 : b142 ≠ b151 := by rw [hb151]; exact Nat.ne_of_lt A_b142.lt
        have ne_b147_b151 : b147 ≠ b151 := by rw [hb151]; exact Nat.ne_of_lt A_b147.lt
        have sz_b151 : hO.size ≤ b151 := by rw [hb151]; exact K.1
        have g_b151 : n0 ≤ b151 := Nat.le_trans Z0 sz_b151
        replace A_b142 := A_b142.ext X151
        replace A_b147 := A_b147.ext X151
        replace K := K.ext X151
        have F_b151_lastNanos : Fld Z h151 b151 "com/example/steady_limiter/steadylimiter/KeyState" "lastNanos" "J" (.long (0 : Int64)) := D151 (Or.inl (ow17 hw)) pf_J
        have F_b151_times : Fld Z h151 b151 "com/example/steady_limiter/steadylimiter/SlidingWindowLog$PermitLog" "times" "[J" .null := D151 (Or.inl (ow19 hw)) pf__J
        have F_b151_permits : Fld Z h151 b151 "com/example/steady_limiter/steadylimiter/SlidingWindowLog$PermitLog" "permits" "[J" .null := D151 (Or.inl (ow21 hw)) pf__J
        have F_b151_size : Fld Z h151 b151 "com/example/steady_limiter/steadylimiter/SlidingWindowLog$PermitLog" "size" "I" (.int (0 : Int32)) := D151 (Or.inl (ow28 hw)) pf_I
        have F_b151_head : Fld Z h151 b151 "com/example/steady_limiter/steadylimiter/SlidingWindowLog$PermitLog" "head" "I" (.int (0 : Int32)) := D151 (Or.inl (ow34 hw)) pf_I
        have F_b151_counted : Fld Z h151 b151 "com/example/steady_limiter/steadylimiter/SlidingWindowLog$PermitLog" "counted" "J" (.long (0 : Int64)) := D151 (Or.inl (ow36 hw)) pf_J
        refine C.dup (pc' := 155) at_154 rfl rfl ?_
        refine C.lloadN (pc' := 156) at_155 rfl rfl ?_
        refine C.callc (w := 1) (own_rm1 l Z a0 hw n0 h151 b151 p1 (Nat.le_trans Z0 K.1) E_b151 F_b151_lastNanos F_b151_times F_b151_permits F_b151_head F_b151_size F_b151_counted g_b151) rfl (ow5 hw) (ow6 hw) (ow4 hw) (ow7 hw) (pc' := 159) at_156 rfl rfl rfl (by decide) pd__J_V rfl (by decide) (Nat.le_of_eq rfl) (by decide) (by decide) (by decide) (kV fun h156 q156 => ?_)
        obtain ⟨ta156, pa156, K156, z156_ta156, z156_pa156, ne_ta156_pa156, N156_0, N156_1, N156_2, N156_3, N156_4, N156_5, N156_6⟩ := q156
        have ne_b142_ta156 : b142 ≠ ta156 := Nat.ne_of_lt (Nat.lt_of_lt_of_le A_b142.lt z156_ta156)
        have ne_b147_ta156 : b147 ≠ ta156 := Nat.ne_of_lt (Nat.lt_of_lt_of_le A_b147.lt z156_ta156)
        have ne_b151_ta156 : b151 ≠ ta156 := Nat.ne_of_lt (Nat.lt_of_lt_of_le (exaLt E_b151) z156_ta156)
        have sz_ta156 : hO.size ≤ ta156 := Nat.le_trans K.1 z156_ta156
        have g_ta156 : n0 ≤ ta156 := Nat.le_trans Z0 sz_ta156
        have ne_b142_pa156 : b142 ≠ pa156 := Nat.ne_of_lt (Nat.lt_of_lt_of_le A_b142.lt z156_pa156)
        have ne_b147_pa156 : b147 ≠ pa156 := Nat.ne_of_lt (Nat.lt_of_lt_of_le A_b147.lt z156_pa156)
        have ne_b151_pa156 : b151 ≠ pa156 := Nat.ne_of_lt (Nat.lt_of_lt_of_le (exaLt E_b151) z156_pa156)
        have sz_pa156 : hO.size ≤ pa156 := Nat.le_trans K.1 z156_pa156
        have g_pa156 : n0 ≤ pa156 := Nat.le_trans Z0 sz_pa156
        replace A_b142 := A_b142.keep K156 (ninS ne_b142_b151 nin0)
        replace A_b147 := A_b147.keep K156 (ninS ne_b147_b151 nin0)
        replace E_b151 := E_b151.keep K156
        have F_b151_times : Fld Z h156 b151 "com/example/steady_limiter/steadylimiter/SlidingWindowLog$PermitLog" "times" "[J" (.ref ta156) := N156_0
        have F_b151_permits : Fld Z h156 b151 "com/example/steady_limiter/steadylimiter/SlidingWindowLog$PermitLog" "permits" "[J" (.ref pa156) := N156_1
        have F_b151_head : Fld Z h156 b151 "com/example/steady_limiter/steadylimiter/SlidingWindowLog$PermitLog" "head" "I" (.int (0 : Int32)) := N156_2
        have F_b151_size : Fld Z h156 b151 "com/example/steady_limiter/steadylimiter/SlidingWindowLog$PermitLog" "size" "I" (.int (0 : Int32)) := N156_3
        have F_b151_counted : Fld Z h156 b151 "com/example/steady_limiter/steadylimiter/SlidingWindowLog$PermitLog" "counted" "J" (.long (0 : Int64)) := N156_4
        have A_ta156 : AJ Z h156 ta156 [(0 : Int64), (0 : Int64)] := N156_5
        have A_pa156 : AJ Z h156 pa156 [(0 : Int64), (0 : Int64)] := N156_6
        replace K := K.trans K156 (allS (Or.inr sz_b151) all0)
        refine C.astore (l' := #[.val (.long p1), .second, .val (.int p2), .val (.long p3), .second, .val (.long p4), .second, .val (.long p5), .second, .val (.int p6), .val (.long v7), .second, .val (.long v17), .second, .val (.long v27), .second, .val (.int (0 : Int32)), .val (.long v61), .second, .val (.int (0 : Int32)), .val (.long v99), .second, .val (.long v105), .second, .val (.long v112), .second, .val (.int (1 : Int32)), .val (.long v139), .second, .val (.ref b142), .val (.ref b147), .val (.ref b151), .unset, .unset]) (pc' := 161) at_159 rfl rfl rfl ?_
        refine C.iload (pc' := 163) at_161 rfl rfl ?_
        refine C.if_eq (pc' := 166) (pt := 181) at_163 rfl rfl (fun c163 => absurd c163 (by decide)) (fun c163 => ?_)
        refine C.aload (pc' := 168) at_166 rfl rfl rfl ?_
        refine C.lloadN (pc' := 169) at_168 rfl rfl ?_
        refine C.lconst (v := 1) (pc' := 170) at_169 rfl rfl ?_
        refine C.lsub (pc' := 171) at_170 rfl ?_
        refine C.lload (pc' := 173) at_171 rfl rfl ?_
        refine C.callv (w := 0) (own_addB0 l Z a0 hw n0 h156 b151 (p1 - (1 : Int64)) v139 ta156 pa156 (0 : Int32) (0 : Int32) (0 : Int64) [(0 : Int64), (0 : Int64)] [(0 : Int64), (0 : Int64)] (2 : Int32) 0 (Nat.le_trans Z0 K.1) E_b151 F_b151_times F_b151_permits F_b151_head F_b151_size F_b151_counted A_ta156 A_pa156 g_b151 g_ta156 g_pa156 ne_b151_ta156 ne_b151_pa156 ne_ta156_pa156 (show (2 : Int32).toInt = ((2 : Nat) : Int) from by decide) (by decide) (by decide) (show 0 < 2 from by decide) (show 0 < 2 from by decide) (by decide)) E_b151 (ow22 hw) (ow23 hw) (ow25 hw) (ow24 hw) (ow4 hw) (ow26 hw) (pc' := 176) at_173 rfl rfl rfl (by decide) pd__JJ_V rfl (by decide) (Nat.le_of_eq rfl) (by decide) (by decide) (by decide) (kV fun h173 q173 => ?_)
        obtain ⟨K173, N173_0, N173_1, N173_2, N173_3, N173_4, N173_5, N173_6⟩ := q173
        replace A_b142 := A_b142.keep K173 (ninS ne_b142_b151 (ninS ne_b142_ta156 (ninS ne_b142_pa156 nin0)))
        replace A_b147 := A_b147.keep K173 (ninS ne_b147_b151 (ninS ne_b147_ta156 (ninS ne_b147_pa156 nin0)))
        replace E_b151 := E_b151.keep K173
        have F_b151_times : Fld Z h173 b151 "com/example/steady_limiter/steadylimiter/SlidingWindowLog$PermitLog" "times" "[J" (.ref ta156) := N173_0
        have F_b151_permits : Fld Z h173 b151 "com/example/steady_limiter/steadylimiter/SlidingWindowLog$PermitLog" "permits" "[J" (.ref pa156) := N173_1
        have F_b151_head : Fld Z h173 b151 "com/example/steady_limiter/steadylimiter/SlidingWindowLog$PermitLog" "head" "I" (.int (0 : Int32)) := N173_2
        have F_b151_size : Fld Z h173 b151 "com/example/steady_limiter/steadylimiter/SlidingWindowLog$PermitLog" "size" "I" (.int ((0 : Int32) + (1 : Int32))) := N173_3
        have F_b151_counted : Fld Z h173 b151 "com/example/steady_limiter/steadylimiter/SlidingWindowLog$PermitLog" "counted" "J" (.long ((0 : Int64) + v139)) := N173_4
        have A_ta156 : AJ Z h173 ta156 [(p1 - (1 : Int64)), (0 : Int64)] := N173_5
        have A_pa156 : AJ Z h173 pa156 [v139, (0 : Int64)] := N173_6
        replace K := K.trans K173 (allS (Or.inr sz_b151) (allS (Or.inr sz_ta156) (allS (Or.inr sz_pa156) all0)))
        refine C.aload (pc' := 178) at_176 rfl rfl rfl ?_
        refine C.callv (w := 0) (own_drop0 l Z a0 hw n0 h173 b151 ta156 pa156 (0 : Int32) ((0 : Int32) + (1 : Int32)) ((0 : Int64) + v139) [(p1 - (1 : Int64)), (0 : Int64)] [v139, (0 : Int64)] (2 : Int32) 0 (Nat.le_trans Z0 K.1) E_b151 F_b151_times F_b151_permits F_b151_head F_b151_size F_b151_counted A_ta156 A_pa156 g_b151 ne_b151_ta156 ne_b151_pa156 (show (2 : Int32).toInt = ((2 : Nat) : Int) from by decide) (by decide) (show 0 < 2 from by decide) (Or.inr (by decide))) E_b151 (ow54 hw) (ow55 hw) (ow57 hw) (ow56 hw) (ow4 hw) (ow58 hw) (pc' := 181) at_178 rfl rfl rfl (by decide) pd___V rfl (by decide) (Nat.le_of_eq rfl) (by decide) (by decide) (by decide) (kV fun h178 q178 => ?_)
        obtain ⟨K178, N178_0, N178_1, N178_2, N178_3, N178_4⟩ := q178
        replace A_b142 := A_b142.keep K178 (ninS ne_b142_b151 nin0)
        replace A_b147 := A_b147.keep K178 (ninS ne_b147_b151 nin0)
        replace E_b151 := E_b151.keep K178
        replace A_ta156 := A_ta156.keep K178 (ninS (Ne.symm ne_b151_ta156) nin0)
        replace A_pa156 := A_pa156.keep K178 (ninS (Ne.symm ne_b151_pa156) nin0)
        have F_b151_times : Fld Z h178 b151 "com/example/steady_limiter/steadylimiter/SlidingWindowLog$PermitLog" "times" "[J" (.ref ta156) := N178_0
        have F_b151_permits : Fld Z h178 b151 "com/example/steady_limiter/steadylimiter/SlidingWindowLog$PermitLog" "permits" "[J" (.ref pa156) := N178_1
        have F_b151_head : Fld Z h178 b151 "com/example/steady_limiter/steadylimiter/SlidingWindowLog$PermitLog" "head" "I" (.int (((0 : Int32) + (1 : Int32)) &&& ((2 : Int32) - (1 : Int32)))) := N178_2
        have F_b151_size : Fld Z h178 b151 "com/example/steady_limiter/steadylimiter/SlidingWindowLog$PermitLog" "size" "I" (.int (((0 : Int32) + (1 : Int32)) - (1 : Int32))) := N178_3
        have F_b151_counted : Fld Z h178 b151 "com/example/steady_limiter/steadylimiter/SlidingWindowLog$PermitLog" "counted" "J" (.long (((0 : Int64) + v139) - v139)) := N178_4
        replace K := K.trans K178 (allS (Or.inr sz_b151) all0)
        refine C.aload (pc' := 183) at_181 rfl rfl rfl ?_
        refine C.lloadN (pc' := 184) at_183 rfl rfl ?_
        refine C.lload (pc' := 186) at_184 rfl rfl ?_
        refine C.callv (w := 0) (own_addB0 l Z a0 hw n0 h178 b151 p1 v7 ta156 pa156 (((0 : Int32) + (1 : Int32)) &&& ((2 : Int32) - (1 : Int32))) (((0 : Int32) + (1 : Int32)) - (1 : Int32)) (((0 : Int64) + v139) - v139) [(p1 - (1 : Int64)), (0 : Int64)] [v139, (0 : Int64)] (2 : Int32) 1 (Nat.le_trans Z0 K.1) E_b151 F_b151_times F_b151_permits F_b151_head F_b151_size F_b151_counted A_ta156 A_pa156 g_b151 g_ta156 g_pa156 ne_b151_ta156 ne_b151_pa156 ne_ta156_pa156 (show (2 : Int32).toInt = ((2 : Nat) : Int) from by decide) (by decide) (by decide) (show 1 < 2 from by decide) (show 1 < 2 from by decide) (by decide)) E_b151 (ow22 hw) (ow23 hw) (ow25 hw) (ow24 hw) (ow4 hw) (ow26 hw) (pc' := 189) at_186 rfl rfl rfl (by decide) pd__JJ_V rfl (by decide) (Nat.le_of_eq rfl) (by decide) (by decide) (by decide) (kV fun h186 q186 => ?_)
        obtain ⟨K186, N186_0, N186_1, N186_2, N186_3, N186_4, N186_5, N186_6⟩ := q186
        replace A_b142 := A_b142.keep K186 (ninS ne_b142_b151 (ninS ne_b142_ta156 (ninS ne_b142_pa156 nin0)))
        replace A_b147 := A_b147.keep K186 (ninS ne_b147_b151 (ninS ne_b147_ta156 (ninS ne_b147_pa156 nin0)))
        replace E_b151 := E_b151.keep K186
        have F_b151_times : Fld Z h186 b151 "com/example/steady_limiter/steadylimiter/SlidingWindowLog$PermitLog" "times" "[J" (.ref ta156) := N186_0
        have F_b151_permits : Fld Z h186 b151 "com/example/steady_limiter/steadylimiter/SlidingWindowLog$PermitLog" "permits" "[J" (.ref pa156) := N186_1
        have F_b151_head : Fld Z h186 b151 "com/example/steady_limiter/steadylimiter/SlidingWindowLog$PermitLog" "head" "I" (.int (((0 : Int32) + (1 : Int32)) &&& ((2 : Int32) - (1 : Int32)))) := N186_2
        have F_b151_size : Fld Z h186 b151 "com/example/steady_limiter/steadylimiter/SlidingWindowLog$PermitLog" "size" "I" (.int ((((0 : Int32) + (1 : Int32)) - (1 : Int32)) + (1 : Int32))) := N186_3
        have F_b151_counted : Fld Z h186 b151 "com/example/steady_limiter/steadylimiter/SlidingWindowLog$PermitLog" "counted" "J" (.long ((((0 : Int64) + v139) - v139) + v7)) := N186_4
        have A_ta156 : AJ Z h186 ta156 [(p1 - (1 : Int64)), p1] := N186_5
        have A_pa156 : AJ Z h186 pa156 [v139, v7] := N186_6
        replace K := K.trans K186 (allS (Or.inr sz_b151) (allS (Or.inr sz_ta156) (allS (Or.inr sz_pa156) all0)))
        refine C.aload (pc' := 191) at_189 rfl rfl rfl ?_
        refine C.lload (pc' := 193) at_191 rfl rfl ?_
        refine C.lload (pc' := 195) at_193 rfl rfl ?_
        refine C.callv (w := 0) (own_addB1 l Z a0 hw n0 h186 b151 v105 v17 ta156 pa156 (((0 : Int32) + (1 : Int32)) &&& ((2 : Int32) - (1 : Int32))) ((((0 : Int32) + (1 : Int32)) - (1 : Int32)) + (1 : Int32)) ((((0 : Int64) + v139) - v139) + v7) [(p1 - (1 : Int64)), p1] [v139, v7] (2 : Int32) 1 0 (Nat.le_trans Z0 K.1) E_b151 F_b151_times F_b151_permits F_b151_head F_b151_size F_b151_counted A_ta156 A_pa156 g_b151 g_ta156 g_pa156 ne_b151_ta156 ne_b151_pa156 ne_ta156_pa156 (show (2 : Int32).toInt = ((2 : Nat) : Int) from by decide) (by decide) (by decide) (show 1 < 2 from by decide) (show 1 < 2 from by decide) (own_ne e61 e105) (by decide) (show 0 < 2 from by decide) (show 0 < 2 from by decide) (by decide)) E_b151 (ow22 hw) (ow23 hw) (ow25 hw) (ow24 hw) (ow4 hw) (ow26 hw) (pc' := 198) at_195 rfl rfl rfl (by decide) pd__JJ_V rfl (by decide) (Nat.le_of_eq rfl) (by decide) (by decide) (by decide) (kV fun h195 q195 => ?_)
        obtain ⟨K195, N195_0, N195_1, N195_2, N195_3, N195_4, N195_5, N195_6⟩ := q195
        replace A_b142 := A_b142.keep K195 (ninS ne_b142_b151 (ninS ne_b142_ta156 (ninS ne_b142_pa156 nin0)))
        replace A_b147 := A_b147.keep K195 (ninS ne_b147_b151 (ninS ne_b147_ta156 (ninS ne_b147_pa156 nin0)))
        replace E_b151 := E_b151.keep K195
        have F_b151_times : Fld Z h195 b151 "com/example/steady_limiter/steadylimiter/SlidingWindowLog$PermitLog" "times" "[J" (.ref ta156) := N195_0
        have F_b151_permits : Fld Z h195 b151 "com/example/steady_limiter/steadylimiter/SlidingWindowLog$PermitLog" "permits" "[J" (.ref pa156) := N195_1
        have F_b151_head : Fld Z h195 b151 "com/example/steady_limiter/steadylimiter/SlidingWindowLog$PermitLog" "head" "I" (.int (((0 : Int32) + (1 : Int32)) &&& ((2 : Int32) - (1 : Int32)))) := N195_2
        have F_b151_size : Fld Z h195 b151 "com/example/steady_limiter/steadylimiter/SlidingWindowLog$PermitLog" "size" "I" (.int (((((0 : Int32) + (1 : Int32)) - (1 : Int32)) + (1 : Int32)) + (1 : Int32))) := N195_3
        have F_b151_counted : Fld Z h195 b151 "com/example/steady_limiter/steadylimiter/SlidingWindowLog$PermitLog" "counted" "J" (.long (((((0 : Int64) + v139) - v139) + v7) + v17)) := N195_4
        have A_ta156 : AJ Z h195 ta156 [v105, p1] := N195_5
        have A_pa156 : AJ Z h195 pa156 [v17, v7] := N195_6
        replace K := K.trans K195 (allS (Or.inr sz_b151) (allS (Or.inr sz_ta156) (allS (Or.inr sz_pa156) all0)))
        refine C.aload (pc' := 200) at_198 rfl rfl rfl ?_
        refine C.lload (pc' := 202) at_200 rfl rfl ?_
        refine C.lload (pc' := 204) at_202 rfl rfl ?_
        refine C.callv (w := 0) (own_addC l Z a0 hw n0 h195 b151 v112 v27 ta156 pa156 (((0 : Int32) + (1 : Int32)) &&& ((2 : Int32) - (1 : Int32))) (((((0 : Int32) + (1 : Int32)) - (1 : Int32)) + (1 : Int32)) + (1 : Int32)) (((((0 : Int64) + v139) - v139) + v7) + v17) v105 p1 v17 v7 0 1 0 (Nat.le_trans Z0 K.1) E_b151 F_b151_times F_b151_permits F_b151_head F_b151_size F_b151_counted A_ta156 A_pa156 g_b151 ne_b151_ta156 ne_b151_pa156 (by decide) (by decide) (by decide) (own_ne e99 e112) (by decide) (by decide) (by decide) (by decide)) E_b151 (ow22 hw) (ow23 hw) (ow25 hw) (ow24 hw) (ow4 hw) (ow26 hw) (pc' := 207) at_204 rfl rfl rfl (by decide) pd__JJ_V rfl (by decide) (Nat.le_of_eq rfl) (by decide) (by decide) (by decide) (kV fun h204 q204 => ?_)
        obtain ⟨tb204, pb204, K204, z204_tb204, z204_pb204, ne_tb204_pb204, N204_0, N204_1, N204_2, N204_3, N204_4, N204_5, N204_6⟩ := q204
        have ne_b142_tb204 : b142 ≠ tb204 := Nat.ne_of_lt (Nat.lt_of_lt_of_le A_b142.lt z204_tb204)
        have ne_b147_tb204 : b147 ≠ tb204 := Nat.ne_of_lt (Nat.lt_of_lt_of_le A_b147.lt z204_tb204)
        have ne_b151_tb204 : b151 ≠ tb204 := Nat.ne_of_lt (Nat.lt_of_lt_of_le (exaLt E_b151) z204_tb204)
        have ne_ta156_tb204 : ta156 ≠ tb204 := Nat.ne_of_lt (Nat.lt_of_lt_of_le A_ta156.lt z204_tb204)
        have ne_pa156_tb204 : pa156 ≠ tb204 := Nat.ne_of_lt (Nat.lt_of_lt_of_le A_pa156.lt z204_tb204)
        have sz_tb204 : hO.size ≤ tb204 := Nat.le_trans K.1 z204_tb204
        have g_tb204 : n0 ≤ tb204 := Nat.le_trans Z0 sz_tb204
        have ne_b142_pb204 : b142 ≠ pb204 := Nat.ne_of_lt (Nat.lt_of_lt_of_le A_b142.lt z204_pb204)
        have ne_b147_pb204 : b147 ≠ pb204 := Nat.ne_of_lt (Nat.lt_of_lt_of_le A_b147.lt z204_pb204)
        have ne_b151_pb204 : b151 ≠ pb204 := Nat.ne_of_lt (Nat.lt_of_lt_of_le (exaLt E_b151) z204_pb204)
        have ne_ta156_pb204 : ta156 ≠ pb204 := Nat.ne_of_lt (Nat.lt_of_lt_of_le A_ta156.lt z204_pb204)
        have ne_pa156_pb204 : pa156 ≠ pb204 := Nat.ne_of_lt (Nat.lt_of_lt_of_le A_pa156.lt z204_pb204)
        have sz_pb204 : hO.size ≤ pb204 := Nat.le_trans K.1 z204_pb204
        have g_pb204 : n0 ≤ pb204 := Nat.le_trans Z0 sz_pb204
        replace A_b142 := A_b142.keep K204 (ninS ne_b142_b151 nin0)
        replace A_b147 := A_b147.keep K204 (ninS ne_b147_b151 nin0)
        replace E_b151 := E_b151.keep K204
        replace A_ta156 := A_ta156.keep K204 (ninS (Ne.symm ne_b151_ta156) nin0)
        replace A_pa156 := A_pa156.keep K204 (ninS (Ne.symm ne_b151_pa156) nin0)
        have F_b151_times : Fld Z h204 b151 "com/example/steady_limiter/steadylimiter/SlidingWindowLog$PermitLog" "times" "[J" (.ref tb204) := N204_0
        have F_b151_permits : Fld Z h204 b151 "com/example/steady_limiter/steadylimiter/SlidingWindowLog$PermitLog" "permits" "[J" (.ref pb204) := N204_1
        have F_b151_head : Fld Z h204 b151 "com/example/steady_limiter/steadylimiter/SlidingWindowLog$PermitLog" "head" "I" (.int (0 : Int32)) := N204_2
        have F_b151_size : Fld Z h204 b151 "com/example/steady_limiter/steadylimiter/SlidingWindowLog$PermitLog" "size" "I" (.int ((((((0 : Int32) + (1 : Int32)) - (1 : Int32)) + (1 : Int32)) + (1 : Int32)) + (1 : Int32))) := N204_3
        have F_b151_counted : Fld Z h204 b151 "com/example/steady_limiter/steadylimiter/SlidingWindowLog$PermitLog" "counted" "J" (.long ((((((0 : Int64) + v139) - v139) + v7) + v17) + v27)) := N204_4
        have A_tb204 : AJ Z h204 tb204 [p1, v105, v112, (0 : Int64)] := N204_5
        have A_pb204 : AJ Z h204 pb204 [v7, v17, v27, (0 : Int64)] := N204_6
        replace K := K.trans K204 (allS (Or.inr sz_b151) all0)
        refine C.aload (pc' := 209) at_207 rfl rfl rfl ?_
        refine C.iconst (v := 0) (pc' := 210) at_209 rfl rfl ?_
        refine C.lloadN (pc' := 211) at_210 rfl rfl ?_
        refine C.stAJ (i := 0) A_b142 (by decide) (by show 0 < 3; decide) g_b142 (pc' := 212) at_211 rfl (fun h211 X211 B211 => ?_)
        replace A_b147 := A_b147.other X211 (Ne.symm ne_b142_b147)
        replace E_b151 := E_b151.wr X211
        replace A_ta156 := A_ta156.other X211 (Ne.symm ne_b142_ta156)
        replace A_pa156 := A_pa156.other X211 (Ne.symm ne_b142_pa156)
        replace F_b151_times := F_b151_times.other X211 (Or.inl (Ne.symm ne_b142_b151))
        replace F_b151_permits := F_b151_permits.other X211 (Or.inl (Ne.symm ne_b142_b151))
        replace F_b151_head := F_b151_head.other X211 (Or.inl (Ne.symm ne_b142_b151))
        replace F_b151_size := F_b151_size.other X211 (Or.inl (Ne.symm ne_b142_b151))
        replace F_b151_counted := F_b151_counted.other X211 (Or.inl (Ne.symm ne_b142_b151))
        replace A_tb204 := A_tb204.other X211 (Ne.symm ne_b142_tb204)
        replace A_pb204 := A_pb204.other X211 (Ne.symm ne_b142_pb204)
        have A_b142 : AJ Z h211 b142 [p1, (0 : Int64), (0 : Int64)] := B211
        replace K := K.wr X211 (Or.inr sz_b142)
        refine C.aload (pc' := 214) at_212 rfl rfl rfl ?_
        refine C.iconst (v := 0) (pc' := 215) at_214 rfl rfl ?_
        refine C.lload (pc' := 217) at_215 rfl rfl ?_
        refine C.stAJ (i := 0) A_b147 (by decide) (by show 0 < 3; decide) g_b147 (pc' := 218) at_217 rfl (fun h217 X217 B217 => ?_)
        replace E_b151 := E_b151.wr X217
        replace A_ta156 := A_ta156.other X217 (Ne.symm ne_b147_ta156)
        replace A_pa156 := A_pa156.other X217 (Ne.symm ne_b147_pa156)
        replace F_b151_times := F_b151_times.other X217 (Or.inl (Ne.symm ne_b147_b151))
        replace F_b151_permits := F_b151_permits.other X217 (Or.inl (Ne.symm ne_b147_b151))
        replace F_b151_head := F_b151_head.other X217 (Or.inl (Ne.symm ne_b147_b151))
        replace F_b151_size := F_b151_size.other X217 (Or.inl (Ne.symm ne_b147_b151))
        replace F_b151_counted := F_b151_counted.other X217 (Or.inl (Ne.symm ne_b147_b151))
        replace A_tb204 := A_tb204.other X217 (Ne.symm ne_b147_tb204)
        replace A_pb204 := A_pb204.other X217 (Ne.symm ne_b147_pb204)
        replace A_b142 := A_b142.other X217 ne_b142_b147
        have A_b147 : AJ Z h217 b147 [v7, (0 : Int64), (0 : Int64)] := B217
        replace K := K.wr X217 (Or.inr sz_b147)
        refine C.iconst (v := 1) (pc' := 219) at_218 rfl rfl ?_
        refine C.istoreX (l' := #[.val (.long p1), .second, .val (.int p2), .val (.long p3), .second, .val (.long p4), .second, .val (.long p5), .second, .val (.int p6), .val (.long v7), .second, .val (.long v17), .second, .val (.long v27), .second, .val (.int (0 : Int32)), .val (.long v61), .second, .val (.int (0 : Int32)), .val (.long v99), .second, .val (.long v105), .second, .val (.long v112), .second, .val (.int (1 : Int32)), .val (.long v139), .second, .val (.ref b142), .val (.ref b147), .val (.ref b151), .val (.int (1 : Int32)), .unset]) (pc' := 221) at_219 rfl rfl ?_
        refine C.aload (pc' := 223) at_221 rfl rfl rfl ?_
        refine C.aload (pc' := 225) at_223 rfl rfl rfl ?_
        refine C.iload (pc' := 227) at_225 rfl rfl ?_
        refine C.iload (pc' := 229) at_227 rfl rfl ?_
        refine C.lload (pc' := 231) at_229 rfl rfl ?_
        refine C.lload (pc' := 233) at_231 rfl rfl ?_
        refine C.calls (w := 0) (own_step0 l Z a0 hw n0 h217 b142 b147 (1 : Int32) (0 : Int32) v105 v17 [p1, (0 : Int64), (0 : Int64)] [v7, (0 : Int64), (0 : Int64)] 1 (Nat.le_trans Z0 K.1) A_b142 A_b147 g_b142 g_b147 ne_b142_b147 rfl (by decide) (show 1 < 3 from by decide) (show 1 < 3 from by decide)) (ow42 hw) (ow43 hw) (ow44 hw) (ow45 hw) (pc' := 236) at_233 rfl rfl rfl (by decide) pd___J_JIZJJ_I rfl (by decide) (Nat.le_of_eq rfl) (by decide) (by decide) (by decide) (kI fun r233 h233 q233 => ?_)
        obtain ⟨rfl, K233, N233_0, N233_1⟩ := q233
        replace E_b151 := E_b151.keep K233
        replace A_ta156 := A_ta156.keep K233 (ninS (Ne.symm ne_b142_ta156) (ninS (Ne.symm ne_b147_ta156) nin0))
        replace A_pa156 := A_pa156.keep K233 (ninS (Ne.symm ne_b142_pa156) (ninS (Ne.symm ne_b147_pa156) nin0))
        replace F_b151_times := F_b151_times.keep K233 (ninS (Ne.symm ne_b142_b151) (ninS (Ne.symm ne_b147_b151) nin0))
        replace F_b151_permits := F_b151_permits.keep K233 (ninS (Ne.symm ne_b142_b151) (ninS (Ne.symm ne_b147_b151) nin0))
        replace F_b151_head := F_b151_head.keep K233 (ninS (Ne.symm ne_b142_b151) (ninS (Ne.symm ne_b147_b151) nin0))
        replace F_b151_size := F_b151_size.keep K233 (ninS (Ne.symm ne_b142_b151) (ninS (Ne.symm ne_b147_b151) nin0))
        replace F_b151_counted := F_b151_counted.keep K233 (ninS (Ne.symm ne_b142_b151) (ninS (Ne.symm ne_b147_b151) nin0))
        replace A_tb204 := A_tb204.keep K233 (ninS (Ne.symm ne_b142_tb204) (ninS (Ne.symm ne_b147_tb204) nin0))
        replace A_pb204 := A_pb204.keep K233 (ninS (Ne.symm ne_b142_pb204) (ninS (Ne.symm ne_b147_pb204) nin0))
        have A_b142 : AJ Z h233 b142 [p1, v105, (0 : Int64)] := N233_0
        have A_b147 : AJ Z h233 b147 [v7, v17, (0 : Int64)] := N233_1
        replace K := K.trans K233 (allS (Or.inr sz_b142) (allS (Or.inr sz_b147) all0))
        refine C.istoreX (l' := #[.val (.long p1), .second, .val (.int p2), .val (.long p3), .second, .val (.long p4), .second, .val (.long p5), .second, .val (.int p6), .val (.long v7), .second, .val (.long v17), .second, .val (.long v27), .second, .val (.int (0 : Int32)), .val (.long v61), .second, .val (.int (0 : Int32)), .val (.long v99), .second, .val (.long v105), .second, .val (.long v112), .second, .val (.int (1 : Int32)), .val (.long v139), .second, .val (.ref b142), .val (.ref b147), .val (.ref b151), .val (.int ((1 : Int32) + (1 : Int32))), .unset]) (pc' := 238) at_236 rfl rfl ?_
        refine C.aload (pc' := 240) at_238 rfl rfl rfl ?_
        refine C.aload (pc' := 242) at_240 rfl rfl rfl ?_
        refine C.iload (pc' := 244) at_242 rfl rfl ?_
        refine C.iload (pc' := 246) at_244 rfl rfl ?_
        refine C.lload (pc' := 248) at_246 rfl rfl ?_
        refine C.lload (pc' := 250) at_248 rfl rfl ?_
        refine C.calls (w := 0) (own_step0 l Z a0 hw n0 h233 b142 b147 ((1 : Int32) + (1 : Int32)) (0 : Int32) v112 v27 [p1, v105, (0 : Int64)] [v7, v17, (0 : Int64)] 2 (Nat.le_trans Z0 K.1) A_b142 A_b147 g_b142 g_b147 ne_b142_b147 rfl (by decide) (show 2 < 3 from by decide) (show 2 < 3 from by decide)) (ow42 hw) (ow43 hw) (ow44 hw) (ow45 hw) (pc' := 253) at_250 rfl rfl rfl (by decide) pd___J_JIZJJ_I rfl (by decide) (Nat.le_of_eq rfl) (by decide) (by decide) (by decide) (kI fun r250 h250 q250 => ?_)
        obtain ⟨rfl, K250, N250_0, N250_1⟩ := q250
        replace E_b151 := E_b151.keep K250
        replace A_ta156 := A_ta156.keep K250 (ninS (Ne.symm ne_b142_ta156) (ninS (Ne.symm ne_b147_ta156) nin0))
        replace A_pa156 := A_pa156.keep K250 (ninS (Ne.symm ne_b142_pa156) (ninS (Ne.symm ne_b147_pa156) nin0))
        replace F_b151_times := F_b151_times.keep K250 (ninS (Ne.symm ne_b142_b151) (ninS (Ne.symm ne_b147_b151) nin0))
        replace F_b151_permits := F_b151_permits.keep K250 (ninS (Ne.symm ne_b142_b151) (ninS (Ne.symm ne_b147_b151) nin0))
        replace F_b151_head := F_b151_head.keep K250 (ninS (Ne.symm ne_b142_b151) (ninS (Ne.symm ne_b147_b151) nin0))
        replace F_b151_size := F_b151_size.keep K250 (ninS (Ne.symm ne_b142_b151) (ninS (Ne.symm ne_b147_b151) nin0))
        replace F_b151_counted := F_b151_counted.keep K250 (ninS (Ne.symm ne_b142_b151) (ninS (Ne.symm ne_b147_b151) nin0))
        replace A_tb204 := A_tb204.keep K250 (ninS (Ne.symm ne_b142_tb204) (ninS (Ne.symm ne_b147_tb204) nin0))
        replace A_pb204 := A_pb204.keep K250 (ninS (Ne.symm ne_b142_pb204) (ninS (Ne.symm ne_b147_pb204) nin0))
        have A_b142 : AJ Z h250 b142 [p1, v105, v112] := N250_0
        have A_b147 : AJ Z h250 b147 [v7, v17, v27] := N250_1
        replace K := K.trans K250 (allS (Or.inr sz_b142) (allS (Or.inr sz_b147) all0))
        refine C.istoreX (l' := #[.val (.long p1), .second, .val (.int p2), .val (.long p3), .second, .val (.long p4), .second, .val (.long p5), .second, .val (.int p6), .val (.long v7), .second, .val (.long v17), .second, .val (.long v27), .second, .val (.int (0 : Int32)), .val (.long v61), .second, .val (.int (0 : Int32)), .val (.long v99), .second, .val (.long v105), .second, .val (.long v112), .second, .val (.int (1 : Int32)), .val (.long v139), .second, .val (.ref b142), .val (.ref b147), .val (.ref b151), .val (.int (((1 : Int32) + (1 : Int32)) + (1 : Int32))), .unset]) (pc' := 255) at_253 rfl rfl ?_
        refine C.aload (pc' := 257) at_255 rfl rfl rfl ?_
        refine C.getf (ow46 hw) Via.refl F_b151_size (pc' := 260) at_257 rfl ?_
        refine C.iload (pc' := 262) at_260 rfl rfl ?_
        refine C.icmp_ne (pc' := 265) (pt := 286) at_262 rfl rfl (fun c262 => absurd (by decide) c262) (fun c262 => ?_)
        refine C.aload (pc' := 267) at_265 rfl rfl rfl ?_
        refine C.getf (ow47 hw) Via.refl F_b151_counted (pc' := 270) at_267 rfl ?_
        refine C.lload (pc' := 272) at_270 rfl rfl ?_
        refine C.lload (pc' := 274) at_272 rfl rfl ?_
        refine C.ladd (pc' := 275) at_274 rfl ?_
        refine C.lload (pc' := 277) at_275 rfl rfl ?_
        refine C.ladd (pc' := 278) at_277 rfl ?_
        refine C.lif_ne (pc' := 282) (pt := 286) at_278 rfl at_279 rfl rfl (fun c278 => absurd own_auto336 c278) (fun c278 => ?_)
        refine C.iconst (v := 1) (pc' := 283) at_282 rfl rfl ?_
        refine C.goto (pc' := 287) at_283 rfl ?_
        refine C.istoreX (l' := #[.val (.long p1), .second, .val (.int p2), .val (.long p3), .second, .val (.long p4), .second, .val (.long p5), .second, .val (.int p6), .val (.long v7), .second, .val (.long v17), .second, .val (.long v27), .second, .val (.int (0 : Int32)), .val (.long v61), .second, .val (.int (0 : Int32)), .val (.long v99), .second, .val (.long v105), .second, .val (.long v112), .second, .val (.int (1 : Int32)), .val (.long v139), .second, .val (.ref b142), .val (.ref b147), .val (.ref b151), .val (.int (((1 : Int32) + (1 : Int32)) + (1 : Int32))), .val (.int (1 : Int32))]) (pc' := 289) at_287 rfl rfl ?_
        refine C.iload (pc' := 291) at_289 rfl rfl ?_
        refine C.if_eq (pc' := 294) (pt := 326) at_291 rfl rfl (fun c291 => absurd c291 (by decide)) (fun c291 => ?_)
        refine C.aload (pc' := 296) at_294 rfl rfl rfl ?_
        refine C.iconst (v := 0) (pc' := 297) at_296 rfl rfl ?_
        refine C.callv (w := 0) (own_rm6 l Z a0 hw n0 h250 b151 (0 : Int32) tb204 (0 : Int32) [p1, v105, v112, (0 : Int64)] (4 : Int32) 0 E_b151 F_b151_head F_b151_times A_tb204 (show (4 : Int32).toInt = ((4 : Nat) : Int) from by decide) (by decide) (show 0 < 4 from by decide)) E_b151 (ow48 hw) (ow38 hw) (ow40 hw) (ow39 hw) (ow4 hw) (ow41 hw) (pc' := 300) at_297 rfl rfl rfl (by decide) pd__I_J rfl (by decide) (Nat.le_of_eq rfl) (by decide) (by decide) (by decide) (kJe ?_)
        refine C.aload (pc' := 302) at_300 rfl rfl rfl ?_
        refine C.iconst (v := 0) (pc' := 303) at_302 rfl rfl ?_
        refine C.ldAJ (i := 0) (v := p1) A_b142 (by decide) rfl (pc' := 304) at_303 rfl ?_
        refine C.lif_ne (pc' := 308) (pt := 326) at_304 rfl at_305 rfl rfl (fun c304 => absurd rfl c304) (fun c304 => ?_)
        refine C.aload (pc' := 310) at_308 rfl rfl rfl ?_
        refine C.iconst (v := 0) (pc' := 311) at_310 rfl rfl ?_
        refine C.callv (w := 0) (own_rm8 l Z a0 hw n0 h250 b151 (0 : Int32) tb204 pb204 (0 : Int32) [p1, v105, v112, (0 : Int64)] [v7, v17, v27, (0 : Int64)] (4 : Int32) 0 E_b151 F_b151_head F_b151_times F_b151_permits A_tb204 A_pb204 (show (4 : Int32).toInt = ((4 : Nat) : Int) from by decide) (by decide) (show 0 < 4 from by decide)) E_b151 (ow49 hw) (ow50 hw) (ow52 hw) (ow51 hw) (ow4 hw) (ow53 hw) (pc' := 314) at_311 rfl rfl rfl (by decide) pd__I_J rfl (by decide) (Nat.le_of_eq rfl) (by decide) (by decide) (by decide) (kJe ?_)
        refine C.aload (pc' := 316) at_314 rfl rfl rfl ?_
        refine C.iconst (v := 0) (pc' := 317) at_316 rfl rfl ?_
        refine C.ldAJ (i := 0) (v := v7) A_b147 (by decide) rfl (pc' := 318) at_317 rfl ?_
        refine C.lif_ne (pc' := 322) (pt := 326) at_318 rfl at_319 rfl rfl (fun c318 => absurd rfl c318) (fun c318 => ?_)
        refine C.iconst (v := 1) (pc' := 323) at_322 rfl rfl ?_
        refine C.goto (pc' := 327) at_323 rfl ?_
        refine C.istoreX (l' := #[.val (.long p1), .second, .val (.int p2), .val (.long p3), .second, .val (.long p4), .second, .val (.long p5), .second, .val (.int p6), .val (.long v7), .second, .val (.long v17), .second, .val (.long v27), .second, .val (.int (0 : Int32)), .val (.long v61), .second, .val (.int (0 : Int32)), .val (.long v99), .second, .val (.long v105), .second, .val (.long v112), .second, .val (.int (1 : Int32)), .val (.long v139), .second, .val (.ref b142), .val (.ref b147), .val (.ref b151), .val (.int (((1 : Int32) + (1 : Int32)) + (1 : Int32))), .val (.int (1 : Int32))]) (pc' := 329) at_327 rfl rfl ?_
        refine C.iload (pc' := 331) at_329 rfl rfl ?_
        refine C.iconst (v := 1) (pc' := 332) at_331 rfl rfl ?_
        refine C.icmp_le (pc' := 335) (pt := 375) at_332 rfl rfl (fun c332 => absurd (by decide) c332) (fun c332 => ?_)
        refine C.iload (pc' := 337) at_335 rfl rfl ?_
        refine C.if_eq (pc' := 340) (pt := 372) at_337 rfl rfl (fun c337 => absurd c337 (by decide)) (fun c337 => ?_)
        refine C.aload (pc' := 342) at_340 rfl rfl rfl ?_
        refine C.iconst (v := 1) (pc' := 343) at_342 rfl rfl ?_
        refine C.callv (w := 0) (own_rm6 l Z a0 hw n0 h250 b151 (1 : Int32) tb204 (0 : Int32) [p1, v105, v112, (0 : Int64)] (4 : Int32) 1 E_b151 F_b151_head F_b151_times A_tb204 (show (4 : Int32).toInt = ((4 : Nat) : Int) from by decide) (by decide) (show 1 < 4 from by decide)) E_b151 (ow48 hw) (ow38 hw) (ow40 hw) (ow39 hw) (ow4 hw) (ow41 hw) (pc' := 346) at_343 rfl rfl rfl (by decide) pd__I_J rfl (by decide) (Nat.le_of_eq rfl) (by decide) (by decide) (by decide) (kJe ?_)
        refine C.aload (pc' := 348) at_346 rfl rfl rfl ?_
        refine C.iconst (v := 1) (pc' := 349) at_348 rfl rfl ?_
        refine C.ldAJ (i := 1) (v := v105) A_b142 (by decide) rfl (pc' := 350) at_349 rfl ?_
        refine C.lif_ne (pc' := 354) (pt := 372) at_350 rfl at_351 rfl rfl (fun c350 => absurd rfl c350) (fun c350 => ?_)
        refine C.aload (pc' := 356) at_354 rfl rfl rfl ?_
        refine C.iconst (v := 1) (pc' := 357) at_356 rfl rfl ?_
        refine C.callv (w := 0) (own_rm8 l Z a0 hw n0 h250 b151 (1 : Int32) tb204 pb204 (0 : Int32) [p1, v105, v112, (0 : Int64)] [v7, v17, v27, (0 : Int64)] (4 : Int32) 1 E_b151 F_b151_head F_b151_times F_b151_permits A_tb204 A_pb204 (show (4 : Int32).toInt = ((4 : Nat) : Int) from by decide) (by decide) (show 1 < 4 from by decide)) E_b151 (ow49 hw) (ow50 hw) (ow52 hw) (ow51 hw) (ow4 hw) (ow53 hw) (pc' := 360) at_357 rfl rfl rfl (by decide) pd__I_J rfl (by decide) (Nat.le_of_eq rfl) (by decide) (by decide) (by decide) (kJe ?_)
        refine C.aload (pc' := 362) at_360 rfl rfl rfl ?_
        refine C.iconst (v := 1) (pc' := 363) at_362 rfl rfl ?_
        refine C.ldAJ (i := 1) (v := v17) A_b147 (by decide) rfl (pc' := 364) at_363 rfl ?_
        refine C.lif_ne (pc' := 368) (pt := 372) at_364 rfl at_365 rfl rfl (fun c364 => absurd rfl c364) (fun c364 => ?_)
        refine C.iconst (v := 1) (pc' := 369) at_368 rfl rfl ?_
        refine C.goto (pc' := 373) at_369 rfl ?_
        refine C.istoreX (l' := #[.val (.long p1), .second, .val (.int p2), .val (.long p3), .second, .val (.long p4), .second, .val (.long p5), .second, .val (.int p6), .val (.long v7), .second, .val (.long v17), .second, .val (.long v27), .second, .val (.int (0 : Int32)), .val (.long v61), .second, .val (.int (0 : Int32)), .val (.long v99), .second, .val (.long v105), .second, .val (.long v112), .second, .val (.int (1 : Int32)), .val (.long v139), .second, .val (.ref b142), .val (.ref b147), .val (.ref b151), .val (.int (((1 : Int32) + (1 : Int32)) + (1 : Int32))), .val (.int (1 : Int32))]) (pc' := 375) at_373 rfl rfl ?_
        refine C.iload (pc' := 377) at_375 rfl rfl ?_
        refine C.iconst (v := 2) (pc' := 378) at_377 rfl rfl ?_
        refine C.icmp_le (pc' := 381) (pt := 421) at_378 rfl rfl (fun c378 => absurd (by decide) c378) (fun c378 => ?_)
        refine C.iload (pc' := 383) at_381 rfl rfl ?_
        refine C.if_eq (pc' := 386) (pt := 418) at_383 rfl rfl (fun c383 => absurd c383 (by decide)) (fun c383 => ?_)
        refine C.aload (pc' := 388) at_386 rfl rfl rfl ?_
        refine C.iconst (v := 2) (pc' := 389) at_388 rfl rfl ?_
        refine C.callv (w := 0) (own_rm6 l Z a0 hw n0 h250 b151 (2 : Int32) tb204 (0 : Int32) [p1, v105, v112, (0 : Int64)] (4 : Int32) 2 E_b151 F_b151_head F_b151_times A_tb204 (show (4 : Int32).toInt = ((4 : Nat) : Int) from by decide) (by decide) (show 2 < 4 from by decide)) E_b151 (ow48 hw) (ow38 hw) (ow40 hw) (ow39 hw) (ow4 hw) (ow41 hw) (pc' := 392) at_389 rfl rfl rfl (by decide) pd__I_J rfl (by decide) (Nat.le_of_eq rfl) (by decide) (by decide) (by decide) (kJe ?_)
        refine C.aload (pc' := 394) at_392 rfl rfl rfl ?_
        refine C.iconst (v := 2) (pc' := 395) at_394 rfl rfl ?_
        refine C.ldAJ (i := 2) (v := v112) A_b142 (by decide) rfl (pc' := 396) at_395 rfl ?_
        refine C.lif_ne (pc' := 400) (pt := 418) at_396 rfl at_397 rfl rfl (fun c396 => absurd rfl c396) (fun c396 => ?_)
        refine C.aload (pc' := 402) at_400 rfl rfl rfl ?_
        refine C.iconst (v := 2) (pc' := 403) at_402 rfl rfl ?_
        refine C.callv (w := 0) (own_rm8 l Z a0 hw n0 h250 b151 (2 : Int32) tb204 pb204 (0 : Int32) [p1, v105, v112, (0 : Int64)] [v7, v17, v27, (0 : Int64)] (4 : Int32) 2 E_b151 F_b151_head F_b151_times F_b151_permits A_tb204 A_pb204 (show (4 : Int32).toInt = ((4 : Nat) : Int) from by decide) (by decide) (show 2 < 4 from by decide)) E_b151 (ow49 hw) (ow50 hw) (ow52 hw) (ow51 hw) (ow4 hw) (ow53 hw) (pc' := 406) at_403 rfl rfl rfl (by decide) pd__I_J rfl (by decide) (Nat.le_of_eq rfl) (by decide) (by decide) (by decide) (kJe ?_)
        refine C.aload (pc' := 408) at_406 rfl rfl rfl ?_
        refine C.iconst (v := 2) (pc' := 409) at_408 rfl rfl ?_
        refine C.ldAJ (i := 2) (v := v27) A_b147 (by decide) rfl (pc' := 410) at_409 rfl ?_
        refine C.lif_ne (pc' := 414) (pt := 418) at_410 rfl at_411 rfl rfl (fun c410 => absurd rfl c410) (fun c410 => ?_)
        refine C.iconst (v := 1) (pc' := 415) at_414 rfl rfl ?_
        refine C.goto (pc' := 419) at_415 rfl ?_
        refine C.istoreX (l' := #[.val (.long p1), .second, .val (.int p2), .val (.long p3), .second, .val (.long p4), .second, .val (.long p5), .second, .val (.int p6), .val (.long v7), .second, .val (.long v17), .second, .val (.long v27), .second, .val (.int (0 : Int32)), .val (.long v61), .second, .val (.int (0 : Int32)), .val (.long v99), .second, .val (.long v105), .second, .val (.long v112), .second, .val (.int (1 : Int32)), .val (.long v139), .second, .val (.ref b142), .val (.ref b147), .val (.ref b151), .val (.int (((1 : Int32) + (1 : Int32)) + (1 : Int32))), .val (.int (1 : Int32))]) (pc' := 421) at_419 rfl rfl ?_
        refine C.iload (pc' := 423) at_421 rfl rfl ?_
        refine C.retZ (show ret = some .boolean from rfl) (by decide) at_423 (by decide) (by decide) ⟨_, rfl, rfl⟩
    · skip
      refine C.iconst (v := 1) (pc' := 73) at_72 rfl rfl ?_
      refine C.goto (pc' := 77) at_73 rfl ?_
      refine C.istoreX (l' := #[.val (.long p1), .second, .val (.int p2), .val (.long p3), .second, .val (.long p4), .second, .val (.long p5), .second, .val (.int p6), .val (.long v7), .second, .val (.long v17), .second, .val (.long v27), .second, .val (.int (0 : Int32)), .val (.long v61), .second, .val (.int (1 : Int32)), .unset, .unset, .unset, .unset, .unset, .unset, .unset, .unset, .unset, .unset, .unset, .unset, .unset, .unset]) (pc' := 79) at_77 rfl rfl ?_
      refine C.iload (pc' := 81) at_79 rfl rfl ?_
      refine C.if_eq (pc' := 84) (pt := 88) at_81 rfl rfl (fun c81 => absurd c81 (by decide)) (fun c81 => ?_)
      refine C.lconst (v := 0) (pc' := 85) at_84 rfl rfl ?_
      refine C.goto (pc' := 99) at_85 rfl ?_
      refine C.lstoreX (l' := #[.val (.long p1), .second, .val (.int p2), .val (.long p3), .second, .val (.long p4), .second, .val (.long p5), .second, .val (.int p6), .val (.long v7), .second, .val (.long v17), .second, .val (.long v27), .second, .val (.int (0 : Int32)), .val (.long v61), .second, .val (.int (1 : Int32)), .val (.long (0 : Int64)), .second, .unset, .unset, .unset, .unset, .unset, .unset, .unset, .unset, .unset, .unset, .unset, .unset]) (pc' := 101) at_99 rfl rfl ?_
      refine C.lloadN (pc' := 102) at_101 rfl rfl ?_
      refine C.lload (pc' := 104) at_102 rfl rfl ?_
      refine C.ladd (pc' := 105) at_104 rfl ?_
      refine C.lstore (f := fun v_ => #[.val (.long p1), .second, .val (.int p2), .val (.long p3), .second, .val (.long p4), .second, .val (.long p5), .second, .val (.int p6), .val (.long v7), .second, .val (.long v17), .second, .val (.long v27), .second, .val (.int (0 : Int32)), .val (.long v61), .second, .val (.int (1 : Int32)), .val (.long (0 : Int64)), .second, .val (.long v_), .second, .unset, .unset, .unset, .unset, .unset, .unset, .unset, .unset, .unset, .unset]) (pc' := 107) at_105 rfl (fun _ => rfl) (fun v105 e105 => ?_)
      refine C.lload (pc' := 109) at_107 rfl rfl ?_
      refine C.lload (pc' := 111) at_109 rfl rfl ?_
      refine C.ladd (pc' := 112) at_111 rfl ?_
      refine C.lstore (f := fun v_ => #[.val (.long p1), .second, .val (.int p2), .val (.long p3), .second, .val (.long p4), .second, .val (.long p5), .second, .val (.int p6), .val (.long v7), .second, .val (.long v17), .second, .val (.long v27), .second, .val (.int (0 : Int32)), .val (.long v61), .second, .val (.int (1 : Int32)), .val (.long (0 : Int64)), .second, .val (.long v105), .second, .val (.long v_), .second, .unset, .unset, .unset, .unset, .unset, .unset, .unset, .unset]) (pc' := 114) at_112 rfl (fun _ => rfl) (fun v112 e112 => ?_)
      refine C.iload (pc' := 116) at_114 rfl rfl ?_
      refine C.iconst (v := 1) (pc' := 117) at_116 rfl rfl ?_
      refine C.iand (pc' := 118) at_117 rfl ?_
      refine C.if_eq (pc' := 121) (pt := 125) at_118 rfl rfl (fun c118 => ?_) (fun c118 => ?_)
      · skip
        refine C.iconst (v := 0) (pc' := 126) at_125 rfl rfl ?_
        refine C.istoreX (l' := #[.val (.long p1), .second, .val (.int p2), .val (.long p3), .second, .val (.long p4), .second, .val (.long p5), .second, .val (.int p6), .val (.long v7), .second, .val (.long v17), .second, .val (.long v27), .second, .val (.int (0 : Int32)), .val (.long v61), .second, .val (.int (1 : Int32)), .val (.long (0 : Int64)), .second, .val (.long v105), .second, .val (.long v112), .second, .val (.int (0 : Int32)), .unset, .unset, .unset, .unset, .unset, .unset, .unset]) (pc' := 128) at_126 rfl rfl ?_
        refine C.iload (pc' := 130) at_128 rfl rfl ?_
        refine C.iconst (v := 1) (pc' := 131) at_130 rfl rfl ?_
        refine C.iushr (s := 1) (pc' := 132) at_131 rfl (by decide) ?_
        refine C.sipush (v := 255) (pc' := 135) at_132 rfl rfl ?_
        refine C.iand (pc' := 136) at_135 rfl ?_
        refine C.i2l (pc' := 137) at_136 rfl ?_
        refine C.lconst (v := 1) (pc' := 138) at_137 rfl rfl ?_
        refine C.ladd (pc' := 139) at_138 rfl ?_
        refine C.lstore (f := fun v_ => #[.val (.long p1), .second, .val (.int p2), .val (.long p3), .second, .val (.long p4), .second, .val (.long p5), .second, .val (.int p6), .val (.long v7), .second, .val (.long v17), .second, .val (.long v27), .second, .val (.int (0 : Int32)), .val (.long v61), .second, .val (.int (1 : Int32)), .val (.long (0 : Int64)), .second, .val (.long v105), .second, .val (.long v112), .second, .val (.int (0 : Int32)), .val (.long v_), .second, .unset, .unset, .unset, .unset, .unset]) (pc' := 141) at_139 rfl (fun _ => rfl) (fun v139 e139 => ?_)
        refine C.iconst (v := 3) (pc' := 142) at_141 rfl rfl ?_
        refine C.newAJ (N := 3) (cap := 3) (ow1 hw) (pc' := 144) at_142 rfl (by decide) (by decide) (by decide) (by decide) (by decide) (fun h142 b142 hb142 X142 A_b142 => ?_)
        have sz_b142 : hO.size ≤ b142 := by rw [hb142]; exact K.1
        have g_b142 : n0 ≤ b142 := Nat.le_trans Z0 sz_b142
        replace K := K.ext X142
        replace A_b142 : AJ Z h142 b142 [(0 : Int64), (0 : Int64), (0 : Int64)] := A_b142
        refine C.astore (l' := #[.val (.long p1), .second, .val (.int p2), .val (.long p3), .second, .val (.long p4), .second, .val (.long p5), .second, .val (.int p6), .val (.long v7), .second, .val (.long v17), .second, .val (.long v27), .second, .val (.int (0 : Int32)), .val (.long v61), .second, .val (.int (1 : Int32)), .val (.long (0 : Int64)), .second, .val (.long v105), .second, .val (.long v112), .second, .val (.int (0 : Int32)), .val (.long v139), .second, .val (.ref b142), .unset, .unset, .unset, .unset]) (pc' := 146) at_144 rfl rfl rfl ?_
        refine C.iconst (v := 3) (pc' := 147) at_146 rfl rfl ?_
        refine C.newAJ (N := 3) (cap := 3) (ow1 hw) (pc' := 149) at_147 rfl (by decide) (by decide) (by decide) (by decide) (by decide) (fun h147 b147 hb147 X147 A_b147 => ?_)
        have ne_b142_b147 : b142 ≠ b147 := by rw [hb147]; exact Nat.ne_of_lt A_b142.lt
        have sz_b147 : hO.size ≤ b147 := by rw [hb147]; exact K.1
        have g_b147 : n0 ≤ b147 := Nat.le_trans Z0 sz_b147
        replace A_b142 := A_b142.ext X147
        replace K := K.ext X147
        replace A_b147 : AJ Z h147 b147 [(0 : Int64), (0 : Int64), (0 : Int64)] := A_b147
        refine C.astore (l' := #[.val (.long p1), .second, .val (.int p2), .val (.long p3), .second, .val (.long p4), .second, .val (.long p5), .second, .val (.int p6), .val (.long v7), .second, .val (.long v17), .second, .val (.long v27), .second, .val (.int (0 : Int32)), .val (.long v61), .second, .val (.int (1 : Int32)), .val (.long (0 : Int64)), .second, .val (.long v105), .second, .val (.long v112), .second, .val (.int (0 : Int32)), .val (.long v139), .second, .val (.ref b142), .val (.ref b147), .unset, .unset, .unset]) (pc' := 151) at_149 rfl rfl rfl ?_
        refine C.new (ow2 hw) (ow3 hw) (ow4 hw) (pc' := 154) at_151 rfl (by decide) (by decide) (fun h151 b151 hb151 X151 E_b151 D151 => ?_)
        have ne_b142_b151 : b142 ≠ b151 := by rw [hb151]; exact Nat.ne_of_lt A_b142.lt
        have ne_b147_b151 : b147 ≠ b151 := by rw [hb151]; exact Nat.ne_of_lt A_b147.lt
        have sz_b151 : hO.size ≤ b151 := by rw [hb151]; exact K.1
        have g_b151 : n0 ≤ b151 := Nat.le_trans Z0 sz_b151
        replace A_b142 := A_b142.ext X151
        replace A_b147 := A_b147.ext X151
        replace K := K.ext X151
        have F_b151_lastNanos : Fld Z h151 b151 "com/example/steady_limiter/steadylimiter/KeyState" "lastNanos" "J" (.long (0 : Int64)) := D151 (Or.inl (ow17 hw)) pf_J
        have F_b151_times : Fld Z h151 b151 "com/example/steady_limiter/steadylimiter/SlidingWindowLog$PermitLog" "times" "[J" .null := D151 (Or.inl (ow19 hw)) pf__J
        have F_b151_permits : Fld Z h151 b151 "com/example/steady_limiter/steadylimiter/SlidingWindowLog$PermitLog" "permits" "[J" .null := D151 (Or.inl (ow21 hw)) pf__J
        have F_b151_size : Fld Z h151 b151 "com/example/steady_limiter/steadylimiter/SlidingWindowLog$PermitLog" "size" "I" (.int (0 : Int32)) := D151 (Or.inl (ow28 hw)) pf_I
        have F_b151_head : Fld Z h151 b151 "com/example/steady_limiter/steadylimiter/SlidingWindowLog$PermitLog" "head" "I" (.int (0 : Int32)) := D151 (Or.inl (ow34 hw)) pf_I
        have F_b151_counted : Fld Z h151 b151 "com/example/steady_limiter/steadylimiter/SlidingWindowLog$PermitLog" "counted" "J" (.long (0 : Int64)) := D151 (Or.inl (ow36 hw)) pf_J
        refine C.dup (pc' := 155) at_154 rfl rfl ?_
        refine C.lloadN (pc' := 156) at_155 rfl rfl ?_
        refine C.callc (w := 1) (own_rm1 l Z a0 hw n0 h151 b151 p1 (Nat.le_trans Z0 K.1) E_b151 F_b151_lastNanos F_b151_times F_b151_permits F_b151_head F_b151_size F_b151_counted g_b151) rfl (ow5 hw) (ow6 hw) (ow4 hw) (ow7 hw) (pc' := 159) at_156 rfl rfl rfl (by decide) pd__J_V rfl (by decide) (Nat.le_of_eq rfl) (by decide) (by decide) (by decide) (kV fun h156 q156 => ?_)
        obtain ⟨ta156, pa156, K156, z156_ta156, z156_pa156, ne_ta156_pa156, N156_0, N156_1, N156_2, N156_3, N156_4, N156_5, N156_6⟩ := q156
        have ne_b142_ta156 : b142 ≠ ta156 := Nat.ne_of_lt (Nat.lt_of_lt_of_le A_b142.lt z156_ta156)
        have ne_b147_ta156 : b147 ≠ ta156 := Nat.ne_of_lt (Nat.lt_of_lt_of_le A_b147.lt z156_ta156)
        have ne_b151_ta156 : b151 ≠ ta156 := Nat.ne_of_lt (Nat.lt_of_lt_of_le (exaLt E_b151) z156_ta156)
        have sz_ta156 : hO.size ≤ ta156 := Nat.le_trans K.1 z156_ta156
        have g_ta156 : n0 ≤ ta156 := Nat.le_trans Z0 sz_ta156
        have ne_b142_pa156 : b142 ≠ pa156 := Nat.ne_of_lt (Nat.lt_of_lt_of_le A_b142.lt z156_pa156)
        have ne_b147_pa156 : b147 ≠ pa156 := Nat.ne_of_lt (Nat.lt_of_lt_of_le A_b147.lt z156_pa156)
        have ne_b151_pa156 : b151 ≠ pa156 := Nat.ne_of_lt (Nat.lt_of_lt_of_le (exaLt E_b151) z156_pa156)
        have sz_pa156 : hO.size ≤ pa156 := Nat.le_trans K.1 z156_pa156
        have g_pa156 : n0 ≤ pa156 := Nat.le_trans Z0 sz_pa156
        replace A_b142 := A_b142.keep K156 (ninS ne_b142_b151 nin0)
        replace A_b147 := A_b147.keep K156 (ninS ne_b147_b151 nin0)
        replace E_b151 := E_b151.keep K156
        have F_b151_times : Fld Z h156 b151 "com/example/steady_limiter/steadylimiter/SlidingWindowLog$PermitLog" "times" "[J" (.ref ta156) := N156_0
        have F_b151_permits : Fld Z h156 b151 "com/example/steady_limiter/steadylimiter/SlidingWindowLog$PermitLog" "permits" "[J" (.ref pa156) := N156_1
        have F_b151_head : Fld Z h156 b151 "com/example/steady_limiter/steadylimiter/SlidingWindowLog$PermitLog" "head" "I" (.int (0 : Int32)) := N156_2
        have F_b151_size : Fld Z h156 b151 "com/example/steady_limiter/steadylimiter/SlidingWindowLog$PermitLog" "size" "I" (.int (0 : Int32)) := N156_3
        have F_b151_counted : Fld Z h156 b151 "com/example/steady_limiter/steadylimiter/SlidingWindowLog$PermitLog" "counted" "J" (.long (0 : Int64)) := N156_4
        have A_ta156 : AJ Z h156 ta156 [(0 : Int64), (0 : Int64)] := N156_5
        have A_pa156 : AJ Z h156 pa156 [(0 : Int64), (0 : Int64)] := N156_6
        replace K := K.trans K156 (allS (Or.inr sz_b151) all0)
        refine C.astore (l' := #[.val (.long p1), .second, .val (.int p2), .val (.long p3), .second, .val (.long p4), .second, .val (.long p5), .second, .val (.int p6), .val (.long v7), .second, .val (.long v17), .second, .val (.long v27), .second, .val (.int (0 : Int32)), .val (.long v61), .second, .val (.int (1 : Int32)), .val (.long (0 : Int64)), .second, .val (.long v105), .second, .val (.long v112), .second, .val (.int (0 : Int32)), .val (.long v139), .second, .val (.ref b142), .val (.ref b147), .val (.ref b151), .unset, .unset]) (pc' := 161) at_159 rfl rfl rfl ?_
        refine C.iload (pc' := 163) at_161 rfl rfl ?_
        refine C.if_eq (pc' := 166) (pt := 181) at_163 rfl rfl (fun c163 => ?_) (fun c163 => absurd (by decide) c163)
        refine C.aload (pc' := 183) at_181 rfl rfl rfl ?_
        refine C.lloadN (pc' := 184) at_183 rfl rfl ?_
        refine C.lload (pc' := 186) at_184 rfl rfl ?_
        refine C.callv (w := 0) (own_addB0 l Z a0 hw n0 h156 b151 p1 v7 ta156 pa156 (0 : Int32) (0 : Int32) (0 : Int64) [(0 : Int64), (0 : Int64)] [(0 : Int64), (0 : Int64)] (2 : Int32) 0 (Nat.le_trans Z0 K.1) E_b151 F_b151_times F_b151_permits F_b151_head F_b151_size F_b151_counted A_ta156 A_pa156 g_b151 g_ta156 g_pa156 ne_b151_ta156 ne_b151_pa156 ne_ta156_pa156 (show (2 : Int32).toInt = ((2 : Nat) : Int) from by decide) (by decide) (by decide) (show 0 < 2 from by decide) (show 0 < 2 from by decide) (by decide)) E_b151 (ow22 hw) (ow23 hw) (ow25 hw) (ow24 hw) (ow4 hw) (ow26 hw) (pc' := 189) at_186 rfl rfl rfl (by decide) pd__JJ_V rfl (by decide) (Nat.le_of_eq rfl) (by decide) (by decide) (by decide) (kV fun h186 q186 => ?_)
        obtain ⟨K186, N186_0, N186_1, N186_2, N186_3, N186_4, N186_5, N186_6⟩ := q186
        replace A_b142 := A_b142.keep K186 (ninS ne_b142_b151 (ninS ne_b142_ta156 (ninS ne_b142_pa156 nin0)))
        replace A_b147 := A_b147.keep K186 (ninS ne_b147_b151 (ninS ne_b147_ta156 (ninS ne_b147_pa156 nin0)))
        replace E_b151 := E_b151.keep K186
        have F_b151_times : Fld Z h186 b151 "com/example/steady_limiter/steadylimiter/SlidingWindowLog$PermitLog" "times" "[J" (.ref ta156) := N186_0
        have F_b151_permits : Fld Z h186 b151 "com/example/steady_limiter/steadylimiter/SlidingWindowLog$PermitLog" "permits" "[J" (.ref pa156) := N186_1
        have F_b151_head : Fld Z h186 b151 "com/example/steady_limiter/steadylimiter/SlidingWindowLog$PermitLog" "head" "I" (.int (0 : Int32)) := N186_2
        have F_b151_size : Fld Z h186 b151 "com/example/steady_limiter/steadylimiter/SlidingWindowLog$PermitLog" "size" "I" (.int ((0 : Int32) + (1 : Int32))) := N186_3
        have F_b151_counted : Fld Z h186 b151 "com/example/steady_limiter/steadylimiter/SlidingWindowLog$PermitLog" "counted" "J" (.long ((0 : Int64) + v7)) := N186_4
        have A_ta156 : AJ Z h186 ta156 [p1, (0 : Int64)] := N186_5
        have A_pa156 : AJ Z h186 pa156 [v7, (0 : Int64)] := N186_6
        replace K := K.trans K186 (allS (Or.inr sz_b151) (allS (Or.inr sz_ta156) (allS (Or.inr sz_pa156) all0)))
        refine C.aload (pc' := 191) at_189 rfl rfl rfl ?_
        refine C.lload (pc' := 193) at_191 rfl rfl ?_
        refine C.lload (pc' := 195) at_193 rfl rfl ?_
        refine C.callv (w := 0) (own_addB1 l Z a0 hw n0 h186 b151 v105 v17 ta156 pa156 (0 : Int32) ((0 : Int32) + (1 : Int32)) ((0 : Int64) + v7) [p1, (0 : Int64)] [v7, (0 : Int64)] (2 : Int32) 0 1 (Nat.le_trans Z0 K.1) E_b151 F_b151_times F_b151_permits F_b151_head F_b151_size F_b151_counted A_ta156 A_pa156 g_b151 g_ta156 g_pa156 ne_b151_ta156 ne_b151_pa156 ne_ta156_pa156 (show (2 : Int32).toInt = ((2 : Nat) : Int) from by decide) (by decide) (by decide) (show 0 < 2 from by decide) (show 0 < 2 from by decide) (own_ne e61 e105) (by decide) (show 1 < 2 from by decide) (show 1 < 2 from by decide) (by decide)) E_b151 (ow22 hw) (ow23 hw) (ow25 hw) (ow24 hw) (ow4 hw) (ow26 hw) (pc' := 198) at_195 rfl rfl rfl (by decide) pd__JJ_V rfl (by decide) (Nat.le_of_eq rfl) (by decide) (by decide) (by decide) (kV fun h195 q195 => ?_)
        obtain ⟨K195, N195_0, N195_1, N195_2, N195_3, N195_4, N195_5, N195_6⟩ := q195
        replace A_b142 := A_b142.keep K195 (ninS ne_b142_b151 (ninS ne_b142_ta156 (ninS ne_b142_pa156 nin0)))
        replace A_b147 := A_b147.keep K195 (ninS ne_b147_b151 (ninS ne_b147_ta156 (ninS ne_b147_pa156 nin0)))
        replace E_b151 := E_b151.keep K195
        have F_b151_times : Fld Z h195 b151 "com/example/steady_limiter/steadylimiter/SlidingWindowLog$PermitLog" "times" "[J" (.ref ta156) := N195_0
        have F_b151_permits : Fld Z h195 b151 "com/example/steady_limiter/steadylimiter/SlidingWindowLog$PermitLog" "permits" "[J" (.ref pa156) := N195_1
        have F_b151_head : Fld Z h195 b151 "com/example/steady_limiter/steadylimiter/SlidingWindowLog$PermitLog" "head" "I" (.int (0 : Int32)) := N195_2
        have F_b151_size : Fld Z h195 b151 "com/example/steady_limiter/steadylimiter/SlidingWindowLog$PermitLog" "size" "I" (.int (((0 : Int32) + (1 : Int32)) + (1 : Int32))) := N195_3
        have F_b151_counted : Fld Z h195 b151 "com/example/steady_limiter/steadylimiter/SlidingWindowLog$PermitLog" "counted" "J" (.long (((0 : Int64) + v7) + v17)) := N195_4
        have A_ta156 : AJ Z h195 ta156 [p1, v105] := N195_5
        have A_pa156 : AJ Z h195 pa156 [v7, v17] := N195_6
        replace K := K.trans K195 (allS (Or.inr sz_b151) (allS (Or.inr sz_ta156) (allS (Or.inr sz_pa156) all0)))
        refine C.aload (pc' := 200) at_198 rfl rfl rfl ?_
        refine C.lload (pc' := 202) at_200 rfl rfl ?_
        refine C.lload (pc' := 204) at_202 rfl rfl ?_
        refine C.callv (w := 0) (own_addA l Z a0 hw n0 h195 b151 v112 v27 ta156 pa156 (0 : Int32) (((0 : Int32) + (1 : Int32)) + (1 : Int32)) (((0 : Int64) + v7) + v17) [p1, v105] [v7, v17] (2 : Int32) 1 (Nat.le_trans Z0 K.1) E_b151 F_b151_times F_b151_permits F_b151_head F_b151_size F_b151_counted A_ta156 A_pa156 g_b151 g_ta156 g_pa156 ne_b151_ta156 ne_b151_pa156 ne_ta156_pa156 (show (2 : Int32).toInt = ((2 : Nat) : Int) from by decide) (by decide) (by decide) (show 1 < 2 from by decide) (show 1 < 2 from by decide) (own_eq e112)) E_b151 (ow22 hw) (ow23 hw) (ow25 hw) (ow24 hw) (ow4 hw) (ow26 hw) (pc' := 207) at_204 rfl rfl rfl (by decide) pd__JJ_V rfl (by decide) (Nat.le_of_eq rfl) (by decide) (by decide) (by decide) (kV fun h204 q204 => ?_)
        obtain ⟨K204, N204_0, N204_1, N204_2, N204_3, N204_4, N204_5⟩ := q204
        replace A_b142 := A_b142.keep K204 (ninS ne_b142_b151 (ninS ne_b142_pa156 nin0))
        replace A_b147 := A_b147.keep K204 (ninS ne_b147_b151 (ninS ne_b147_pa156 nin0))
        replace E_b151 := E_b151.keep K204
        replace A_ta156 := A_ta156.keep K204 (ninS (Ne.symm ne_b151_ta156) (ninS ne_ta156_pa156 nin0))
        have F_b151_times : Fld Z h204 b151 "com/example/steady_limiter/steadylimiter/SlidingWindowLog$PermitLog" "times" "[J" (.ref ta156) := N204_0
        have F_b151_permits : Fld Z h204 b151 "com/example/steady_limiter/steadylimiter/SlidingWindowLog$PermitLog" "permits" "[J" (.ref pa156) := N204_1
        have F_b151_head : Fld Z h204 b151 "com/example/steady_limiter/steadylimiter/SlidingWindowLog$PermitLog" "head" "I" (.int (0 : Int32)) := N204_2
        have F_b151_size : Fld Z h204 b151 "com/example/steady_limiter/steadylimiter/SlidingWindowLog$PermitLog" "size" "I" (.int (((0 : Int32) + (1 : Int32)) + (1 : Int32))) := N204_3
        have F_b151_counted : Fld Z h204 b151 "com/example/steady_limiter/steadylimiter/SlidingWindowLog$PermitLog" "counted" "J" (.long ((((0 : Int64) + v7) + v17) + v27)) := N204_4
        have A_pa156 : AJ Z h204 pa156 [v7, (v17 + v27)] := N204_5
        replace K := K.trans K204 (allS (Or.inr sz_b151) (allS (Or.inr sz_pa156) all0))
        refine C.aload (pc' := 209) at_207 rfl rfl rfl ?_
        refine C.iconst (v := 0) (pc' := 210) at_209 rfl rfl ?_
        refine C.lloadN (pc' := 211) at_210 rfl rfl ?_
        refine C.stAJ (i := 0) A_b142 (by decide) (by show 0 < 3; decide) g_b142 (pc' := 212) at_211 rfl (fun h211 X211 B211 => ?_)
        replace A_b147 := A_b147.other X211 (Ne.symm ne_b142_b147)
        replace E_b151 := E_b151.wr X211
        replace A_ta156 := A_ta156.other X211 (Ne.symm ne_b142_ta156)
        replace F_b151_times := F_b151_times.other X211 (Or.inl (Ne.symm ne_b142_b151))
        replace F_b151_permits := F_b151_permits.other X211 (Or.inl (Ne.symm ne_b142_b151))
        replace F_b151_head := F_b151_head.other X211 (Or.inl (Ne.symm ne_b142_b151))
        replace F_b151_size := F_b151_size.other X211 (Or.inl (Ne.symm ne_b142_b151))
        replace F_b151_counted := F_b151_counted.other X211 (Or.inl (Ne.symm ne_b142_b151))
        replace A_pa156 := A_pa156.other X211 (Ne.symm ne_b142_pa156)
        have A_b142 : AJ Z h211 b142 [p1, (0 : Int64), (0 : Int64)] := B211
        replace K := K.wr X211 (Or.inr sz_b142)
        refine C.aload (pc' := 214) at_212 rfl rfl rfl ?_
        refine C.iconst (v := 0) (pc' := 215) at_214 rfl rfl ?_
        refine C.lload (pc' := 217) at_215 rfl rfl ?_
        refine C.stAJ (i := 0) A_b147 (by decide) (by show 0 < 3; decide) g_b147 (pc' := 218) at_217 rfl (fun h217 X217 B217 => ?_)
        replace E_b151 := E_b151.wr X217
        replace A_ta156 := A_ta156.other X217 (Ne.symm ne_b147_ta156)
        replace F_b151_times := F_b151_times.other X217 (Or.inl (Ne.symm ne_b147_b151))
        replace F_b151_permits := F_b151_permits.other X217 (Or.inl (Ne.symm ne_b147_b151))
        replace F_b151_head := F_b151_head.other X217 (Or.inl (Ne.symm ne_b147_b151))
        replace F_b151_size := F_b151_size.other X217 (Or.inl (Ne.symm ne_b147_b151))
        replace F_b151_counted := F_b151_counted.other X217 (Or.inl (Ne.symm ne_b147_b151))
        replace A_pa156 := A_pa156.other X217 (Ne.symm ne_b147_pa156)
        replace A_b142 := A_b142.other X217 ne_b142_b147
        have A_b147 : AJ Z h217 b147 [v7, (0 : Int64), (0 : Int64)] := B217
        replace K := K.wr X217 (Or.inr sz_b147)
        refine C.iconst (v := 1) (pc' := 219) at_218 rfl rfl ?_
        refine C.istoreX (l' := #[.val (.long p1), .second, .val (.int p2), .val (.long p3), .second, .val (.long p4), .second, .val (.long p5), .second, .val (.int p6), .val (.long v7), .second, .val (.long v17), .second, .val (.long v27), .second, .val (.int (0 : Int32)), .val (.long v61), .second, .val (.int (1 : Int32)), .val (.long (0 : Int64)), .second, .val (.long v105), .second, .val (.long v112), .second, .val (.int (0 : Int32)), .val (.long v139), .second, .val (.ref b142), .val (.ref b147), .val (.ref b151), .val (.int (1 : Int32)), .unset]) (pc' := 221) at_219 rfl rfl ?_
        refine C.aload (pc' := 223) at_221 rfl rfl rfl ?_
        refine C.aload (pc' := 225) at_223 rfl rfl rfl ?_
        refine C.iload (pc' := 227) at_225 rfl rfl ?_
        refine C.iload (pc' := 229) at_227 rfl rfl ?_
        refine C.lload (pc' := 231) at_229 rfl rfl ?_
        refine C.lload (pc' := 233) at_231 rfl rfl ?_
        refine C.calls (w := 0) (own_step0 l Z a0 hw n0 h217 b142 b147 (1 : Int32) (0 : Int32) v105 v17 [p1, (0 : Int64), (0 : Int64)] [v7, (0 : Int64), (0 : Int64)] 1 (Nat.le_trans Z0 K.1) A_b142 A_b147 g_b142 g_b147 ne_b142_b147 rfl (by decide) (show 1 < 3 from by decide) (show 1 < 3 from by decide)) (ow42 hw) (ow43 hw) (ow44 hw) (ow45 hw) (pc' := 236) at_233 rfl rfl rfl (by decide) pd___J_JIZJJ_I rfl (by decide) (Nat.le_of_eq rfl) (by decide) (by decide) (by decide) (kI fun r233 h233 q233 => ?_)
        obtain ⟨rfl, K233, N233_0, N233_1⟩ := q233
        replace E_b151 := E_b151.keep K233
        replace A_ta156 := A_ta156.keep K233 (ninS (Ne.symm ne_b142_ta156) (ninS (Ne.symm ne_b147_ta156) nin0))
        replace F_b151_times := F_b151_times.keep K233 (ninS (Ne.symm ne_b142_b151) (ninS (Ne.symm ne_b147_b151) nin0))
        replace F_b151_permits := F_b151_permits.keep K233 (ninS (Ne.symm ne_b142_b151) (ninS (Ne.symm ne_b147_b151) nin0))
        replace F_b151_head := F_b151_head.keep K233 (ninS (Ne.symm ne_b142_b151) (ninS (Ne.symm ne_b147_b151) nin0))
        replace F_b151_size := F_b151_size.keep K233 (ninS (Ne.symm ne_b142_b151) (ninS (Ne.symm ne_b147_b151) nin0))
        replace F_b151_counted := F_b151_counted.keep K233 (ninS (Ne.symm ne_b142_b151) (ninS (Ne.symm ne_b147_b151) nin0))
        replace A_pa156 := A_pa156.keep K233 (ninS (Ne.symm ne_b142_pa156) (ninS (Ne.symm ne_b147_pa156) nin0))
        have A_b142 : AJ Z h233 b142 [p1, v105, (0 : Int64)] := N233_0
        have A_b147 : AJ Z h233 b147 [v7, v17, (0 : Int64)] := N233_1
        replace K := K.trans K233 (allS (Or.inr sz_b142) (allS (Or.inr sz_b147) all0))
        refine C.istoreX (l' := #[.val (.long p1), .second, .val (.int p2), .val (.long p3), .second, .val (.long p4), .second, .val (.long p5), .second, .val (.int p6), .val (.long v7), .second, .val (.long v17), .second, .val (.long v27), .second, .val (.int (0 : Int32)), .val (.long v61), .second, .val (.int (1 : Int32)), .val (.long (0 : Int64)), .second, .val (.long v105), .second, .val (.long v112), .second, .val (.int (0 : Int32)), .val (.long v139), .second, .val (.ref b142), .val (.ref b147), .val (.ref b151), .val (.int ((1 : Int32) + (1 : Int32))), .unset]) (pc' := 238) at_236 rfl rfl ?_
        refine C.aload (pc' := 240) at_238 rfl rfl rfl ?_
        refine C.aload (pc' := 242) at_240 rfl rfl rfl ?_
        refine C.iload (pc' := 244) at_242 rfl rfl ?_
        refine C.iload (pc' := 246) at_244 rfl rfl ?_
        refine C.lload (pc' := 248) at_246 rfl rfl ?_
        refine C.lload (pc' := 250) at_248 rfl rfl ?_
        refine C.calls (w := 0) (own_step1 l Z a0 hw n0 h233 b142 b147 ((1 : Int32) + (1 : Int32)) (1 : Int32) v112 v27 [p1, v105, (0 : Int64)] [v7, v17, (0 : Int64)] 1 (Nat.le_trans Z0 K.1) A_b142 A_b147 g_b142 g_b147 ne_b142_b147 (by decide) (by decide) (show 1 < 3 from by decide)) (ow42 hw) (ow43 hw) (ow44 hw) (ow45 hw) (pc' := 253) at_250 rfl rfl rfl (by decide) pd___J_JIZJJ_I rfl (by decide) (Nat.le_of_eq rfl) (by decide) (by decide) (by decide) (kI fun r250 h250 q250 => ?_)
        obtain ⟨rfl, K250, N250_0⟩ := q250
        replace E_b151 := E_b151.keep K250
        replace A_ta156 := A_ta156.keep K250 (ninS (Ne.symm ne_b147_ta156) nin0)
        replace F_b151_times := F_b151_times.keep K250 (ninS (Ne.symm ne_b147_b151) nin0)
        replace F_b151_permits := F_b151_permits.keep K250 (ninS (Ne.symm ne_b147_b151) nin0)
        replace F_b151_head := F_b151_head.keep K250 (ninS (Ne.symm ne_b147_b151) nin0)
        replace F_b151_size := F_b151_size.keep K250 (ninS (Ne.symm ne_b147_b151) nin0)
        replace F_b151_counted := F_b151_counted.keep K250 (ninS (Ne.symm ne_b147_b151) nin0)
        replace A_pa156 := A_pa156.keep K250 (ninS (Ne.symm ne_b147_pa156) nin0)
        replace A_b142 := A_b142.keep K250 (ninS ne_b142_b147 nin0)
        have A_b147 : AJ Z h250 b147 [v7, (v17 + v27), (0 : Int64)] := N250_0
        replace K := K.trans K250 (allS (Or.inr sz_b147) all0)
        refine C.istoreX (l' := #[.val (.long p1), .second, .val (.int p2), .val (.long p3), .second, .val (.long p4), .second, .val (.long p5), .second, .val (.int p6), .val (.long v7), .second, .val (.long v17), .second, .val (.long v27), .second, .val (.int (0 : Int32)), .val (.long v61), .second, .val (.int (1 : Int32)), .val (.long (0 : Int64)), .second, .val (.long v105), .second, .val (.long v112), .second, .val (.int (0 : Int32)), .val (.long v139), .second, .val (.ref b142), .val (.ref b147), .val (.ref b151), .val (.int ((1 : Int32) + (1 : Int32))), .unset]) (pc' := 255) at_253 rfl rfl ?_
        refine C.aload (pc' := 257) at_255 rfl rfl rfl ?_
        refine C.getf (ow46 hw) Via.refl F_b151_size (pc' := 260) at_257 rfl ?_
        refine C.iload (pc' := 262) at_260 rfl rfl ?_
        refine C.icmp_ne (pc' := 265) (pt := 286) at_262 rfl rfl (fun c262 => absurd (by decide) c262) (fun c262 => ?_)
        refine C.aload (pc' := 267) at_265 rfl rfl rfl ?_
        refine C.getf (ow47 hw) Via.refl F_b151_counted (pc' := 270) at_267 rfl ?_
        refine C.lload (pc' := 272) at_270 rfl rfl ?_
        refine C.lload (pc' := 274) at_272 rfl rfl ?_
        refine C.ladd (pc' := 275) at_274 rfl ?_
        refine C.lload (pc' := 277) at_275 rfl rfl ?_
        refine C.ladd (pc' := 278) at_277 rfl ?_
        refine C.lif_ne (pc' := 282) (pt := 286) at_278 rfl at_279 rfl rfl (fun c278 => absurd own_auto337 c278) (fun c278 => ?_)
        refine C.iconst (v := 1) (pc' := 283) at_282 rfl rfl ?_
        refine C.goto (pc' := 287) at_283 rfl ?_
        refine C.istoreX (l' := #[.val (.long p1), .second, .val (.int p2), .val (.long p3), .second, .val (.long p4), .second, .val (.long p5), .second, .val (.int p6), .val (.long v7), .second, .val (.long v17), .second, .val (.long v27), .second, .val (.int (0 : Int32)), .val (.long v61), .second, .val (.int (1 : Int32)), .val (.long (0 : Int64)), .second, .val (.long v105), .second, .val (.long v112), .second, .val (.int (0 : Int32)), .val (.long v139), .second, .val (.ref b142), .val (.ref b147), .val (.ref b151), .val (.int ((1 : Int32) + (1 : Int32))), .val (.int (1 : Int32))]) (pc' := 289) at_287 rfl rfl ?_
        refine C.iload (pc' := 291) at_289 rfl rfl ?_
        refine C.if_eq (pc' := 294) (pt := 326) at_291 rfl rfl (fun c291 => absurd c291 (by decide)) (fun c291 => ?_)
        refine C.aload (pc' := 296) at_294 rfl rfl rfl ?_
        refine C.iconst (v := 0) (pc' := 297) at_296 rfl rfl ?_
        refine C.callv (w := 0) (own_rm6 l Z a0 hw n0 h250 b151 (0 : Int32) ta156 (0 : Int32) [p1, v105] (2 : Int32) 0 E_b151 F_b151_head F_b151_times A_ta156 (show (2 : Int32).toInt = ((2 : Nat) : Int) from by decide) (by decide) (show 0 < 2 from by decide)) E_b151 (ow48 hw) (ow38 hw) (ow40 hw) (ow39 hw) (ow4 hw) (ow41 hw) (pc' := 300) at_297 rfl rfl rfl (by decide) pd__I_J rfl (by decide) (Nat.le_of_eq rfl) (by decide) (by decide) (by decide) (kJe ?_)
        refine C.aload (pc' := 302) at_300 rfl rfl rfl ?_
        refine C.iconst (v := 0) (pc' := 303) at_302 rfl rfl ?_
        refine C.ldAJ (i := 0) (v := p1) A_b142 (by decide) rfl (pc' := 304) at_303 rfl ?_
        refine C.lif_ne (pc' := 308) (pt := 326) at_304 rfl at_305 rfl rfl (fun c304 => absurd rfl c304) (fun c304 => ?_)
        refine C.aload (pc' := 310) at_308 rfl rfl rfl ?_
        refine C.iconst (v := 0) (pc' := 311) at_310 rfl rfl ?_
        refine C.callv (w := 0) (own_rm8 l Z a0 hw n0 h250 b151 (0 : Int32) ta156 pa156 (0 : Int32) [p1, v105] [v7, (v17 + v27)] (2 : Int32) 0 E_b151 F_b151_head F_b151_times F_b151_permits A_ta156 A_pa156 (show (2 : Int32).toInt = ((2 : Nat) : Int) from by decide) (by decide) (show 0 < 2 from by decide)) E_b151 (ow49 hw) (ow50 hw) (ow52 hw) (ow51 hw) (ow4 hw) (ow53 hw) (pc' := 314) at_311 rfl rfl rfl (by decide) pd__I_J rfl (by decide) (Nat.le_of_eq rfl) (by decide) (by decide) (by decide) (kJe ?_)
        refine C.aload (pc' := 316) at_314 rfl rfl rfl ?_
        refine C.iconst (v := 0) (pc' := 317) at_316 rfl rfl ?_
        refine C.ldAJ (i := 0) (v := v7) A_b147 (by decide) rfl (pc' := 318) at_317 rfl ?_
        refine C.lif_ne (pc' := 322) (pt := 326) at_318 rfl at_319 rfl rfl (fun c318 => absurd rfl c318) (fun c318 => ?_)
        refine C.iconst (v := 1) (pc' := 323) at_322 rfl rfl ?_
        refine C.goto (pc' := 327) at_323 rfl ?_
        refine C.istoreX (l' := #[.val (.long p1), .second, .val (.int p2), .val (.long p3), .second, .val (.long p4), .second, .val (.long p5), .second, .val (.int p6), .val (.long v7), .second, .val (.long v17), .second, .val (.long v27), .second, .val (.int (0 : Int32)), .val (.long v61), .second, .val (.int (1 : Int32)), .val (.long (0 : Int64)), .second, .val (.long v105), .second, .val (.long v112), .second, .val (.int (0 : Int32)), .val (.long v139), .second, .val (.ref b142), .val (.ref b147), .val (.ref b151), .val (.int ((1 : Int32) + (1 : Int32))), .val (.int (1 : Int32))]) (pc' := 329) at_327 rfl rfl ?_
        refine C.iload (pc' := 331) at_329 rfl rfl ?_
        refine C.iconst (v := 1) (pc' := 332) at_331 rfl rfl ?_
        refine C.icmp_le (pc' := 335) (pt := 375) at_332 rfl rfl (fun c332 => absurd (by decide) c332) (fun c332 => ?_)
        refine C.iload (pc' := 337) at_335 rfl rfl ?_
        refine C.if_eq (pc' := 340) (pt := 372) at_337 rfl rfl (fun c337 => absurd c337 (by decide)) (fun c337 => ?_)
        refine C.aload (pc' := 342) at_340 rfl rfl rfl ?_
        refine C.iconst (v := 1) (pc' := 343) at_342 rfl rfl ?_
        refine C.callv (w := 0) (own_rm6 l Z a0 hw n0 h250 b151 (1 : Int32) ta156 (0 : Int32) [p1, v105] (2 : Int32) 1 E_b151 F_b151_head F_b151_times A_ta156 (show (2 : Int32).toInt = ((2 : Nat) : Int) from by decide) (by decide) (show 1 < 2 from by decide)) E_b151 (ow48 hw) (ow38 hw) (ow40 hw) (ow39 hw) (ow4 hw) (ow41 hw) (pc' := 346) at_343 rfl rfl rfl (by decide) pd__I_J rfl (by decide) (Nat.le_of_eq rfl) (by decide) (by decide) (by decide) (kJe ?_)
        refine C.aload (pc' := 348) at_346 rfl rfl rfl ?_
        refine C.iconst (v := 1) (pc' := 349) at_348 rfl rfl ?_
        refine C.ldAJ (i := 1) (v := v105) A_b142 (by decide) rfl (pc' := 350) at_349 rfl ?_
        refine C.lif_ne (pc' := 354) (pt := 372) at_350 rfl at_351 rfl rfl (fun c350 => absurd rfl c350) (fun c350 => ?_)
        refine C.aload (pc' := 356) at_354 rfl rfl rfl ?_
        refine C.iconst (v := 1) (pc' := 357) at_356 rfl rfl ?_
        refine C.callv (w := 0) (own_rm8 l Z a0 hw n0 h250 b151 (1 : Int32) ta156 pa156 (0 : Int32) [p1, v105] [v7, (v17 + v27)] (2 : Int32) 1 E_b151 F_b151_head F_b151_times F_b151_permits A_ta156 A_pa156 (show (2 : Int32).toInt = ((2 : Nat) : Int) from by decide) (by decide) (show 1 < 2 from by decide)) E_b151 (ow49 hw) (ow50 hw) (ow52 hw) (ow51 hw) (ow4 hw) (ow53 hw) (pc' := 360) at_357 rfl rfl rfl (by decide) pd__I_J rfl (by decide) (Nat.le_of_eq rfl) (by decide) (by decide) (by decide) (kJe ?_)
        refine C.aload (pc' := 362) at_360 rfl rfl rfl ?_
        refine C.iconst (v := 1) (pc' := 363) at_362 rfl rfl ?_
        refine C.ldAJ (i := 1) (v := (v17 + v27)) A_b147 (by decide) rfl (pc' := 364) at_363 rfl ?_
        refine C.lif_ne (pc' := 368) (pt := 372) at_364 rfl at_365 rfl rfl (fun c364 => absurd rfl c364) (fun c364 => ?_)
        refine C.iconst (v := 1) (pc' := 369) at_368 rfl rfl ?_
        refine C.goto (pc' := 373) at_369 rfl ?_
        refine C.istoreX (l' := #[.val (.long p1), .second, .val (.int p2), .val (.long p3), .second, .val (.long p4), .second, .val (.long p5), .second, .val (.int p6), .val (.long v7), .second, .val (.long v17), .second, .val (.long v27), .second, .val (.int (0 : Int32)), .val (.long v61), .second, .val (.int (1 : Int32)), .val (.long (0 : Int64)), .second, .val (.long v105), .second, .val (.long v112), .second, .val (.int (0 : Int32)), .val (.long v139), .second, .val (.ref b142), .val (.ref b147), .val (.ref b151), .val (.int ((1 : Int32) + (1 : Int32))), .val (.int (1 : Int32))]) (pc' := 375) at_373 rfl rfl ?_
        refine C.iload (pc' := 377) at_375 rfl rfl ?_
        refine C.iconst (v := 2) (pc' := 378) at_377 rfl rfl ?_
        refine C.icmp_le (pc' := 381) (pt := 421) at_378 rfl rfl (fun c378 => ?_) (fun c378 => absurd c378 (by decide))
        refine C.iload (pc' := 423) at_421 rfl rfl ?_
        refine C.retZ (show ret = some .boolean from rfl) (by decide) at_423 (by decide) (by decide) ⟨_, rfl, rfl⟩
      · skip
        refine C.iconst (v := 1) (pc' := 122) at_121 rfl rfl ?_
        refine C.goto (pc' := 126) at_122 rfl ?_
        refine C.istoreX (l' := #[.val (.long p1), .second, .val (.int p2), .val (.long p3), .second, .val (.long p4), .second, .val (.long p5), .second, .val (.int p6), .val (.long v7), .second, .val (.long v17), .second, .val (.long v27), .second, .val (.int (0 : Int32)), .val (.long v61), .second, .val (.int (1 : Int32)), .val (.long (0 : Int64)), .second, .val (.long v105), .second, .val (.long v112), .second, .val (.int (1 : Int32)), .unset, .unset, .unset, .unset, .unset, .unset, .unset]) (pc' := 128) at_126 rfl rfl ?_
        refine C.iload (pc' := 130) at_128 rfl rfl ?_
        refine C.iconst (v := 1) (pc' := 131) at_130 rfl rfl ?_
        refine C.iushr (s := 1) (pc' := 132) at_131 rfl (by decide) ?_
        refine C.sipush (v := 255) (pc' := 135) at_132 rfl rfl ?_
        refine C.iand (pc' := 136) at_135 rfl ?_
        refine C.i2l (pc' := 137) at_136 rfl ?_
        refine C.lconst (v := 1) (pc' := 138) at_137 rfl rfl ?_
        refine C.ladd (pc' := 139) at_138 rfl ?_
        refine C.lstore (f := fun v_ => #[.val (.long p1), .second, .val (.int p2), .val (.long p3), .second, .val (.long p4), .second, .val (.long p5), .second, .val (.int p6), .val (.long v7), .second, .val (.long v17), .second, .val (.long v27), .second, .val (.int (0 : Int32)), .val (.long v61), .second, .val (.int (1 : Int32)), .val (.long (0 : Int64)), .second, .val (.long v105), .second, .val (.long v112), .second, .val (.int (1 : Int32)), .val (.long v_), .second, .unset, .unset, .unset, .unset, .unset]) (pc' := 141) at_139 rfl (fun _ => rfl) (fun v139 e139 => ?_)
        refine C.iconst (v := 3) (pc' := 142) at_141 rfl rfl ?_
        refine C.newAJ (N := 3) (cap := 3) (ow1 hw) (pc' := 144) at_142 rfl (by decide) (by decide) (by decide) (by decide) (by decide) (fun h142 b142 hb142 X142 A_b142 => ?_)
        have sz_b142 : hO.size ≤ b142 := by rw [hb142]; exact K.1
        have g_b142 : n0 ≤ b142 := Nat.le_trans Z0 sz_b142
        replace K := K.ext X142
        replace A_b142 : AJ Z h142 b142 [(0 : Int64), (0 : Int64), (0 : Int64)] := A_b142
        refine C.astore (l' := #[.val (.long p1), .second, .val (.int p2), .val (.long p3), .second, .val (.long p4), .second, .val (.long p5), .second, .val (.int p6), .val (.long v7), .second, .val (.long v17), .second, .val (.long v27), .second, .val (.int (0 : Int32)), .val (.long v61), .second, .val (.int (1 : Int32)), .val (.long (0 : Int64)), .second, .val (.long v105), .second, .val (.long v112), .second, .val (.int (1 : Int32)), .val (.long v139), .second, .val (.ref b142), .unset, .unset, .unset, .unset]) (pc' := 146) at_144 rfl rfl rfl ?_
        refine C.iconst (v := 3) (pc' := 147) at_146 rfl rfl ?_
        refine C.newAJ (N := 3) (cap := 3) (ow1 hw) (pc' := 149) at_147 rfl (by decide) (by decide) (by decide) (by decide) (by decide) (fun h147 b147 hb147 X147 A_b147 => ?_)
        have ne_b142_b147 : b142 ≠ b147 := by rw [hb147]; exact Nat.ne_of_lt A_b142.lt
        have sz_b147 : hO.size ≤ b147 := by rw [hb147]; exact K.1
        have g_b147 : n0 ≤ b147 := Nat.le_trans Z0 sz_b147
        replace A_b142 := A_b142.ext X147
        replace K := K.ext X147
        replace A_b147 : AJ Z h147 b147 [(0 : Int64), (0 : Int64), (0 : Int64)] := A_b147
        refine C.astore (l' := #[.val (.long p1), .second, .val (.int p2), .val (.long p3), .second, .val (.long p4), .second, .val (.long p5), .second, .val (.int p6), .val (.long v7), .second, .val (.long v17), .second, .val (.long v27), .second, .val (.int (0 : Int32)), .val (.long v61), .second, .val (.int (1 : Int32)), .val (.long (0 : Int64)), .second, .val (.long v105), .second, .val (.long v112), .second, .val (.int (1 : Int32)), .val (.long v139), .second, .val (.ref b142), .val (.ref b147), .unset, .unset, .unset]) (pc' := 151) at_149 rfl rfl rfl ?_
        refine C.new (ow2 hw) (ow3 hw) (ow4 hw) (pc' := 154) at_151 rfl (by decide) (by decide) (fun h151 b151 hb151 X151 E_b151 D151 => ?_)
        have ne_b142_b151 : b142 ≠ b151 := by rw [hb151]; exact Nat.ne_of_lt A_b142.lt
        have ne_b147_b151 : b147 ≠ b151 := by rw [hb151]; exact Nat.ne_of_lt A_b147.lt
        have sz_b151 : hO.size ≤ b151 := by rw [hb151]; exact K.1
        have g_b151 : n0 ≤ b151 := Nat.le_trans Z0 sz_b151
        replace A_b142 := A_b142.ext X151
        replace A_b147 := A_b147.ext X151
        replace K := K.ext X151
        have F_b151_lastNanos : Fld Z h151 b151 "com/example/steady_limiter/steadylimiter/KeyState" "lastNanos" "J" (.long (0 : Int64)) := D151 (Or.inl (ow17 hw)) pf_J
        have F_b151_times : Fld Z h151 b151 "com/example/steady_limiter/steadylimiter/SlidingWindowLog$PermitLog" "times" "[J" .null := D151 (Or.inl (ow19 hw)) pf__J
        have F_b151_permits : Fld Z h151 b151 "com/example/steady_limiter/steadylimiter/SlidingWindowLog$PermitLog" "permits" "[J" .null := D151 (Or.inl (ow21 hw)) pf__J
        have F_b151_size : Fld Z h151 b151 "com/example/steady_limiter/steadylimiter/SlidingWindowLog$PermitLog" "size" "I" (.int (0 : Int32)) := D151 (Or.inl (ow28 hw)) pf_I
        have F_b151_head : Fld Z h151 b151 "com/example/steady_limiter/steadylimiter/SlidingWindowLog$PermitLog" "head" "I" (.int (0 : Int32)) := D151 (Or.inl (ow34 hw)) pf_I
        have F_b151_counted : Fld Z h151 b151 "com/example/steady_limiter/steadylimiter/SlidingWindowLog$PermitLog" "counted" "J" (.long (0 : Int64)) := D151 (Or.inl (ow36 hw)) pf_J
        refine C.dup (pc' := 155) at_154 rfl rfl ?_
        refine C.lloadN (pc' := 156) at_155 rfl rfl ?_
        refine C.callc (w := 1) (own_rm1 l Z a0 hw n0 h151 b151 p1 (Nat.le_trans Z0 K.1) E_b151 F_b151_lastNanos F_b151_times F_b151_permits F_b151_head F_b151_size F_b151_counted g_b151) rfl (ow5 hw) (ow6 hw) (ow4 hw) (ow7 hw) (pc' := 159) at_156 rfl rfl rfl (by decide) pd__J_V rfl (by decide) (Nat.le_of_eq rfl) (by decide) (by decide) (by decide) (kV fun h156 q156 => ?_)
        obtain ⟨ta156, pa156, K156, z156_ta156, z156_pa156, ne_ta156_pa156, N156_0, N156_1, N156_2, N156_3, N156_4, N156_5, N156_6⟩ := q156
        have ne_b142_ta156 : b142 ≠ ta156 := Nat.ne_of_lt (Nat.lt_of_lt_of_le A_b142.lt z156_ta156)
        have ne_b147_ta156 : b147 ≠ ta156 := Nat.ne_of_lt (Nat.lt_of_lt_of_le A_b147.lt z156_ta156)
        have ne_b151_ta156 : b151 ≠ ta156 := Nat.ne_of_lt (Nat.lt_of_lt_of_le (exaLt E_b151) z156_ta156)
        have sz_ta156 : hO.size ≤ ta156 := Nat.le_trans K.1 z156_ta156
        have g_ta156 : n0 ≤ ta156 := Nat.le_trans Z0 sz_ta156
        have ne_b142_pa156 : b142 ≠ pa156 := Nat.ne_of_lt (Nat.lt_of_lt_of_le A_b142.lt z156_pa156)
        have ne_b147_pa156 : b147 ≠ pa156 := Nat.ne_of_lt (Nat.lt_of_lt_of_le A_b147.lt z156_pa156)
        have ne_b151_pa156 : b151 ≠ pa156 := Nat.ne_of_lt (Nat.lt_of_lt_of_le (exaLt E_b151) z156_pa156)
        have sz_pa156 : hO.size ≤ pa156 := Nat.le_trans K.1 z156_pa156
        have g_pa156 : n0 ≤ pa156 := Nat.le_trans Z0 sz_pa156
        replace A_b142 := A_b142.keep K156 (ninS ne_b142_b151 nin0)
        replace A_b147 := A_b147.keep K156 (ninS ne_b147_b151 nin0)
        replace E_b151 := E_b151.keep K156
        have F_b151_times : Fld Z h156 b151 "com/example/steady_limiter/steadylimiter/SlidingWindowLog$PermitLog" "times" "[J" (.ref ta156) := N156_0
        have F_b151_permits : Fld Z h156 b151 "com/example/steady_limiter/steadylimiter/SlidingWindowLog$PermitLog" "permits" "[J" (.ref pa156) := N156_1
        have F_b151_head : Fld Z h156 b151 "com/example/steady_limiter/steadylimiter/SlidingWindowLog$PermitLog" "head" "I" (.int (0 : Int32)) := N156_2
        have F_b151_size : Fld Z h156 b151 "com/example/steady_limiter/steadylimiter/SlidingWindowLog$PermitLog" "size" "I" (.int (0 : Int32)) := N156_3
        have F_b151_counted : Fld Z h156 b151 "com/example/steady_limiter/steadylimiter/SlidingWindowLog$PermitLog" "counted" "J" (.long (0 : Int64)) := N156_4
        have A_ta156 : AJ Z h156 ta156 [(0 : Int64), (0 : Int64)] := N156_5
        have A_pa156 : AJ Z h156 pa156 [(0 : Int64), (0 : Int64)] := N156_6
        replace K := K.trans K156 (allS (Or.inr sz_b151) all0)
        refine C.astore (l' := #[.val (.long p1), .second, .val (.int p2), .val (.long p3), .second, .val (.long p4), .second, .val (.long p5), .second, .val (.int p6), .val (.long v7), .second, .val (.long v17), .second, .val (.long v27), .second, .val (.int (0 : Int32)), .val (.long v61), .second, .val (.int (1 : Int32)), .val (.long (0 : Int64)), .second, .val (.long v105), .second, .val (.long v112), .second, .val (.int (1 : Int32)), .val (.long v139), .second, .val (.ref b142), .val (.ref b147), .val (.ref b151), .unset, .unset]) (pc' := 161) at_159 rfl rfl rfl ?_
        refine C.iload (pc' := 163) at_161 rfl rfl ?_
        refine C.if_eq (pc' := 166) (pt := 181) at_163 rfl rfl (fun c163 => absurd c163 (by decide)) (fun c163 => ?_)
        refine C.aload (pc' := 168) at_166 rfl rfl rfl ?_
        refine C.lloadN (pc' := 169) at_168 rfl rfl ?_
        refine C.lconst (v := 1) (pc' := 170) at_169 rfl rfl ?_
        refine C.lsub (pc' := 171) at_170 rfl ?_
        refine C.lload (pc' := 173) at_171 rfl rfl ?_
        refine C.callv (w := 0) (own_addB0 l Z a0 hw n0 h156 b151 (p1 - (1 : Int64)) v139 ta156 pa156 (0 : Int32) (0 : Int32) (0 : Int64) [(0 : Int64), (0 : Int64)] [(0 : Int64), (0 : Int64)] (2 : Int32) 0 (Nat.le_trans Z0 K.1) E_b151 F_b151_times F_b151_permits F_b151_head F_b151_size F_b151_counted A_ta156 A_pa156 g_b151 g_ta156 g_pa156 ne_b151_ta156 ne_b151_pa156 ne_ta156_pa156 (show (2 : Int32).toInt = ((2 : Nat) : Int) from by decide) (by decide) (by decide) (show 0 < 2 from by decide) (show 0 < 2 from by decide) (by decide)) E_b151 (ow22 hw) (ow23 hw) (ow25 hw) (ow24 hw) (ow4 hw) (ow26 hw) (pc' := 176) at_173 rfl rfl rfl (by decide) pd__JJ_V rfl (by decide) (Nat.le_of_eq rfl) (by decide) (by decide) (by decide) (kV fun h173 q173 => ?_)
        obtain ⟨K173, N173_0, N173_1, N173_2, N173_3, N173_4, N173_5, N173_6⟩ := q173
        replace A_b142 := A_b142.keep K173 (ninS ne_b142_b151 (ninS ne_b142_ta156 (ninS ne_b142_pa156 nin0)))
        replace A_b147 := A_b147.keep K173 (ninS ne_b147_b151 (ninS ne_b147_ta156 (ninS ne_b147_pa156 nin0)))
        replace E_b151 := E_b151.keep K173
        have F_b151_times : Fld Z h173 b151 "com/example/steady_limiter/steadylimiter/SlidingWindowLog$PermitLog" "times" "[J" (.ref ta156) := N173_0
        have F_b151_permits : Fld Z h173 b151 "com/example/steady_limiter/steadylimiter/SlidingWindowLog$PermitLog" "permits" "[J" (.ref pa156) := N173_1
        have F_b151_head : Fld Z h173 b151 "com/example/steady_limiter/steadylimiter/SlidingWindowLog$PermitLog" "head" "I" (.int (0 : Int32)) := N173_2
        have F_b151_size : Fld Z h173 b151 "com/example/steady_limiter/steadylimiter/SlidingWindowLog$PermitLog" "size" "I" (.int ((0 : Int32) + (1 : Int32))) := N173_3
        have F_b151_counted : Fld Z h173 b151 "com/example/steady_limiter/steadylimiter/SlidingWindowLog$PermitLog" "counted" "J" (.long ((0 : Int64) + v139)) := N173_4
        have A_ta156 : AJ Z h173 ta156 [(p1 - (1 : Int64)), (0 : Int64)] := N173_5
        have A_pa156 : AJ Z h173 pa156 [v139, (0 : Int64)] := N173_6
        replace K := K.trans K173 (allS (Or.inr sz_b151) (allS (Or.inr sz_ta156) (allS (Or.inr sz_pa156) all0)))
        refine C.aload (pc' := 178) at_176 rfl rfl rfl ?_
        refine C.callv (w := 0) (own_drop0 l Z a0 hw n0 h173 b151 ta156 pa156 (0 : Int32) ((0 : Int32) + (1 : Int32)) ((0 : Int64) + v139) [(p1 - (1 : Int64)), (0 : Int64)] [v139, (0 : Int64)] (2 : Int32) 0 (Nat.le_trans Z0 K.1) E_b151 F_b151_times F_b151_permits F_b151_head F_b151_size F_b151_counted A_ta156 A_pa156 g_b151 ne_b151_ta156 ne_b151_pa156 (show (2 : Int32).toInt = ((2 : Nat) : Int) from by decide) (by decide) (show 0 < 2 from by decide) (Or.inr (by decide))) E_b151 (ow54 hw) (ow55 hw) (ow57 hw) (ow56 hw) (ow4 hw) (ow58 hw) (pc' := 181) at_178 rfl rfl rfl (by decide) pd___V rfl (by decide) (Nat.le_of_eq rfl) (by decide) (by decide) (by decide) (kV fun h178 q178 => ?_)
        obtain ⟨K178, N178_0, N178_1, N178_2, N178_3, N178_4⟩ := q178
        replace A_b142 := A_b142.keep K178 (ninS ne_b142_b151 nin0)
        replace A_b147 := A_b147.keep K178 (ninS ne_b147_b151 nin0)
        replace E_b151 := E_b151.keep K178
        replace A_ta156 := A_ta156.keep K178 (ninS (Ne.symm ne_b151_ta156) nin0)
        replace A_pa156 := A_pa156.keep K178 (ninS (Ne.symm ne_b151_pa156) nin0)
        have F_b151_times : Fld Z h178 b151 "com/example/steady_limiter/steadylimiter/SlidingWindowLog$PermitLog" "times" "[J" (.ref ta156) := N178_0
        have F_b151_permits : Fld Z h178 b151 "com/example/steady_limiter/steadylimiter/SlidingWindowLog$PermitLog" "permits" "[J" (.ref pa156) := N178_1
        have F_b151_head : Fld Z h178 b151 "com/example/steady_limiter/steadylimiter/SlidingWindowLog$PermitLog" "head" "I" (.int (((0 : Int32) + (1 : Int32)) &&& ((2 : Int32) - (1 : Int32)))) := N178_2
        have F_b151_size : Fld Z h178 b151 "com/example/steady_limiter/steadylimiter/SlidingWindowLog$PermitLog" "size" "I" (.int (((0 : Int32) + (1 : Int32)) - (1 : Int32))) := N178_3
        have F_b151_counted : Fld Z h178 b151 "com/example/steady_limiter/steadylimiter/SlidingWindowLog$PermitLog" "counted" "J" (.long (((0 : Int64) + v139) - v139)) := N178_4
        replace K := K.trans K178 (allS (Or.inr sz_b151) all0)
        refine C.aload (pc' := 183) at_181 rfl rfl rfl ?_
        refine C.lloadN (pc' := 184) at_183 rfl rfl ?_
        refine C.lload (pc' := 186) at_184 rfl rfl ?_
        refine C.callv (w := 0) (own_addB0 l Z a0 hw n0 h178 b151 p1 v7 ta156 pa156 (((0 : Int32) + (1 : Int32)) &&& ((2 : Int32) - (1 : Int32))) (((0 : Int32) + (1 : Int32)) - (1 : Int32)) (((0 : Int64) + v139) - v139) [(p1 - (1 : Int64)), (0 : Int64)] [v139, (0 : Int64)] (2 : Int32) 1 (Nat.le_trans Z0 K.1) E_b151 F_b151_times F_b151_permits F_b151_head F_b151_size F_b151_counted A_ta156 A_pa156 g_b151 g_ta156 g_pa156 ne_b151_ta156 ne_b151_pa156 ne_ta156_pa156 (show (2 : Int32).toInt = ((2 : Nat) : Int) from by decide) (by decide) (by decide) (show 1 < 2 from by decide) (show 1 < 2 from by decide) (by decide)) E_b151 (ow22 hw) (ow23 hw) (ow25 hw) (ow24 hw) (ow4 hw) (ow26 hw) (pc' := 189) at_186 rfl rfl rfl (by decide) pd__JJ_V rfl (by decide) (Nat.le_of_eq rfl) (by decide) (by decide) (by decide) (kV fun h186 q186 => ?_)
        obtain ⟨K186, N186_0, N186_1, N186_2, N186_3, N186_4, N186_5, N186_6⟩ := q186
        replace A_b142 := A_b142.keep K186 (ninS ne_b142_b151 (ninS ne_b142_ta156 (ninS ne_b142_pa156 nin0)))
        replace A_b147 := A_b147.keep K186 (ninS ne_b147_b151 (ninS ne_b147_ta156 (ninS ne_b147_pa156 nin0)))
        replace E_b151 := E_b151.keep K186
        have F_b151_times : Fld Z h186 b151 "com/example/steady_limiter/steadylimiter/SlidingWindowLog$PermitLog" "times" "[J" (.ref ta156) := N186_0
        have F_b151_permits : Fld Z h186 b151 "com/example/steady_limiter/steadylimiter/SlidingWindowLog$PermitLog" "permits" "[J" (.ref pa156) := N186_1
        have F_b151_head : Fld Z h186 b151 "com/example/steady_limiter/steadylimiter/SlidingWindowLog$PermitLog" "head" "I" (.int (((0 : Int32) + (1 : Int32)) &&& ((2 : Int32) - (1 : Int32)))) := N186_2
        have F_b151_size : Fld Z h186 b151 "com/example/steady_limiter/steadylimiter/SlidingWindowLog$PermitLog" "size" "I" (.int ((((0 : Int32) + (1 : Int32)) - (1 : Int32)) + (1 : Int32))) := N186_3
        have F_b151_counted : Fld Z h186 b151 "com/example/steady_limiter/steadylimiter/SlidingWindowLog$PermitLog" "counted" "J" (.long ((((0 : Int64) + v139) - v139) + v7)) := N186_4
        have A_ta156 : AJ Z h186 ta156 [(p1 - (1 : Int64)), p1] := N186_5
        have A_pa156 : AJ Z h186 pa156 [v139, v7] := N186_6
        replace K := K.trans K186 (allS (Or.inr sz_b151) (allS (Or.inr sz_ta156) (allS (Or.inr sz_pa156) all0)))
        refine C.aload (pc' := 191) at_189 rfl rfl rfl ?_
        refine C.lload (pc' := 193) at_191 rfl rfl ?_
        refine C.lload (pc' := 195) at_193 rfl rfl ?_
        refine C.callv (w := 0) (own_addB1 l Z a0 hw n0 h186 b151 v105 v17 ta156 pa156 (((0 : Int32) + (1 : Int32)) &&& ((2 : Int32) - (1 : Int32))) ((((0 : Int32) + (1 : Int32)) - (1 : Int32)) + (1 : Int32)) ((((0 : Int64) + v139) - v139) + v7) [(p1 - (1 : Int64)), p1] [v139, v7] (2 : Int32) 1 0 (Nat.le_trans Z0 K.1) E_b151 F_b151_times F_b151_permits F_b151_head F_b151_size F_b151_counted A_ta156 A_pa156 g_b151 g_ta156 g_pa156 ne_b151_ta156 ne_b151_pa156 ne_ta156_pa156 (show (2 : Int32).toInt = ((2 : Nat) : Int) from by decide) (by decide) (by decide) (show 1 < 2 from by decide) (show 1 < 2 from by decide) (own_ne e61 e105) (by decide) (show 0 < 2 from by decide) (show 0 < 2 from by decide) (by decide)) E_b151 (ow22 hw) (ow23 hw) (ow25 hw) (ow24 hw) (ow4 hw) (ow26 hw) (pc' := 198) at_195 rfl rfl rfl (by decide) pd__JJ_V rfl (by decide) (Nat.le_of_eq rfl) (by decide) (by decide) (by decide) (kV fun h195 q195 => ?_)
        obtain ⟨K195, N195_0, N195_1, N195_2, N195_3, N195_4, N195_5, N195_6⟩ := q195
        replace A_b142 := A_b142.keep K195 (ninS ne_b142_b151 (ninS ne_b142_ta156 (ninS ne_b142_pa156 nin0)))
        replace A_b147 := A_b147.keep K195 (ninS ne_b147_b151 (ninS ne_b147_ta156 (ninS ne_b147_pa156 nin0)))
        replace E_b151 := E_b151.keep K195
        have F_b151_times : Fld Z h195 b151 "com/example/steady_limiter/steadylimiter/SlidingWindowLog$PermitLog" "times" "[J" (.ref ta156) := N195_0
        have F_b151_permits : Fld Z h195 b151 "com/example/steady_limiter/steadylimiter/SlidingWindowLog$PermitLog" "permits" "[J" (.ref pa156) := N195_1
        have F_b151_head : Fld Z h195 b151 "com/example/steady_limiter/steadylimiter/SlidingWindowLog$PermitLog" "head" "I" (.int (((0 : Int32) + (1 : Int32)) &&& ((2 : Int32) - (1 : Int32)))) := N195_2
        have F_b151_size : Fld Z h195 b151 "com/example/steady_limiter/steadylimiter/SlidingWindowLog$PermitLog" "size" "I" (.int (((((0 : Int32) + (1 : Int32)) - (1 : Int32)) + (1 : Int32)) + (1 : Int32))) := N195_3
        have F_b151_counted : Fld Z h195 b151 "com/example/steady_limiter/steadylimiter/SlidingWindowLog$PermitLog" "counted" "J" (.long (((((0 : Int64) + v139) - v139) + v7) + v17)) := N195_4
        have A_ta156 : AJ Z h195 ta156 [v105, p1] := N195_5
        have A_pa156 : AJ Z h195 pa156 [v17, v7] := N195_6
        replace K := K.trans K195 (allS (Or.inr sz_b151) (allS (Or.inr sz_ta156) (allS (Or.inr sz_pa156) all0)))
        refine C.aload (pc' := 200) at_198 rfl rfl rfl ?_
        refine C.lload (pc' := 202) at_200 rfl rfl ?_
        refine C.lload (pc' := 204) at_202 rfl rfl ?_
        refine C.callv (w := 0) (own_addA l Z a0 hw n0 h195 b151 v112 v27 ta156 pa156 (((0 : Int32) + (1 : Int32)) &&& ((2 : Int32) - (1 : Int32))) (((((0 : Int32) + (1 : Int32)) - (1 : Int32)) + (1 : Int32)) + (1 : Int32)) (((((0 : Int64) + v139) - v139) + v7) + v17) [v105, p1] [v17, v7] (2 : Int32) 0 (Nat.le_trans Z0 K.1) E_b151 F_b151_times F_b151_permits F_b151_head F_b151_size F_b151_counted A_ta156 A_pa156 g_b151 g_ta156 g_pa156 ne_b151_ta156 ne_b151_pa156 ne_ta156_pa156 (show (2 : Int32).toInt = ((2 : Nat) : Int) from by decide) (by decide) (by decide) (show 0 < 2 from by decide) (show 0 < 2 from by decide) (own_eq e112)) E_b151 (ow22 hw) (ow23 hw) (ow25 hw) (ow24 hw) (ow4 hw) (ow26 hw) (pc' := 207) at_204 rfl rfl rfl (by decide) pd__JJ_V rfl (by decide) (Nat.le_of_eq rfl) (by decide) (by decide) (by decide) (kV fun h204 q204 => ?_)
        obtain ⟨K204, N204_0, N204_1, N204_2, N204_3, N204_4, N204_5⟩ := q204
        replace A_b142 := A_b142.keep K204 (ninS ne_b142_b151 (ninS ne_b142_pa156 nin0))
        replace A_b147 := A_b147.keep K204 (ninS ne_b147_b151 (ninS ne_b147_pa156 nin0))
        replace E_b151 := E_b151.keep K204
        replace A_ta156 := A_ta156.keep K204 (ninS (Ne.symm ne_b151_ta156) (ninS ne_ta156_pa156 nin0))
        have F_b151_times : Fld Z h204 b151 "com/example/steady_limiter/steadylimiter/SlidingWindowLog$PermitLog" "times" "[J" (.ref ta156) := N204_0
        have F_b151_permits : Fld Z h204 b151 "com/example/steady_limiter/steadylimiter/SlidingWindowLog$PermitLog" "permits" "[J" (.ref pa156) := N204_1
        have F_b151_head : Fld Z h204 b151 "com/example/steady_limiter/steadylimiter/SlidingWindowLog$PermitLog" "head" "I" (.int (((0 : Int32) + (1 : Int32)) &&& ((2 : Int32) - (1 : Int32)))) := N204_2
        have F_b151_size : Fld Z h204 b151 "com/example/steady_limiter/steadylimiter/SlidingWindowLog$PermitLog" "size" "I" (.int (((((0 : Int32) + (1 : Int32)) - (1 : Int32)) + (1 : Int32)) + (1 : Int32))) := N204_3
        have F_b151_counted : Fld Z h204 b151 "com/example/steady_limiter/steadylimiter/SlidingWindowLog$PermitLog" "counted" "J" (.long ((((((0 : Int64) + v139) - v139) + v7) + v17) + v27)) := N204_4
        have A_pa156 : AJ Z h204 pa156 [(v17 + v27), v7] := N204_5
        replace K := K.trans K204 (allS (Or.inr sz_b151) (allS (Or.inr sz_pa156) all0))
        refine C.aload (pc' := 209) at_207 rfl rfl rfl ?_
        refine C.iconst (v := 0) (pc' := 210) at_209 rfl rfl ?_
        refine C.lloadN (pc' := 211) at_210 rfl rfl ?_
        refine C.stAJ (i := 0) A_b142 (by decide) (by show 0 < 3; decide) g_b142 (pc' := 212) at_211 rfl (fun h211 X211 B211 => ?_)
        replace A_b147 := A_b147.other X211 (Ne.symm ne_b142_b147)
        replace E_b151 := E_b151.wr X211
        replace A_ta156 := A_ta156.other X211 (Ne.symm ne_b142_ta156)
        replace F_b151_times := F_b151_times.other X211 (Or.inl (Ne.symm ne_b142_b151))
        replace F_b151_permits := F_b151_permits.other X211 (Or.inl (Ne.symm ne_b142_b151))
        replace F_b151_head := F_b151_head.other X211 (Or.inl (Ne.symm ne_b142_b151))
        replace F_b151_size := F_b151_size.other X211 (Or.inl (Ne.symm ne_b142_b151))
        replace F_b151_counted := F_b151_counted.other X211 (Or.inl (Ne.symm ne_b142_b151))
        replace A_pa156 := A_pa156.other X211 (Ne.symm ne_b142_pa156)
        have A_b142 : AJ Z h211 b142 [p1, (0 : Int64), (0 : Int64)] := B211
        replace K := K.wr X211 (Or.inr sz_b142)
        refine C.aload (pc' := 214) at_212 rfl rfl rfl ?_
        refine C.iconst (v := 0) (pc' := 215) at_214 rfl rfl ?_
        refine C.lload (pc' := 217) at_215 rfl rfl ?_
        refine C.stAJ (i := 0) A_b147 (by decide) (by show 0 < 3; decide) g_b147 (pc' := 218) at_217 rfl (fun h217 X217 B217 => ?_)
        replace E_b151 := E_b151.wr X217
        replace A_ta156 := A_ta156.other X217 (Ne.symm ne_b147_ta156)
        replace F_b151_times := F_b151_times.other X217 (Or.inl (Ne.symm ne_b147_b151))
        replace F_b151_permits := F_b151_permits.other X217 (Or.inl (Ne.symm ne_b147_b151))
        replace F_b151_head := F_b151_head.other X217 (Or.inl (Ne.symm ne_b147_b151))
        replace F_b151_size := F_b151_size.other X217 (Or.inl (Ne.symm ne_b147_b151))
        replace F_b151_counted := F_b151_counted.other X217 (Or.inl (Ne.symm ne_b147_b151))
        replace A_pa156 := A_pa156.other X217 (Ne.symm ne_b147_pa156)
        replace A_b142 := A_b142.other X217 ne_b142_b147
        have A_b147 : AJ Z h217 b147 [v7, (0 : Int64), (0 : Int64)] := B217
        replace K := K.wr X217 (Or.inr sz_b147)
        refine C.iconst (v := 1) (pc' := 219) at_218 rfl rfl ?_
        refine C.istoreX (l' := #[.val (.long p1), .second, .val (.int p2), .val (.long p3), .second, .val (.long p4), .second, .val (.long p5), .second, .val (.int p6), .val (.long v7), .second, .val (.long v17), .second, .val (.long v27), .second, .val (.int (0 : Int32)), .val (.long v61), .second, .val (.int (1 : Int32)), .val (.long (0 : Int64)), .second, .val (.long v105), .second, .val (.long v112), .second, .val (.int (1 : Int32)), .val (.long v139), .second, .val (.ref b142), .val (.ref b147), .val (.ref b151), .val (.int (1 : Int32)), .unset]) (pc' := 221) at_219 rfl rfl ?_
        refine C.aload (pc' := 223) at_221 rfl rfl rfl ?_
        refine C.aload (pc' := 225) at_223 rfl rfl rfl ?_
        refine C.iload (pc' := 227) at_225 rfl rfl ?_
        refine C.iload (pc' := 229) at_227 rfl rfl ?_
        refine C.lload (pc' := 231) at_229 rfl rfl ?_
        refine C.lload (pc' := 233) at_231 rfl rfl ?_
        refine C.calls (w := 0) (own_step0 l Z a0 hw n0 h217 b142 b147 (1 : Int32) (0 : Int32) v105 v17 [p1, (0 : Int64), (0 : Int64)] [v7, (0 : Int64), (0 : Int64)] 1 (Nat.le_trans Z0 K.1) A_b142 A_b147 g_b142 g_b147 ne_b142_b147 rfl (by decide) (show 1 < 3 from by decide) (show 1 < 3 from by decide)) (ow42 hw) (ow43 hw) (ow44 hw) (ow45 hw) (pc' := 236) at_233 rfl rfl rfl (by decide) pd___J_JIZJJ_I rfl (by decide) (Nat.le_of_eq rfl) (by decide) (by decide) (by decide) (kI fun r233 h233 q233 => ?_)
        obtain ⟨rfl, K233, N233_0, N233_1⟩ := q233
        replace E_b151 := E_b151.keep K233
        replace A_ta156 := A_ta156.keep K233 (ninS (Ne.symm ne_b142_ta156) (ninS (Ne.symm ne_b147_ta156) nin0))
        replace F_b151_times := F_b151_times.keep K233 (ninS (Ne.symm ne_b142_b151) (ninS (Ne.symm ne_b147_b151) nin0))
        replace F_b151_permits := F_b151_permits.keep K233 (ninS (Ne.symm ne_b142_b151) (ninS (Ne.symm ne_b147_b151) nin0))
        replace F_b151_head := F_b151_head.keep K233 (ninS (Ne.symm ne_b142_b151) (ninS (Ne.symm ne_b147_b151) nin0))
        replace F_b151_size := F_b151_size.keep K233 (ninS (Ne.symm ne_b142_b151) (ninS (Ne.symm ne_b147_b151) nin0))
        replace F_b151_counted := F_b151_counted.keep K233 (ninS (Ne.symm ne_b142_b151) (ninS (Ne.symm ne_b147_b151) nin0))
        replace A_pa156 := A_pa156.keep K233 (ninS (Ne.symm ne_b142_pa156) (ninS (Ne.symm ne_b147_pa156) nin0))
        have A_b142 : AJ Z h233 b142 [p1, v105, (0 : Int64)] := N233_0
        have A_b147 : AJ Z h233 b147 [v7, v17, (0 : Int64)] := N233_1
        replace K := K.trans K233 (allS (Or.inr sz_b142) (allS (Or.inr sz_b147) all0))
        refine C.istoreX (l' := #[.val (.long p1), .second, .val (.int p2), .val (.long p3), .second, .val (.long p4), .second, .val (.long p5), .second, .val (.int p6), .val (.long v7), .second, .val (.long v17), .second, .val (.long v27), .second, .val (.int (0 : Int32)), .val (.long v61), .second, .val (.int (1 : Int32)), .val (.long (0 : Int64)), .second, .val (.long v105), .second, .val (.long v112), .second, .val (.int (1 : Int32)), .val (.long v139), .second, .val (.ref b142), .val (.ref b147), .val (.ref b151), .val (.int ((1 : Int32) + (1 : Int32))), .unset]) (pc' := 238) at_236 rfl rfl ?_
        refine C.aload (pc' := 240) at_238 rfl rfl rfl ?_
        refine C.aload (pc' := 242) at_240 rfl rfl rfl ?_
        refine C.iload (pc' := 244) at_242 rfl rfl ?_
        refine C.iload (pc' := 246) at_244 rfl rfl ?_
        refine C.lload (pc' := 248) at_246 rfl rfl ?_
        refine C.lload (pc' := 250) at_248 rfl rfl ?_
        refine C.calls (w := 0) (own_step1 l Z a0 hw n0 h233 b142 b147 ((1 : Int32) + (1 : Int32)) (1 : Int32) v112 v27 [p1, v105, (0 : Int64)] [v7, v17, (0 : Int64)] 1 (Nat.le_trans Z0 K.1) A_b142 A_b147 g_b142 g_b147 ne_b142_b147 (by decide) (by decide) (show 1 < 3 from by decide)) (ow42 hw) (ow43 hw) (ow44 hw) (ow45 hw) (pc' := 253) at_250 rfl rfl rfl (by decide) pd___J_JIZJJ_I rfl (by decide) (Nat.le_of_eq rfl) (by decide) (by decide) (by decide) (kI fun r250 h250 q250 => ?_)
        obtain ⟨rfl, K250, N250_0⟩ := q250
        replace E_b151 := E_b151.keep K250
        replace A_ta156 := A_ta156.keep K250 (ninS (Ne.symm ne_b147_ta156) nin0)
        replace F_b151_times := F_b151_times.keep K250 (ninS (Ne.symm ne_b147_b151) nin0)
        replace F_b151_permits := F_b151_permits.keep K250 (ninS (Ne.symm ne_b147_b151) nin0)
        replace F_b151_head := F_b151_head.keep K250 (ninS (Ne.symm ne_b147_b151) nin0)
        replace F_b151_size := F_b151_size.keep K250 (ninS (Ne.symm ne_b147_b151) nin0)
        replace F_b151_counted := F_b151_counted.keep K250 (ninS (Ne.symm ne_b147_b151) nin0)
        replace A_pa156 := A_pa156.keep K250 (ninS (Ne.symm ne_b147_pa156) nin0)
        replace A_b142 := A_b142.keep K250 (ninS ne_b142_b147 nin0)
        have A_b147 : AJ Z h250 b147 [v7, (v17 + v27), (0 : Int64)] := N250_0
        replace K := K.trans K250 (allS (Or.inr sz_b147) all0)
        refine C.istoreX (l' := #[.val (.long p1), .second, .val (.int p2), .val (.long p3), .second, .val (.long p4), .second, .val (.long p5), .second, .val (.int p6), .val (.long v7), .second, .val (.long v17), .second, .val (.long v27), .second, .val (.int (0 : Int32)), .val (.long v61), .second, .val (.int (1 : Int32)), .val (.long (0 : Int64)), .second, .val (.long v105), .second, .val (.long v112), .second, .val (.int (1 : Int32)), .val (.long v139), .second, .val (.ref b142), .val (.ref b147), .val (.ref b151), .val (.int ((1 : Int32) + (1 : Int32))), .unset]) (pc' := 255) at_253 rfl rfl ?_
        refine C.aload (pc' := 257) at_255 rfl rfl rfl ?_
        refine C.getf (ow46 hw) Via.refl F_b151_size (pc' := 260) at_257 rfl ?_
        refine C.iload (pc' := 262) at_260 rfl rfl ?_
        refine C.icmp_ne (pc' := 265) (pt := 286) at_262 rfl rfl (fun c262 => absurd (by decide) c262) (fun c262 => ?_)
        refine C.aload (pc' := 267) at_265 rfl rfl rfl ?_
        refine C.getf (ow47 hw) Via.refl F_b151_counted (pc' := 270) at_267 rfl ?_
        refine C.lload (pc' := 272) at_270 rfl rfl ?_
        refine C.lload (pc' := 274) at_272 rfl rfl ?_
        refine C.ladd (pc' := 275) at_274 rfl ?_
        refine C.lload (pc' := 277) at_275 rfl rfl ?_
        refine C.ladd (pc' := 278) at_277 rfl ?_
        refine C.lif_ne (pc' := 282) (pt := 286) at_278 rfl at_279 rfl rfl (fun c278 => absurd own_auto338 c278) (fun c278 => ?_)
        refine C.iconst (v := 1) (pc' := 283) at_282 rfl rfl ?_
        refine C.goto (pc' := 287) at_283 rfl ?_
        refine C.istoreX (l' := #[.val (.long p1), .second, .val (.int p2), .val (.long p3), .second, .val (.long p4), .second, .val (.long p5), .second, .val (.int p6), .val (.long v7), .second, .val (.long v17), .second, .val (.long v27), .second, .val (.int (0 : Int32)), .val (.long v61), .second, .val (.int (1 : Int32)), .val (.long (0 : Int64)), .second, .val (.long v105), .second, .val (.long v112), .second, .val (.int (1 : Int32)), .val (.long v139), .second, .val (.ref b142), .val (.ref b147), .val (.ref b151), .val (.int ((1 : Int32) + (1 : Int32))), .val (.int (1 : Int32))]) (pc' := 289) at_287 rfl rfl ?_
        refine C.iload (pc' := 291) at_289 rfl rfl ?_
        refine C.if_eq (pc' := 294) (pt := 326) at_291 rfl rfl (fun c291 => absurd c291 (by decide)) (fun c291 => ?_)
        refine C.aload (pc' := 296) at_294 rfl rfl rfl ?_
        refine C.iconst (v := 0) (pc' := 297) at_296 rfl rfl ?_
        refine C.callv (w := 0) (own_rm6 l Z a0 hw n0 h250 b151 (0 : Int32) ta156 (((0 : Int32) + (1 : Int32)) &&& ((2 : Int32) - (1 : Int32))) [v105, p1] (2 : Int32) 1 E_b151 F_b151_head F_b151_times A_ta156 (show (2 : Int32).toInt = ((2 : Nat) : Int) from by decide) (by decide) (show 1 < 2 from by decide)) E_b151 (ow48 hw) (ow38 hw) (ow40 hw) (ow39 hw) (ow4 hw) (ow41 hw) (pc' := 300) at_297 rfl rfl rfl (by decide) pd__I_J rfl (by decide) (Nat.le_of_eq rfl) (by decide) (by decide) (by decide) (kJe ?_)
        refine C.aload (pc' := 302) at_300 rfl rfl rfl ?_
        refine C.iconst (v := 0) (pc' := 303) at_302 rfl rfl ?_
        refine C.ldAJ (i := 0) (v := p1) A_b142 (by decide) rfl (pc' := 304) at_303 rfl ?_
        refine C.lif_ne (pc' := 308) (pt := 326) at_304 rfl at_305 rfl rfl (fun c304 => absurd rfl c304) (fun c304 => ?_)
        refine C.aload (pc' := 310) at_308 rfl rfl rfl ?_
        refine C.iconst (v := 0) (pc' := 311) at_310 rfl rfl ?_
        refine C.callv (w := 0) (own_rm8 l Z a0 hw n0 h250 b151 (0 : Int32) ta156 pa156 (((0 : Int32) + (1 : Int32)) &&& ((2 : Int32) - (1 : Int32))) [v105, p1] [(v17 + v27), v7] (2 : Int32) 1 E_b151 F_b151_head F_b151_times F_b151_permits A_ta156 A_pa156 (show (2 : Int32).toInt = ((2 : Nat) : Int) from by decide) (by decide) (show 1 < 2 from by decide)) E_b151 (ow49 hw) (ow50 hw) (ow52 hw) (ow51 hw) (ow4 hw) (ow53 hw) (pc' := 314) at_311 rfl rfl rfl (by decide) pd__I_J rfl (by decide) (Nat.le_of_eq rfl) (by decide) (by decide) (by decide) (kJe ?_)
        refine C.aload (pc' := 316) at_314 rfl rfl rfl ?_
        refine C.iconst (v := 0) (pc' := 317) at_316 rfl rfl ?_
        refine C.ldAJ (i := 0) (v := v7) A_b147 (by decide) rfl (pc' := 318) at_317 rfl ?_
        refine C.lif_ne (pc' := 322) (pt := 326) at_318 rfl at_319 rfl rfl (fun c318 => absurd rfl c318) (fun c318 => ?_)
        refine C.iconst (v := 1) (pc' := 323) at_322 rfl rfl ?_
        refine C.goto (pc' := 327) at_323 rfl ?_
        refine C.istoreX (l' := #[.val (.long p1), .second, .val (.int p2), .val (.long p3), .second, .val (.long p4), .second, .val (.long p5), .second, .val (.int p6), .val (.long v7), .second, .val (.long v17), .second, .val (.long v27), .second, .val (.int (0 : Int32)), .val (.long v61), .second, .val (.int (1 : Int32)), .val (.long (0 : Int64)), .second, .val (.long v105), .second, .val (.long v112), .second, .val (.int (1 : Int32)), .val (.long v139), .second, .val (.ref b142), .val (.ref b147), .val (.ref b151), .val (.int ((1 : Int32) + (1 : Int32))), .val (.int (1 : Int32))]) (pc' := 329) at_327 rfl rfl ?_
        refine C.iload (pc' := 331) at_329 rfl rfl ?_
        refine C.iconst (v := 1) (pc' := 332) at_331 rfl rfl ?_
        refine C.icmp_le (pc' := 335) (pt := 375) at_332 rfl rfl (fun c332 => absurd (by decide) c332) (fun c332 => ?_)
        refine C.iload (pc' := 337) at_335 rfl rfl ?_
        refine C.if_eq (pc' := 340) (pt := 372) at_337 rfl rfl (fun c337 => absurd c337 (by decide)) (fun c337 => ?_)
        refine C.aload (pc' := 342) at_340 rfl rfl rfl ?_
        refine C.iconst (v := 1) (pc' := 343) at_342 rfl rfl ?_
        refine C.callv (w := 0) (own_rm6 l Z a0 hw n0 h250 b151 (1 : Int32) ta156 (((0 : Int32) + (1 : Int32)) &&& ((2 : Int32) - (1 : Int32))) [v105, p1] (2 : Int32) 0 E_b151 F_b151_head F_b151_times A_ta156 (show (2 : Int32).toInt = ((2 : Nat) : Int) from by decide) (by decide) (show 0 < 2 from by decide)) E_b151 (ow48 hw) (ow38 hw) (ow40 hw) (ow39 hw) (ow4 hw) (ow41 hw) (pc' := 346) at_343 rfl rfl rfl (by decide) pd__I_J rfl (by decide) (Nat.le_of_eq rfl) (by decide) (by decide) (by decide) (kJe ?_)
        refine C.aload (pc' := 348) at_346 rfl rfl rfl ?_
        refine C.iconst (v := 1) (pc' := 349) at_348 rfl rfl ?_
        refine C.ldAJ (i := 1) (v := v105) A_b142 (by decide) rfl (pc' := 350) at_349 rfl ?_
        refine C.lif_ne (pc' := 354) (pt := 372) at_350 rfl at_351 rfl rfl (fun c350 => absurd rfl c350) (fun c350 => ?_)
        refine C.aload (pc' := 356) at_354 rfl rfl rfl ?_
        refine C.iconst (v := 1) (pc' := 357) at_356 rfl rfl ?_
        refine C.callv (w := 0) (own_rm8 l Z a0 hw n0 h250 b151 (1 : Int32) ta156 pa156 (((0 : Int32) + (1 : Int32)) &&& ((2 : Int32) - (1 : Int32))) [v105, p1] [(v17 + v27), v7] (2 : Int32) 0 E_b151 F_b151_head F_b151_times F_b151_permits A_ta156 A_pa156 (show (2 : Int32).toInt = ((2 : Nat) : Int) from by decide) (by decide) (show 0 < 2 from by decide)) E_b151 (ow49 hw) (ow50 hw) (ow52 hw) (ow51 hw) (ow4 hw) (ow53 hw) (pc' := 360) at_357 rfl rfl rfl (by decide) pd__I_J rfl (by decide) (Nat.le_of_eq rfl) (by decide) (by decide) (by decide) (kJe ?_)
        refine C.aload (pc' := 362) at_360 rfl rfl rfl ?_
        refine C.iconst (v := 1) (pc' := 363) at_362 rfl rfl ?_
        refine C.ldAJ (i := 1) (v := (v17 + v27)) A_b147 (by decide) rfl (pc' := 364) at_363 rfl ?_
        refine C.lif_ne (pc' := 368) (pt := 372) at_364 rfl at_365 rfl rfl (fun c364 => absurd rfl c364) (fun c364 => ?_)
        refine C.iconst (v := 1) (pc' := 369) at_368 rfl rfl ?_
        refine C.goto (pc' := 373) at_369 rfl ?_
        refine C.istoreX (l' := #[.val (.long p1), .second, .val (.int p2), .val (.long p3), .second, .val (.long p4), .second, .val (.long p5), .second, .val (.int p6), .val (.long v7), .second, .val (.long v17), .second, .val (.long v27), .second, .val (.int (0 : Int32)), .val (.long v61), .second, .val (.int (1 : Int32)), .val (.long (0 : Int64)), .second, .val (.long v105), .second, .val (.long v112), .second, .val (.int (1 : Int32)), .val (.long v139), .second, .val (.ref b142), .val (.ref b147), .val (.ref b151), .val (.int ((1 : Int32) + (1 : Int32))), .val (.int (1 : Int32))]) (pc' := 375) at_373 rfl rfl ?_
        refine C.iload (pc' := 377) at_375 rfl rfl ?_
        refine C.iconst (v := 2) (pc' := 378) at_377 rfl rfl ?_
        refine C.icmp_le (pc' := 381) (pt := 421) at_378 rfl rfl (fun c378 => ?_) (fun c378 => absurd c378 (by decide))
        refine C.iload (pc' := 423) at_421 rfl rfl ?_
        refine C.retZ (show ret = some .boolean from rfl) (by decide) at_423 (by decide) (by decide) ⟨_, rfl, rfl⟩
  · skip
    refine C.iconst (v := 1) (pc' := 36) at_35 rfl rfl ?_
    refine C.goto (pc' := 40) at_36 rfl ?_
    refine C.istoreX (l' := #[.val (.long p1), .second, .val (.int p2), .val (.long p3), .second, .val (.long p4), .second, .val (.long p5), .second, .val (.int p6), .val (.long v7), .second, .val (.long v17), .second, .val (.long v27), .second, .val (.int (1 : Int32)), .unset, .unset, .unset, .unset, .unset, .unset, .unset, .unset, .unset, .unset, .unset, .unset, .unset, .unset, .unset, .unset, .unset]) (pc' := 42) at_40 rfl rfl ?_
    refine C.iload (pc' := 44) at_42 rfl rfl ?_
    refine C.if_eq (pc' := 47) (pt := 51) at_44 rfl rfl (fun c44 => absurd c44 (by decide)) (fun c44 => ?_)
    refine C.lconst (v := 0) (pc' := 48) at_47 rfl rfl ?_
    refine C.goto (pc' := 61) at_48 rfl ?_
    refine C.lstoreX (l' := #[.val (.long p1), .second, .val (.int p2), .val (.long p3), .second, .val (.long p4), .second, .val (.long p5), .second, .val (.int p6), .val (.long v7), .second, .val (.long v17), .second, .val (.long v27), .second, .val (.int (1 : Int32)), .val (.long (0 : Int64)), .second, .unset, .unset, .unset, .unset, .unset, .unset, .unset, .unset, .unset, .unset, .unset, .unset, .unset, .unset, .unset]) (pc' := 63) at_61 rfl rfl ?_
    refine C.iloadN (pc' := 64) at_63 rfl rfl ?_
    refine C.bipush (v := 10) (pc' := 66) at_64 rfl rfl ?_
    refine C.iushr (s := 10) (pc' := 67) at_66 rfl (by decide) ?_
    refine C.iconst (v := 1) (pc' := 68) at_67 rfl rfl ?_
    refine C.iand (pc' := 69) at_68 rfl ?_
    refine C.if_ne (pc' := 72) (pt := 76) at_69 rfl rfl (fun c69 => ?_) (fun c69 => ?_)
    · skip
      refine C.iconst (v := 0) (pc' := 77) at_76 rfl rfl ?_
      refine C.istoreX (l' := #[.val (.long p1), .second, .val (.int p2), .val (.long p3), .second, .val (.long p4), .second, .val (.long p5), .second, .val (.int p6), .val (.long v7), .second, .val (.long v17), .second, .val (.long v27), .second, .val (.int (1 : Int32)), .val (.long (0 : Int64)), .second, .val (.int (0 : Int32)), .unset, .unset, .unset, .unset, .unset, .unset, .unset, .unset, .unset, .unset, .unset, .unset, .unset, .unset]) (pc' := 79) at_77 rfl rfl ?_
      refine C.iload (pc' := 81) at_79 rfl rfl ?_
      refine C.if_eq (pc' := 84) (pt := 88) at_81 rfl rfl (fun c81 => ?_) (fun c81 => absurd (by decide) c81)
      refine C.iloadN (pc' := 89) at_88 rfl rfl ?_
      refine C.bipush (v := 11) (pc' := 91) at_89 rfl rfl ?_
      refine C.iushr (s := 11) (pc' := 92) at_91 rfl (by decide) ?_
      refine C.sipush (v := 511) (pc' := 95) at_92 rfl rfl ?_
      refine C.iand (pc' := 96) at_95 rfl ?_
      refine C.i2l (pc' := 97) at_96 rfl ?_
      refine C.lconst (v := 1) (pc' := 98) at_97 rfl rfl ?_
      refine C.ladd (pc' := 99) at_98 rfl ?_
      refine C.lstore (f := fun v_ => #[.val (.long p1), .second, .val (.int p2), .val (.long p3), .second, .val (.long p4), .second, .val (.long p5), .second, .val (.int p6), .val (.long v7), .second, .val (.long v17), .second, .val (.long v27), .second, .val (.int (1 : Int32)), .val (.long (0 : Int64)), .second, .val (.int (0 : Int32)), .val (.long v_), .second, .unset, .unset, .unset, .unset, .unset, .unset, .unset, .unset, .unset, .unset, .unset, .unset]) (pc' := 101) at_99 rfl (fun _ => rfl) (fun v99 e99 => ?_)
      refine C.lloadN (pc' := 102) at_101 rfl rfl ?_
      refine C.lload (pc' := 104) at_102 rfl rfl ?_
      refine C.ladd (pc' := 105) at_104 rfl ?_
      refine C.lstore (f := fun v_ => #[.val (.long p1), .second, .val (.int p2), .val (.long p3), .second, .val (.long p4), .second, .val (.long p5), .second, .val (.int p6), .val (.long v7), .second, .val (.long v17), .second, .val (.long v27), .second, .val (.int (1 : Int32)), .val (.long (0 : Int64)), .second, .val (.int (0 : Int32)), .val (.long v99), .second, .val (.long v_), .second, .unset, .unset, .unset, .unset, .unset, .unset, .unset, .unset, .unset, .unset]) (pc' := 107) at_105 rfl (fun _ => rfl) (fun v105 e105 => ?_)
      refine C.lload (pc' := 109) at_107 rfl rfl ?_
      refine C.lload (pc' := 111) at_109 rfl rfl ?_
      refine C.ladd (pc' := 112) at_111 rfl ?_
      refine C.lstore (f := fun v_ => #[.val (.long p1), .second, .val (.int p2), .val (.long p3), .second, .val (.long p4), .second, .val (.long p5), .second, .val (.int p6), .val (.long v7), .second, .val (.long v17), .second, .val (.long v27), .second, .val (.int (1 : Int32)), .val (.long (0 : Int64)), .second, .val (.int (0 : Int32)), .val (.long v99), .second, .val (.long v105), .second, .val (.long v_), .second, .unset, .unset, .unset, .unset, .unset, .unset, .unset, .unset]) (pc' := 114) at_112 rfl (fun _ => rfl) (fun v112 e112 => ?_)
      refine C.iload (pc' := 116) at_114 rfl rfl ?_
      refine C.iconst (v := 1) (pc' := 117) at_116 rfl rfl ?_
      refine C.iand (pc' := 118) at_117 rfl ?_
      refine C.if_eq (pc' := 121) (pt := 125) at_118 rfl rfl (fun c118 => ?_) (fun c118 => ?_)
      · skip
        refine C.iconst (v := 0) (pc' := 126) at_125 rfl rfl ?_
        refine C.istoreX (l' := #[.val (.long p1), .second, .val (.int p2), .val (.long p3), .second, .val (.long p4), .second, .val (.long p5), .second, .val (.int p6), .val (.long v7), .second, .val (.long v17), .second, .val (.long v27), .second, .val (.int (1 : Int32)), .val (.long (0 : Int64)), .second, .val (.int (0 : Int32)), .val (.long v99), .second, .val (.long v105), .second, .val (.long v112), .second, .val (.int (0 : Int32)), .unset, .unset, .unset, .unset, .unset, .unset, .unset]) (pc' := 128) at_126 rfl rfl ?_
        refine C.iload (pc' := 130) at_128 rfl rfl ?_
        refine C.iconst (v := 1) (pc' := 131) at_130 rfl rfl ?_
        refine C.iushr (s := 1) (pc' := 132) at_131 rfl (by decide) ?_
        refine C.sipush (v := 255) (pc' := 135) at_132 rfl rfl ?_
        refine C.iand (pc' := 136) at_135 rfl ?_
        refine C.i2l (pc' := 137) at_136 rfl ?_
        refine C.lconst (v := 1) (pc' := 138) at_137 rfl rfl ?_
        refine C.ladd (pc' := 139) at_138 rfl ?_
        refine C.lstore (f := fun v_ => #[.val (.long p1), .second, .val (.int p2), .val (.long p3), .second, .val (.long p4), .second, .val (.long p5), .second, .val (.int p6), .val (.long v7), .second, .val (.long v17), .second, .val (.long v27), .second, .val (.int (1 : Int32)), .val (.long (0 : Int64)), .second, .val (.int (0 : Int32)), .val (.long v99), .second, .val (.long v105), .second, .val (.long v112), .second, .val (.int (0 : Int32)), .val (.long v_), .second, .unset, .unset, .unset, .unset, .unset]) (pc' := 141) at_139 rfl (fun _ => rfl) (fun v139 e139 => ?_)
        refine C.iconst (v := 3) (pc' := 142) at_141 rfl rfl ?_
        refine C.newAJ (N := 3) (cap := 3) (ow1 hw) (pc' := 144) at_142 rfl (by decide) (by decide) (by decide) (by decide) (by decide) (fun h142 b142 hb142 X142 A_b142 => ?_)
        have sz_b142 : hO.size ≤ b142 := by rw [hb142]; exact K.1
        have g_b142 : n0 ≤ b142 := Nat.le_trans Z0 sz_b142
        replace K := K.ext X142
        replace A_b142 : AJ Z h142 b142 [(0 : Int64), (0 : Int64), (0 : Int64)] := A_b142
        refine C.astore (l' := #[.val (.long p1), .second, .val (.int p2), .val (.long p3), .second, .val (.long p4), .second, .val (.long p5), .second, .val (.int p6), .val (.long v7), .second, .val (.long v17), .second, .val (.long v27), .second, .val (.int (1 : Int32)), .val (.long (0 : Int64)), .second, .val (.int (0 : Int32)), .val (.long v99), .second, .val (.long v105), .second, .val (.long v112), .second, .val (.int (0 : Int32)), .val (.long v139), .second, .val (.ref b142), .unset, .unset, .unset, .unset]) (pc' := 146) at_144 rfl rfl rfl ?_
        refine C.iconst (v := 3) (pc' := 147) at_146 rfl rfl ?_
        refine C.newAJ (N := 3) (cap := 3) (ow1 hw) (pc' := 149) at_147 rfl (by decide) (by decide) (by decide) (by decide) (by decide) (fun h147 b147 hb147 X147 A_b147 => ?_)
        have ne_b142_b147 : b142 ≠ b147 := by rw [hb147]; exact Nat.ne_of_lt A_b142.lt
        have sz_b147 : hO.size ≤ b147 := by rw [hb147]; exact K.1
        have g_b147 : n0 ≤ b147 := Nat.le_trans Z0 sz_b147
        replace A_b142 := A_b142.ext X147
        replace K := K.ext X147
        replace A_b147 : AJ Z h147 b147 [(0 : Int64), (0 : Int64), (0 : Int64)] := A_b147
        refine C.astore (l' := #[.val (.long p1), .second, .val (.int p2), .val (.long p3), .second, .val (.long p4), .second, .val (.long p5), .second, .val (.int p6), .val (.long v7), .second, .val (.long v17), .second, .val (.long v27), .second, .val (.int (1 : Int32)), .val (.long (0 : Int64)), .second, .val (.int (0 : Int32)), .val (.long v99), .second, .val (.long v105), .second, .val (.long v112), .second, .val (.int (0 : Int32)), .val (.long v139), .second, .val (.ref b142), .val (.ref b147), .unset, .unset, .unset]) (pc' := 151) at_149 rfl rfl rfl ?_
        refine C.new (ow2 hw) (ow3 hw) (ow4 hw) (pc' := 154) at_151 rfl (by decide) (by decide) (fun h151 b151 hb151 X151 E_b151 D151 => ?_)
        have ne_b142_b151 : b142 ≠ b151 := by rw [hb151]; exact Nat.ne_of_lt A_b142.lt
        have ne_b147_b151 : b147 ≠ b151 := by rw [hb151]; exact Nat.ne_of_lt A_b147.lt
        have sz_b151 : hO.size ≤ b151 := by rw [hb151]; exact K.1
        have g_b151 : n0 ≤ b151 := Nat.le_trans Z0 sz_b151
        replace A_b142 := A_b142.ext X151
        replace A_b147 := A_b147.ext X151
        replace K := K.ext X151
        have F_b151_lastNanos : Fld Z h151 b151 "com/example/steady_limiter/steadylimiter/KeyState" "lastNanos" "J" (.long (0 : Int64)) := D151 (Or.inl (ow17 hw)) pf_J
        have F_b151_times : Fld Z h151 b151 "com/example/steady_limiter/steadylimiter/SlidingWindowLog$PermitLog" "times" "[J" .null := D151 (Or.inl (ow19 hw)) pf__J
        have F_b151_permits : Fld Z h151 b151 "com/example/steady_limiter/steadylimiter/SlidingWindowLog$PermitLog" "permits" "[J" .null := D151 (Or.inl (ow21 hw)) pf__J
        have F_b151_size : Fld Z h151 b151 "com/example/steady_limiter/steadylimiter/SlidingWindowLog$PermitLog" "size" "I" (.int (0 : Int32)) := D151 (Or.inl (ow28 hw)) pf_I
        have F_b151_head : Fld Z h151 b151 "com/example/steady_limiter/steadylimiter/SlidingWindowLog$PermitLog" "head" "I" (.int (0 : Int32)) := D151 (Or.inl (ow34 hw)) pf_I
        have F_b151_counted : Fld Z h151 b151 "com/example/steady_limiter/steadylimiter/SlidingWindowLog$PermitLog" "counted" "J" (.long (0 : Int64)) := D151 (Or.inl (ow36 hw)) pf_J
        refine C.dup (pc' := 155) at_154 rfl rfl ?_
        refine C.lloadN (pc' := 156) at_155 rfl rfl ?_
        refine C.callc (w := 1) (own_rm1 l Z a0 hw n0 h151 b151 p1 (Nat.le_trans Z0 K.1) E_b151 F_b151_lastNanos F_b151_times F_b151_permits F_b151_head F_b151_size F_b151_counted g_b151) rfl (ow5 hw) (ow6 hw) (ow4 hw) (ow7 hw) (pc' := 159) at_156 rfl rfl rfl (by decide) pd__J_V rfl (by decide) (Nat.le_of_eq rfl) (by decide) (by decide) (by decide) (kV fun h156 q156 => ?_)
        obtain ⟨ta156, pa156, K156, z156_ta156, z156_pa156, ne_ta156_pa156, N156_0, N156_1, N156_2, N156_3, N156_4, N156_5, N156_6⟩ := q156
        have ne_b142_ta156 : b142 ≠ ta156 := Nat.ne_of_lt (Nat.lt_of_lt_of_le A_b142.lt z156_ta156)
        have ne_b147_ta156 : b147 ≠ ta156 := Nat.ne_of_lt (Nat.lt_of_lt_of_le A_b147.lt z156_ta156)
        have ne_b151_ta156 : b151 ≠ ta156 := Nat.ne_of_lt (Nat.lt_of_lt_of_le (exaLt E_b151) z156_ta156)
        have sz_ta156 : hO.size ≤ ta156 := Nat.le_trans K.1 z156_ta156
        have g_ta156 : n0 ≤ ta156 := Nat.le_trans Z0 sz_ta156
        have ne_b142_pa156 : b142 ≠ pa156 := Nat.ne_of_lt (Nat.lt_of_lt_of_le A_b142.lt z156_pa156)
        have ne_b147_pa156 : b147 ≠ pa156 := Nat.ne_of_lt (Nat.lt_of_lt_of_le A_b147.lt z156_pa156)
        have ne_b151_pa156 : b151 ≠ pa156 := Nat.ne_of_lt (Nat.lt_of_lt_of_le (exaLt E_b151) z156_pa156)
        have sz_pa156 : hO.size ≤ pa156 := Nat.le_trans K.1 z156_pa156
        have g_pa156 : n0 ≤ pa156 := Nat.le_trans Z0 sz_pa156
        replace A_b142 := A_b142.keep K156 (ninS ne_b142_b151 nin0)
        replace A_b147 := A_b147.keep K156 (ninS ne_b147_b151 nin0)
        replace E_b151 := E_b151.keep K156
        have F_b151_times : Fld Z h156 b151 "com/example/steady_limiter/steadylimiter/SlidingWindowLog$PermitLog" "times" "[J" (.ref ta156) := N156_0
        have F_b151_permits : Fld Z h156 b151 "com/example/steady_limiter/steadylimiter/SlidingWindowLog$PermitLog" "permits" "[J" (.ref pa156) := N156_1
        have F_b151_head : Fld Z h156 b151 "com/example/steady_limiter/steadylimiter/SlidingWindowLog$PermitLog" "head" "I" (.int (0 : Int32)) := N156_2
        have F_b151_size : Fld Z h156 b151 "com/example/steady_limiter/steadylimiter/SlidingWindowLog$PermitLog" "size" "I" (.int (0 : Int32)) := N156_3
        have F_b151_counted : Fld Z h156 b151 "com/example/steady_limiter/steadylimiter/SlidingWindowLog$PermitLog" "counted" "J" (.long (0 : Int64)) := N156_4
        have A_ta156 : AJ Z h156 ta156 [(0 : Int64), (0 : Int64)] := N156_5
        have A_pa156 : AJ Z h156 pa156 [(0 : Int64), (0 : Int64)] := N156_6
        replace K := K.trans K156 (allS (Or.inr sz_b151) all0)
        refine C.astore (l' := #[.val (.long p1), .second, .val (.int p2), .val (.long p3), .second, .val (.long p4), .second, .val (.long p5), .second, .val (.int p6), .val (.long v7), .second, .val (.long v17), .second, .val (.long v27), .second, .val (.int (1 : Int32)), .val (.long (0 : Int64)), .second, .val (.int (0 : Int32)), .val (.long v99), .second, .val (.long v105), .second, .val (.long v112), .second, .val (.int (0 : Int32)), .val (.long v139), .second, .val (.ref b142), .val (.ref b147), .val (.ref b151), .unset, .unset]) (pc' := 161) at_159 rfl rfl rfl ?_
        refine C.iload (pc' := 163) at_161 rfl rfl ?_
        refine C.if_eq (pc' := 166) (pt := 181) at_163 rfl rfl (fun c163 => ?_) (fun c163 => absurd (by decide) c163)
        refine C.aload (pc' := 183) at_181 rfl rfl rfl ?_
        refine C.lloadN (pc' := 184) at_183 rfl rfl ?_
        refine C.lload (pc' := 186) at_184 rfl rfl ?_
        refine C.callv (w := 0) (own_addB0 l Z a0 hw n0 h156 b151 p1 v7 ta156 pa156 (0 : Int32) (0 : Int32) (0 : Int64) [(0 : Int64), (0 : Int64)] [(0 : Int64), (0 : Int64)] (2 : Int32) 0 (Nat.le_trans Z0 K.1) E_b151 F_b151_times F_b151_permits F_b151_head F_b151_size F_b151_counted A_ta156 A_pa156 g_b151 g_ta156 g_pa156 ne_b151_ta156 ne_b151_pa156 ne_ta156_pa156 (show (2 : Int32).toInt = ((2 : Nat) : Int) from by decide) (by decide) (by decide) (show 0 < 2 from by decide) (show 0 < 2 from by decide) (by decide)) E_b151 (ow22 hw) (ow23 hw) (ow25 hw) (ow24 hw) (ow4 hw) (ow26 hw) (pc' := 189) at_186 rfl rfl rfl (by decide) pd__JJ_V rfl (by decide) (Nat.le_of_eq rfl) (by decide) (by decide) (by decide) (kV fun h186 q186 => ?_)
        obtain ⟨K186, N186_0, N186_1, N186_2, N186_3, N186_4, N186_5, N186_6⟩ := q186
        replace A_b142 := A_b142.keep K186 (ninS ne_b142_b151 (ninS ne_b142_ta156 (ninS ne_b142_pa156 nin0)))
        replace A_b147 := A_b147.keep K186 (ninS ne_b147_b151 (ninS ne_b147_ta156 (ninS ne_b147_pa156 nin0)))
        replace E_b151 := E_b151.keep K186
        have F_b151_times : Fld Z h186 b151 "com/example/steady_limiter/steadylimiter/SlidingWindowLog$PermitLog" "times" "[J" (.ref ta156) := N186_0
        have F_b151_permits : Fld Z h186 b151 "com/example/steady_limiter/steadylimiter/SlidingWindowLog$PermitLog" "permits" "[J" (.ref pa156) := N186_1
        have F_b151_head : Fld Z h186 b151 "com/example/steady_limiter/steadylimiter/SlidingWindowLog$PermitLog" "head" "I" (.int (0 : Int32)) := N186_2
        have F_b151_size : Fld Z h186 b151 "com/example/steady_limiter/steadylimiter/SlidingWindowLog$PermitLog" "size" "I" (.int ((0 : Int32) + (1 : Int32))) := N186_3
        have F_b151_counted : Fld Z h186 b151 "com/example/steady_limiter/steadylimiter/SlidingWindowLog$PermitLog" "counted" "J" (.long ((0 : Int64) + v7)) := N186_4
        have A_ta156 : AJ Z h186 ta156 [p1, (0 : Int64)] := N186_5
        have A_pa156 : AJ Z h186 pa156 [v7, (0 : Int64)] := N186_6
        replace K := K.trans K186 (allS (Or.inr sz_b151) (allS (Or.inr sz_ta156) (allS (Or.inr sz_pa156) all0)))
        refine C.aload (pc' := 191) at_189 rfl rfl rfl ?_
        refine C.lload (pc' := 193) at_191 rfl rfl ?_
        refine C.lload (pc' := 195) at_193 rfl rfl ?_
        refine C.callv (w := 0) (own_addA l Z a0 hw n0 h186 b151 v105 v17 ta156 pa156 (0 : Int32) ((0 : Int32) + (1 : Int32)) ((0 : Int64) + v7) [p1, (0 : Int64)] [v7, (0 : Int64)] (2 : Int32) 0 (Nat.le_trans Z0 K.1) E_b151 F_b151_times F_b151_permits F_b151_head F_b151_size F_b151_counted A_ta156 A_pa156 g_b151 g_ta156 g_pa156 ne_b151_ta156 ne_b151_pa156 ne_ta156_pa156 (show (2 : Int32).toInt = ((2 : Nat) : Int) from by decide) (by decide) (by decide) (show 0 < 2 from by decide) (show 0 < 2 from by decide) (own_eq e105)) E_b151 (ow22 hw) (ow23 hw) (ow25 hw) (ow24 hw) (ow4 hw) (ow26 hw) (pc' := 198) at_195 rfl rfl rfl (by decide) pd__JJ_V rfl (by decide) (Nat.le_of_eq rfl) (by decide) (by decide) (by decide) (kV fun h195 q195 => ?_)
        obtain ⟨K195, N195_0, N195_1, N195_2, N195_3, N195_4, N195_5⟩ := q195
        replace A_b142 := A_b142.keep K195 (ninS ne_b142_b151 (ninS ne_b142_pa156 nin0))
        replace A_b147 := A_b147.keep K195 (ninS ne_b147_b151 (ninS ne_b147_pa156 nin0))
        replace E_b151 := E_b151.keep K195
        replace A_ta156 := A_ta156.keep K195 (ninS (Ne.symm ne_b151_ta156) (ninS ne_ta156_pa156 nin0))
        have F_b151_times : Fld Z h195 b151 "com/example/steady_limiter/steadylimiter/SlidingWindowLog$PermitLog" "times" "[J" (.ref ta156) := N195_0
        have F_b151_permits : Fld Z h195 b151 "com/example/steady_limiter/steadylimiter/SlidingWindowLog$PermitLog" "permits" "[J" (.ref pa156) := N195_1
        have F_b151_head : Fld Z h195 b151 "com/example/steady_limiter/steadylimiter/SlidingWindowLog$PermitLog" "head" "I" (.int (0 : Int32)) := N195_2
        have F_b151_size : Fld Z h195 b151 "com/example/steady_limiter/steadylimiter/SlidingWindowLog$PermitLog" "size" "I" (.int ((0 : Int32) + (1 : Int32))) := N195_3
        have F_b151_counted : Fld Z h195 b151 "com/example/steady_limiter/steadylimiter/SlidingWindowLog$PermitLog" "counted" "J" (.long (((0 : Int64) + v7) + v17)) := N195_4
        have A_pa156 : AJ Z h195 pa156 [(v7 + v17), (0 : Int64)] := N195_5
        replace K := K.trans K195 (allS (Or.inr sz_b151) (allS (Or.inr sz_pa156) all0))
        refine C.aload (pc' := 200) at_198 rfl rfl rfl ?_
        refine C.lload (pc' := 202) at_200 rfl rfl ?_
        refine C.lload (pc' := 204) at_202 rfl rfl ?_
        refine C.callv (w := 0) (own_addB1 l Z a0 hw n0 h195 b151 v112 v27 ta156 pa156 (0 : Int32) ((0 : Int32) + (1 : Int32)) (((0 : Int64) + v7) + v17) [p1, (0 : Int64)] [(v7 + v17), (0 : Int64)] (2 : Int32) 0 1 (Nat.le_trans Z0 K.1) E_b151 F_b151_times F_b151_permits F_b151_head F_b151_size F_b151_counted A_ta156 A_pa156 g_b151 g_ta156 g_pa156 ne_b151_ta156 ne_b151_pa156 ne_ta156_pa156 (show (2 : Int32).toInt = ((2 : Nat) : Int) from by decide) (by decide) (by decide) (show 0 < 2 from by decide) (show 0 < 2 from by decide) (own_ne e99 (own_sub e105 e112)) (by decide) (show 1 < 2 from by decide) (show 1 < 2 from by decide) (by decide)) E_b151 (ow22 hw) (ow23 hw) (ow25 hw) (ow24 hw) (ow4 hw) (ow26 hw) (pc' := 207) at_204 rfl rfl rfl (by decide) pd__JJ_V rfl (by decide) (Nat.le_of_eq rfl) (by decide) (by decide) (by decide) (kV fun h204 q204 => ?_)
        obtain ⟨K204, N204_0, N204_1, N204_2, N204_3, N204_4, N204_5, N204_6⟩ := q204
        replace A_b142 := A_b142.keep K204 (ninS ne_b142_b151 (ninS ne_b142_ta156 (ninS ne_b142_pa156 nin0)))
        replace A_b147 := A_b147.keep K204 (ninS ne_b147_b151 (ninS ne_b147_ta156 (ninS ne_b147_pa156 nin0)))
        replace E_b151 := E_b151.keep K204
        have F_b151_times : Fld Z h204 b151 "com/example/steady_limiter/steadylimiter/SlidingWindowLog$PermitLog" "times" "[J" (.ref ta156) := N204_0
        have F_b151_permits : Fld Z h204 b151 "com/example/steady_limiter/steadylimiter/SlidingWindowLog$PermitLog" "permits" "[J" (.ref pa156) := N204_1
        have F_b151_head : Fld Z h204 b151 "com/example/steady_limiter/steadylimiter/SlidingWindowLog$PermitLog" "head" "I" (.int (0 : Int32)) := N204_2
        have F_b151_size : Fld Z h204 b151 "com/example/steady_limiter/steadylimiter/SlidingWindowLog$PermitLog" "size" "I" (.int (((0 : Int32) + (1 : Int32)) + (1 : Int32))) := N204_3
        have F_b151_counted : Fld Z h204 b151 "com/example/steady_limiter/steadylimiter/SlidingWindowLog$PermitLog" "counted" "J" (.long ((((0 : Int64) + v7) + v17) + v27)) := N204_4
        have A_ta156 : AJ Z h204 ta156 [p1, v112] := N204_5
        have A_pa156 : AJ Z h204 pa156 [(v7 + v17), v27] := N204_6
        replace K := K.trans K204 (allS (Or.inr sz_b151) (allS (Or.inr sz_ta156) (allS (Or.inr sz_pa156) all0)))
        refine C.aload (pc' := 209) at_207 rfl rfl rfl ?_
        refine C.iconst (v := 0) (pc' := 210) at_209 rfl rfl ?_
        refine C.lloadN (pc' := 211) at_210 rfl rfl ?_
        refine C.stAJ (i := 0) A_b142 (by decide) (by show 0 < 3; decide) g_b142 (pc' := 212) at_211 rfl (fun h211 X211 B211 => ?_)
        replace A_b147 := A_b147.other X211 (Ne.symm ne_b142_b147)
        replace E_b151 := E_b151.wr X211
        replace F_b151_times := F_b151_times.other X211 (Or.inl (Ne.symm ne_b142_b151))
        replace F_b151_permits := F_b151_permits.other X211 (Or.inl (Ne.symm ne_b142_b151))
        replace F_b151_head := F_b151_head.other X211 (Or.inl (Ne.symm ne_b142_b151))
        replace F_b151_size := F_b151_size.other X211 (Or.inl (Ne.symm ne_b142_b151))
        replace F_b151_counted := F_b151_counted.other X211 (Or.inl (Ne.symm ne_b142_b151))
        replace A_ta156 := A_ta156.other X211 (Ne.symm ne_b142_ta156)
        replace A_pa156 := A_pa156.other X211 (Ne.symm ne_b142_pa156)
        have A_b142 : AJ Z h211 b142 [p1, (0 : Int64), (0 : Int64)] := B211
        replace K := K.wr X211 (Or.inr sz_b142)
        refine C.aload (pc' := 214) at_212 rfl rfl rfl ?_
        refine C.iconst (v := 0) (pc' := 215) at_214 rfl rfl ?_
        refine C.lload (pc' := 217) at_215 rfl rfl ?_
        refine C.stAJ (i := 0) A_b147 (by decide) (by show 0 < 3; decide) g_b147 (pc' := 218) at_217 rfl (fun h217 X217 B217 => ?_)
        replace E_b151 := E_b151.wr X217
        replace F_b151_times := F_b151_times.other X217 (Or.inl (Ne.symm ne_b147_b151))
        replace F_b151_permits := F_b151_permits.other X217 (Or.inl (Ne.symm ne_b147_b151))
        replace F_b151_head := F_b151_head.other X217 (Or.inl (Ne.symm ne_b147_b151))
        replace F_b151_size := F_b151_size.other X217 (Or.inl (Ne.symm ne_b147_b151))
        replace F_b151_counted := F_b151_counted.other X217 (Or.inl (Ne.symm ne_b147_b151))
        replace A_ta156 := A_ta156.other X217 (Ne.symm ne_b147_ta156)
        replace A_pa156 := A_pa156.other X217 (Ne.symm ne_b147_pa156)
        replace A_b142 := A_b142.other X217 ne_b142_b147
        have A_b147 : AJ Z h217 b147 [v7, (0 : Int64), (0 : Int64)] := B217
        replace K := K.wr X217 (Or.inr sz_b147)
        refine C.iconst (v := 1) (pc' := 219) at_218 rfl rfl ?_
        refine C.istoreX (l' := #[.val (.long p1), .second, .val (.int p2), .val (.long p3), .second, .val (.long p4), .second, .val (.long p5), .second, .val (.int p6), .val (.long v7), .second, .val (.long v17), .second, .val (.long v27), .second, .val (.int (1 : Int32)), .val (.long (0 : Int64)), .second, .val (.int (0 : Int32)), .val (.long v99), .second, .val (.long v105), .second, .val (.long v112), .second, .val (.int (0 : Int32)), .val (.long v139), .second, .val (.ref b142), .val (.ref b147), .val (.ref b151), .val (.int (1 : Int32)), .unset]) (pc' := 221) at_219 rfl rfl ?_
        refine C.aload (pc' := 223) at_221 rfl rfl rfl ?_
        refine C.aload (pc' := 225) at_223 rfl rfl rfl ?_
        refine C.iload (pc' := 227) at_225 rfl rfl ?_
        refine C.iload (pc' := 229) at_227 rfl rfl ?_
        refine C.lload (pc' := 231) at_229 rfl rfl ?_
        refine C.lload (pc' := 233) at_231 rfl rfl ?_
        refine C.calls (w := 0) (own_step1 l Z a0 hw n0 h217 b142 b147 (1 : Int32) (1 : Int32) v105 v17 [p1, (0 : Int64), (0 : Int64)] [v7, (0 : Int64), (0 : Int64)] 0 (Nat.le_trans Z0 K.1) A_b142 A_b147 g_b142 g_b147 ne_b142_b147 (by decide) (by decide) (show 0 < 3 from by decide)) (ow42 hw) (ow43 hw) (ow44 hw) (ow45 hw) (pc' := 236) at_233 rfl rfl rfl (by decide) pd___J_JIZJJ_I rfl (by decide) (Nat.le_of_eq rfl) (by decide) (by decide) (by decide) (kI fun r233 h233 q233 => ?_)
        obtain ⟨rfl, K233, N233_0⟩ := q233
        replace E_b151 := E_b151.keep K233
        replace F_b151_times := F_b151_times.keep K233 (ninS (Ne.symm ne_b147_b151) nin0)
        replace F_b151_permits := F_b151_permits.keep K233 (ninS (Ne.symm ne_b147_b151) nin0)
        replace F_b151_head := F_b151_head.keep K233 (ninS (Ne.symm ne_b147_b151) nin0)
        replace F_b151_size := F_b151_size.keep K233 (ninS (Ne.symm ne_b147_b151) nin0)
        replace F_b151_counted := F_b151_counted.keep K233 (ninS (Ne.symm ne_b147_b151) nin0)
        replace A_ta156 := A_ta156.keep K233 (ninS (Ne.symm ne_b147_ta156) nin0)
        replace A_pa156 := A_pa156.keep K233 (ninS (Ne.symm ne_b147_pa156) nin0)
        replace A_b142 := A_b142.keep K233 (ninS ne_b142_b147 nin0)
        have A_b147 : AJ Z h233 b147 [(v7 + v17), (0 : Int64), (0 : Int64)] := N233_0
        replace K := K.trans K233 (allS (Or.inr sz_b147) all0)
        refine C.istoreX (l' := #[.val (.long p1), .second, .val (.int p2), .val (.long p3), .second, .val (.long p4), .second, .val (.long p5), .second, .val (.int p6), .val (.long v7), .second, .val (.long v17), .second, .val (.long v27), .second, .val (.int (1 : Int32)), .val (.long (0 : Int64)), .second, .val (.int (0 : Int32)), .val (.long v99), .second, .val (.long v105), .second, .val (.long v112), .second, .val (.int (0 : Int32)), .val (.long v139), .second, .val (.ref b142), .val (.ref b147), .val (.ref b151), .val (.int (1 : Int32)), .unset]) (pc' := 238) at_236 rfl rfl ?_
        refine C.aload (pc' := 240) at_238 rfl rfl rfl ?_
        refine C.aload (pc' := 242) at_240 rfl rfl rfl ?_
        refine C.iload (pc' := 244) at_242 rfl rfl ?_
        refine C.iload (pc' := 246) at_244 rfl rfl ?_
        refine C.lload (pc' := 248) at_246 rfl rfl ?_
        refine C.lload (pc' := 250) at_248 rfl rfl ?_
        refine C.calls (w := 0) (own_step0 l Z a0 hw n0 h233 b142 b147 (1 : Int32) (0 : Int32) v112 v27 [p1, (0 : Int64), (0 : Int64)] [(v7 + v17), (0 : Int64), (0 : Int64)] 1 (Nat.le_trans Z0 K.1) A_b142 A_b147 g_b142 g_b147 ne_b142_b147 rfl (by decide) (show 1 < 3 from by decide) (show 1 < 3 from by decide)) (ow42 hw) (ow43 hw) (ow44 hw) (ow45 hw) (pc' := 253) at_250 rfl rfl rfl (by decide) pd___J_JIZJJ_I rfl (by decide) (Nat.le_of_eq rfl) (by decide) (by decide) (by decide) (kI fun r250 h250 q250 => ?_)
        obtain ⟨rfl, K250, N250_0, N250_1⟩ := q250
        replace E_b151 := E_b151.keep K250
        replace F_b151_times := F_b151_times.keep K250 (ninS (Ne.symm ne_b142_b151) (ninS (Ne.symm ne_b147_b151) nin0))
        replace F_b151_permits := F_b151_permits.keep K250 (ninS (Ne.symm ne_b142_b151) (ninS (Ne.symm ne_b147_b151) nin0))
        replace F_b151_head := F_b151_head.keep K250 (ninS (Ne.symm ne_b142_b151) (ninS (Ne.symm ne_b147_b151) nin0))
        replace F_b151_size := F_b151_size.keep K250 (ninS (Ne.symm ne_b142_b151) (ninS (Ne.symm ne_b147_b151) nin0))
        replace F_b151_counted := F_b151_counted.keep K250 (ninS (Ne.symm ne_b142_b151) (ninS (Ne.symm ne_b147_b151) nin0))
        replace A_ta156 := A_ta156.keep K250 (ninS (Ne.symm ne_b142_ta156) (ninS (Ne.symm ne_b147_ta156) nin0))
        replace A_pa156 := A_pa156.keep K250 (ninS (Ne.symm ne_b142_pa156) (ninS (Ne.symm ne_b147_pa156) nin0))
        have A_b142 : AJ Z h250 b142 [p1, v112, (0 : Int64)] := N250_0
        have A_b147 : AJ Z h250 b147 [(v7 + v17), v27, (0 : Int64)] := N250_1
        replace K := K.trans K250 (allS (Or.inr sz_b142) (allS (Or.inr sz_b147) all0))
        refine C.istoreX (l' := #[.val (.long p1), .second, .val (.int p2), .val (.long p3), .second, .val (.long p4), .second, .val (.long p5), .second, .val (.int p6), .val (.long v7), .second, .val (.long v17), .second, .val (.long v27), .second, .val (.int (1 : Int32)), .val (.long (0 : Int64)), .second, .val (.int (0 : Int32)), .val (.long v99), .second, .val (.long v105), .second, .val (.long v112), .second, .val (.int (0 : Int32)), .val (.long v139), .second, .val (.ref b142), .val (.ref b147), .val (.ref b151), .val (.int ((1 : Int32) + (1 : Int32))), .unset]) (pc' := 255) at_253 rfl rfl ?_
        refine C.aload (pc' := 257) at_255 rfl rfl rfl ?_
        refine C.getf (ow46 hw) Via.refl F_b151_size (pc' := 260) at_257 rfl ?_
        refine C.iload (pc' := 262) at_260 rfl rfl ?_
        refine C.icmp_ne (pc' := 265) (pt := 286) at_262 rfl rfl (fun c262 => absurd (by decide) c262) (fun c262 => ?_)
        refine C.aload (pc' := 267) at_265 rfl rfl rfl ?_
        refine C.getf (ow47 hw) Via.refl F_b151_counted (pc' := 270) at_267 rfl ?_
        refine C.lload (pc' := 272) at_270 rfl rfl ?_
        refine C.lload (pc' := 274) at_272 rfl rfl ?_
        refine C.ladd (pc' := 275) at_274 rfl ?_
        refine C.lload (pc' := 277) at_275 rfl rfl ?_
        refine C.ladd (pc' := 278) at_277 rfl ?_
        refine C.lif_ne (pc' := 282) (pt := 286) at_278 rfl at_279 rfl rfl (fun c278 => absurd own_auto339 c278) (fun c278 => ?_)
        refine C.iconst (v := 1) (pc' := 283) at_282 rfl rfl ?_
        refine C.goto (pc' := 287) at_283 rfl ?_
        refine C.istoreX (l' := #[.val (.long p1), .second, .val (.int p2), .val (.long p3), .second, .val (.long p4), .second, .val (.long p5), .second, .val (.int p6), .val (.long v7), .second, .val (.long v17), .second, .val (.long v27), .second, .val (.int (1 : Int32)), .val (.long (0 : Int64)), .second, .val (.int (0 : Int32)), .val (.long v99), .second, .val (.long v105), .second, .val (.long v112), .second, .val (.int (0 : Int32)), .val (.long v139), .second, .val (.ref b142), .val (.ref b147), .val (.ref b151), .val (.int ((1 : Int32) + (1 : Int32))), .val (.int (1 : Int32))]) (pc' := 289) at_287 rfl rfl ?_
        refine C.iload (pc' := 291) at_289 rfl rfl ?_
        refine C.if_eq (pc' := 294) (pt := 326) at_291 rfl rfl (fun c291 => absurd c291 (by decide)) (fun c291 => ?_)
        refine C.aload (pc' := 296) at_294 rfl rfl rfl ?_
        refine C.iconst (v := 0) (pc' := 297) at_296 rfl rfl ?_
        refine C.callv (w := 0) (own_rm6 l Z a0 hw n0 h250 b151 (0 : Int32) ta156 (0 : Int32) [p1, v112] (2 : Int32) 0 E_b151 F_b151_head F_b151_times A_ta156 (show (2 : Int32).toInt = ((2 : Nat) : Int) from by decide) (by decide) (show 0 < 2 from by decide)) E_b151 (ow48 hw) (ow38 hw) (ow40 hw) (ow39 hw) (ow4 hw) (ow41 hw) (pc' := 300) at_297 rfl rfl rfl (by decide) pd__I_J rfl (by decide) (Nat.le_of_eq rfl) (by decide) (by decide) (by decide) (kJe ?_)
        refine C.aload (pc' := 302) at_300 rfl rfl rfl ?_
        refine C.iconst (v := 0) (pc' := 303) at_302 rfl rfl ?_
        refine C.ldAJ (i := 0) (v := p1) A_b142 (by decide) rfl (pc' := 304) at_303 rfl ?_
        refine C.lif_ne (pc' := 308) (pt := 326) at_304 rfl at_305 rfl rfl (fun c304 => absurd rfl c304) (fun c304 => ?_)
        refine C.aload (pc' := 310) at_308 rfl rfl rfl ?_
        refine C.iconst (v := 0) (pc' := 311) at_310 rfl rfl ?_
        refine C.callv (w := 0) (own_rm8 l Z a0 hw n0 h250 b151 (0 : Int32) ta156 pa156 (0 : Int32) [p1, v112] [(v7 + v17), v27] (2 : Int32) 0 E_b151 F_b151_head F_b151_times F_b151_permits A_ta156 A_pa156 (show (2 : Int32).toInt = ((2 : Nat) : Int) from by decide) (by decide) (show 0 < 2 from by decide)) E_b151 (ow49 hw) (ow50 hw) (ow52 hw) (ow51 hw) (ow4 hw) (ow53 hw) (pc' := 314) at_311 rfl rfl rfl (by decide) pd__I_J rfl (by decide) (Nat.le_of_eq rfl) (by decide) (by decide) (by decide) (kJe ?_)
        refine C.aload (pc' := 316) at_314 rfl rfl rfl ?_
        refine C.iconst (v := 0) (pc' := 317) at_316 rfl rfl ?_
        refine C.ldAJ (i := 0) (v := (v7 + v17)) A_b147 (by decide) rfl (pc' := 318) at_317 rfl ?_
        refine C.lif_ne (pc' := 322) (pt := 326) at_318 rfl at_319 rfl rfl (fun c318 => absurd rfl c318) (fun c318 => ?_)
        refine C.iconst (v := 1) (pc' := 323) at_322 rfl rfl ?_
        refine C.goto (pc' := 327) at_323 rfl ?_
        refine C.istoreX (l' := #[.val (.long p1), .second, .val (.int p2), .val (.long p3), .second, .val (.long p4), .second, .val (.long p5), .second, .val (.int p6), .val (.long v7), .second, .val (.long v17), .second, .val (.long v27), .second, .val (.int (1 : Int32)), .val (.long (0 : Int64)), .second, .val (.int (0 : Int32)), .val (.long v99), .second, .val (.long v105), .second, .val (.long v112), .second, .val (.int (0 : Int32)), .val (.long v139), .second, .val (.ref b142), .val (.ref b147), .val (.ref b151), .val (.int ((1 : Int32) + (1 : Int32))), .val (.int (1 : Int32))]) (pc' := 329) at_327 rfl rfl ?_
        refine C.iload (pc' := 331) at_329 rfl rfl ?_
        refine C.iconst (v := 1) (pc' := 332) at_331 rfl rfl ?_
        refine C.icmp_le (pc' := 335) (pt := 375) at_332 rfl rfl (fun c332 => absurd (by decide) c332) (fun c332 => ?_)
        refine C.iload (pc' := 337) at_335 rfl rfl ?_
        refine C.if_eq (pc' := 340) (pt := 372) at_337 rfl rfl (fun c337 => absurd c337 (by decide)) (fun c337 => ?_)
        refine C.aload (pc' := 342) at_340 rfl rfl rfl ?_
        refine C.iconst (v := 1) (pc' := 343) at_342 rfl rfl ?_
        refine C.callv (w := 0) (own_rm6 l Z a0 hw n0 h250 b151 (1 : Int32) ta156 (0 : Int32) [p1, v112] (2 : Int32) 1 E_b151 F_b151_head F_b151_times A_ta156 (show (2 : Int32).toInt = ((2 : Nat) : Int) from by decide) (by decide) (show 1 < 2 from by decide)) E_b151 (ow48 hw) (ow38 hw) (ow40 hw) (ow39 hw) (ow4 hw) (ow41 hw) (pc' := 346) at_343 rfl rfl rfl (by decide) pd__I_J rfl (by decide) (Nat.le_of_eq rfl) (by decide) (by decide) (by decide) (kJe ?_)
        refine C.aload (pc' := 348) at_346 rfl rfl rfl ?_
        refine C.iconst (v := 1) (pc' := 349) at_348 rfl rfl ?_
        refine C.ldAJ (i := 1) (v := v112) A_b142 (by decide) rfl (pc' := 350) at_349 rfl ?_
        refine C.lif_ne (pc' := 354) (pt := 372) at_350 rfl at_351 rfl rfl (fun c350 => absurd rfl c350) (fun c350 => ?_)
        refine C.aload (pc' := 356) at_354 rfl rfl rfl ?_
        refine C.iconst (v := 1) (pc' := 357) at_356 rfl rfl ?_
        refine C.callv (w := 0) (own_rm8 l Z a0 hw n0 h250 b151 (1 : Int32) ta156 pa156 (0 : Int32) [p1, v112] [(v7 + v17), v27] (2 : Int32) 1 E_b151 F_b151_head F_b151_times F_b151_permits A_ta156 A_pa156 (show (2 : Int32).toInt = ((2 : Nat) : Int) from by decide) (by decide) (show 1 < 2 from by decide)) E_b151 (ow49 hw) (ow50 hw) (ow52 hw) (ow51 hw) (ow4 hw) (ow53 hw) (pc' := 360) at_357 rfl rfl rfl (by decide) pd__I_J rfl (by decide) (Nat.le_of_eq rfl) (by decide) (by decide) (by decide) (kJe ?_)
        refine C.aload (pc' := 362) at_360 rfl rfl rfl ?_
        refine C.iconst (v := 1) (pc' := 363) at_362 rfl rfl ?_
        refine C.ldAJ (i := 1) (v := v27) A_b147 (by decide) rfl (pc' := 364) at_363 rfl ?_
        refine C.lif_ne (pc' := 368) (pt := 372) at_364 rfl at_365 rfl rfl (fun c364 => absurd rfl c364) (fun c364 => ?_)
        refine C.iconst (v := 1) (pc' := 369) at_368 rfl rfl ?_
        refine C.goto (pc' := 373) at_369 rfl ?_
        refine C.istoreX (l' := #[.val (.long p1), .second, .val (.int p2), .val (.long p3), .second, .val (.long p4), .second, .val (.long p5), .second, .val (.int p6), .val (.long v7), .second, .val (.long v17), .second, .val (.long v27), .second, .val (.int (1 : Int32)), .val (.long (0 : Int64)), .second, .val (.int (0 : Int32)), .val (.long v99), .second, .val (.long v105), .second, .val (.long v112), .second, .val (.int (0 : Int32)), .val (.long v139), .second, .val (.ref b142), .val (.ref b147), .val (.ref b151), .val (.int ((1 : Int32) + (1 : Int32))), .val (.int (1 : Int32))]) (pc' := 375) at_373 rfl rfl ?_
        refine C.iload (pc' := 377) at_375 rfl rfl ?_
        refine C.iconst (v := 2) (pc' := 378) at_377 rfl rfl ?_
        refine C.icmp_le (pc' := 381) (pt := 421) at_378 rfl rfl (fun c378 => ?_) (fun c378 => absurd c378 (by decide))
        refine C.iload (pc' := 423) at_421 rfl rfl ?_
        refine C.retZ (show ret = some .boolean from rfl) (by decide) at_423 (by decide) (by decide) ⟨_, rfl, rfl⟩
      · skip
        refine C.iconst (v := 1) (pc' := 122) at_121 rfl rfl ?_
        refine C.goto (pc' := 126) at_122 rfl ?_
        refine C.istoreX (l' := #[.val (.long p1), .second, .val (.int p2), .val (.long p3), .second, .val (.long p4), .second, .val (.long p5), .second, .val (.int p6), .val (.long v7), .second, .val (.long v17), .second, .val (.long v27), .second, .val (.int (1 : Int32)), .val (.long (0 : Int64)), .second, .val (.int (0 : Int32)), .val (.long v99), .second, .val (.long v105), .second, .val (.long v112), .second, .val (.int (1 : Int32)), .unset, .unset, .unset, .unset, .unset, .unset, .unset]) (pc' := 128) at_126 rfl rfl ?_
        refine C.iload (pc' := 130) at_128 rfl rfl ?_
        refine C.iconst (v := 1) (pc' := 131) at_130 rfl rfl ?_
        refine C.iushr (s := 1) (pc' := 132) at_131 rfl (by decide) ?_
        refine C.sipush (v := 255) (pc' := 135) at_132 rfl rfl ?_
        refine C.iand (pc' := 136) at_135 rfl ?_
        refine C.i2l (pc' := 137) at_136 rfl ?_
        refine C.lconst (v := 1) (pc' := 138) at_137 rfl rfl ?_
        refine C.ladd (pc' := 139) at_138 rfl ?_
        refine C.lstore (f := fun v_ => #[.val (.long p1), .second, .val (.int p2), .val (.long p3), .second, .val (.long p4), .second, .val (.long p5), .second, .val (.int p6), .val (.long v7), .second, .val (.long v17), .second, .val (.long v27), .second, .val (.int (1 : Int32)), .val (.long (0 : Int64)), .second, .val (.int (0 : Int32)), .val (.long v99), .second, .val (.long v105), .second, .val (.long v112), .second, .val (.int (1 : Int32)), .val (.long v_), .second, .unset, .unset, .unset, .unset, .unset]) (pc' := 141) at_139 rfl (fun _ => rfl) (fun v139 e139 => ?_)
        refine C.iconst (v := 3) (pc' := 142) at_141 rfl rfl ?_
        refine C.newAJ (N := 3) (cap := 3) (ow1 hw) (pc' := 144) at_142 rfl (by decide) (by decide) (by decide) (by decide) (by decide) (fun h142 b142 hb142 X142 A_b142 => ?_)
        have sz_b142 : hO.size ≤ b142 := by rw [hb142]; exact K.1
        have g_b142 : n0 ≤ b142 := Nat.le_trans Z0 sz_b142
        replace K := K.ext X142
        replace A_b142 : AJ Z h142 b142 [(0 : Int64), (0 : Int64), (0 : Int64)] := A_b142
        refine C.astore (l' := #[.val (.long p1), .second, .val (.int p2), .val (.long p3), .second, .val (.long p4), .second, .val (.long p5), .second, .val (.int p6), .val (.long v7), .second, .val (.long v17), .second, .val (.long v27), .second, .val (.int (1 : Int32)), .val (.long (0 : Int64)), .second, .val (.int (0 : Int32)), .val (.long v99), .second, .val (.long v105), .second, .val (.long v112), .second, .val (.int (1 : Int32)), .val (.long v139), .second, .val (.ref b142), .unset, .unset, .unset, .unset]) (pc' := 146) at_144 rfl rfl rfl ?_
        refine C.iconst (v := 3) (pc' := 147) at_146 rfl rfl ?_
        refine C.newAJ (N := 3) (cap := 3) (ow1 hw) (pc' := 149) at_147 rfl (by decide) (by decide) (by decide) (by decide) (by decide) (fun h147 b147 hb147 X147 A_b147 => ?_)
        have ne_b142_b147 : b142 ≠ b147 := by rw [hb147]; exact Nat.ne_of_lt A_b142.lt
        have sz_b147 : hO.size ≤ b147 := by rw [hb147]; exact K.1
        have g_b147 : n0 ≤ b147 := Nat.le_trans Z0 sz_b147
        replace A_b142 := A_b142.ext X147
        replace K := K.ext X147
        replace A_b147 : AJ Z h147 b147 [(0 : Int64), (0 : Int64), (0 : Int64)] := A_b147
        refine C.astore (l' := #[.val (.long p1), .second, .val (.int p2), .val (.long p3), .second, .val (.long p4), .second, .val (.long p5), .second, .val (.int p6), .val (.long v7), .second, .val (.long v17), .second, .val (.long v27), .second, .val (.int (1 : Int32)), .val (.long (0 : Int64)), .second, .val (.int (0 : Int32)), .val (.long v99), .second, .val (.long v105), .second, .val (.long v112), .second, .val (.int (1 : Int32)), .val (.long v139), .second, .val (.ref b142), .val (.ref b147), .unset, .unset, .unset]) (pc' := 151) at_149 rfl rfl rfl ?_
        refine C.new (ow2 hw) (ow3 hw) (ow4 hw) (pc' := 154) at_151 rfl (by decide) (by decide) (fun h151 b151 hb151 X151 E_b151 D151 => ?_)
        have ne_b142_b151 : b142 ≠ b151 := by rw [hb151]; exact Nat.ne_of_lt A_b142.lt
        have ne_b147_b151 : b147 ≠ b151 := by rw [hb151]; exact Nat.ne_of_lt A_b147.lt
        have sz_b151 : hO.size ≤ b151 := by rw [hb151]; exact K.1
        have g_b151 : n0 ≤ b151 := Nat.le_trans Z0 sz_b151
        replace A_b142 := A_b142.ext X151
        replace A_b147 := A_b147.ext X151
        replace K := K.ext X151
        have F_b151_lastNanos : Fld Z h151 b151 "com/example/steady_limiter/steadylimiter/KeyState" "lastNanos" "J" (.long (0 : Int64)) := D151 (Or.inl (ow17 hw)) pf_J
        have F_b151_times : Fld Z h151 b151 "com/example/steady_limiter/steadylimiter/SlidingWindowLog$PermitLog" "times" "[J" .null := D151 (Or.inl (ow19 hw)) pf__J
        have F_b151_permits : Fld Z h151 b151 "com/example/steady_limiter/steadylimiter/SlidingWindowLog$PermitLog" "permits" "[J" .null := D151 (Or.inl (ow21 hw)) pf__J
        have F_b151_size : Fld Z h151 b151 "com/example/steady_limiter/steadylimiter/SlidingWindowLog$PermitLog" "size" "I" (.int (0 : Int32)) := D151 (Or.inl (ow28 hw)) pf_I
        have F_b151_head : Fld Z h151 b151 "com/example/steady_limiter/steadylimiter/SlidingWindowLog$PermitLog" "head" "I" (.int (0 : Int32)) := D151 (Or.inl (ow34 hw)) pf_I
        have F_b151_counted : Fld Z h151 b151 "com/example/steady_limiter/steadylimiter/SlidingWindowLog$PermitLog" "counted" "J" (.long (0 : Int64)) := D151 (Or.inl (ow36 hw)) pf_J
        refine C.dup (pc' := 155) at_154 rfl rfl ?_
        refine C.lloadN (pc' := 156) at_155 rfl rfl ?_
        refine C.callc (w := 1) (own_rm1 l Z a0 hw n0 h151 b151 p1 (Nat.le_trans Z0 K.1) E_b151 F_b151_lastNanos F_b151_times F_b151_permits F_b151_head F_b151_size F_b151_counted g_b151) rfl (ow5 hw) (ow6 hw) (ow4 hw) (ow7 hw) (pc' := 159) at_156 rfl rfl rfl (by decide) pd__J_V rfl (by decide) (Nat.le_of_eq rfl) (by decide) (by decide) (by decide) (kV fun h156 q156 => ?_)
        obtain ⟨ta156, pa156, K156, z156_ta156, z156_pa156, ne_ta156_pa156, N156_0, N156_1, N156_2, N156_3, N156_4, N156_5, N156_6⟩ := q156
        have ne_b142_ta156 : b142 ≠ ta156 := Nat.ne_of_lt (Nat.lt_of_lt_of_le A_b142.lt z156_ta156)
        have ne_b147_ta156 : b147 ≠ ta156 := Nat.ne_of_lt (Nat.lt_of_lt_of_le A_b147.lt z156_ta156)
        have ne_b151_ta156 : b151 ≠ ta156 := Nat.ne_of_lt (Nat.lt_of_lt_of_le (exaLt E_b151) z156_ta156)
        have sz_ta156 : hO.size ≤ ta156 := Nat.le_trans K.1 z156_ta156
        have g_ta156 : n0 ≤ ta156 := Nat.le_trans Z0 sz_ta156
        have ne_b142_pa156 : b142 ≠ pa156 := Nat.ne_of_lt (Nat.lt_of_lt_of_le A_b142.lt z156_pa156)
        have ne_b147_pa156 : b147 ≠ pa156 := Nat.ne_of_lt (Nat.lt_of_lt_of_le A_b147.lt z156_pa156)
        have ne_b151_pa156 : b151 ≠ pa156 := Nat.ne_of_lt (Nat.lt_of_lt_of_le (exaLt E_b151) z156_pa156)
        have sz_pa156 : hO.size ≤ pa156 := Nat.le_trans K.1 z156_pa156
        have g_pa156 : n0 ≤ pa156 := Nat.le_trans Z0 sz_pa156
        replace A_b142 := A_b142.keep K156 (ninS ne_b142_b151 nin0)
        replace A_b147 := A_b147.keep K156 (ninS ne_b147_b151 nin0)
        replace E_b151 := E_b151.keep K156
        have F_b151_times : Fld Z h156 b151 "com/example/steady_limiter/steadylimiter/SlidingWindowLog$PermitLog" "times" "[J" (.ref ta156) := N156_0
        have F_b151_permits : Fld Z h156 b151 "com/example/steady_limiter/steadylimiter/SlidingWindowLog$PermitLog" "permits" "[J" (.ref pa156) := N156_1
        have F_b151_head : Fld Z h156 b151 "com/example/steady_limiter/steadylimiter/SlidingWindowLog$PermitLog" "head" "I" (.int (0 : Int32)) := N156_2
        have F_b151_size : Fld Z h156 b151 "com/example/steady_limiter/steadylimiter/SlidingWindowLog$PermitLog" "size" "I" (.int (0 : Int32)) := N156_3
        have F_b151_counted : Fld Z h156 b151 "com/example/steady_limiter/steadylimiter/SlidingWindowLog$PermitLog" "counted" "J" (.long (0 : Int64)) := N156_4
        have A_ta156 : AJ Z h156 ta156 [(0 : Int64), (0 : Int64)] := N156_5
        have A_pa156 : AJ Z h156 pa156 [(0 : Int64), (0 : Int64)] := N156_6
        replace K := K.trans K156 (allS (Or.inr sz_b151) all0)
        refine C.astore (l' := #[.val (.long p1), .second, .val (.int p2), .val (.long p3), .second, .val (.long p4), .second, .val (.long p5), .second, .val (.int p6), .val (.long v7), .second, .val (.long v17), .second, .val (.long v27), .second, .val (.int (1 : Int32)), .val (.long (0 : Int64)), .second, .val (.int (0 : Int32)), .val (.long v99), .second, .val (.long v105), .second, .val (.long v112), .second, .val (.int (1 : Int32)), .val (.long v139), .second, .val (.ref b142), .val (.ref b147), .val (.ref b151), .unset, .unset]) (pc' := 161) at_159 rfl rfl rfl ?_
        refine C.iload (pc' := 163) at_161 rfl rfl ?_
        refine C.if_eq (pc' := 166) (pt := 181) at_163 rfl rfl (fun c163 => absurd c163 (by decide)) (fun c163 => ?_)
        refine C.aload (pc' := 168) at_166 rfl rfl rfl ?_
        refine C.lloadN (pc' := 169) at_168 rfl rfl ?_
        refine C.lconst (v := 1) (pc' := 170) at_169 rfl rfl ?_
        refine C.lsub (pc' := 171) at_170 rfl ?_
        refine C.lload (pc' := 173) at_171 rfl rfl ?_
        refine C.callv (w := 0) (own_addB0 l Z a0 hw n0 h156 b151 (p1 - (1 : Int64)) v139 ta156 pa156 (0 : Int32) (0 : Int32) (0 : Int64) [(0 : Int64), (0 : Int64)] [(0 : Int64), (0 : Int64)] (2 : Int32) 0 (Nat.le_trans Z0 K.1) E_b151 F_b151_times F_b151_permits F_b151_head F_b151_size F_b151_counted A_ta156 A_pa156 g_b151 g_ta156 g_pa156 ne_b151_ta156 ne_b151_pa156 ne_ta156_pa156 (show (2 : Int32).toInt = ((2 : Nat) : Int) from by decide) (by decide) (by decide) (show 0 < 2 from by decide) (show 0 < 2 from by decide) (by decide)) E_b151 (ow22 hw) (ow23 hw) (ow25 hw) (ow24 hw) (ow4 hw) (ow26 hw) (pc' := 176) at_173 rfl rfl rfl (by decide) pd__JJ_V rfl (by decide) (Nat.le_of_eq rfl) (by decide) (by decide) (by decide) (kV fun h173 q173 => ?_)
        obtain ⟨K173, N173_0, N173_1, N173_2, N173_3, N173_4, N173_5, N173_6⟩ := q173
        replace A_b142 := A_b142.keep K173 (ninS ne_b142_b151 (ninS ne_b142_ta156 (ninS ne_b142_pa156 nin0)))
        replace A_b147 := A_b147.keep K173 (ninS ne_b147_b151 (ninS ne_b147_ta156 (ninS ne_b147_pa156 nin0)))
        replace E_b151 := E_b151.keep K173
        have F_b151_times : Fld Z h173 b151 "com/example/steady_limiter/steadylimiter/SlidingWindowLog$PermitLog" "times" "[J" (.ref ta156) := N173_0
        have F_b151_permits : Fld Z h173 b151 "com/example/steady_limiter/steadylimiter/SlidingWindowLog$PermitLog" "permits" "[J" (.ref pa156) := N173_1
        have F_b151_head : Fld Z h173 b151 "com/example/steady_limiter/steadylimiter/SlidingWindowLog$PermitLog" "head" "I" (.int (0 : Int32)) := N173_2
        have F_b151_size : Fld Z h173 b151 "com/example/steady_limiter/steadylimiter/SlidingWindowLog$PermitLog" "size" "I" (.int ((0 : Int32) + (1 : Int32))) := N173_3
        have F_b151_counted : Fld Z h173 b151 "com/example/steady_limiter/steadylimiter/SlidingWindowLog$PermitLog" "counted" "J" (.long ((0 : Int64) + v139)) := N173_4
        have A_ta156 : AJ Z h173 ta156 [(p1 - (1 : Int64)), (0 : Int64)] := N173_5
        have A_pa156 : AJ Z h173 pa156 [v139, (0 : Int64)] := N173_6
        replace K := K.trans K173 (allS (Or.inr sz_b151) (allS (Or.inr sz_ta156) (allS (Or.inr sz_pa156) all0)))
        refine C.aload (pc' := 178) at_176 rfl rfl rfl ?_
        refine C.callv (w := 0) (own_drop0 l Z a0 hw n0 h173 b151 ta156 pa156 (0 : Int32) ((0 : Int32) + (1 : Int32)) ((0 : Int64) + v139) [(p1 - (1 : Int64)), (0 : Int64)] [v139, (0 : Int64)] (2 : Int32) 0 (Nat.le_trans Z0 K.1) E_b151 F_b151_times F_b151_permits F_b151_head F_b151_size F_b151_counted A_ta156 A_pa156 g_b151 ne_b151_ta156 ne_b151_pa156 (show (2 : Int32).toInt = ((2 : Nat) : Int) from by decide) (by decide) (show 0 < 2 from by decide) (Or.inr (by decide))) E_b151 (ow54 hw) (ow55 hw) (ow57 hw) (ow56 hw) (ow4 hw) (ow58 hw) (pc' := 181) at_178 rfl rfl rfl (by decide) pd___V rfl (by decide) (Nat.le_of_eq rfl) (by decide) (by decide) (by decide) (kV fun h178 q178 => ?_)
        obtain ⟨K178, N178_0, N178_1, N178_2, N178_3, N178_4⟩ := q178
        replace A_b142 := A_b142.keep K178 (ninS ne_b142_b151 nin0)
        replace A_b147 := A_b147.keep K178 (ninS ne_b147_b151 nin0)
        replace E_b151 := E_b151.keep K178
        replace A_ta156 := A_ta156.keep K178 (ninS (Ne.symm ne_b151_ta156) nin0)
        replace A_pa156 := A_pa156.keep K178 (ninS (Ne.symm ne_b151_pa156) nin0)
        have F_b151_times : Fld Z h178 b151 "com/example/steady_limiter/steadylimiter/SlidingWindowLog$PermitLog" "times" "[J" (.ref ta156) := N178_0
        have F_b151_permits : Fld Z h178 b151 "com/example/steady_limiter/steadylimiter/SlidingWindowLog$PermitLog" "permits" "[J" (.ref pa156) := N178_1
        have F_b151_head : Fld Z h178 b151 "com/example/steady_limiter/steadylimiter/SlidingWindowLog$PermitLog" "head" "I" (.int (((0 : Int32) + (1 : Int32)) &&& ((2 : Int32) - (1 : Int32)))) := N178_2
        have F_b151_size : Fld Z h178 b151 "com/example/steady_limiter/steadylimiter/SlidingWindowLog$PermitLog" "size" "I" (.int (((0 : Int32) + (1 : Int32)) - (1 : Int32))) := N178_3
        have F_b151_counted : Fld Z h178 b151 "com/example/steady_limiter/steadylimiter/SlidingWindowLog$PermitLog" "counted" "J" (.long (((0 : Int64) + v139) - v139)) := N178_4
        replace K := K.trans K178 (allS (Or.inr sz_b151) all0)
        refine C.aload (pc' := 183) at_181 rfl rfl rfl ?_
        refine C.lloadN (pc' := 184) at_183 rfl rfl ?_
        refine C.lload (pc' := 186) at_184 rfl rfl ?_
        refine C.callv (w := 0) (own_addB0 l Z a0 hw n0 h178 b151 p1 v7 ta156 pa156 (((0 : Int32) + (1 : Int32)) &&& ((2 : Int32) - (1 : Int32))) (((0 : Int32) + (1 : Int32)) - (1 : Int32)) (((0 : Int64) + v139) - v139) [(p1 - (1 : Int64)), (0 : Int64)] [v139, (0 : Int64)] (2 : Int32) 1 (Nat.le_trans Z0 K.1) E_b151 F_b151_times F_b151_permits F_b151_head F_b151_size F_b151_counted A_ta156 A_pa156 g_b151 g_ta156 g_pa156 ne_b151_ta156 ne_b151_pa156 ne_ta156_pa156 (show (2 : Int32).toInt = ((2 : Nat) : Int) from by decide) (by decide) (by decide) (show 1 < 2 from by decide) (show 1 < 2 from by decide) (by decide)) E_b151 (ow22 hw) (ow23 hw) (ow25 hw) (ow24 hw) (ow4 hw) (ow26 hw) (pc' := 189) at_186 rfl rfl rfl (by decide) pd__JJ_V rfl (by decide) (Nat.le_of_eq rfl) (by decide) (by decide) (by decide) (kV fun h186 q186 => ?_)
        obtain ⟨K186, N186_0, N186_1, N186_2, N186_3, N186_4, N186_5, N186_6⟩ := q186
        replace A_b142 := A_b142.keep K186 (ninS ne_b142_b151 (ninS ne_b142_ta156 (ninS ne_b142_pa156 nin0)))
        replace A_b147 := A_b147.keep K186 (ninS ne_b147_b151 (ninS ne_b147_ta156 (ninS ne_b147_pa156 nin0)))
        replace E_b151 := E_b151.keep K186
        have F_b151_times : Fld Z h186 b151 "com/example/steady_limiter/steadylimiter/SlidingWindowLog$PermitLog" "times" "[J" (.ref ta156) := N186_0
        have F_b151_permits : Fld Z h186 b151 "com/example/steady_limiter/steadylimiter/SlidingWindowLog$PermitLog" "permits" "[J" (.ref pa156) := N186_1
        have F_b151_head : Fld Z h186 b151 "com/example/steady_limiter/steadylimiter/SlidingWindowLog$PermitLog" "head" "I" (.int (((0 : Int32) + (1 : Int32)) &&& ((2 : Int32) - (1 : Int32)))) := N186_2
        have F_b151_size : Fld Z h186 b151 "com/example/steady_limiter/steadylimiter/SlidingWindowLog$PermitLog" "size" "I" (.int ((((0 : Int32) + (1 : Int32)) - (1 : Int32)) + (1 : Int32))) := N186_3
        have F_b151_counted : Fld Z h186 b151 "com/example/steady_limiter/steadylimiter/SlidingWindowLog$PermitLog" "counted" "J" (.long ((((0 : Int64) + v139) - v139) + v7)) := N186_4
        have A_ta156 : AJ Z h186 ta156 [(p1 - (1 : Int64)), p1] := N186_5
        have A_pa156 : AJ Z h186 pa156 [v139, v7] := N186_6
        replace K := K.trans K186 (allS (Or.inr sz_b151) (allS (Or.inr sz_ta156) (allS (Or.inr sz_pa156) all0)))
        refine C.aload (pc' := 191) at_189 rfl rfl rfl ?_
        refine C.lload (pc' := 193) at_191 rfl rfl ?_
        refine C.lload (pc' := 195) at_193 rfl rfl ?_
        refine C.callv (w := 0) (own_addA l Z a0 hw n0 h186 b151 v105 v17 ta156 pa156 (((0 : Int32) + (1 : Int32)) &&& ((2 : Int32) - (1 : Int32))) ((((0 : Int32) + (1 : Int32)) - (1 : Int32)) + (1 : Int32)) ((((0 : Int64) + v139) - v139) + v7) [(p1 - (1 : Int64)), p1] [v139, v7] (2 : Int32) 1 (Nat.le_trans Z0 K.1) E_b151 F_b151_times F_b151_permits F_b151_head F_b151_size F_b151_counted A_ta156 A_pa156 g_b151 g_ta156 g_pa156 ne_b151_ta156 ne_b151_pa156 ne_ta156_pa156 (show (2 : Int32).toInt = ((2 : Nat) : Int) from by decide) (by decide) (by decide) (show 1 < 2 from by decide) (show 1 < 2 from by decide) (own_eq e105)) E_b151 (ow22 hw) (ow23 hw) (ow25 hw) (ow24 hw) (ow4 hw) (ow26 hw) (pc' := 198) at_195 rfl rfl rfl (by decide) pd__JJ_V rfl (by decide) (Nat.le_of_eq rfl) (by decide) (by decide) (by decide) (kV fun h195 q195 => ?_)
        obtain ⟨K195, N195_0, N195_1, N195_2, N195_3, N195_4, N195_5⟩ := q195
        replace A_b142 := A_b142.keep K195 (ninS ne_b142_b151 (ninS ne_b142_pa156 nin0))
        replace A_b147 := A_b147.keep K195 (ninS ne_b147_b151 (ninS ne_b147_pa156 nin0))
        replace E_b151 := E_b151.keep K195
        replace A_ta156 := A_ta156.keep K195 (ninS (Ne.symm ne_b151_ta156) (ninS ne_ta156_pa156 nin0))
        have F_b151_times : Fld Z h195 b151 "com/example/steady_limiter/steadylimiter/SlidingWindowLog$PermitLog" "times" "[J" (.ref ta156) := N195_0
        have F_b151_permits : Fld Z h195 b151 "com/example/steady_limiter/steadylimiter/SlidingWindowLog$PermitLog" "permits" "[J" (.ref pa156) := N195_1
        have F_b151_head : Fld Z h195 b151 "com/example/steady_limiter/steadylimiter/SlidingWindowLog$PermitLog" "head" "I" (.int (((0 : Int32) + (1 : Int32)) &&& ((2 : Int32) - (1 : Int32)))) := N195_2
        have F_b151_size : Fld Z h195 b151 "com/example/steady_limiter/steadylimiter/SlidingWindowLog$PermitLog" "size" "I" (.int ((((0 : Int32) + (1 : Int32)) - (1 : Int32)) + (1 : Int32))) := N195_3
        have F_b151_counted : Fld Z h195 b151 "com/example/steady_limiter/steadylimiter/SlidingWindowLog$PermitLog" "counted" "J" (.long (((((0 : Int64) + v139) - v139) + v7) + v17)) := N195_4
        have A_pa156 : AJ Z h195 pa156 [v139, (v7 + v17)] := N195_5
        replace K := K.trans K195 (allS (Or.inr sz_b151) (allS (Or.inr sz_pa156) all0))
        refine C.aload (pc' := 200) at_198 rfl rfl rfl ?_
        refine C.lload (pc' := 202) at_200 rfl rfl ?_
        refine C.lload (pc' := 204) at_202 rfl rfl ?_
        refine C.callv (w := 0) (own_addB1 l Z a0 hw n0 h195 b151 v112 v27 ta156 pa156 (((0 : Int32) + (1 : Int32)) &&& ((2 : Int32) - (1 : Int32))) ((((0 : Int32) + (1 : Int32)) - (1 : Int32)) + (1 : Int32)) (((((0 : Int64) + v139) - v139) + v7) + v17) [(p1 - (1 : Int64)), p1] [v139, (v7 + v17)] (2 : Int32) 1 0 (Nat.le_trans Z0 K.1) E_b151 F_b151_times F_b151_permits F_b151_head F_b151_size F_b151_counted A_ta156 A_pa156 g_b151 g_ta156 g_pa156 ne_b151_ta156 ne_b151_pa156 ne_ta156_pa156 (show (2 : Int32).toInt = ((2 : Nat) : Int) from by decide) (by decide) (by decide) (show 1 < 2 from by decide) (show 1 < 2 from by decide) (own_ne e99 (own_sub e105 e112)) (by decide) (show 0 < 2 from by decide) (show 0 < 2 from by decide) (by decide)) E_b151 (ow22 hw) (ow23 hw) (ow25 hw) (ow24 hw) (ow4 hw) (ow26 hw) (pc' := 207) at_204 rfl rfl rfl (by decide) pd__JJ_V rfl (by decide) (Nat.le_of_eq rfl) (by decide) (by decide) (by decide) (kV fun h204 q204 => ?_)
        obtain ⟨K204, N204_0, N204_1, N204_2, N204_3, N204_4, N204_5, N204_6⟩ := q204
        replace A_b142 := A_b142.keep K204 (ninS ne_b142_b151 (ninS ne_b142_ta156 (ninS ne_b142_pa156 nin0)))
        replace A_b147 := A_b147.keep K204 (ninS ne_b147_b151 (ninS ne_b147_ta156 (ninS ne_b147_pa156 nin0)))
        replace E_b151 := E_b151.keep K204
        have F_b151_times : Fld Z h204 b151 "com/example/steady_limiter/steadylimiter/SlidingWindowLog$PermitLog" "times" "[J" (.ref ta156) := N204_0
        have F_b151_permits : Fld Z h204 b151 "com/example/steady_limiter/steadylimiter/SlidingWindowLog$PermitLog" "permits" "[J" (.ref pa156) := N204_1
        have F_b151_head : Fld Z h204 b151 "com/example/steady_limiter/steadylimiter/SlidingWindowLog$PermitLog" "head" "I" (.int (((0 : Int32) + (1 : Int32)) &&& ((2 : Int32) - (1 : Int32)))) := N204_2
        have F_b151_size : Fld Z h204 b151 "com/example/steady_limiter/steadylimiter/SlidingWindowLog$PermitLog" "size" "I" (.int (((((0 : Int32) + (1 : Int32)) - (1 : Int32)) + (1 : Int32)) + (1 : Int32))) := N204_3
        have F_b151_counted : Fld Z h204 b151 "com/example/steady_limiter/steadylimiter/SlidingWindowLog$PermitLog" "counted" "J" (.long ((((((0 : Int64) + v139) - v139) + v7) + v17) + v27)) := N204_4
        have A_ta156 : AJ Z h204 ta156 [v112, p1] := N204_5
        have A_pa156 : AJ Z h204 pa156 [v27, (v7 + v17)] := N204_6
        replace K := K.trans K204 (allS (Or.inr sz_b151) (allS (Or.inr sz_ta156) (allS (Or.inr sz_pa156) all0)))
        refine C.aload (pc' := 209) at_207 rfl rfl rfl ?_
        refine C.iconst (v := 0) (pc' := 210) at_209 rfl rfl ?_
        refine C.lloadN (pc' := 211) at_210 rfl rfl ?_
        refine C.stAJ (i := 0) A_b142 (by decide) (by show 0 < 3; decide) g_b142 (pc' := 212) at_211 rfl (fun h211 X211 B211 => ?_)
        replace A_b147 := A_b147.other X211 (Ne.symm ne_b142_b147)
        replace E_b151 := E_b151.wr X211
        replace F_b151_times := F_b151_times.other X211 (Or.inl (Ne.symm ne_b142_b151))
        replace F_b151_permits := F_b151_permits.other X211 (Or.inl (Ne.symm ne_b142_b151))
        replace F_b151_head := F_b151_head.other X211 (Or.inl (Ne.symm ne_b142_b151))
        replace F_b151_size := F_b151_size.other X211 (Or.inl (Ne.symm ne_b142_b151))
        replace F_b151_counted := F_b151_counted.other X211 (Or.inl (Ne.symm ne_b142_b151))
        replace A_ta156 := A_ta156.other X211 (Ne.symm ne_b142_ta156)
        replace A_pa156 := A_pa156.other X211 (Ne.symm ne_b142_pa156)
        have A_b142 : AJ Z h211 b142 [p1, (0 : Int64), (0 : Int64)] := B211
        replace K := K.wr X211 (Or.inr sz_b142)
        refine C.aload (pc' := 214) at_212 rfl rfl rfl ?_
        refine C.iconst (v := 0) (pc' := 215) at_214 rfl rfl ?_
        refine C.lload (pc' := 217) at_215 rfl rfl ?_
        refine C.stAJ (i := 0) A_b147 (by decide) (by show 0 < 3; decide) g_b147 (pc' := 218) at_217 rfl (fun h217 X217 B217 => ?_)
        replace E_b151 := E_b151.wr X217
        replace F_b151_times := F_b151_times.other X217 (Or.inl (Ne.symm ne_b147_b151))
        replace F_b151_permits := F_b151_permits.other X217 (Or.inl (Ne.symm ne_b147_b151))
        replace F_b151_head := F_b151_head.other X217 (Or.inl (Ne.symm ne_b147_b151))
        replace F_b151_size := F_b151_size.other X217 (Or.inl (Ne.symm ne_b147_b151))
        replace F_b151_counted := F_b151_counted.other X217 (Or.inl (Ne.symm ne_b147_b151))
        replace A_ta156 := A_ta156.other X217 (Ne.symm ne_b147_ta156)
        replace A_pa156 := A_pa156.other X217 (Ne.symm ne_b147_pa156)
        replace A_b142 := A_b142.other X217 ne_b142_b147
        have A_b147 : AJ Z h217 b147 [v7, (0 : Int64), (0 : Int64)] := B217
        replace K := K.wr X217 (Or.inr sz_b147)
        refine C.iconst (v := 1) (pc' := 219) at_218 rfl rfl ?_
        refine C.istoreX (l' := #[.val (.long p1), .second, .val (.int p2), .val (.long p3), .second, .val (.long p4), .second, .val (.long p5), .second, .val (.int p6), .val (.long v7), .second, .val (.long v17), .second, .val (.long v27), .second, .val (.int (1 : Int32)), .val (.long (0 : Int64)), .second, .val (.int (0 : Int32)), .val (.long v99), .second, .val (.long v105), .second, .val (.long v112), .second, .val (.int (1 : Int32)), .val (.long v139), .second, .val (.ref b142), .val (.ref b147), .val (.ref b151), .val (.int (1 : Int32)), .unset]) (pc' := 221) at_219 rfl rfl ?_
        refine C.aload (pc' := 223) at_221 rfl rfl rfl ?_
        refine C.aload (pc' := 225) at_223 rfl rfl rfl ?_
        refine C.iload (pc' := 227) at_225 rfl rfl ?_
        refine C.iload (pc' := 229) at_227 rfl rfl ?_
        refine C.lload (pc' := 231) at_229 rfl rfl ?_
        refine C.lload (pc' := 233) at_231 rfl rfl ?_
        refine C.calls (w := 0) (own_step1 l Z a0 hw n0 h217 b142 b147 (1 : Int32) (1 : Int32) v105 v17 [p1, (0 : Int64), (0 : Int64)] [v7, (0 : Int64), (0 : Int64)] 0 (Nat.le_trans Z0 K.1) A_b142 A_b147 g_b142 g_b147 ne_b142_b147 (by decide) (by decide) (show 0 < 3 from by decide)) (ow42 hw) (ow43 hw) (ow44 hw) (ow45 hw) (pc' := 236) at_233 rfl rfl rfl (by decide) pd___J_JIZJJ_I rfl (by decide) (Nat.le_of_eq rfl) (by decide) (by decide) (by decide) (kI fun r233 h233 q233 => ?_)
        obtain ⟨rfl, K233, N233_0⟩ := q233
        replace E_b151 := E_b151.keep K233
        replace F_b151_times := F_b151_times.keep K233 (ninS (Ne.symm ne_b147_b151) nin0)
        replace F_b151_permits := F_b151_permits.keep K233 (ninS (Ne.symm ne_b147_b151) nin0)
        replace F_b151_head := F_b151_head.keep K233 (ninS (Ne.symm ne_b147_b151) nin0)
        replace F_b151_size := F_b151_size.keep K233 (ninS (Ne.symm ne_b147_b151) nin0)
        replace F_b151_counted := F_b151_counted.keep K233 (ninS (Ne.symm ne_b147_b151) nin0)
        replace A_ta156 := A_ta156.keep K233 (ninS (Ne.symm ne_b147_ta156) nin0)
        replace A_pa156 := A_pa156.keep K233 (ninS (Ne.symm ne_b147_pa156) nin0)
        replace A_b142 := A_b142.keep K233 (ninS ne_b142_b147 nin0)
        have A_b147 : AJ Z h233 b147 [(v7 + v17), (0 : Int64), (0 : Int64)] := N233_0
        replace K := K.trans K233 (allS (Or.inr sz_b147) all0)
        refine C.istoreX (l' := #[.val (.long p1), .second, .val (.int p2), .val (.long p3), .second, .val (.long p4), .second, .val (.long p5), .second, .val (.int p6), .val (.long v7), .second, .val (.long v17), .second, .val (.long v27), .second, .val (.int (1 : Int32)), .val (.long (0 : Int64)), .second, .val (.int (0 : Int32)), .val (.long v99), .second, .val (.long v105), .second, .val (.long v112), .second, .val (.int (1 : Int32)), .val (.long v139), .second, .val (.ref b142), .val (.ref b147), .val (.ref b151), .val (.int (1 : Int32)), .unset]) (pc' := 238) at_236 rfl rfl ?_
        refine C.aload (pc' := 240) at_238 rfl rfl rfl ?_
        refine C.aload (pc' := 242) at_240 rfl rfl rfl ?_
        refine C.iload (pc' := 244) at_242 rfl rfl ?_
        refine C.iload (pc' := 246) at_244 rfl rfl ?_
        refine C.lload (pc' := 248) at_246 rfl rfl ?_
        refine C.lload (pc' := 250) at_248 rfl rfl ?_
        refine C.calls (w := 0) (own_step0 l Z a0 hw n0 h233 b142 b147 (1 : Int32) (0 : Int32) v112 v27 [p1, (0 : Int64), (0 : Int64)] [(v7 + v17), (0 : Int64), (0 : Int64)] 1 (Nat.le_trans Z0 K.1) A_b142 A_b147 g_b142 g_b147 ne_b142_b147 rfl (by decide) (show 1 < 3 from by decide) (show 1 < 3 from by decide)) (ow42 hw) (ow43 hw) (ow44 hw) (ow45 hw) (pc' := 253) at_250 rfl rfl rfl (by decide) pd___J_JIZJJ_I rfl (by decide) (Nat.le_of_eq rfl) (by decide) (by decide) (by decide) (kI fun r250 h250 q250 => ?_)
        obtain ⟨rfl, K250, N250_0, N250_1⟩ := q250
        replace E_b151 := E_b151.keep K250
        replace F_b151_times := F_b151_times.keep K250 (ninS (Ne.symm ne_b142_b151) (ninS (Ne.symm ne_b147_b151) nin0))
        replace F_b151_permits := F_b151_permits.keep K250 (ninS (Ne.symm ne_b142_b151) (ninS (Ne.symm ne_b147_b151) nin0))
        replace F_b151_head := F_b151_head.keep K250 (ninS (Ne.symm ne_b142_b151) (ninS (Ne.symm ne_b147_b151) nin0))
        replace F_b151_size := F_b151_size.keep K250 (ninS (Ne.symm ne_b142_b151) (ninS (Ne.symm ne_b147_b151) nin0))
        replace F_b151_counted := F_b151_counted.keep K250 (ninS (Ne.symm ne_b142_b151) (ninS (Ne.symm ne_b147_b151) nin0))
        replace A_ta156 := A_ta156.keep K250 (ninS (Ne.symm ne_b142_ta156) (ninS (Ne.symm ne_b147_ta156) nin0))
        replace A_pa156 := A_pa156.keep K250 (ninS (Ne.symm ne_b142_pa156) (ninS (Ne.symm ne_b147_pa156) nin0))
        have A_b142 : AJ Z h250 b142 [p1, v112, (0 : Int64)] := N250_0
        have A_b147 : AJ Z h250 b147 [(v7 + v17), v27, (0 : Int64)] := N250_1
        replace K := K.trans K250 (allS (Or.inr sz_b142) (allS (Or.inr sz_b147) all0))
        refine C.istoreX (l' := #[.val (.long p1), .second, .val (.int p2), .val (.long p3), .second, .val (.long p4), .second, .val (.long p5), .second, .val (.int p6), .val (.long v7), .second, .val (.long v17), .second, .val (.long v27), .second, .val (.int (1 : Int32)), .val (.long (0 : Int64)), .second, .val (.int (0 : Int32)), .val (.long v99), .second, .val (.long v105), .second, .val (.long v112), .second, .val (.int (1 : Int32)), .val (.long v139), .second, .val (.ref b142), .val (.ref b147), .val (.ref b151), .val (.int ((1 : Int32) + (1 : Int32))), .unset]) (pc' := 255) at_253 rfl rfl ?_
        refine C.aload (pc' := 257) at_255 rfl rfl rfl ?_
        refine C.getf (ow46 hw) Via.refl F_b151_size (pc' := 260) at_257 rfl ?_
        refine C.iload (pc' := 262) at_260 rfl rfl ?_
        refine C.icmp_ne (pc' := 265) (pt := 286) at_262 rfl rfl (fun c262 => absurd (by decide) c262) (fun c262 => ?_)
        refine C.aload (pc' := 267) at_265 rfl rfl rfl ?_
        refine C.getf (ow47 hw) Via.refl F_b151_counted (pc' := 270) at_267 rfl ?_
        refine C.lload (pc' := 272) at_270 rfl rfl ?_
        refine C.lload (pc' := 274) at_272 rfl rfl ?_
        refine C.ladd (pc' := 275) at_274 rfl ?_
        refine C.lload (pc' := 277) at_275 rfl rfl ?_
        refine C.ladd (pc' := 278) at_277 rfl ?_
        refine C.lif_ne (pc' := 282) (pt := 286) at_278 rfl at_279 rfl rfl (fun c278 => absurd own_auto340 c278) (fun c278 => ?_)
        refine C.iconst (v := 1) (pc' := 283) at_282 rfl rfl ?_
        refine C.goto (pc' := 287) at_283 rfl ?_
        refine C.istoreX (l' := #[.val (.long p1), .second, .val (.int p2), .val (.long p3), .second, .val (.long p4), .second, .val (.long p5), .second, .val (.int p6), .val (.long v7), .second, .val (.long v17), .second, .val (.long v27), .second, .val (.int (1 : Int32)), .val (.long (0 : Int64)), .second, .val (.int (0 : Int32)), .val (.long v99), .second, .val (.long v105), .second, .val (.long v112), .second, .val (.int (1 : Int32)), .val (.long v139), .second, .val (.ref b142), .val (.ref b147), .val (.ref b151), .val (.int ((1 : Int32) + (1 : Int32))), .val (.int (1 : Int32))]) (pc' := 289) at_287 rfl rfl ?_
        refine C.iload (pc' := 291) at_289 rfl rfl ?_
        refine C.if_eq (pc' := 294) (pt := 326) at_291 rfl rfl (fun c291 => absurd c291 (by decide)) (fun c291 => ?_)
        refine C.aload (pc' := 296) at_294 rfl rfl rfl ?_
        refine C.iconst (v := 0) (pc' := 297) at_296 rfl rfl ?_
        refine C.callv (w := 0) (own_rm6 l Z a0 hw n0 h250 b151 (0 : Int32) ta156 (((0 : Int32) + (1 : Int32)) &&& ((2 : Int32) - (1 : Int32))) [v112, p1] (2 : Int32) 1 E_b151 F_b151_head F_b151_times A_ta156 (show (2 : Int32).toInt = ((2 : Nat) : Int) from by decide) (by decide) (show 1 < 2 from by decide)) E_b151 (ow48 hw) (ow38 hw) (ow40 hw) (ow39 hw) (ow4 hw) (ow41 hw) (pc' := 300) at_297 rfl rfl rfl (by decide) pd__I_J rfl (by decide) (Nat.le_of_eq rfl) (by decide) (by decide) (by decide) (kJe ?_)
        refine C.aload (pc' := 302) at_300 rfl rfl rfl ?_
        refine C.iconst (v := 0) (pc' := 303) at_302 rfl rfl ?_
        refine C.ldAJ (i := 0) (v := p1) A_b142 (by decide) rfl (pc' := 304) at_303 rfl ?_
        refine C.lif_ne (pc' := 308) (pt := 326) at_304 rfl at_305 rfl rfl (fun c304 => absurd rfl c304) (fun c304 => ?_)
        refine C.aload (pc' := 310) at_308 rfl rfl rfl ?_
        refine C.iconst (v := 0) (pc' := 311) at_310 rfl rfl ?_
        refine C.callv (w := 0) (own_rm8 l Z a0 hw n0 h250 b151 (0 : Int32) ta156 pa156 (((0 : Int32) + (1 : Int32)) &&& ((2 : Int32) - (1 : Int32))) [v112, p1] [v27, (v7 + v17)] (2 : Int32) 1 E_b151 F_b151_head F_b151_times F_b151_permits A_ta156 A_pa156 (show (2 : Int32).toInt = ((2 : Nat) : Int) from by decide) (by decide) (show 1 < 2 from by decide)) E_b151 (ow49 hw) (ow50 hw) (ow52 hw) (ow51 hw) (ow4 hw) (ow53 hw) (pc' := 314) at_311 rfl rfl rfl (by decide) pd__I_J rfl (by decide) (Nat.le_of_eq rfl) (by decide) (by decide) (by decide) (kJe ?_)
        refine C.aload (pc' := 316) at_314 rfl rfl rfl ?_
        refine C.iconst (v := 0) (pc' := 317) at_316 rfl rfl ?_
        refine C.ldAJ (i := 0) (v := (v7 + v17)) A_b147 (by decide) rfl (pc' := 318) at_317 rfl ?_
        refine C.lif_ne (pc' := 322) (pt := 326) at_318 rfl at_319 rfl rfl (fun c318 => absurd rfl c318) (fun c318 => ?_)
        refine C.iconst (v := 1) (pc' := 323) at_322 rfl rfl ?_
        refine C.goto (pc' := 327) at_323 rfl ?_
        refine C.istoreX (l' := #[.val (.long p1), .second, .val (.int p2), .val (.long p3), .second, .val (.long p4), .second, .val (.long p5), .second, .val (.int p6), .val (.long v7), .second, .val (.long v17), .second, .val (.long v27), .second, .val (.int (1 : Int32)), .val (.long (0 : Int64)), .second, .val (.int (0 : Int32)), .val (.long v99), .second, .val (.long v105), .second, .val (.long v112), .second, .val (.int (1 : Int32)), .val (.long v139), .second, .val (.ref b142), .val (.ref b147), .val (.ref b151), .val (.int ((1 : Int32) + (1 : Int32))), .val (.int (1 : Int32))]) (pc' := 329) at_327 rfl rfl ?_
        refine C.iload (pc' := 331) at_329 rfl rfl ?_
        refine C.iconst (v := 1) (pc' := 332) at_331 rfl rfl ?_
        refine C.icmp_le (pc' := 335) (pt := 375) at_332 rfl rfl (fun c332 => absurd (by decide) c332) (fun c332 => ?_)
        refine C.iload (pc' := 337) at_335 rfl rfl ?_
        refine C.if_eq (pc' := 340) (pt := 372) at_337 rfl rfl (fun c337 => absurd c337 (by decide)) (fun c337 => ?_)
        refine C.aload (pc' := 342) at_340 rfl rfl rfl ?_
        refine C.iconst (v := 1) (pc' := 343) at_342 rfl rfl ?_
        refine C.callv (w := 0) (own_rm6 l Z a0 hw n0 h250 b151 (1 : Int32) ta156 (((0 : Int32) + (1 : Int32)) &&& ((2 : Int32) - (1 : Int32))) [v112, p1] (2 : Int32) 0 E_b151 F_b151_head F_b151_times A_ta156 (show (2 : Int32).toInt = ((2 : Nat) : Int) from by decide) (by decide) (show 0 < 2 from by decide)) E_b151 (ow48 hw) (ow38 hw) (ow40 hw) (ow39 hw) (ow4 hw) (ow41 hw) (pc' := 346) at_343 rfl rfl rfl (by decide) pd__I_J rfl (by decide) (Nat.le_of_eq rfl) (by decide) (by decide) (by decide) (kJe ?_)
        refine C.aload (pc' := 348) at_346 rfl rfl rfl ?_
        refine C.iconst (v := 1) (pc' := 349) at_348 rfl rfl ?_
        refine C.ldAJ (i := 1) (v := v112) A_b142 (by decide) rfl (pc' := 350) at_349 rfl ?_
        refine C.lif_ne (pc' := 354) (pt := 372) at_350 rfl at_351 rfl rfl (fun c350 => absurd rfl c350) (fun c350 => ?_)
        refine C.aload (pc' := 356) at_354 rfl rfl rfl ?_
        refine C.iconst (v := 1) (pc' := 357) at_356 rfl rfl ?_
        refine C.callv (w := 0) (own_rm8 l Z a0 hw n0 h250 b151 (1 : Int32) ta156 pa156 (((0 : Int32) + (1 : Int32)) &&& ((2 : Int32) - (1 : Int32))) [v112, p1] [v27, (v7 + v17)] (2 : Int32) 0 E_b151 F_b151_head F_b151_times F_b151_permits A_ta156 A_pa156 (show (2 : Int32).toInt = ((2 : Nat) : Int) from by decide) (by decide) (show 0 < 2 from by decide)) E_b151 (ow49 hw) (ow50 hw) (ow52 hw) (ow51 hw) (ow4 hw) (ow53 hw) (pc' := 360) at_357 rfl rfl rfl (by decide) pd__I_J rfl (by decide) (Nat.le_of_eq rfl) (by decide) (by decide) (by decide) (kJe ?_)
        refine C.aload (pc' := 362) at_360 rfl rfl rfl ?_
        refine C.iconst (v := 1) (pc' := 363) at_362 rfl rfl ?_
        refine C.ldAJ (i := 1) (v := v27) A_b147 (by decide) rfl (pc' := 364) at_363 rfl ?_
        refine C.lif_ne (pc' := 368) (pt := 372) at_364 rfl at_365 rfl rfl (fun c364 => absurd rfl c364) (fun c364 => ?_)
        refine C.iconst (v := 1) (pc' := 369) at_368 rfl rfl ?_
        refine C.goto (pc' := 373) at_369 rfl ?_
        refine C.istoreX (l' := #[.val (.long p1), .second, .val (.int p2), .val (.long p3), .second, .val (.long p4), .second, .val (.long p5), .second, .val (.int p6), .val (.long v7), .second, .val (.long v17), .second, .val (.long v27), .second, .val (.int (1 : Int32)), .val (.long (0 : Int64)), .second, .val (.int (0 : Int32)), .val (.long v99), .second, .val (.long v105), .second, .val (.long v112), .second, .val (.int (1 : Int32)), .val (.long v139), .second, .val (.ref b142), .val (.ref b147), .val (.ref b151), .val (.int ((1 : Int32) + (1 : Int32))), .val (.int (1 : Int32))]) (pc' := 375) at_373 rfl rfl ?_
        refine C.iload (pc' := 377) at_375 rfl rfl ?_
        refine C.iconst (v := 2) (pc' := 378) at_377 rfl rfl ?_
        refine C.icmp_le (pc' := 381) (pt := 421) at_378 rfl rfl (fun c378 => ?_) (fun c378 => absurd c378 (by decide))
        refine C.iload (pc' := 423) at_421 rfl rfl ?_
        refine C.retZ (show ret = some .boolean from rfl) (by decide) at_423 (by decide) (by decide) ⟨_, rfl, rfl⟩
    · skip
      refine C.iconst (v := 1) (pc' := 73) at_72 rfl rfl ?_
      refine C.goto (pc' := 77) at_73 rfl ?_
      refine C.istoreX (l' := #[.val (.long p1), .second, .val (.int p2), .val (.long p3), .second, .val (.long p4), .second, .val (.long p5), .second, .val (.int p6), .val (.long v7), .second, .val (.long v17), .second, .val (.long v27), .second, .val (.int (1 : Int32)), .val (.long (0 : Int64)), .second, .val (.int (1 : Int32)), .unset, .unset, .unset, .unset, .unset, .unset, .unset, .unset, .unset, .unset, .unset, .unset, .unset, .unset]) (pc' := 79) at_77 rfl rfl ?_
      refine C.iload (pc' := 81) at_79 rfl rfl ?_
      refine C.if_eq (pc' := 84) (pt := 88) at_81 rfl rfl (fun c81 => absurd c81 (by decide)) (fun c81 => ?_)
      refine C.lconst (v := 0) (pc' := 85) at_84 rfl rfl ?_
      refine C.goto (pc' := 99) at_85 rfl ?_
      refine C.lstoreX (l' := #[.val (.long p1), .second, .val (.int p2), .val (.long p3), .second, .val (.long p4), .second, .val (.long p5), .second, .val (.int p6), .val (.long v7), .second, .val (.long v17), .second, .val (.long v27), .second, .val (.int (1 : Int32)), .val (.long (0 : Int64)), .second, .val (.int (1 : Int32)), .val (.long (0 : Int64)), .second, .unset, .unset, .unset, .unset, .unset, .unset, .unset, .unset, .unset, .unset, .unset, .unset]) (pc' := 101) at_99 rfl rfl ?_
      refine C.lloadN (pc' := 102) at_101 rfl rfl ?_
      refine C.lload (pc' := 104) at_102 rfl rfl ?_
      refine C.ladd (pc' := 105) at_104 rfl ?_
      refine C.lstore (f := fun v_ => #[.val (.long p1), .second, .val (.int p2), .val (.long p3), .second, .val (.long p4), .second, .val (.long p5), .second, .val (.int p6), .val (.long v7), .second, .val (.long v17), .second, .val (.long v27), .second, .val (.int (1 : Int32)), .val (.long (0 : Int64)), .second, .val (.int (1 : Int32)), .val (.long (0 : Int64)), .second, .val (.long v_), .second, .unset, .unset, .unset, .unset, .unset, .unset, .unset, .unset, .unset, .unset]) (pc' := 107) at_105 rfl (fun _ => rfl) (fun v105 e105 => ?_)
      refine C.lload (pc' := 109) at_107 rfl rfl ?_
      refine C.lload (pc' := 111) at_109 rfl rfl ?_
      refine C.ladd (pc' := 112) at_111 rfl ?_
      refine C.lstore (f := fun v_ => #[.val (.long p1), .second, .val (.int p2), .val (.long p3), .second, .val (.long p4), .second, .val (.long p5), .second, .val (.int p6), .val (.long v7), .second, .val (.long v17), .second, .val (.long v27), .second, .val (.int (1 : Int32)), .val (.long (0 : Int64)), .second, .val (.int (1 : Int32)), .val (.long (0 : Int64)), .second, .val (.long v105), .second, .val (.long v_), .second, .unset, .unset, .unset, .unset, .unset, .unset, .unset, .unset]) (pc' := 114) at_112 rfl (fun _ => rfl) (fun v112 e112 => ?_)
      refine C.iload (pc' := 116) at_114 rfl rfl ?_
      refine C.iconst (v := 1) (pc' := 117) at_116 rfl rfl ?_
      refine C.iand (pc' := 118) at_117 rfl ?_
      refine C.if_eq (pc' := 121) (pt := 125) at_118 rfl rfl (fun c118 => ?_) (fun c118 => ?_)
      · skip
        refine C.iconst (v := 0) (pc' := 126) at_125 rfl rfl ?_
        refine C.istoreX (l' := #[.val (.long p1), .second, .val (.int p2), .val (.long p3), .second, .val (.long p4), .second, .val (.long p5), .second, .val (.int p6), .val (.long v7), .second, .val (.long v17), .second, .val (.long v27), .second, .val (.int (1 : Int32)), .val (.long (0 : Int64)), .second, .val (.int (1 : Int32)), .val (.long (0 : Int64)), .second, .val (.long v105), .second, .val (.long v112), .second, .val (.int (0 : Int32)), .unset, .unset, .unset, .unset, .unset, .unset, .unset]) (pc' := 128) at_126 rfl rfl ?_
        refine C.iload (pc' := 130) at_128 rfl rfl ?_
        refine C.iconst (v := 1) (pc' := 131) at_130 rfl rfl ?_
        refine C.iushr (s := 1) (pc' := 132) at_131 rfl (by decide) ?_
        refine C.sipush (v := 255) (pc' := 135) at_132 rfl rfl ?_
        refine C.iand (pc' := 136) at_135 rfl ?_
        refine C.i2l (pc' := 137) at_136 rfl ?_
        refine C.lconst (v := 1) (pc' := 138) at_137 rfl rfl ?_
        refine C.ladd (pc' := 139) at_138 rfl ?_
        refine C.lstore (f := fun v_ => #[.val (.long p1), .second, .val (.int p2), .val (.long p3), .second, .val (.long p4), .second, .val (.long p5), .second, .val (.int p6), .val (.long v7), .second, .val (.long v17), .second, .val (.long v27), .second, .val (.int (1 : Int32)), .val (.long (0 : Int64)), .second, .val (.int (1 : Int32)), .val (.long (0 : Int64)), .second, .val (.long v105), .second, .val (.long v112), .second, .val (.int (0 : Int32)), .val (.long v_), .second, .unset, .unset, .unset, .unset, .unset]) (pc' := 141) at_139 rfl (fun _ => rfl) (fun v139 e139 => ?_)
        refine C.iconst (v := 3) (pc' := 142) at_141 rfl rfl ?_
        refine C.newAJ (N := 3) (cap := 3) (ow1 hw) (pc' := 144) at_142 rfl (by decide) (by decide) (by decide) (by decide) (by decide) (fun h142 b142 hb142 X142 A_b142 => ?_)
        have sz_b142 : hO.size ≤ b142 := by rw [hb142]; exact K.1
        have g_b142 : n0 ≤ b142 := Nat.le_trans Z0 sz_b142
        replace K := K.ext X142
        replace A_b142 : AJ Z h142 b142 [(0 : Int64), (0 : Int64), (0 : Int64)] := A_b142
        refine C.astore (l' := #[.val (.long p1), .second, .val (.int p2), .val (.long p3), .second, .val (.long p4), .second, .val (.long p5), .second, .val (.int p6), .val (.long v7), .second, .val (.long v17), .second, .val (.long v27), .second, .val (.int (1 : Int32)), .val (.long (0 : Int64)), .second, .val (.int (1 : Int32)), .val (.long (0 : Int64)), .second, .val (.long v105), .second, .val (.long v112), .second, .val (.int (0 : Int32)), .val (.long v139), .second, .val (.ref b142), .unset, .unset, .unset, .unset]) (pc' := 146) at_144 rfl rfl rfl ?_
        refine C.iconst (v := 3) (pc' := 147) at_146 rfl rfl ?_
        refine C.newAJ (N := 3) (cap := 3) (ow1 hw) (pc' := 149) at_147 rfl (by decide) (by decide) (by decide) (by decide) (by decide) (fun h147 b147 hb147 X147 A_b147 => ?_)
        have ne_b142_b147 : b142 ≠ b147 := by rw [hb147]; exact Nat.ne_of_lt A_b142.lt
        have sz_b147 : hO.size ≤ b147 := by rw [hb147]; exact K.1
        have g_b147 : n0 ≤ b147 := Nat.le_trans Z0 sz_b147
        replace A_b142 := A_b142.ext X147
        replace K := K.ext X147
        replace A_b147 : AJ Z h147 b147 [(0 : Int64), (0 : Int64), (0 : Int64)] := A_b147
        refine C.astore (l' := #[.val (.long p1), .second, .val (.int p2), .val (.long p3), .second, .val (.long p4), .second, .val (.long p5), .second, .val (.int p6), .val (.long v7), .second, .val (.long v17), .second, .val (.long v27), .second, .val (.int (1 : Int32)), .val (.long (0 : Int64)), .second, .val (.int (1 : Int32)), .val (.long (0 : Int64)), .second, .val (.long v105), .second, .val (.long v112), .second, .val (.int (0 : Int32)), .val (.long v139), .second, .val (.ref b142), .val (.ref b147), .unset, .unset, .unset]) (pc' := 151) at_149 rfl rfl rfl ?_
        refine C.new (ow2 hw) (ow3 hw) (ow4 hw) (pc' := 154) at_151 rfl (by decide) (by decide) (fun h151 b151 hb151 X151 E_b151 D151 => ?_)
        have ne_b142_b151 : b142 ≠ b151 := by rw [hb151]; exact Nat.ne_of_lt A_b142.lt
        have ne_b147_b151 : b147 ≠ b151 := by rw [hb151]; exact Nat.ne_of_lt A_b147.lt
        have sz_b151 : hO.size ≤ b151 := by rw [hb151]; exact K.1
        have g_b151 : n0 ≤ b151 := Nat.le_trans Z0 sz_b151
        replace A_b142 := A_b142.ext X151
        replace A_b147 := A_b147.ext X151
        replace K := K.ext X151
        have F_b151_lastNanos : Fld Z h151 b151 "com/example/steady_limiter/steadylimiter/KeyState" "lastNanos" "J" (.long (0 : Int64)) := D151 (Or.inl (ow17 hw)) pf_J
        have F_b151_times : Fld Z h151 b151 "com/example/steady_limiter/steadylimiter/SlidingWindowLog$PermitLog" "times" "[J" .null := D151 (Or.inl (ow19 hw)) pf__J
        have F_b151_permits : Fld Z h151 b151 "com/example/steady_limiter/steadylimiter/SlidingWindowLog$PermitLog" "permits" "[J" .null := D151 (Or.inl (ow21 hw)) pf__J
        have F_b151_size : Fld Z h151 b151 "com/example/steady_limiter/steadylimiter/SlidingWindowLog$PermitLog" "size" "I" (.int (0 : Int32)) := D151 (Or.inl (ow28 hw)) pf_I
        have F_b151_head : Fld Z h151 b151 "com/example/steady_limiter/steadylimiter/SlidingWindowLog$PermitLog" "head" "I" (.int (0 : Int32)) := D151 (Or.inl (ow34 hw)) pf_I
        have F_b151_counted : Fld Z h151 b151 "com/example/steady_limiter/steadylimiter/SlidingWindowLog$PermitLog" "counted" "J" (.long (0 : Int64)) := D151 (Or.inl (ow36 hw)) pf_J
        refine C.dup (pc' := 155) at_154 rfl rfl ?_
        refine C.lloadN (pc' := 156) at_155 rfl rfl ?_
        refine C.callc (w := 1) (own_rm1 l Z a0 hw n0 h151 b151 p1 (Nat.le_trans Z0 K.1) E_b151 F_b151_lastNanos F_b151_times F_b151_permits F_b151_head F_b151_size F_b151_counted g_b151) rfl (ow5 hw) (ow6 hw) (ow4 hw) (ow7 hw) (pc' := 159) at_156 rfl rfl rfl (by decide) pd__J_V rfl (by decide) (Nat.le_of_eq rfl) (by decide) (by decide) (by decide) (kV fun h156 q156 => ?_)
        obtain ⟨ta156, pa156, K156, z156_ta156, z156_pa156, ne_ta156_pa156, N156_0, N156_1, N156_2, N156_3, N156_4, N156_5, N156_6⟩ := q156
        have ne_b142_ta156 : b142 ≠ ta156 := Nat.ne_of_lt (Nat.lt_of_lt_of_le A_b142.lt z156_ta156)
        have ne_b147_ta156 : b147 ≠ ta156 := Nat.ne_of_lt (Nat.lt_of_lt_of_le A_b147.lt z156_ta156)
        have ne_b151_ta156 : b151 ≠ ta156 := Nat.ne_of_lt (Nat.lt_of_lt_of_le (exaLt E_b151) z156_ta156)
        have sz_ta156 : hO.size ≤ ta156 := Nat.le_trans K.1 z156_ta156
        have g_ta156 : n0 ≤ ta156 := Nat.le_trans Z0 sz_ta156
        have ne_b142_pa156 : b142 ≠ pa156 := Nat.ne_of_lt (Nat.lt_of_lt_of_le A_b142.lt z156_pa156)
        have ne_b147_pa156 : b147 ≠ pa156 := Nat.ne_of_lt (Nat.lt_of_lt_of_le A_b147.lt z156_pa156)
        have ne_b151_pa156 : b151 ≠ pa156 := Nat.ne_of_lt (Nat.lt_of_lt_of_le (exaLt E_b151) z156_pa156)
        have sz_pa156 : hO.size ≤ pa156 := Nat.le_trans K.1 z156_pa156
        have g_pa156 : n0 ≤ pa156 := Nat.le_trans Z0 sz_pa156
        replace A_b142 := A_b142.keep K156 (ninS ne_b142_b151 nin0)
        replace A_b147 := A_b147.keep K156 (ninS ne_b147_b151 nin0)
        replace E_b151 := E_b151.keep K156
        have F_b151_times : Fld Z h156 b151 "com/example/steady_limiter/steadylimiter/SlidingWindowLog$PermitLog" "times" "[J" (.ref ta156) := N156_0
        have F_b151_permits : Fld Z h156 b151 "com/example/steady_limiter/steadylimiter/SlidingWindowLog$PermitLog" "permits" "[J" (.ref pa156) := N156_1
        have F_b151_head : Fld Z h156 b151 "com/example/steady_limiter/steadylimiter/SlidingWindowLog$PermitLog" "head" "I" (.int (0 : Int32)) := N156_2
        have F_b151_size : Fld Z h156 b151 "com/example/steady_limiter/steadylimiter/SlidingWindowLog$PermitLog" "size" "I" (.int (0 : Int32)) := N156_3
        have F_b151_counted : Fld Z h156 b151 "com/example/steady_limiter/steadylimiter/SlidingWindowLog$PermitLog" "counted" "J" (.long (0 : Int64)) := N156_4
        have A_ta156 : AJ Z h156 ta156 [(0 : Int64), (0 : Int64)] := N156_5
        have A_pa156 : AJ Z h156 pa156 [(0 : Int64), (0 : Int64)] := N156_6
        replace K := K.trans K156 (allS (Or.inr sz_b151) all0)
        refine C.astore (l' := #[.val (.long p1), .second, .val (.int p2), .val (.long p3), .second, .val (.long p4), .second, .val (.long p5), .second, .val (.int p6), .val (.long v7), .second, .val (.long v17), .second, .val (.long v27), .second, .val (.int (1 : Int32)), .val (.long (0 : Int64)), .second, .val (.int (1 : Int32)), .val (.long (0 : Int64)), .second, .val (.long v105), .second, .val (.long v112), .second, .val (.int (0 : Int32)), .val (.long v139), .second, .val (.ref b142), .val (.ref b147), .val (.ref b151), .unset, .unset]) (pc' := 161) at_159 rfl rfl rfl ?_
        refine C.iload (pc' := 163) at_161 rfl rfl ?_
        refine C.if_eq (pc' := 166) (pt := 181) at_163 rfl rfl (fun c163 => ?_) (fun c163 => absurd (by decide) c163)
        refine C.aload (pc' := 183) at_181 rfl rfl rfl ?_
        refine C.lloadN (pc' := 184) at_183 rfl rfl ?_
        refine C.lload (pc' := 186) at_184 rfl rfl ?_
        refine C.callv (w := 0) (own_addB0 l Z a0 hw n0 h156 b151 p1 v7 ta156 pa156 (0 : Int32) (0 : Int32) (0 : Int64) [(0 : Int64), (0 : Int64)] [(0 : Int64), (0 : Int64)] (2 : Int32) 0 (Nat.le_trans Z0 K.1) E_b151 F_b151_times F_b151_permits F_b151_head F_b151_size F_b151_counted A_ta156 A_pa156 g_b151 g_ta156 g_pa156 ne_b151_ta156 ne_b151_pa156 ne_ta156_pa156 (show (2 : Int32).toInt = ((2 : Nat) : Int) from by decide) (by decide) (by decide) (show 0 < 2 from by decide) (show 0 < 2 from by decide) (by decide)) E_b151 (ow22 hw) (ow23 hw) (ow25 hw) (ow24 hw) (ow4 hw) (ow26 hw) (pc' := 189) at_186 rfl rfl rfl (by decide) pd__JJ_V rfl (by decide) (Nat.le_of_eq rfl) (by decide) (by decide) (by decide) (kV fun h186 q186 => ?_)
        obtain ⟨K186, N186_0, N186_1, N186_2, N186_3, N186_4, N186_5, N186_6⟩ := q186
        replace A_b142 := A_b142.keep K186 (ninS ne_b142_b151 (ninS ne_b142_ta156 (ninS ne_b142_pa156 nin0)))
        replace A_b147 := A_b147.keep K186 (ninS ne_b147_b151 (ninS ne_b147_ta156 (ninS ne_b147_pa156 nin0)))
        replace E_b151 := E_b151.keep K186
        have F_b151_times : Fld Z h186 b151 "com/example/steady_limiter/steadylimiter/SlidingWindowLog$PermitLog" "times" "[J" (.ref ta156) := N186_0
        have F_b151_permits : Fld Z h186 b151 "com/example/steady_limiter/steadylimiter/SlidingWindowLog$PermitLog" "permits" "[J" (.ref pa156) := N186_1
        have F_b151_head : Fld Z h186 b151 "com/example/steady_limiter/steadylimiter/SlidingWindowLog$PermitLog" "head" "I" (.int (0 : Int32)) := N186_2
        have F_b151_size : Fld Z h186 b151 "com/example/steady_limiter/steadylimiter/SlidingWindowLog$PermitLog" "size" "I" (.int ((0 : Int32) + (1 : Int32))) := N186_3
        have F_b151_counted : Fld Z h186 b151 "com/example/steady_limiter/steadylimiter/SlidingWindowLog$PermitLog" "counted" "J" (.long ((0 : Int64) + v7)) := N186_4
        have A_ta156 : AJ Z h186 ta156 [p1, (0 : Int64)] := N186_5
        have A_pa156 : AJ Z h186 pa156 [v7, (0 : Int64)] := N186_6
        replace K := K.trans K186 (allS (Or.inr sz_b151) (allS (Or.inr sz_ta156) (allS (Or.inr sz_pa156) all0)))
        refine C.aload (pc' := 191) at_189 rfl rfl rfl ?_
        refine C.lload (pc' := 193) at_191 rfl rfl ?_
        refine C.lload (pc' := 195) at_193 rfl rfl ?_
        refine C.callv (w := 0) (own_addA l Z a0 hw n0 h186 b151 v105 v17 ta156 pa156 (0 : Int32) ((0 : Int32) + (1 : Int32)) ((0 : Int64) + v7) [p1, (0 : Int64)] [v7, (0 : Int64)] (2 : Int32) 0 (Nat.le_trans Z0 K.1) E_b151 F_b151_times F_b151_permits F_b151_head F_b151_size F_b151_counted A_ta156 A_pa156 g_b151 g_ta156 g_pa156 ne_b151_ta156 ne_b151_pa156 ne_ta156_pa156 (show (2 : Int32).toInt = ((2 : Nat) : Int) from by decide) (by decide) (by decide) (show 0 < 2 from by decide) (show 0 < 2 from by decide) (own_eq e105)) E_b151 (ow22 hw) (ow23 hw) (ow25 hw) (ow24 hw) (ow4 hw) (ow26 hw) (pc' := 198) at_195 rfl rfl rfl (by decide) pd__JJ_V rfl (by decide) (Nat.le_of_eq rfl) (by decide) (by decide) (by decide) (kV fun h195 q195 => ?_)
        obtain ⟨K195, N195_0, N195_1, N195_2, N195_3, N195_4, N195_5⟩ := q195
        replace A_b142 := A_b142.keep K195 (ninS ne_b142_b151 (ninS ne_b142_pa156 nin0))
        replace A_b147 := A_b147.keep K195 (ninS ne_b147_b151 (ninS ne_b147_pa156 nin0))
        replace E_b151 := E_b151.keep K195
        replace A_ta156 := A_ta156.keep K195 (ninS (Ne.symm ne_b151_ta156) (ninS ne_ta156_pa156 nin0))
        have F_b151_times : Fld Z h195 b151 "com/example/steady_limiter/steadylimiter/SlidingWindowLog$PermitLog" "times" "[J" (.ref ta156) := N195_0
        have F_b151_permits : Fld Z h195 b151 "com/example/steady_limiter/steadylimiter/SlidingWindowLog$PermitLog" "permits" "[J" (.ref pa156) := N195_1
        have F_b151_head : Fld Z h195 b151 "com/example/steady_limiter/steadylimiter/SlidingWindowLog$PermitLog" "head" "I" (.int (0 : Int32)) := N195_2
        have F_b151_size : Fld Z h195 b151 "com/example/steady_limiter/steadylimiter/SlidingWindowLog$PermitLog" "size" "I" (.int ((0 : Int32) + (1 : Int32))) := N195_3
        have F_b151_counted : Fld Z h195 b151 "com/example/steady_limiter/steadylimiter/SlidingWindowLog$PermitLog" "counted" "J" (.long (((0 : Int64) + v7) + v17)) := N195_4
        have A_pa156 : AJ Z h195 pa156 [(v7 + v17), (0 : Int64)] := N195_5
        replace K := K.trans K195 (allS (Or.inr sz_b151) (allS (Or.inr sz_pa156) all0))
        refine C.aload (pc' := 200) at_198 rfl rfl rfl ?_
        refine C.lload (pc' := 202) at_200 rfl rfl ?_
        refine C.lload (pc' := 204) at_202 rfl rfl ?_
        refine C.callv (w := 0) (own_addA l Z a0 hw n0 h195 b151 v112 v27 ta156 pa156 (0 : Int32) ((0 : Int32) + (1 : Int32)) (((0 : Int64) + v7) + v17) [p1, (0 : Int64)] [(v7 + v17), (0 : Int64)] (2 : Int32) 0 (Nat.le_trans Z0 K.1) E_b151 F_b151_times F_b151_permits F_b151_head F_b151_size F_b151_counted A_ta156 A_pa156 g_b151 g_ta156 g_pa156 ne_b151_ta156 ne_b151_pa156 ne_ta156_pa156 (show (2 : Int32).toInt = ((2 : Nat) : Int) from by decide) (by decide) (by decide) (show 0 < 2 from by decide) (show 0 < 2 from by decide) (own_eq (own_sub e105 e112))) E_b151 (ow22 hw) (ow23 hw) (ow25 hw) (ow24 hw) (ow4 hw) (ow26 hw) (pc' := 207) at_204 rfl rfl rfl (by decide) pd__JJ_V rfl (by decide) (Nat.le_of_eq rfl) (by decide) (by decide) (by decide) (kV fun h204 q204 => ?_)
        obtain ⟨K204, N204_0, N204_1, N204_2, N204_3, N204_4, N204_5⟩ := q204
        replace A_b142 := A_b142.keep K204 (ninS ne_b142_b151 (ninS ne_b142_pa156 nin0))
        replace A_b147 := A_b147.keep K204 (ninS ne_b147_b151 (ninS ne_b147_pa156 nin0))
        replace E_b151 := E_b151.keep K204
        replace A_ta156 := A_ta156.keep K204 (ninS (Ne.symm ne_b151_ta156) (ninS ne_ta156_pa156 nin0))
        have F_b151_times : Fld Z h204 b151 "com/example/steady_limiter/steadylimiter/SlidingWindowLog$PermitLog" "times" "[J" (.ref ta156) := N204_0
        have F_b151_permits : Fld Z h204 b151 "com/example/steady_limiter/steadylimiter/SlidingWindowLog$PermitLog" "permits" "[J" (.ref pa156) := N204_1
        have F_b151_head : Fld Z h204 b151 "com/example/steady_limiter/steadylimiter/SlidingWindowLog$PermitLog" "head" "I" (.int (0 : Int32)) := N204_2
        have F_b151_size : Fld Z h204 b151 "com/example/steady_limiter/steadylimiter/SlidingWindowLog$PermitLog" "size" "I" (.int ((0 : Int32) + (1 : Int32))) := N204_3
        have F_b151_counted : Fld Z h204 b151 "com/example/steady_limiter/steadylimiter/SlidingWindowLog$PermitLog" "counted" "J" (.long ((((0 : Int64) + v7) + v17) + v27)) := N204_4
        have A_pa156 : AJ Z h204 pa156 [((v7 + v17) + v27), (0 : Int64)] := N204_5
        replace K := K.trans K204 (allS (Or.inr sz_b151) (allS (Or.inr sz_pa156) all0))
        refine C.aload (pc' := 209) at_207 rfl rfl rfl ?_
        refine C.iconst (v := 0) (pc' := 210) at_209 rfl rfl ?_
        refine C.lloadN (pc' := 211) at_210 rfl rfl ?_
        refine C.stAJ (i := 0) A_b142 (by decide) (by show 0 < 3; decide) g_b142 (pc' := 212) at_211 rfl (fun h211 X211 B211 => ?_)
        replace A_b147 := A_b147.other X211 (Ne.symm ne_b142_b147)
        replace E_b151 := E_b151.wr X211
        replace A_ta156 := A_ta156.other X211 (Ne.symm ne_b142_ta156)
        replace F_b151_times := F_b151_times.other X211 (Or.inl (Ne.symm ne_b142_b151))
        replace F_b151_permits := F_b151_permits.other X211 (Or.inl (Ne.symm ne_b142_b151))
        replace F_b151_head := F_b151_head.other X211 (Or.inl (Ne.symm ne_b142_b151))
        replace F_b151_size := F_b151_size.other X211 (Or.inl (Ne.symm ne_b142_b151))
        replace F_b151_counted := F_b151_counted.other X211 (Or.inl (Ne.symm ne_b142_b151))
        replace A_pa156 := A_pa156.other X211 (Ne.symm ne_b142_pa156)
        have A_b142 : AJ Z h211 b142 [p1, (0 : Int64), (0 : Int64)] := B211
        replace K := K.wr X211 (Or.inr sz_b142)
        refine C.aload (pc' := 214) at_212 rfl rfl rfl ?_
        refine C.iconst (v := 0) (pc' := 215) at_214 rfl rfl ?_
        refine C.lload (pc' := 217) at_215 rfl rfl ?_
        refine C.stAJ (i := 0) A_b147 (by decide) (by show 0 < 3; decide) g_b147 (pc' := 218) at_217 rfl (fun h217 X217 B217 => ?_)
        replace E_b151 := E_b151.wr X217
        replace A_ta156 := A_ta156.other X217 (Ne.symm ne_b147_ta156)
        replace F_b151_times := F_b151_times.other X217 (Or.inl (Ne.symm ne_b147_b151))
        replace F_b151_permits := F_b151_permits.other X217 (Or.inl (Ne.symm ne_b147_b151))
        replace F_b151_head := F_b151_head.other X217 (Or.inl (Ne.symm ne_b147_b151))
        replace F_b151_size := F_b151_size.other X217 (Or.inl (Ne.symm ne_b147_b151))
        replace F_b151_counted := F_b151_counted.other X217 (Or.inl (Ne.symm ne_b147_b151))
        replace A_pa156 := A_pa156.other X217 (Ne.symm ne_b147_pa156)
        replace A_b142 := A_b142.other X217 ne_b142_b147
        have A_b147 : AJ Z h217 b147 [v7, (0 : Int64), (0 : Int64)] := B217
        replace K := K.wr X217 (Or.inr sz_b147)
        refine C.iconst (v := 1) (pc' := 219) at_218 rfl rfl ?_
        refine C.istoreX (l' := #[.val (.long p1), .second, .val (.int p2), .val (.long p3), .second, .val (.long p4), .second, .val (.long p5), .second, .val (.int p6), .val (.long v7), .second, .val (.long v17), .second, .val (.long v27), .second, .val (.int (1 : Int32)), .val (.long (0 : Int64)), .second, .val (.int (1 : Int32)), .val (.long (0 : Int64)), .second, .val (.long v105), .second, .val (.long v112), .second, .val (.int (0 : Int32)), .val (.long v139), .second, .val (.ref b142), .val (.ref b147), .val (.ref b151), .val (.int (1 : Int32)), .unset]) (pc' := 221) at_219 rfl rfl ?_
        refine C.aload (pc' := 223) at_221 rfl rfl rfl ?_
        refine C.aload (pc' := 225) at_223 rfl rfl rfl ?_
        refine C.iload (pc' := 227) at_225 rfl rfl ?_
        refine C.iload (pc' := 229) at_227 rfl rfl ?_
        refine C.lload (pc' := 231) at_229 rfl rfl ?_
        refine C.lload (pc' := 233) at_231 rfl rfl ?_
        refine C.calls (w := 0) (own_step1 l Z a0 hw n0 h217 b142 b147 (1 : Int32) (1 : Int32) v105 v17 [p1, (0 : Int64), (0 : Int64)] [v7, (0 : Int64), (0 : Int64)] 0 (Nat.le_trans Z0 K.1) A_b142 A_b147 g_b142 g_b147 ne_b142_b147 (by decide) (by decide) (show 0 < 3 from by decide)) (ow42 hw) (ow43 hw) (ow44 hw) (ow45 hw) (pc' := 236) at_233 rfl rfl rfl (by decide) pd___J_JIZJJ_I rfl (by decide) (Nat.le_of_eq rfl) (by decide) (by decide) (by decide) (kI fun r233 h233 q233 => ?_)
        obtain ⟨rfl, K233, N233_0⟩ := q233
        replace E_b151 := E_b151.keep K233
        replace A_ta156 := A_ta156.keep K233 (ninS (Ne.symm ne_b147_ta156) nin0)
        replace F_b151_times := F_b151_times.keep K233 (ninS (Ne.symm ne_b147_b151) nin0)
        replace F_b151_permits := F_b151_permits.keep K233 (ninS (Ne.symm ne_b147_b151) nin0)
        replace F_b151_head := F_b151_head.keep K233 (ninS (Ne.symm ne_b147_b151) nin0)
        replace F_b151_size := F_b151_size.keep K233 (ninS (Ne.symm ne_b147_b151) nin0)
        replace F_b151_counted := F_b151_counted.keep K233 (ninS (Ne.symm ne_b147_b151) nin0)
        replace A_pa156 := A_pa156.keep K233 (ninS (Ne.symm ne_b147_pa156) nin0)
        replace A_b142 := A_b142.keep K233 (ninS ne_b142_b147 nin0)
        have A_b147 : AJ Z h233 b147 [(v7 + v17), (0 : Int64), (0 : Int64)] := N233_0
        replace K := K.trans K233 (allS (Or.inr sz_b147) all0)
        refine C.istoreX (l' := #[.val (.long p1), .second, .val (.int p2), .val (.long p3), .second, .val (.long p4), .second, .val (.long p5), .second, .val (.int p6), .val (.long v7), .second, .val (.long v17), .second, .val (.long v27), .second, .val (.int (1 : Int32)), .val (.long (0 : Int64)), .second, .val (.int (1 : Int32)), .val (.long (0 : Int64)), .second, .val (.long v105), .second, .val (.long v112), .second, .val (.int (0 : Int32)), .val (.long v139), .second, .val (.ref b142), .val (.ref b147), .val (.ref b151), .val (.int (1 : Int32)), .unset]) (pc' := 238) at_236 rfl rfl ?_
        refine C.aload (pc' := 240) at_238 rfl rfl rfl ?_
        refine C.aload (pc' := 242) at_240 rfl rfl rfl ?_
        refine C.iload (pc' := 244) at_242 rfl rfl ?_
        refine C.iload (pc' := 246) at_244 rfl rfl ?_
        refine C.lload (pc' := 248) at_246 rfl rfl ?_
        refine C.lload (pc' := 250) at_248 rfl rfl ?_
        refine C.calls (w := 0) (own_step1 l Z a0 hw n0 h233 b142 b147 (1 : Int32) (1 : Int32) v112 v27 [p1, (0 : Int64), (0 : Int64)] [(v7 + v17), (0 : Int64), (0 : Int64)] 0 (Nat.le_trans Z0 K.1) A_b142 A_b147 g_b142 g_b147 ne_b142_b147 (by decide) (by decide) (show 0 < 3 from by decide)) (ow42 hw) (ow43 hw) (ow44 hw) (ow45 hw) (pc' := 253) at_250 rfl rfl rfl (by decide) pd___J_JIZJJ_I rfl (by decide) (Nat.le_of_eq rfl) (by decide) (by decide) (by decide) (kI fun r250 h250 q250 => ?_)
        obtain ⟨rfl, K250, N250_0⟩ := q250
        replace E_b151 := E_b151.keep K250
        replace A_ta156 := A_ta156.keep K250 (ninS (Ne.symm ne_b147_ta156) nin0)
        replace F_b151_times := F_b151_times.keep K250 (ninS (Ne.symm ne_b147_b151) nin0)
        replace F_b151_permits := F_b151_permits.keep K250 (ninS (Ne.symm ne_b147_b151) nin0)
        replace F_b151_head := F_b151_head.keep K250 (ninS (Ne.symm ne_b147_b151) nin0)
        replace F_b151_size := F_b151_size.keep K250 (ninS (Ne.symm ne_b147_b151) nin0)
        replace F_b151_counted := F_b151_counted.keep K250 (ninS (Ne.symm ne_b147_b151) nin0)
        replace A_pa156 := A_pa156.keep K250 (ninS (Ne.symm ne_b147_pa156) nin0)
        replace A_b142 := A_b142.keep K250 (ninS ne_b142_b147 nin0)
        have A_b147 : AJ Z h250 b147 [((v7 + v17) + v27), (0 : Int64), (0 : Int64)] := N250_0
        replace K := K.trans K250 (allS (Or.inr sz_b147) all0)
        refine C.istoreX (l' := #[.val (.long p1), .second, .val (.int p2), .val (.long p3), .second, .val (.long p4), .second, .val (.long p5), .second, .val (.int p6), .val (.long v7), .second, .val (.long v17), .second, .val (.long v27), .second, .val (.int (1 : Int32)), .val (.long (0 : Int64)), .second, .val (.int (1 : Int32)), .val (.long (0 : Int64)), .second, .val (.long v105), .second, .val (.long v112), .second, .val (.int (0 : Int32)), .val (.long v139), .second, .val (.ref b142), .val (.ref b147), .val (.ref b151), .val (.int (1 : Int32)), .unset]) (pc' := 255) at_253 rfl rfl ?_
        refine C.aload (pc' := 257) at_255 rfl rfl rfl ?_
        refine C.getf (ow46 hw) Via.refl F_b151_size (pc' := 260) at_257 rfl ?_
        refine C.iload (pc' := 262) at_260 rfl rfl ?_
        refine C.icmp_ne (pc' := 265) (pt := 286) at_262 rfl rfl (fun c262 => absurd (by decide) c262) (fun c262 => ?_)
        refine C.aload (pc' := 267) at_265 rfl rfl rfl ?_
        refine C.getf (ow47 hw) Via.refl F_b151_counted (pc' := 270) at_267 rfl ?_
        refine C.lload (pc' := 272) at_270 rfl rfl ?_
        refine C.lload (pc' := 274) at_272 rfl rfl ?_
        refine C.ladd (pc' := 275) at_274 rfl ?_
        refine C.lload (pc' := 277) at_275 rfl rfl ?_
        refine C.ladd (pc' := 278) at_277 rfl ?_
        refine C.lif_ne (pc' := 282) (pt := 286) at_278 rfl at_279 rfl rfl (fun c278 => absurd own_auto341 c278) (fun c278 => ?_)
        refine C.iconst (v := 1) (pc' := 283) at_282 rfl rfl ?_
        refine C.goto (pc' := 287) at_283 rfl ?_
        refine C.istoreX (l' := #[.val (.long p1), .second, .val (.int p2), .val (.long p3), .second, .val (.long p4), .second, .val (.long p5), .second, .val (.int p6), .val (.long v7), .second, .val (.long v17), .second, .val (.long v27), .second, .val (.int (1 : Int32)), .val (.long (0 : Int64)), .second, .val (.int (1 : Int32)), .val (.long (0 : Int64)), .second, .val (.long v105), .second, .val (.long v112), .second, .val (.int (0 : Int32)), .val (.long v139), .second, .val (.ref b142), .val (.ref b147), .val (.ref b151), .val (.int (1 : Int32)), .val (.int (1 : Int32))]) (pc' := 289) at_287 rfl rfl ?_
        refine C.iload (pc' := 291) at_289 rfl rfl ?_
        refine C.if_eq (pc' := 294) (pt := 326) at_291 rfl rfl (fun c291 => absurd c291 (by decide)) (fun c291 => ?_)
        refine C.aload (pc' := 296) at_294 rfl rfl rfl ?_
        refine C.iconst (v := 0) (pc' := 297) at_296 rfl rfl ?_
        refine C.callv (w := 0) (own_rm6 l Z a0 hw n0 h250 b151 (0 : Int32) ta156 (0 : Int32) [p1, (0 : Int64)] (2 : Int32) 0 E_b151 F_b151_head F_b151_times A_ta156 (show (2 : Int32).toInt = ((2 : Nat) : Int) from by decide) (by decide) (show 0 < 2 from by decide)) E_b151 (ow48 hw) (ow38 hw) (ow40 hw) (ow39 hw) (ow4 hw) (ow41 hw) (pc' := 300) at_297 rfl rfl rfl (by decide) pd__I_J rfl (by decide) (Nat.le_of_eq rfl) (by decide) (by decide) (by decide) (kJe ?_)
        refine C.aload (pc' := 302) at_300 rfl rfl rfl ?_
        refine C.iconst (v := 0) (pc' := 303) at_302 rfl rfl ?_
        refine C.ldAJ (i := 0) (v := p1) A_b142 (by decide) rfl (pc' := 304) at_303 rfl ?_
        refine C.lif_ne (pc' := 308) (pt := 326) at_304 rfl at_305 rfl rfl (fun c304 => absurd rfl c304) (fun c304 => ?_)
        refine C.aload (pc' := 310) at_308 rfl rfl rfl ?_
        refine C.iconst (v := 0) (pc' := 311) at_310 rfl rfl ?_
        refine C.callv (w := 0) (own_rm8 l Z a0 hw n0 h250 b151 (0 : Int32) ta156 pa156 (0 : Int32) [p1, (0 : Int64)] [((v7 + v17) + v27), (0 : Int64)] (2 : Int32) 0 E_b151 F_b151_head F_b151_times F_b151_permits A_ta156 A_pa156 (show (2 : Int32).toInt = ((2 : Nat) : Int) from by decide) (by decide) (show 0 < 2 from by decide)) E_b151 (ow49 hw) (ow50 hw) (ow52 hw) (ow51 hw) (ow4 hw) (ow53 hw) (pc' := 314) at_311 rfl rfl rfl (by decide) pd__I_J rfl (by decide) (Nat.le_of_eq rfl) (by decide) (by decide) (by decide) (kJe ?_)
        refine C.aload (pc' := 316) at_314 rfl rfl rfl ?_
        refine C.iconst (v := 0) (pc' := 317) at_316 rfl rfl ?_
        refine C.ldAJ (i := 0) (v := ((v7 + v17) + v27)) A_b147 (by decide) rfl (pc' := 318) at_317 rfl ?_
        refine C.lif_ne (pc' := 322) (pt := 326) at_318 rfl at_319 rfl rfl (fun c318 => absurd rfl c318) (fun c318 => ?_)
        refine C.iconst (v := 1) (pc' := 323) at_322 rfl rfl ?_
        refine C.goto (pc' := 327) at_323 rfl ?_
        refine C.istoreX (l' := #[.val (.long p1), .second, .val (.int p2), .val (.long p3), .second, .val (.long p4), .second, .val (.long p5), .second, .val (.int p6), .val (.long v7), .second, .val (.long v17), .second, .val (.long v27), .second, .val (.int (1 : Int32)), .val (.long (0 : Int64)), .second, .val (.int (1 : Int32)), .val (.long (0 : Int64)), .second, .val (.long v105), .second, .val (.long v112), .second, .val (.int (0 : Int32)), .val (.long v139), .second, .val (.ref b142), .val (.ref b147), .val (.ref b151), .val (.int (1 : Int32)), .val (.int (1 : Int32))]) (pc' := 329) at_327 rfl rfl ?_
        refine C.iload (pc' := 331) at_329 rfl rfl ?_
        refine C.iconst (v := 1) (pc' := 332) at_331 rfl rfl ?_
        refine C.icmp_le (pc' := 335) (pt := 375) at_332 rfl rfl (fun c332 => ?_) (fun c332 => absurd c332 (by decide))
        refine C.iload (pc' := 377) at_375 rfl rfl ?_
        refine C.iconst (v := 2) (pc' := 378) at_377 rfl rfl ?_
        refine C.icmp_le (pc' := 381) (pt := 421) at_378 rfl rfl (fun c378 => ?_) (fun c378 => absurd c378 (by decide))
        refine C.iload (pc' := 423) at_421 rfl rfl ?_
        refine C.retZ (show ret = some .boolean from rfl) (by decide) at_423 (by decide) (by decide) ⟨_, rfl, rfl⟩
      · skip
        refine C.iconst (v := 1) (pc' := 122) at_121 rfl rfl ?_
        refine C.goto (pc' := 126) at_122 rfl ?_
        refine C.istoreX (l' := #[.val (.long p1), .second, .val (.int p2), .val (.long p3), .second, .val (.long p4), .second, .val (.long p5), .second, .val (.int p6), .val (.long v7), .second, .val (.long v17), .second, .val (.long v27), .second, .val (.int (1 : Int32)), .val (.long (0 : Int64)), .second, .val (.int (1 : Int32)), .val (.long (0 : Int64)), .second, .val (.long v105), .second, .val (.long v112), .second, .val (.int (1 : Int32)), .unset, .unset, .unset, .unset, .unset, .unset, .unset]) (pc' := 128) at_126 rfl rfl ?_
        refine C.iload (pc' := 130) at_128 rfl rfl ?_
        refine C.iconst (v := 1) (pc' := 131) at_130 rfl rfl ?_
        refine C.iushr (s := 1) (pc' := 132) at_131 rfl (by decide) ?_
        refine C.sipush (v := 255) (pc' := 135) at_132 rfl rfl ?_
        refine C.iand (pc' := 136) at_135 rfl ?_
        refine C.i2l (pc' := 137) at_136 rfl ?_
        refine C.lconst (v := 1) (pc' := 138) at_137 rfl rfl ?_
        refine C.ladd (pc' := 139) at_138 rfl ?_
        refine C.lstore (f := fun v_ => #[.val (.long p1), .second, .val (.int p2), .val (.long p3), .second, .val (.long p4), .second, .val (.long p5), .second, .val (.int p6), .val (.long v7), .second, .val (.long v17), .second, .val (.long v27), .second, .val (.int (1 : Int32)), .val (.long (0 : Int64)), .second, .val (.int (1 : Int32)), .val (.long (0 : Int64)), .second, .val (.long v105), .second, .val (.long v112), .second, .val (.int (1 : Int32)), .val (.long v_), .second, .unset, .unset, .unset, .unset, .unset]) (pc' := 141) at_139 rfl (fun _ => rfl) (fun v139 e139 => ?_)
        refine C.iconst (v := 3) (pc' := 142) at_141 rfl rfl ?_
        refine C.newAJ (N := 3) (cap := 3) (ow1 hw) (pc' := 144) at_142 rfl (by decide) (by decide) (by decide) (by decide) (by decide) (fun h142 b142 hb142 X142 A_b142 => ?_)
        have sz_b142 : hO.size ≤ b142 := by rw [hb142]; exact K.1
        have g_b142 : n0 ≤ b142 := Nat.le_trans Z0 sz_b142
        replace K := K.ext X142
        replace A_b142 : AJ Z h142 b142 [(0 : Int64), (0 : Int64), (0 : Int64)] := A_b142
        refine C.astore (l' := #[.val (.long p1), .second, .val (.int p2), .val (.long p3), .second, .val (.long p4), .second, .val (.long p5), .second, .val (.int p6), .val (.long v7), .second, .val (.long v17), .second, .val (.long v27), .second, .val (.int (1 : Int32)), .val (.long (0 : Int64)), .second, .val (.int (1 : Int32)), .val (.long (0 : Int64)), .second, .val (.long v105), .second, .val (.long v112), .second, .val (.int (1 : Int32)), .val (.long v139), .second, .val (.ref b142), .unset, .unset, .unset, .unset]) (pc' := 146) at_144 rfl rfl rfl ?_
        refine C.iconst (v := 3) (pc' := 147) at_146 rfl rfl ?_
        refine C.newAJ (N := 3) (cap := 3) (ow1 hw) (pc' := 149) at_147 rfl (by decide) (by decide) (by decide) (by decide) (by decide) (fun h147 b147 hb147 X147 A_b147 => ?_)
        have ne_b142_b147 : b142 ≠ b147 := by rw [hb147]; exact Nat.ne_of_lt A_b142.lt
        have sz_b147 : hO.size ≤ b147 := by rw [hb147]; exact K.1
        have g_b147 : n0 ≤ b147 := Nat.le_trans Z0 sz_b147
        replace A_b142 := A_b142.ext X147
        replace K := K.ext X147
        replace A_b147 : AJ Z h147 b147 [(0 : Int64), (0 : Int64), (0 : Int64)] := A_b147
        refine C.astore (l' := #[.val (.long p1), .second, .val (.int p2), .val (.long p3), .second, .val (.long p4), .second, .val (.long p5), .second, .val (.int p6), .val (.long v7), .second, .val (.long v17), .second, .val (.long v27), .second, .val (.int (1 : Int32)), .val (.long (0 : Int64)), .second, .val (.int (1 : Int32)), .val (.long (0 : Int64)), .second, .val (.long v105), .second, .val (.long v112), .second, .val (.int (1 : Int32)), .val (.long v139), .second, .val (.ref b142), .val (.ref b147), .unset, .unset, .unset]) (pc' := 151) at_149 rfl rfl rfl ?_
        refine C.new (ow2 hw) (ow3 hw) (ow4 hw) (pc' := 154) at_151 rfl (by decide) (by decide) (fun h151 b151 hb151 X151 E_b151 D151 => ?_)
        have ne_b142_b151 : b142 ≠ b151 := by rw [hb151]; exact Nat.ne_of_lt A_b142.lt
        have ne_b147_b151 : b147 ≠ b151 := by rw [hb151]; exact Nat.ne_of_lt A_b147.lt
        have sz_b151 : hO.size ≤ b151 := by rw [hb151]; exact K.1
        have g_b151 : n0 ≤ b151 := Nat.le_trans Z0 sz_b151
        replace A_b142 := A_b142.ext X151
        replace A_b147 := A_b147.ext X151
        replace K := K.ext X151
        have F_b151_lastNanos : Fld Z h151 b151 "com/example/steady_limiter/steadylimiter/KeyState" "lastNanos" "J" (.long (0 : Int64)) := D151 (Or.inl (ow17 hw)) pf_J
        have F_b151_times : Fld Z h151 b151 "com/example/steady_limiter/steadylimiter/SlidingWindowLog$PermitLog" "times" "[J" .null := D151 (Or.inl (ow19 hw)) pf__J
        have F_b151_permits : Fld Z h151 b151 "com/example/steady_limiter/steadylimiter/SlidingWindowLog$PermitLog" "permits" "[J" .null := D151 (Or.inl (ow21 hw)) pf__J
        have F_b151_size : Fld Z h151 b151 "com/example/steady_limiter/steadylimiter/SlidingWindowLog$PermitLog" "size" "I" (.int (0 : Int32)) := D151 (Or.inl (ow28 hw)) pf_I
        have F_b151_head : Fld Z h151 b151 "com/example/steady_limiter/steadylimiter/SlidingWindowLog$PermitLog" "head" "I" (.int (0 : Int32)) := D151 (Or.inl (ow34 hw)) pf_I
        have F_b151_counted : Fld Z h151 b151 "com/example/steady_limiter/steadylimiter/SlidingWindowLog$PermitLog" "counted" "J" (.long (0 : Int64)) := D151 (Or.inl (ow36 hw)) pf_J
        refine C.dup (pc' := 155) at_154 rfl rfl ?_
        refine C.lloadN (pc' := 156) at_155 rfl rfl ?_
        refine C.callc (w := 1) (own_rm1 l Z a0 hw n0 h151 b151 p1 (Nat.le_trans Z0 K.1) E_b151 F_b151_lastNanos F_b151_times F_b151_permits F_b151_head F_b151_size F_b151_counted g_b151) rfl (ow5 hw) (ow6 hw) (ow4 hw) (ow7 hw) (pc' := 159) at_156 rfl rfl rfl (by decide) pd__J_V rfl (by decide) (Nat.le_of_eq rfl) (by decide) (by decide) (by decide) (kV fun h156 q156 => ?_)
        obtain ⟨ta156, pa156, K156, z156_ta156, z156_pa156, ne_ta156_pa156, N156_0, N156_1, N156_2, N156_3, N156_4, N156_5, N156_6⟩ := q156
        have ne_b142_ta156 : b142 ≠ ta156 := Nat.ne_of_lt (Nat.lt_of_lt_of_le A_b142.lt z156_ta156)
        have ne_b147_ta156 : b147 ≠ ta156 := Nat.ne_of_lt (Nat.lt_of_lt_of_le A_b147.lt z156_ta156)
        have ne_b151_ta156 : b151 ≠ ta156 := Nat.ne_of_lt (Nat.lt_of_lt_of_le (exaLt E_b151) z156_ta156)
        have sz_ta156 : hO.size ≤ ta156 := Nat.le_trans K.1 z156_ta156
        have g_ta156 : n0 ≤ ta156 := Nat.le_trans Z0 sz_ta156
        have ne_b142_pa156 : b142 ≠ pa156 := Nat.ne_of_lt (Nat.lt_of_lt_of_le A_b142.lt z156_pa156)
        have ne_b147_pa156 : b147 ≠ pa156 := Nat.ne_of_lt (Nat.lt_of_lt_of_le A_b147.lt z156_pa156)
        have ne_b151_pa156 : b151 ≠ pa156 := Nat.ne_of_lt (Nat.lt_of_lt_of_le (exaLt E_b151) z156_pa156)
        have sz_pa156 : hO.size ≤ pa156 := Nat.le_trans K.1 z156_pa156
        have g_pa156 : n0 ≤ pa156 := Nat.le_trans Z0 sz_pa156
        replace A_b142 := A_b142.keep K156 (ninS ne_b142_b151 nin0)
        replace A_b147 := A_b147.keep K156 (ninS ne_b147_b151 nin0)
        replace E_b151 := E_b151.keep K156
        have F_b151_times : Fld Z h156 b151 "com/example/steady_limiter/steadylimiter/SlidingWindowLog$PermitLog" "times" "[J" (.ref ta156) := N156_0
        have F_b151_permits : Fld Z h156 b151 "com/example/steady_limiter/steadylimiter/SlidingWindowLog$PermitLog" "permits" "[J" (.ref pa156) := N156_1
        have F_b151_head : Fld Z h156 b151 "com/example/steady_limiter/steadylimiter/SlidingWindowLog$PermitLog" "head" "I" (.int (0 : Int32)) := N156_2
        have F_b151_size : Fld Z h156 b151 "com/example/steady_limiter/steadylimiter/SlidingWindowLog$PermitLog" "size" "I" (.int (0 : Int32)) := N156_3
        have F_b151_counted : Fld Z h156 b151 "com/example/steady_limiter/steadylimiter/SlidingWindowLog$PermitLog" "counted" "J" (.long (0 : Int64)) := N156_4
        have A_ta156 : AJ Z h156 ta156 [(0 : Int64), (0 : Int64)] := N156_5
        have A_pa156 : AJ Z h156 pa156 [(0 : Int64), (0 : Int64)] := N156_6
        replace K := K.trans K156 (allS (Or.inr sz_b151) all0)
        refine C.astore (l' := #[.val (.long p1), .second, .val (.int p2), .val (.long p3), .second, .val (.long p4), .second, .val (.long p5), .second, .val (.int p6), .val (.long v7), .second, .val (.long v17), .second, .val (.long v27), .second, .val (.int (1 : Int32)), .val (.long (0 : Int64)), .second, .val (.int (1 : Int32)), .val (.long (0 : Int64)), .second, .val (.long v105), .second, .val (.long v112), .second, .val (.int (1 : Int32)), .val (.long v139), .second, .val (.ref b142), .val (.ref b147), .val (.ref b151), .unset, .unset]) (pc' := 161) at_159 rfl rfl rfl ?_
        refine C.iload (pc' := 163) at_161 rfl rfl ?_
        refine C.if_eq (pc' := 166) (pt := 181) at_163 rfl rfl (fun c163 => absurd c163 (by decide)) (fun c163 => ?_)
        refine C.aload (pc' := 168) at_166 rfl rfl rfl ?_
        refine C.lloadN (pc' := 169) at_168 rfl rfl ?_
        refine C.lconst (v := 1) (pc' := 170) at_169 rfl rfl ?_
        refine C.lsub (pc' := 171) at_170 rfl ?_
        refine C.lload (pc' := 173) at_171 rfl rfl ?_
        refine C.callv (w := 0) (own_addB0 l Z a0 hw n0 h156 b151 (p1 - (1 : Int64)) v139 ta156 pa156 (0 : Int32) (0 : Int32) (0 : Int64) [(0 : Int64), (0 : Int64)] [(0 : Int64), (0 : Int64)] (2 : Int32) 0 (Nat.le_trans Z0 K.1) E_b151 F_b151_times F_b151_permits F_b151_head F_b151_size F_b151_counted A_ta156 A_pa156 g_b151 g_ta156 g_pa156 ne_b151_ta156 ne_b151_pa156 ne_ta156_pa156 (show (2 : Int32).toInt = ((2 : Nat) : Int) from by decide) (by decide) (by decide) (show 0 < 2 from by decide) (show 0 < 2 from by decide) (by decide)) E_b151 (ow22 hw) (ow23 hw) (ow25 hw) (ow24 hw) (ow4 hw) (ow26 hw) (pc' := 176) at_173 rfl rfl rfl (by decide) pd__JJ_V rfl (by decide) (Nat.le_of_eq rfl) (by decide) (by decide) (by decide) (kV fun h173 q173 => ?_)
        obtain ⟨K173, N173_0, N173_1, N173_2, N173_3, N173_4, N173_5, N173_6⟩ := q173
        replace A_b142 := A_b142.keep K173 (ninS ne_b142_b151 (ninS ne_b142_ta156 (ninS ne_b142_pa156 nin0)))
        replace A_b147 := A_b147.keep K173 (ninS ne_b147_b151 (ninS ne_b147_ta156 (ninS ne_b147_pa156 nin0)))
        replace E_b151 := E_b151.keep K173
        have F_b151_times : Fld Z h173 b151 "com/example/steady_limiter/steadylimiter/SlidingWindowLog$PermitLog" "times" "[J" (.ref ta156) := N173_0
        have F_b151_permits : Fld Z h173 b151 "com/example/steady_limiter/steadylimiter/SlidingWindowLog$PermitLog" "permits" "[J" (.ref pa156) := N173_1
        have F_b151_head : Fld Z h173 b151 "com/example/steady_limiter/steadylimiter/SlidingWindowLog$PermitLog" "head" "I" (.int (0 : Int32)) := N173_2
        have F_b151_size : Fld Z h173 b151 "com/example/steady_limiter/steadylimiter/SlidingWindowLog$PermitLog" "size" "I" (.int ((0 : Int32) + (1 : Int32))) := N173_3
        have F_b151_counted : Fld Z h173 b151 "com/example/steady_limiter/steadylimiter/SlidingWindowLog$PermitLog" "counted" "J" (.long ((0 : Int64) + v139)) := N173_4
        have A_ta156 : AJ Z h173 ta156 [(p1 - (1 : Int64)), (0 : Int64)] := N173_5
        have A_pa156 : AJ Z h173 pa156 [v139, (0 : Int64)] := N173_6
        replace K := K.trans K173 (allS (Or.inr sz_b151) (allS (Or.inr sz_ta156) (allS (Or.inr sz_pa156) all0)))
        refine C.aload (pc' := 178) at_176 rfl rfl rfl ?_
        refine C.callv (w := 0) (own_drop0 l Z a0 hw n0 h173 b151 ta156 pa156 (0 : Int32) ((0 : Int32) + (1 : Int32)) ((0 : Int64) + v139) [(p1 - (1 : Int64)), (0 : Int64)] [v139, (0 : Int64)] (2 : Int32) 0 (Nat.le_trans Z0 K.1) E_b151 F_b151_times F_b151_permits F_b151_head F_b151_size F_b151_counted A_ta156 A_pa156 g_b151 ne_b151_ta156 ne_b151_pa156 (show (2 : Int32).toInt = ((2 : Nat) : Int) from by decide) (by decide) (show 0 < 2 from by decide) (Or.inr (by decide))) E_b151 (ow54 hw) (ow55 hw) (ow57 hw) (ow56 hw) (ow4 hw) (ow58 hw) (pc' := 181) at_178 rfl rfl rfl (by decide) pd___V rfl (by decide) (Nat.le_of_eq rfl) (by decide) (by decide) (by decide) (kV fun h178 q178 => ?_)
        obtain ⟨K178, N178_0, N178_1, N178_2, N178_3, N178_4⟩ := q178
        replace A_b142 := A_b142.keep K178 (ninS ne_b142_b151 nin0)
        replace A_b147 := A_b147.keep K178 (ninS ne_b147_b151 nin0)
        replace E_b151 := E_b151.keep K178
        replace A_ta156 := A_ta156.keep K178 (ninS (Ne.symm ne_b151_ta156) nin0)
        replace A_pa156 := A_pa156.keep K178 (ninS (Ne.symm ne_b151_pa156) nin0)
        have F_b151_times : Fld Z h178 b151 "com/example/steady_limiter/steadylimiter/SlidingWindowLog$PermitLog" "times" "[J" (.ref ta156) := N178_0
        have F_b151_permits : Fld Z h178 b151 "com/example/steady_limiter/steadylimiter/SlidingWindowLog$PermitLog" "permits" "[J" (.ref pa156) := N178_1
        have F_b151_head : Fld Z h178 b151 "com/example/steady_limiter/steadylimiter/SlidingWindowLog$PermitLog" "head" "I" (.int (((0 : Int32) + (1 : Int32)) &&& ((2 : Int32) - (1 : Int32)))) := N178_2
        have F_b151_size : Fld Z h178 b151 "com/example/steady_limiter/steadylimiter/SlidingWindowLog$PermitLog" "size" "I" (.int (((0 : Int32) + (1 : Int32)) - (1 : Int32))) := N178_3
        have F_b151_counted : Fld Z h178 b151 "com/example/steady_limiter/steadylimiter/SlidingWindowLog$PermitLog" "counted" "J" (.long (((0 : Int64) + v139) - v139)) := N178_4
        replace K := K.trans K178 (allS (Or.inr sz_b151) all0)
        refine C.aload (pc' := 183) at_181 rfl rfl rfl ?_
        refine C.lloadN (pc' := 184) at_183 rfl rfl ?_
        refine C.lload (pc' := 186) at_184 rfl rfl ?_
        refine C.callv (w := 0) (own_addB0 l Z a0 hw n0 h178 b151 p1 v7 ta156 pa156 (((0 : Int32) + (1 : Int32)) &&& ((2 : Int32) - (1 : Int32))) (((0 : Int32) + (1 : Int32)) - (1 : Int32)) (((0 : Int64) + v139) - v139) [(p1 - (1 : Int64)), (0 : Int64)] [v139, (0 : Int64)] (2 : Int32) 1 (Nat.le_trans Z0 K.1) E_b151 F_b151_times F_b151_permits F_b151_head F_b151_size F_b151_counted A_ta156 A_pa156 g_b151 g_ta156 g_pa156 ne_b151_ta156 ne_b151_pa156 ne_ta156_pa156 (show (2 : Int32).toInt = ((2 : Nat) : Int) from by decide) (by decide) (by decide) (show 1 < 2 from by decide) (show 1 < 2 from by decide) (by decide)) E_b151 (ow22 hw) (ow23 hw) (ow25 hw) (ow24 hw) (ow4 hw) (ow26 hw) (pc' := 189) at_186 rfl rfl rfl (by decide) pd__JJ_V rfl (by decide) (Nat.le_of_eq rfl) (by decide) (by decide) (by decide) (kV fun h186 q186 => ?_)
        obtain ⟨K186, N186_0, N186_1, N186_2, N186_3, N186_4, N186_5, N186_6⟩ := q186
        replace A_b142 := A_b142.keep K186 (ninS ne_b142_b151 (ninS ne_b142_ta156 (ninS ne_b142_pa156 nin0)))
        replace A_b147 := A_b147.keep K186 (ninS ne_b147_b151 (ninS ne_b147_ta156 (ninS ne_b147_pa156 nin0)))
        replace E_b151 := E_b151.keep K186
        have F_b151_times : Fld Z h186 b151 "com/example/steady_limiter/steadylimiter/SlidingWindowLog$PermitLog" "times" "[J" (.ref ta156) := N186_0
        have F_b151_permits : Fld Z h186 b151 "com/example/steady_limiter/steadylimiter/SlidingWindowLog$PermitLog" "permits" "[J" (.ref pa156) := N186_1
        have F_b151_head : Fld Z h186 b151 "com/example/steady_limiter/steadylimiter/SlidingWindowLog$PermitLog" "head" "I" (.int (((0 : Int32) + (1 : Int32)) &&& ((2 : Int32) - (1 : Int32)))) := N186_2
        have F_b151_size : Fld Z h186 b151 "com/example/steady_limiter/steadylimiter/SlidingWindowLog$PermitLog" "size" "I" (.int ((((0 : Int32) + (1 : Int32)) - (1 : Int32)) + (1 : Int32))) := N186_3
        have F_b151_counted : Fld Z h186 b151 "com/example/steady_limiter/steadylimiter/SlidingWindowLog$PermitLog" "counted" "J" (.long ((((0 : Int64) + v139) - v139) + v7)) := N186_4
        have A_ta156 : AJ Z h186 ta156 [(p1 - (1 : Int64)), p1] := N186_5
        have A_pa156 : AJ Z h186 pa156 [v139, v7] := N186_6
        replace K := K.trans K186 (allS (Or.inr sz_b151) (allS (Or.inr sz_ta156) (allS (Or.inr sz_pa156) all0)))
        refine C.aload (pc' := 191) at_189 rfl rfl rfl ?_
        refine C.lload (pc' := 193) at_191 rfl rfl ?_
        refine C.lload (pc' := 195) at_193 rfl rfl ?_
        refine C.callv (w := 0) (own_addA l Z a0 hw n0 h186 b151 v105 v17 ta156 pa156 (((0 : Int32) + (1 : Int32)) &&& ((2 : Int32) - (1 : Int32))) ((((0 : Int32) + (1 : Int32)) - (1 : Int32)) + (1 : Int32)) ((((0 : Int64) + v139) - v139) + v7) [(p1 - (1 : Int64)), p1] [v139, v7] (2 : Int32) 1 (Nat.le_trans Z0 K.1) E_b151 F_b151_times F_b151_permits F_b151_head F_b151_size F_b151_counted A_ta156 A_pa156 g_b151 g_ta156 g_pa156 ne_b151_ta156 ne_b151_pa156 ne_ta156_pa156 (show (2 : Int32).toInt = ((2 : Nat) : Int) from by decide) (by decide) (by decide) (show 1 < 2 from by decide) (show 1 < 2 from by decide) (own_eq e105)) E_b151 (ow22 hw) (ow23 hw) (ow25 hw) (ow24 hw) (ow4 hw) (ow26 hw) (pc' := 198) at_195 rfl rfl rfl (by decide) pd__JJ_V rfl (by decide) (Nat.le_of_eq rfl) (by decide) (by decide) (by decide) (kV fun h195 q195 => ?_)
        obtain ⟨K195, N195_0, N195_1, N195_2, N195_3, N195_4, N195_5⟩ := q195
        replace A_b142 := A_b142.keep K195 (ninS ne_b142_b151 (ninS ne_b142_pa156 nin0))
        replace A_b147 := A_b147.keep K195 (ninS ne_b147_b151 (ninS ne_b147_pa156 nin0))
        replace E_b151 := E_b151.keep K195
        replace A_ta156 := A_ta156.keep K195 (ninS (Ne.symm ne_b151_ta156) (ninS ne_ta156_pa156 nin0))
        have F_b151_times : Fld Z h195 b151 "com/example/steady_limiter/steadylimiter/SlidingWindowLog$PermitLog" "times" "[J" (.ref ta156) := N195_0
        have F_b151_permits : Fld Z h195 b151 "com/example/steady_limiter/steadylimiter/SlidingWindowLog$PermitLog" "permits" "[J" (.ref pa156) := N195_1
        have F_b151_head : Fld Z h195 b151 "com/example/steady_limiter/steadylimiter/SlidingWindowLog$PermitLog" "head" "I" (.int (((0 : Int32) + (1 : Int32)) &&& ((2 : Int32) - (1 : Int32)))) := N195_2
        have F_b151_size : Fld Z h195 b151 "com/example/steady_limiter/steadylimiter/SlidingWindowLog$PermitLog" "size" "I" (.int ((((0 : Int32) + (1 : Int32)) - (1 : Int32)) + (1 : Int32))) := N195_3
        have F_b151_counted : Fld Z h195 b151 "com/example/steady_limiter/steadylimiter/SlidingWindowLog$PermitLog" "counted" "J" (.long (((((0 : Int64) + v139) - v139) + v7) + v17)) := N195_4
        have A_pa156 : AJ Z h195 pa156 [v139, (v7 + v17)] := N195_5
        replace K := K.trans K195 (allS (Or.inr sz_b151) (allS (Or.inr sz_pa156) all0))
        refine C.aload (pc' := 200) at_198 rfl rfl rfl ?_
        refine C.lload (pc' := 202) at_200 rfl rfl ?_
        refine C.lload (pc' := 204) at_202 rfl rfl ?_
        refine C.callv (w := 0) (own_addA l Z a0 hw n0 h195 b151 v112 v27 ta156 pa156 (((0 : Int32) + (1 : Int32)) &&& ((2 : Int32) - (1 : Int32))) ((((0 : Int32) + (1 : Int32)) - (1 : Int32)) + (1 : Int32)) (((((0 : Int64) + v139) - v139) + v7) + v17) [(p1 - (1 : Int64)), p1] [v139, (v7 + v17)] (2 : Int32) 1 (Nat.le_trans Z0 K.1) E_b151 F_b151_times F_b151_permits F_b151_head F_b151_size F_b151_counted A_ta156 A_pa156 g_b151 g_ta156 g_pa156 ne_b151_ta156 ne_b151_pa156 ne_ta156_pa156 (show (2 : Int32).toInt = ((2 : Nat) : Int) from by decide) (by decide) (by decide) (show 1 < 2 from by decide) (show 1 < 2 from by decide) (own_eq (own_sub e105 e112))) E_b151 (ow22 hw) (ow23 hw) (ow25 hw) (ow24 hw) (ow4 hw) (ow26 hw) (pc' := 207) at_204 rfl rfl rfl (by decide) pd__JJ_V rfl (by decide) (Nat.le_of_eq rfl) (by decide) (by decide) (by decide) (kV fun h204 q204 => ?_)
        obtain ⟨K204, N204_0, N204_1, N204_2, N204_3, N204_4, N204_5⟩ := q204
        replace A_b142 := A_b142.keep K204 (ninS ne_b142_b151 (ninS ne_b142_pa156 nin0))
        replace A_b147 := A_b147.keep K204 (ninS ne_b147_b151 (ninS ne_b147_pa156 nin0))
        replace E_b151 := E_b151.keep K204
        replace A_ta156 := A_ta156.keep K204 (ninS (Ne.symm ne_b151_ta156) (ninS ne_ta156_pa156 nin0))
        have F_b151_times : Fld Z h204 b151 "com/example/steady_limiter/steadylimiter/SlidingWindowLog$PermitLog" "times" "[J" (.ref ta156) := N204_0
        have F_b151_permits : Fld Z h204 b151 "com/example/steady_limiter/steadylimiter/SlidingWindowLog$PermitLog" "permits" "[J" (.ref pa156) := N204_1
        have F_b151_head : Fld Z h204 b151 "com/example/steady_limiter/steadylimiter/SlidingWindowLog$PermitLog" "head" "I" (.int (((0 : Int32) + (1 : Int32)) &&& ((2 : Int32) - (1 : Int32)))) := N204_2
        have F_b151_size : Fld Z h204 b151 "com/example/steady_limiter/steadylimiter/SlidingWindowLog$PermitLog" "size" "I" (.int ((((0 : Int32) + (1 : Int32)) - (1 : Int32)) + (1 : Int32))) := N204_3
        have F_b151_counted : Fld Z h204 b151 "com/example/steady_limiter/steadylimiter/SlidingWindowLog$PermitLog" "counted" "J" (.long ((((((0 : Int64) + v139) - v139) + v7) + v17) + v27)) := N204_4
        have A_pa156 : AJ Z h204 pa156 [v139, ((v7 + v17) + v27)] := N204_5
        replace K := K.trans K204 (allS (Or.inr sz_b151) (allS (Or.inr sz_pa156) all0))
        refine C.aload (pc' := 209) at_207 rfl rfl rfl ?_
        refine C.iconst (v := 0) (pc' := 210) at_209 rfl rfl ?_
        refine C.lloadN (pc' := 211) at_210 rfl rfl ?_
        refine C.stAJ (i := 0) A_b142 (by decide) (by show 0 < 3; decide) g_b142 (pc' := 212) at_211 rfl (fun h211 X211 B211 => ?_)
        replace A_b147 := A_b147.other X211 (Ne.symm ne_b142_b147)
        replace E_b151 := E_b151.wr X211
        replace A_ta156 := A_ta156.other X211 (Ne.symm ne_b142_ta156)
        replace F_b151_times := F_b151_times.other X211 (Or.inl (Ne.symm ne_b142_b151))
        replace F_b151_permits := F_b151_permits.other X211 (Or.inl (Ne.symm ne_b142_b151))
        replace F_b151_head := F_b151_head.other X211 (Or.inl (Ne.symm ne_b142_b151))
        replace F_b151_size := F_b151_size.other X211 (Or.inl (Ne.symm ne_b142_b151))
        replace F_b151_counted := F_b151_counted.other X211 (Or.inl (Ne.symm ne_b142_b151))
        replace A_pa156 := A_pa156.other X211 (Ne.symm ne_b142_pa156)
        have A_b142 : AJ Z h211 b142 [p1, (0 : Int64), (0 : Int64)] := B211
        replace K := K.wr X211 (Or.inr sz_b142)
        refine C.aload (pc' := 214) at_212 rfl rfl rfl ?_
        refine C.iconst (v := 0) (pc' := 215) at_214 rfl rfl ?_
        refine C.lload (pc' := 217) at_215 rfl rfl ?_
        refine C.stAJ (i := 0) A_b147 (by decide) (by show 0 < 3; decide) g_b147 (pc' := 218) at_217 rfl (fun h217 X217 B217 => ?_)
        replace E_b151 := E_b151.wr X217
        replace A_ta156 := A_ta156.other X217 (Ne.symm ne_b147_ta156)
        replace F_b151_times := F_b151_times.other X217 (Or.inl (Ne.symm ne_b147_b151))
        replace F_b151_permits := F_b151_permits.other X217 (Or.inl (Ne.symm ne_b147_b151))
        replace F_b151_head := F_b151_head.other X217 (Or.inl (Ne.symm ne_b147_b151))
        replace F_b151_size := F_b151_size.other X217 (Or.inl (Ne.symm ne_b147_b151))
        replace F_b151_counted := F_b151_counted.other X217 (Or.inl (Ne.symm ne_b147_b151))
        replace A_pa156 := A_pa156.other X217 (Ne.symm ne_b147_pa156)
        replace A_b142 := A_b142.other X217 ne_b142_b147
        have A_b147 : AJ Z h217 b147 [v7, (0 : Int64), (0 : Int64)] := B217
        replace K := K.wr X217 (Or.inr sz_b147)
        refine C.iconst (v := 1) (pc' := 219) at_218 rfl rfl ?_
        refine C.istoreX (l' := #[.val (.long p1), .second, .val (.int p2), .val (.long p3), .second, .val (.long p4), .second, .val (.long p5), .second, .val (.int p6), .val (.long v7), .second, .val (.long v17), .second, .val (.long v27), .second, .val (.int (1 : Int32)), .val (.long (0 : Int64)), .second, .val (.int (1 : Int32)), .val (.long (0 : Int64)), .second, .val (.long v105), .second, .val (.long v112), .second, .val (.int (1 : Int32)), .val (.long v139), .second, .val (.ref b142), .val (.ref b147), .val (.ref b151), .val (.int (1 : Int32)), .unset]) (pc' := 221) at_219 rfl rfl ?_
        refine C.aload (pc' := 223) at_221 rfl rfl rfl ?_
        refine C.aload (pc' := 225) at_223 rfl rfl rfl ?_
        refine C.iload (pc' := 227) at_225 rfl rfl ?_
        refine C.iload (pc' := 229) at_227 rfl rfl ?_
        refine C.lload (pc' := 231) at_229 rfl rfl ?_
        refine C.lload (pc' := 233) at_231 rfl rfl ?_
        refine C.calls (w := 0) (own_step1 l Z a0 hw n0 h217 b142 b147 (1 : Int32) (1 : Int32) v105 v17 [p1, (0 : Int64), (0 : Int64)] [v7, (0 : Int64), (0 : Int64)] 0 (Nat.le_trans Z0 K.1) A_b142 A_b147 g_b142 g_b147 ne_b142_b147 (by decide) (by decide) (show 0 < 3 from by decide)) (ow42 hw) (ow43 hw) (ow44 hw) (ow45 hw) (pc' := 236) at_233 rfl rfl rfl (by decide) pd___J_JIZJJ_I rfl (by decide) (Nat.le_of_eq rfl) (by decide) (by decide) (by decide) (kI fun r233 h233 q233 => ?_)
        obtain ⟨rfl, K233, N233_0⟩ := q233
        replace E_b151 := E_b151.keep K233
        replace A_ta156 := A_ta156.keep K233 (ninS (Ne.symm ne_b147_ta156) nin0)
        replace F_b151_times := F_b151_times.keep K233 (ninS (Ne.symm ne_b147_b151) nin0)
        replace F_b151_permits := F_b151_permits.keep K233 (ninS (Ne.symm ne_b147_b151) nin0)
        replace F_b151_head := F_b151_head.keep K233 (ninS (Ne.symm ne_b147_b151) nin0)
        replace F_b151_size := F_b151_size.keep K233 (ninS (Ne.symm ne_b147_b151) nin0)
        replace F_b151_counted := F_b151_counted.keep K233 (ninS (Ne.symm ne_b147_b151) nin0)
        replace A_pa156 := A_pa156.keep K233 (ninS (Ne.symm ne_b147_pa156) nin0)
        replace A_b142 := A_b142.keep K233 (ninS ne_b142_b147 nin0)
        have A_b147 : AJ Z h233 b147 [(v7 + v17), (0 : Int64), (0 : Int64)] := N233_0
        replace K := K.trans K233 (allS (Or.inr sz_b147) all0)
        refine C.istoreX (l' := #[.val (.long p1), .second, .val (.int p2), .val (.long p3), .second, .val (.long p4), .second, .val (.long p5), .second, .val (.int p6), .val (.long v7), .second, .val (.long v17), .second, .val (.long v27), .second, .val (.int (1 : Int32)), .val (.long (0 : Int64)), .second, .val (.int (1 : Int32)), .val (.long (0 : Int64)), .second, .val (.long v105), .second, .val (.long v112), .second, .val (.int (1 : Int32)), .val (.long v139), .second, .val (.ref b142), .val (.ref b147), .val (.ref b151), .val (.int (1 : Int32)), .unset]) (pc' := 238) at_236 rfl rfl ?_
        refine C.aload (pc' := 240) at_238 rfl rfl rfl ?_
        refine C.aload (pc' := 242) at_240 rfl rfl rfl ?_
        refine C.iload (pc' := 244) at_242 rfl rfl ?_
        refine C.iload (pc' := 246) at_244 rfl rfl ?_
        refine C.lload (pc' := 248) at_246 rfl rfl ?_
        refine C.lload (pc' := 250) at_248 rfl rfl ?_
        refine C.calls (w := 0) (own_step1 l Z a0 hw n0 h233 b142 b147 (1 : Int32) (1 : Int32) v112 v27 [p1, (0 : Int64), (0 : Int64)] [(v7 + v17), (0 : Int64), (0 : Int64)] 0 (Nat.le_trans Z0 K.1) A_b142 A_b147 g_b142 g_b147 ne_b142_b147 (by decide) (by decide) (show 0 < 3 from by decide)) (ow42 hw) (ow43 hw) (ow44 hw) (ow45 hw) (pc' := 253) at_250 rfl rfl rfl (by decide) pd___J_JIZJJ_I rfl (by decide) (Nat.le_of_eq rfl) (by decide) (by decide) (by decide) (kI fun r250 h250 q250 => ?_)
        obtain ⟨rfl, K250, N250_0⟩ := q250
        replace E_b151 := E_b151.keep K250
        replace A_ta156 := A_ta156.keep K250 (ninS (Ne.symm ne_b147_ta156) nin0)
        replace F_b151_times := F_b151_times.keep K250 (ninS (Ne.symm ne_b147_b151) nin0)
        replace F_b151_permits := F_b151_permits.keep K250 (ninS (Ne.symm ne_b147_b151) nin0)
        replace F_b151_head := F_b151_head.keep K250 (ninS (Ne.symm ne_b147_b151) nin0)
        replace F_b151_size := F_b151_size.keep K250 (ninS (Ne.symm ne_b147_b151) nin0)
        replace F_b151_counted := F_b151_counted.keep K250 (ninS (Ne.symm ne_b147_b151) nin0)
        replace A_pa156 := A_pa156.keep K250 (ninS (Ne.symm ne_b147_pa156) nin0)
        replace A_b142 := A_b142.keep K250 (ninS ne_b142_b147 nin0)
        have A_b147 : AJ Z h250 b147 [((v7 + v17) + v27), (0 : Int64), (0 : Int64)] := N250_0
        replace K := K.trans K250 (allS (Or.inr sz_b147) all0)
        refine C.istoreX (l' := #[.val (.long p1), .second, .val (.int p2), .val (.long p3), .second, .val (.long p4), .second, .val (.long p5), .second, .val (.int p6), .val (.long v7), .second, .val (.long v17), .second, .val (.long v27), .second, .val (.int (1 : Int32)), .val (.long (0 : Int64)), .second, .val (.int (1 : Int32)), .val (.long (0 : Int64)), .second, .val (.long v105), .second, .val (.long v112), .second, .val (.int (1 : Int32)), .val (.long v139), .second, .val (.ref b142), .val (.ref b147), .val (.ref b151), .val (.int (1 : Int32)), .unset]) (pc' := 255) at_253 rfl rfl ?_
        refine C.aload (pc' := 257) at_255 rfl rfl rfl ?_
        refine C.getf (ow46 hw) Via.refl F_b151_size (pc' := 260) at_257 rfl ?_
        refine C.iload (pc' := 262) at_260 rfl rfl ?_
        refine C.icmp_ne (pc' := 265) (pt := 286) at_262 rfl rfl (fun c262 => absurd (by decide) c262) (fun c262 => ?_)
        refine C.aload (pc' := 267) at_265 rfl rfl rfl ?_
        refine C.getf (ow47 hw) Via.refl F_b151_counted (pc' := 270) at_267 rfl ?_
        refine C.lload (pc' := 272) at_270 rfl rfl ?_
        refine C.lload (pc' := 274) at_272 rfl rfl ?_
        refine C.ladd (pc' := 275) at_274 rfl ?_
        refine C.lload (pc' := 277) at_275 rfl rfl ?_
        refine C.ladd (pc' := 278) at_277 rfl ?_
        refine C.lif_ne (pc' := 282) (pt := 286) at_278 rfl at_279 rfl rfl (fun c278 => absurd own_auto342 c278) (fun c278 => ?_)
        refine C.iconst (v := 1) (pc' := 283) at_282 rfl rfl ?_
        refine C.goto (pc' := 287) at_283 rfl ?_
        refine C.istoreX (l' := #[.val (.long p1), .second, .val (.int p2), .val (.long p3), .second, .val (.long p4), .second, .val (.long p5), .second, .val (.int p6), .val (.long v7), .second, .val (.long v17), .second, .val (.long v27), .second, .val (.int (1 : Int32)), .val (.long (0 : Int64)), .second, .val (.int (1 : Int32)), .val (.long (0 : Int64)), .second, .val (.long v105), .second, .val (.long v112), .second, .val (.int (1 : Int32)), .val (.long v139), .second, .val (.ref b142), .val (.ref b147), .val (.ref b151), .val (.int (1 : Int32)), .val (.int (1 : Int32))]) (pc' := 289) at_287 rfl rfl ?_
        refine C.iload (pc' := 291) at_289 rfl rfl ?_
        refine C.if_eq (pc' := 294) (pt := 326) at_291 rfl rfl (fun c291 => absurd c291 (by decide)) (fun c291 => ?_)
        refine C.aload (pc' := 296) at_294 rfl rfl rfl ?_
        refine C.iconst (v := 0) (pc' := 297) at_296 rfl rfl ?_
        refine C.callv (w := 0) (own_rm6 l Z a0 hw n0 h250 b151 (0 : Int32) ta156 (((0 : Int32) + (1 : Int32)) &&& ((2 : Int32) - (1 : Int32))) [(p1 - (1 : Int64)), p1] (2 : Int32) 1 E_b151 F_b151_head F_b151_times A_ta156 (show (2 : Int32).toInt = ((2 : Nat) : Int) from by decide) (by decide) (show 1 < 2 from by decide)) E_b151 (ow48 hw) (ow38 hw) (ow40 hw) (ow39 hw) (ow4 hw) (ow41 hw) (pc' := 300) at_297 rfl rfl rfl (by decide) pd__I_J rfl (by decide) (Nat.le_of_eq rfl) (by decide) (by decide) (by decide) (kJe ?_)
        refine C.aload (pc' := 302) at_300 rfl rfl rfl ?_
        refine C.iconst (v := 0) (pc' := 303) at_302 rfl rfl ?_
        refine C.ldAJ (i := 0) (v := p1) A_b142 (by decide) rfl (pc' := 304) at_303 rfl ?_
        refine C.lif_ne (pc' := 308) (pt := 326) at_304 rfl at_305 rfl rfl (fun c304 => absurd rfl c304) (fun c304 => ?_)
        refine C.aload (pc' := 310) at_308 rfl rfl rfl ?_
        refine C.iconst (v := 0) (pc' := 311) at_310 rfl rfl ?_
        refine C.callv (w := 0) (own_rm8 l Z a0 hw n0 h250 b151 (0 : Int32) ta156 pa156 (((0 : Int32) + (1 : Int32)) &&& ((2 : Int32) - (1 : Int32))) [(p1 - (1 : Int64)), p1] [v139, ((v7 + v17) + v27)] (2 : Int32) 1 E_b151 F_b151_head F_b151_times F_b151_permits A_ta156 A_pa156 (show (2 : Int32).toInt = ((2 : Nat) : Int) from by decide) (by decide) (show 1 < 2 from by decide)) E_b151 (ow49 hw) (ow50 hw) (ow52 hw) (ow51 hw) (ow4 hw) (ow53 hw) (pc' := 314) at_311 rfl rfl rfl (by decide) pd__I_J rfl (by decide) (Nat.le_of_eq rfl) (by decide) (by decide) (by decide) (kJe ?_)
        refine C.aload (pc' := 316) at_314 rfl rfl rfl ?_
        refine C.iconst (v := 0) (pc' := 317) at_316 rfl rfl ?_
        refine C.ldAJ (i := 0) (v := ((v7 + v17) + v27)) A_b147 (by decide) rfl (pc' := 318) at_317 rfl ?_
        refine C.lif_ne (pc' := 322) (pt := 326) at_318 rfl at_319 rfl rfl (fun c318 => absurd rfl c318) (fun c318 => ?_)
        refine C.iconst (v := 1) (pc' := 323) at_322 rfl rfl ?_
        refine C.goto (pc' := 327) at_323 rfl ?_
        refine C.istoreX (l' := #[.val (.long p1), .second, .val (.int p2), .val (.long p3), .second, .val (.long p4), .second, .val (.long p5), .second, .val (.int p6), .val (.long v7), .second, .val (.long v17), .second, .val (.long v27), .second, .val (.int (1 : Int32)), .val (.long (0 : Int64)), .second, .val (.int (1 : Int32)), .val (.long (0 : Int64)), .second, .val (.long v105), .second, .val (.long v112), .second, .val (.int (1 : Int32)), .val (.long v139), .second, .val (.ref b142), .val (.ref b147), .val (.ref b151), .val (.int (1 : Int32)), .val (.int (1 : Int32))]) (pc' := 329) at_327 rfl rfl ?_
        refine C.iload (pc' := 331) at_329 rfl rfl ?_
        refine C.iconst (v := 1) (pc' := 332) at_331 rfl rfl ?_
        refine C.icmp_le (pc' := 335) (pt := 375) at_332 rfl rfl (fun c332 => ?_) (fun c332 => absurd c332 (by decide))
        refine C.iload (pc' := 377) at_375 rfl rfl ?_
        refine C.iconst (v := 2) (pc' := 378) at_377 rfl rfl ?_
        refine C.icmp_le (pc' := 381) (pt := 421) at_378 rfl rfl (fun c378 => ?_) (fun c378 => absurd c378 (by decide))
        refine C.iload (pc' := 423) at_421 rfl rfl ?_
        refine C.retZ (show ret = some .boolean from rfl) (by decide) at_423 (by decide) (by decide) ⟨_, rfl, rfl⟩
set_option maxRecDepth 65536 in
set_option maxHeartbeats 40000000 in
theorem comes_1 {Post : Tables → Env → Array Value → State → Outcome → State → Prop} (hpost : ∀ tb e args s v u, (limb_1_1.after args s (.returned v) u = true ∧ limb_1_2.after args s (.returned v) u = true ∧ True) → FrameEnd s (.returned v) u (Jvm.fieldLocs frame_1_writes args s ++ Jvm.arrayLocs frame_1_arrays args s ++ Jvm.staticLocs frame_1_statics s) 24 128 → Post tb e args s (.returned v) u) :
    ArmFor flags0 classFile x code maxLocals ret World_1 tables_1 room_1 Calls_1 rest_1 Pre_1 Post := by
  intro l hfl _ _ p e ha hc hk s m args below hf hA hF happ hP
  obtain ⟨hcalls, hrest, hpre⟩ := hP
  obtain ⟨-, -, -, hnamed, -, -, -, hat⟩ := (Spec.applies_iff hf).mp happ
  obtain ⟨hg, hn⟩ := and_e (Cond.before_iff.mp (show (Jvm.Cond.and given_1 narrow_1).before args s = true from hpre))
  obtain ⟨g0, t0⟩ := and_e hg
  obtain ⟨k0, t1⟩ := and_e t0
  obtain ⟨k1, t2⟩ := and_e t1
  obtain ⟨k2, t3⟩ := and_e t2
  obtain ⟨k3, t4⟩ := and_e t3
  obtain ⟨k4, t5⟩ := and_e t4
  obtain ⟨w0_, w1_, w2_, w3_, w4_, w5_, rfl⟩ : ∃ w0_ w1_ w2_ w3_ w4_ w5_ : Value, args = #[w0_, w1_, w2_, w3_, w4_, w5_] := by
    have hs : args.size = 6 := by simpa [Cond.value, given_1] using g0
    obtain ⟨L⟩ := args
    match L, hs with
    | [w0_, w1_, w2_, w3_, w4_, w5_], _ => exact ⟨w0_, w1_, w2_, w3_, w4_, w5_, rfl⟩
  have hw := fun d (hd : d ∈ tables_1) => atoms_spec (ws := Jvm.Cond.code x code maxLocals ret :: tables_1) hat d (List.mem_cons_of_mem _ hd)
  obtain ⟨i0_, e0_⟩ := isL_v k0
  obtain rfl : w0_ = (.long i0_) := Option.some.inj e0_
  obtain ⟨i1_, e1_⟩ := is_v k1
  obtain rfl : w1_ = (.int i1_) := Option.some.inj e1_
  obtain ⟨i2_, e2_⟩ := isL_v k2
  obtain rfl : w2_ = (.long i2_) := Option.some.inj e2_
  obtain ⟨i3_, e3_⟩ := isL_v k3
  obtain rfl : w3_ = (.long i3_) := Option.some.inj e3_
  obtain ⟨i4_, e4_⟩ := isL_v k4
  obtain rfl : w4_ = (.long i4_) := Option.some.inj e4_
  obtain ⟨i5_, e5_⟩ := is_v t5
  obtain rfl : w5_ = (.int i5_) := Option.some.inj e5_
  obtain ⟨n, o, h1, h2, h3, _, L, rfl, ⟨N, _, rfl, rfl⟩, hq⟩ := own_rm0 l s _ hw s.heap.size s.heap i0_ i1_ i2_ i3_ i4_ i5_  (Nat.le_refl _)  tables_1 p e ha hc hk s m _ below hf ((Spec.applies_iff_loose hf).mp happ).1 ⟨rfl, State.Warmed39.refl s, rfl⟩ trivial
  refine ⟨n, _, h1, h2, h3, hpost _ _ _ _ _ _ ⟨Cond.after_iff.mpr rfl, Cond.after_iff.mpr (eq_i res_at (Term.int_eval (1)) rfl), trivial⟩ ⟨hq.1, hq.2.1, (hq.2.2.sift fun y hy => Or.inr (N y hy)).mono (by decide) (by decide)⟩⟩
theorem main_1_1 : Claimed_1_1 := comes_1 fun _ _ _ _ _ _ h hF => ⟨h.1, hF⟩
theorem main_1_2 : Claimed_1_2 := comes_1 fun _ _ _ _ _ _ h hF => ⟨h.2.1, hF⟩
end Jvm.Pilot.@@N@@
namespace Jvm.Pilot.@@N@@
open Jvm Jvm.ClassFile Sem Op Lib Jvm.Free Jvm.Stand Jvm.Pilot.@@N@@.Jvm.D
/-! MADE BY PROGRAM (witnessworld.py) out of the Statement's table words and the real class files: 12 classes; the members and pool entries that the words name. The judged class is class 1, her method 1. -/
namespace start1
open Jvm.ClassFile
def u (s : String) : CpInfo := .utf8 (stringToUtf16 s)
/-- a pool by its gaps: so many unusable entries, then the entry; so many at the end -/
def gap : Nat → List CpInfo → List CpInfo
  | 0, r => r
  | n + 1, r => .unusable :: gap n r
def poolList (es : List (Nat × CpInfo)) (last : Nat) : List CpInfo := es.foldr (fun e r => gap e.1 (e.2 :: r)) (gap last [])
def pool (es : List (Nat × CpInfo)) (last : Nat) : Array CpInfo := ⟨poolList es last⟩
def fileOf (pool : Array CpInfo) (this : Nat) (attrs : Array Attribute := #[]) (ms : Array MethodInfo := #[]) (fl : Nat := 33) (sup : Nat := 0) (ifs : Array Nat := #[]) (fds : Array FieldInfo := #[]) : ClassFile where
  minorVersion := 0
  majorVersion := 65
  constantPool := pool
  accessFlags := fl
  thisClass := this
  superClass := sup
  interfaces := ifs
  fields := fds
  methods := ms
  attributes := attrs
def plain (name : String) (sup : Option ClassId) : Class where
  name := name
  kind := .ordinary
  loader := none
  accessFlags := 33
  super := sup
  interfaces := #[]
  cf := none
  fields := #[]
  methods := #[]
  instanceTypes := #[]
  staticTypes := #[]
  resolved := #[]
  callSites := []
  init := .initialized
  statics := none
  mirror := none

def pool0 : Array CpInfo := pool [(5, u "<init>"), (0, u "()V"), (1, .class_ 10), (1, u "java/lang/Object")] 113

def k0c0 : Code := { maxStack := 0, maxLocals := 1, code := object_method_1_code, exceptionTable := #[], attributes := #[] }
def k0m0 : Method := { name := "<init>", desc := "()V", sig := { parameters := [], returnType := none }, accessFlags := 1, code := some k0c0 }
/-- java/lang/Object -/
def k0 : Class := { plain "java/lang/Object" none with
  accessFlags := 33
  interfaces := #[]
  cf := some (fileOf pool0 8 #[] #[{ accessFlags := 1, nameIndex := 5, descriptorIndex := 6, attributes := #[] }] 33 0 #[] #[])
  fields := #[]
  methods := #[k0m0]
  instanceTypes := #[]
  staticTypes := #[]
  resolved := Array.replicate 124 none
  statics := none }

def pool1 : Array CpInfo := pool [(2, .class_ 4), (1, u "java/lang/Object"), (0, u "<init>"), (0, u "()V"), (0, .long 1152921504606846975), (1, .class_ 10), (0, u "com/example/steady_limiter/steadylimiter/SlidingWindowLog$PermitLog"), (0, .methodref 9 12), (0, .nameAndType 5 13), (0, u "(J)V"), (0, .methodref 9 15), (0, .nameAndType 16 17), (0, u "add"), (0, u "(JJ)V"), (0, .methodref 9 19), (0, .nameAndType 20 6), (0, u "dropOldest"), (0, .methodref 22 23), (0, .class_ 24), (0, .nameAndType 25 26), (0, u "com/example/steady_limiter/steadylimiter/PermitLogAddPinLaw"), (0, u "step"), (0, u "([J[JIZJJ)I"), (0, .fieldref 9 28), (0, .nameAndType 29 30), (0, u "size"), (0, u "I"), (0, .fieldref 9 32), (0, .nameAndType 33 34), (0, u "counted"), (0, u "J"), (0, .methodref 9 36), (0, .nameAndType 37 38), (0, u "timeAt"), (0, u "(I)J"), (0, .methodref 9 40), (0, .nameAndType 41 38), (0, u "permitsAt"), (2, u "law"), (0, u "(JIJJJI)Z")] 9

def k1m0 : Method := { name := "<init>", desc := "()V", sig := { parameters := [], returnType := none }, accessFlags := 1, code := none }
def k1c1 : Code := { maxStack := 8, maxLocals := 34, code := code, exceptionTable := #[], attributes := #[] }
def k1m1 : Method := { name := "law", desc := "(JIJJJI)Z", sig := { parameters := [.long, .int, .long, .long, .long, .int], returnType := some .boolean }, accessFlags := 9, code := some k1c1 }
def k1c2 : Code := { maxStack := 6, maxLocals := 8, code := method_3_code, exceptionTable := #[], attributes := #[] }
def k1m2 : Method := { name := "step", desc := "([J[JIZJJ)I", sig := { parameters := [(.array .long), (.array .long), .int, .boolean, .long, .long], returnType := some .int }, accessFlags := 10, code := some k1c2 }
/-- com/example/steady_limiter/steadylimiter/PermitLogAddPinLaw -/
def k1 : Class := { plain "com/example/steady_limiter/steadylimiter/PermitLogAddPinLaw" (some 0) with
  accessFlags := 49
  interfaces := #[]
  cf := some (fileOf pool1 22 #[] #[{ accessFlags := 1, nameIndex := 5, descriptorIndex := 6, attributes := #[] }, { accessFlags := 9, nameIndex := 44, descriptorIndex := 45, attributes := #[] }, { accessFlags := 10, nameIndex := 25, descriptorIndex := 26, attributes := #[] }] 49 2 #[] #[])
  fields := #[]
  methods := #[k1m0, k1m1, k1m2]
  instanceTypes := #[]
  staticTypes := #[]
  resolved := Array.replicate 55 none
  statics := none }

def pool2 : Array CpInfo := pool [(1, .methodref 2 3), (0, .class_ 4), (0, .nameAndType 5 6), (0, u "java/lang/Object"), (0, u "<init>"), (0, u "()V"), (0, .fieldref 8 9), (0, .class_ 10), (0, .nameAndType 11 12), (0, u "com/example/steady_limiter/steadylimiter/KeyState"), (0, u "lastNanos"), (0, u "J"), (0, u "key"), (0, u "Ljava/lang/String;"), (0, u "freshIndex"), (0, u "I"), (0, u "callIndex"), (0, u "(J)V")] 4

def k2c0 : Code := { maxStack := 3, maxLocals := 3, code := prog_9_method_1_code, exceptionTable := #[], attributes := #[] }
def k2m0 : Method := { name := "<init>", desc := "(J)V", sig := { parameters := [.long], returnType := none }, accessFlags := 0, code := some k2c0 }
/-- com/example/steady_limiter/steadylimiter/KeyState -/
def k2 : Class := { plain "com/example/steady_limiter/steadylimiter/KeyState" (some 0) with
  accessFlags := 1056
  interfaces := #[]
  cf := some (fileOf pool2 8 #[] #[{ accessFlags := 0, nameIndex := 5, descriptorIndex := 18, attributes := #[] }] 1056 2 #[] #[{ accessFlags := 0, nameIndex := 11, descriptorIndex := 12, attributes := #[] }, { accessFlags := 0, nameIndex := 13, descriptorIndex := 14, attributes := #[] }, { accessFlags := 0, nameIndex := 15, descriptorIndex := 16, attributes := #[] }, { accessFlags := 0, nameIndex := 17, descriptorIndex := 16, attributes := #[] }])
  fields := #[{ name := "lastNanos", type := .long, accessFlags := 0, slot := 0, constantValue := 0 }, { name := "key", type := (.object "java/lang/String"), accessFlags := 0, slot := 1, constantValue := 0 }, { name := "freshIndex", type := .int, accessFlags := 0, slot := 2, constantValue := 0 }, { name := "callIndex", type := .int, accessFlags := 0, slot := 3, constantValue := 0 }]
  methods := #[k2m0]
  instanceTypes := #[.long, (.object "java/lang/String"), .int, .int]
  staticTypes := #[]
  resolved := Array.replicate 23 none
  statics := none }

def pool3 : Array CpInfo := pool [(1, .methodref 2 3), (0, .class_ 4), (0, .nameAndType 5 6), (0, u "com/example/steady_limiter/steadylimiter/KeyState"), (0, u "<init>"), (0, u "(J)V"), (0, .class_ 8), (0, u "com/example/steady_limiter/steadylimiter/SlidingWindowLog$PermitLog"), (0, .fieldref 7 10), (0, .nameAndType 11 12), (0, u "times"), (0, u "[J"), (0, .fieldref 7 14), (0, .nameAndType 15 12), (0, u "permits"), (0, .methodref 7 17), (0, .nameAndType 18 19), (0, u "slot"), (0, u "(I)I"), (0, .fieldref 7 21), (0, .nameAndType 22 23), (0, u "counted"), (0, u "J"), (0, .fieldref 7 25), (0, .nameAndType 26 27), (0, u "head"), (0, u "I"), (0, .fieldref 7 29), (0, .nameAndType 30 27), (0, u "size"), (0, .methodref 7 32), (0, .nameAndType 33 34), (0, u "resize"), (0, u "(I)V"), (0, .methodref 7 36), (0, .nameAndType 37 38), (0, u "timeAt"), (0, u "(I)J"), (0, .methodref 7 40), (0, .nameAndType 41 38), (0, u "permitsAt"), (0, u "MIN_CAPACITY"), (4, u "dropOldest"), (0, u "()V"), (1, u "add"), (0, u "(JJ)V"), (4, .class_ 57), (0, u "com/example/steady_limiter/steadylimiter/SlidingWindowLog")] 2

def k3c0 : Code := { maxStack := 3, maxLocals := 3, code := prog_20_method_1_code, exceptionTable := #[], attributes := #[] }
def k3m0 : Method := { name := "<init>", desc := "(J)V", sig := { parameters := [.long], returnType := none }, accessFlags := 0, code := some k3c0 }
def k3c1 : Code := { maxStack := 3, maxLocals := 2, code := prog_20_method_2_code, exceptionTable := #[], attributes := #[] }
def k3m1 : Method := { name := "timeAt", desc := "(I)J", sig := { parameters := [.int], returnType := some .long }, accessFlags := 0, code := some k3c1 }
def k3c2 : Code := { maxStack := 3, maxLocals := 2, code := prog_20_method_3_code, exceptionTable := #[], attributes := #[] }
def k3m2 : Method := { name := "permitsAt", desc := "(I)J", sig := { parameters := [.int], returnType := some .long }, accessFlags := 0, code := some k3c2 }
def k3c3 : Code := { maxStack := 5, maxLocals := 1, code := prog_20_method_4_code, exceptionTable := #[], attributes := #[] }
def k3m3 : Method := { name := "dropOldest", desc := "()V", sig := { parameters := [], returnType := none }, accessFlags := 0, code := some k3c3 }
def k3c4 : Code := { maxStack := 6, maxLocals := 6, code := prog_20_method_5_code, exceptionTable := #[], attributes := #[] }
def k3m4 : Method := { name := "add", desc := "(JJ)V", sig := { parameters := [.long, .long], returnType := none }, accessFlags := 0, code := some k3c4 }
def k3c5 : Code := { maxStack := 3, maxLocals := 2, code := prog_20_method_6_code, exceptionTable := #[], attributes := #[] }
def k3m5 : Method := { name := "slot", desc := "(I)I", sig := { parameters := [.int], returnType := some .int }, accessFlags := 2, code := some k3c5 }
def k3c6 : Code := { maxStack := 4, maxLocals := 5, code := prog_20_method_7_code, exceptionTable := #[], attributes := #[] }
def k3m6 : Method := { name := "resize", desc := "(I)V", sig := { parameters := [.int], returnType := none }, accessFlags := 2, code := some k3c6 }
/-- com/example/steady_limiter/steadylimiter/SlidingWindowLog$PermitLog -/
def k3 : Class := { plain "com/example/steady_limiter/steadylimiter/SlidingWindowLog$PermitLog" (some 2) with
  accessFlags := 32
  interfaces := #[]
  cf := some (fileOf pool3 7 #[.nestHost 56] #[{ accessFlags := 0, nameIndex := 5, descriptorIndex := 6, attributes := #[] }, { accessFlags := 0, nameIndex := 37, descriptorIndex := 38, attributes := #[] }, { accessFlags := 0, nameIndex := 41, descriptorIndex := 38, attributes := #[] }, { accessFlags := 0, nameIndex := 47, descriptorIndex := 48, attributes := #[] }, { accessFlags := 0, nameIndex := 50, descriptorIndex := 51, attributes := #[] }, { accessFlags := 2, nameIndex := 18, descriptorIndex := 19, attributes := #[] }, { accessFlags := 2, nameIndex := 33, descriptorIndex := 34, attributes := #[] }] 32 2 #[] #[{ accessFlags := 26, nameIndex := 42, descriptorIndex := 27, attributes := #[] }, { accessFlags := 2, nameIndex := 11, descriptorIndex := 12, attributes := #[] }, { accessFlags := 2, nameIndex := 15, descriptorIndex := 12, attributes := #[] }, { accessFlags := 2, nameIndex := 26, descriptorIndex := 27, attributes := #[] }, { accessFlags := 0, nameIndex := 30, descriptorIndex := 27, attributes := #[] }, { accessFlags := 0, nameIndex := 22, descriptorIndex := 23, attributes := #[] }])
  fields := #[{ name := "MIN_CAPACITY", type := .int, accessFlags := 26, slot := 0, constantValue := 0 }, { name := "times", type := (.array .long), accessFlags := 2, slot := 4, constantValue := 0 }, { name := "permits", type := (.array .long), accessFlags := 2, slot := 5, constantValue := 0 }, { name := "head", type := .int, accessFlags := 2, slot := 6, constantValue := 0 }, { name := "size", type := .int, accessFlags := 0, slot := 7, constantValue := 0 }, { name := "counted", type := .long, accessFlags := 0, slot := 8, constantValue := 0 }]
  methods := #[k3m0, k3m1, k3m2, k3m3, k3m4, k3m5, k3m6]
  instanceTypes := #[.long, (.object "java/lang/String"), .int, .int, (.array .long), (.array .long), .int, .int, .long]
  staticTypes := #[.int]
  resolved := Array.replicate 60 none
  statics := none }

def pool4 : Array CpInfo := pool [(1, u "java/lang/Cloneable"), (0, .class_ 1), (0, u "java/lang/Object"), (0, .class_ 3)] 3

/-- java/lang/Cloneable -/
def k4 : Class := { plain "java/lang/Cloneable" (some 0) with
  accessFlags := 1537
  interfaces := #[]
  cf := some (fileOf pool4 2 #[] #[] 1537 4 #[] #[])
  fields := #[]
  methods := #[]
  instanceTypes := #[]
  staticTypes := #[]
  resolved := Array.replicate 8 none
  statics := none }

def pool5 : Array CpInfo := pool [(1, u "java/io/Serializable"), (0, .class_ 1), (0, u "java/lang/Object"), (0, .class_ 3)] 3

/-- java/io/Serializable -/
def k5 : Class := { plain "java/io/Serializable" (some 0) with
  accessFlags := 1537
  interfaces := #[]
  cf := some (fileOf pool5 2 #[] #[] 1537 4 #[] #[])
  fields := #[]
  methods := #[]
  instanceTypes := #[]
  staticTypes := #[]
  resolved := Array.replicate 8 none
  statics := none }

/-- the primitive byte -/
def k6 : Class := { plain "byte" none with kind := .primitive 'B', accessFlags := 0x411 }
/-- [B -/
def k7 : Class := { plain "[B" (some 0) with kind := .array 6 .byte, interfaces := #[4, 5], accessFlags := 1041 }

/-- the primitive int -/
def k8 : Class := { plain "int" none with kind := .primitive 'I', accessFlags := 0x411 }
/-- [I -/
def k9 : Class := { plain "[I" (some 0) with kind := .array 8 .int, interfaces := #[4, 5], accessFlags := 1041 }

/-- the primitive long -/
def k10 : Class := { plain "long" none with kind := .primitive 'J', accessFlags := 0x411 }
/-- [J -/
def k11 : Class := { plain "[J" (some 0) with kind := .array 10 .long, interfaces := #[4, 5], accessFlags := 1041 }

def heap : Heap := #[]
def classes : Array Class := #[k0, k1, k2, k3, k4, k5, k6, k7, k8, k9, k10, k11]
def interned : List (Array UInt16 × Addr) := []
def slotsUsed : Nat := 0
def theMethod : MethodId := ⟨1, 1⟩
def args0 : Array Value := #[.long 5, .int 3, .long 5, .long 5, .long 5, .int 3]
def aboutOver (below : List Frame) : State where
  vm := { classes := classes, interned := interned.toArray }
  heap := heap
  slotsUsed := slotsUsed
  threads := #[{ frames := .invoking theMethod args0 :: below }]
def below0 : List Frame := [.native { method := ⟨0, 0⟩, args := #[] }]
def about1 : State := aboutOver below0
def p0 : Program := .bare "" "" ""
def e0 : Env := launch0.env 0 0 0
theorem w_frames : about1.frames = Frame.invoking theMethod args0 :: below0 := rfl
set_option maxRecDepth 65536 in
theorem w_args : argsFit about1.vm theMethod args0 = true := by decide +kernel
set_option maxRecDepth 65536 in
theorem w_heap : heapFits about1 = true := by decide +kernel
set_option maxRecDepth 65536 in
theorem w_runnable : about1.curStatus? = some .runnable := by decide +kernel
set_option maxRecDepth 65536 in
theorem w_alone : about1.alone = true := by decide +kernel
set_option maxRecDepth 65536 in
theorem w_named : about1.methodNamed? x = some theMethod := by decide +kernel
set_option maxRecDepth 65536 in
theorem w_hears : about1.hears theMethod below0 = true := by decide +kernel
set_option maxRecDepth 65536 in
theorem w_ripe : about1.ripe theMethod args0 below0 = true := by decide +kernel
theorem w_running : about1.status = .running := rfl
set_option maxRecDepth 65536 in
theorem w_room : about1.hasRoom e0.platform room_1 = true :=
  launch0.hasRoom_least _ room_1 (by decide +kernel) (by decide +kernel) (by decide +kernel) (by decide +kernel) (by decide +kernel) (by decide +kernel)
theorem allAtoms_all (ts : List Jvm.Cond) (a : Array Jvm.Value) (st : Jvm.State) : (allAtoms ts).before a st = ts.all (fun c => c.before a st) := by
  induction ts with
  | nil => rfl
  | cons c t ih =>
    show (Jvm.Cond.and c (allAtoms t)).before a st = _
    rw [Jvm.Cond.before_and, ih, List.all_cons]
def words1 : List Jvm.Cond := Jvm.Cond.code x code maxLocals ret :: tables_1
/-- a 'code' word, met by the world's own term for the bytes: nothing is compared byte by byte -/
theorem code_word {y : MethodName} {bytes : ByteArray} {mx : Nat} {rt : Option FieldType} {a : Array Value} {s : State} {m : MethodId} {meth : Method} {c : Code} (h1 : s.methodNamed? y = some m) (h2 : s.vm.method? m = some meth) (h3 : meth.code = some c) (h4 : c.code = bytes)
    (h5 : (c.maxLocals == mx && c.exceptionTable.isEmpty && decide (c.maxStack ≤ mostOperands) && decide (meth.sig.returnType = rt) && !meth.locks && decide (parseMethodDescriptor y.desc = some meth.sig)) = true) : (Jvm.Cond.code y bytes mx rt).before a s = true := by
  simp only [Bool.and_eq_true, beq_iff_eq, Bool.not_eq_true', decide_eq_true_eq] at h5
  obtain ⟨⟨⟨⟨⟨g1, g2⟩, g3⟩, g4⟩, g5⟩, g6⟩ := h5
  simp [Cond.before, Cond.holds, Cond.value, h1, h2, h3, h4, g1, g2, g3, g4, g5, g6]
def isCode : Jvm.Cond → Bool
  | .code _ _ _ _ => true
  | _ => false
theorem all_split {L : List Jvm.Cond} {P : Jvm.Cond → Bool} (h1 : L.all (fun c => isCode c || P c) = true) (h2 : ∀ c ∈ L.filter isCode, P c = true) : L.all P = true := by
  refine List.all_eq_true.mpr fun c hc => ?_
  have h := List.all_eq_true.mp h1 c hc
  rcases Bool.eq_false_or_eq_true (isCode c) with hi | hi
  · exact h2 c (List.mem_filter.mpr ⟨hc, hi⟩)
  · simpa [hi] using h
set_option maxRecDepth 65536 in
theorem w_c0 : (Jvm.Cond.code x code maxLocals ret).before args0 about1 = true := code_word (m := ⟨1, 1⟩) (meth := k1m1) (c := k1c1) (by decide +kernel) rfl rfl rfl (by decide +kernel)
set_option maxRecDepth 65536 in
theorem w_c1 : (Jvm.Cond.code ({ cls := "com/example/steady_limiter/steadylimiter/SlidingWindowLog$PermitLog", name := "<init>", desc := "(J)V" } : Jvm.MethodName) prog_20_method_1_code (3 : Nat) (Option.none : Option Jvm.ClassFile.FieldType)).before args0 about1 = true := code_word (m := ⟨3, 0⟩) (meth := k3m0) (c := k3c0) (by decide +kernel) rfl rfl rfl (by decide +kernel)
set_option maxRecDepth 65536 in
theorem w_c2 : (Jvm.Cond.code ({ cls := "com/example/steady_limiter/steadylimiter/KeyState", name := "<init>", desc := "(J)V" } : Jvm.MethodName) prog_9_method_1_code (3 : Nat) (Option.none : Option Jvm.ClassFile.FieldType)).before args0 about1 = true := code_word (m := ⟨2, 0⟩) (meth := k2m0) (c := k2c0) (by decide +kernel) rfl rfl rfl (by decide +kernel)
set_option maxRecDepth 65536 in
theorem w_c3 : (Jvm.Cond.code ({ cls := "java/lang/Object", name := "<init>", desc := "()V" } : Jvm.MethodName) object_method_1_code (1 : Nat) (Option.none : Option Jvm.ClassFile.FieldType)).before args0 about1 = true := code_word (m := ⟨0, 0⟩) (meth := k0m0) (c := k0c0) (by decide +kernel) rfl rfl rfl (by decide +kernel)
set_option maxRecDepth 65536 in
theorem w_c4 : (Jvm.Cond.code ({ cls := "com/example/steady_limiter/steadylimiter/SlidingWindowLog$PermitLog", name := "add", desc := "(JJ)V" } : Jvm.MethodName) prog_20_method_5_code (6 : Nat) (Option.none : Option Jvm.ClassFile.FieldType)).before args0 about1 = true := code_word (m := ⟨3, 4⟩) (meth := k3m4) (c := k3c4) (by decide +kernel) rfl rfl rfl (by decide +kernel)
set_option maxRecDepth 65536 in
theorem w_c5 : (Jvm.Cond.code ({ cls := "com/example/steady_limiter/steadylimiter/SlidingWindowLog$PermitLog", name := "slot", desc := "(I)I" } : Jvm.MethodName) prog_20_method_6_code (2 : Nat) (Option.some Jvm.ClassFile.FieldType.int)).before args0 about1 = true := code_word (m := ⟨3, 5⟩) (meth := k3m5) (c := k3c5) (by decide +kernel) rfl rfl rfl (by decide +kernel)
set_option maxRecDepth 65536 in
theorem w_c6 : (Jvm.Cond.code ({ cls := "com/example/steady_limiter/steadylimiter/SlidingWindowLog$PermitLog", name := "timeAt", desc := "(I)J" } : Jvm.MethodName) prog_20_method_2_code (2 : Nat) (Option.some Jvm.ClassFile.FieldType.long)).before args0 about1 = true := code_word (m := ⟨3, 1⟩) (meth := k3m1) (c := k3c1) (by decide +kernel) rfl rfl rfl (by decide +kernel)
set_option maxRecDepth 65536 in
theorem w_c7 : (Jvm.Cond.code ({ cls := "com/example/steady_limiter/steadylimiter/PermitLogAddPinLaw", name := "step", desc := "([J[JIZJJ)I" } : Jvm.MethodName) method_3_code (8 : Nat) (Option.some Jvm.ClassFile.FieldType.int)).before args0 about1 = true := code_word (m := ⟨1, 2⟩) (meth := k1m2) (c := k1c2) (by decide +kernel) rfl rfl rfl (by decide +kernel)
set_option maxRecDepth 65536 in
theorem w_c8 : (Jvm.Cond.code ({ cls := "com/example/steady_limiter/steadylimiter/SlidingWindowLog$PermitLog", name := "permitsAt", desc := "(I)J" } : Jvm.MethodName) prog_20_method_3_code (2 : Nat) (Option.some Jvm.ClassFile.FieldType.long)).before args0 about1 = true := code_word (m := ⟨3, 2⟩) (meth := k3m2) (c := k3c2) (by decide +kernel) rfl rfl rfl (by decide +kernel)
set_option maxRecDepth 65536 in
theorem w_c9 : (Jvm.Cond.code ({ cls := "com/example/steady_limiter/steadylimiter/SlidingWindowLog$PermitLog", name := "dropOldest", desc := "()V" } : Jvm.MethodName) prog_20_method_4_code (1 : Nat) (Option.none : Option Jvm.ClassFile.FieldType)).before args0 about1 = true := code_word (m := ⟨3, 3⟩) (meth := k3m3) (c := k3c3) (by decide +kernel) rfl rfl rfl (by decide +kernel)
set_option maxRecDepth 65536 in
theorem w_c10 : (Jvm.Cond.code ({ cls := "com/example/steady_limiter/steadylimiter/SlidingWindowLog$PermitLog", name := "resize", desc := "(I)V" } : Jvm.MethodName) prog_20_method_7_code (5 : Nat) (Option.none : Option Jvm.ClassFile.FieldType)).before args0 about1 = true := code_word (m := ⟨3, 6⟩) (meth := k3m6) (c := k3c6) (by decide +kernel) rfl rfl rfl (by decide +kernel)
def codes1 : List Jvm.Cond := [Jvm.Cond.code x code maxLocals ret, Jvm.Cond.code ({ cls := "com/example/steady_limiter/steadylimiter/SlidingWindowLog$PermitLog", name := "<init>", desc := "(J)V" } : Jvm.MethodName) prog_20_method_1_code (3 : Nat) (Option.none : Option Jvm.ClassFile.FieldType), Jvm.Cond.code ({ cls := "com/example/steady_limiter/steadylimiter/KeyState", name := "<init>", desc := "(J)V" } : Jvm.MethodName) prog_9_method_1_code (3 : Nat) (Option.none : Option Jvm.ClassFile.FieldType), Jvm.Cond.code ({ cls := "java/lang/Object", name := "<init>", desc := "()V" } : Jvm.MethodName) object_method_1_code (1 : Nat) (Option.none : Option Jvm.ClassFile.FieldType), Jvm.Cond.code ({ cls := "com/example/steady_limiter/steadylimiter/SlidingWindowLog$PermitLog", name := "add", desc := "(JJ)V" } : Jvm.MethodName) prog_20_method_5_code (6 : Nat) (Option.none : Option Jvm.ClassFile.FieldType), Jvm.Cond.code ({ cls := "com/example/steady_limiter/steadylimiter/SlidingWindowLog$PermitLog", name := "slot", desc := "(I)I" } : Jvm.MethodName) prog_20_method_6_code (2 : Nat) (Option.some Jvm.ClassFile.FieldType.int), Jvm.Cond.code ({ cls := "com/example/steady_limiter/steadylimiter/SlidingWindowLog$PermitLog", name := "timeAt", desc := "(I)J" } : Jvm.MethodName) prog_20_method_2_code (2 : Nat) (Option.some Jvm.ClassFile.FieldType.long), Jvm.Cond.code ({ cls := "com/example/steady_limiter/steadylimiter/PermitLogAddPinLaw", name := "step", desc := "([J[JIZJJ)I" } : Jvm.MethodName) method_3_code (8 : Nat) (Option.some Jvm.ClassFile.FieldType.int), Jvm.Cond.code ({ cls := "com/example/steady_limiter/steadylimiter/SlidingWindowLog$PermitLog", name := "permitsAt", desc := "(I)J" } : Jvm.MethodName) prog_20_method_3_code (2 : Nat) (Option.some Jvm.ClassFile.FieldType.long), Jvm.Cond.code ({ cls := "com/example/steady_limiter/steadylimiter/SlidingWindowLog$PermitLog", name := "dropOldest", desc := "()V" } : Jvm.MethodName) prog_20_method_4_code (1 : Nat) (Option.none : Option Jvm.ClassFile.FieldType), Jvm.Cond.code ({ cls := "com/example/steady_limiter/steadylimiter/SlidingWindowLog$PermitLog", name := "resize", desc := "(I)V" } : Jvm.MethodName) prog_20_method_7_code (5 : Nat) (Option.none : Option Jvm.ClassFile.FieldType)]
set_option maxRecDepth 65536 in
theorem codes_eq : words1.filter isCode = codes1 := rfl
theorem w_codes : ∀ c ∈ words1.filter isCode, c.before args0 about1 = true := by
  rw [codes_eq]
  intro c hc
  simp only [codes1, List.mem_cons, List.not_mem_nil, or_false] at hc
  rcases hc with rfl | rfl | rfl | rfl | rfl | rfl | rfl | rfl | rfl | rfl | rfl
  · exact w_c0
  · exact w_c1
  · exact w_c2
  · exact w_c3
  · exact w_c4
  · exact w_c5
  · exact w_c6
  · exact w_c7
  · exact w_c8
  · exact w_c9
  · exact w_c10
set_option maxRecDepth 65536 in
theorem w_t1 : (words1.take 24).all (fun c => isCode c || c.before args0 about1) = true := by decide +kernel
set_option maxRecDepth 65536 in
theorem w_t2 : ((words1.drop 24).take 24).all (fun c => isCode c || c.before args0 about1) = true := by decide +kernel
set_option maxRecDepth 65536 in
theorem w_t3 : ((words1.drop 24).drop 24).all (fun c => isCode c || c.before args0 about1) = true := by decide +kernel
theorem w_tables : (allAtoms (Jvm.Cond.code x code maxLocals ret :: tables_1)).before args0 about1 = true := by
  rw [allAtoms_all]
  show words1.all (fun c => c.before args0 about1) = true
  refine all_split ?_ w_codes
  rw [← List.take_append_drop 24 words1, List.all_append, w_t1, ← List.take_append_drop 24 (words1.drop 24), List.all_append, w_t2, w_t3]
  rfl
set_option maxRecDepth 65536 in
theorem w_case : (Jvm.Cond.and given_1 narrow_1).before args0 about1 = true := by decide +kernel
theorem w_applies : (headSpec (Jvm.Cond.code x code maxLocals ret :: tables_1) room_1).applies x e0.platform about1 = true :=
  (Spec.applies_iff w_frames).mpr ⟨w_running, w_runnable, w_alone, w_named, w_hears, w_ripe, w_room, w_tables⟩
theorem atStart : AtStart classFile x code maxLocals ret World_1 tables_1 room_1 Calls_1 rest_1 Pre_1 launch0 p0 e0 about1 theMethod args0 below0 :=
  ⟨lists_1, trivial, launch0.admits_env _ _ _, launch0.least_env, fairChoices_fair.cas, fairChoices_fair.clock, w_frames, w_args, w_heap, w_applies, trivial, trivial, w_case⟩
end start1
theorem witness_1 : WitnessClaimed_1 := ⟨start1.p0, start1.e0, start1.about1, start1.theMethod, start1.args0, start1.below0, start1.atStart⟩
end Jvm.Pilot.@@N@@
