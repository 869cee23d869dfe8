import JvmDerived
import JvmDerived.Pilot.@@N@@Statement
import JvmDerived.Pilot.@@N@@Code
set_option linter.unusedVariables false
set_option linter.unusedSimpArgs false

namespace Jvm.OwnW
open Sem ClassFile Op Lib Jvm.Stand Jvm.Free Jvm.LawKit Jvm.RoadKit
/-- what the walk of one body stands on -/
def Ctx (p : Program) (l : Launch) (e : Env) (R : Room) (s : State) (m : MethodId) (args : Array Value) (below : List Frame) (meth : Method) (c : Code) (Z : State) (own : String) (code : ByteArray) (maxL : Nat) (ret : Option FieldType) (nm : String) : Prop :=
  p.tables.exec = Jvm.exec ∧ c.code = code ∧ c.maxLocals = maxL ∧ s.vm.findClass own = some m.cls ∧ Z.Warmed39 s.vm ∧ meth.sig.returnType = ret ∧ meth.locks = false ∧ meth.name = nm
/-- from here the body returns, and G holds of what it returns and of the heap -/
def WP (p : Program) (l : Launch) (e : Env) (R : Room) (s : State) (m : MethodId) (args : Array Value) (below : List Frame) (meth : Method) (c : Code) (n0 : Nat) (G : Option Value → Heap → Prop) (FE : Outcome → State → List Loc → Prop)
    (h : Heap) (k n pc : Nat) (Ls : Array Slot) (st : List Value) : Prop :=
  ∀ (T : State) (locs : List Loc) (k' n' : Nat), k' ≤ k → n' ≤ n → Stand p l e R s m args below meth c T locs k' n' → T.heap = h → Fr n0 locs →
    ∃ s₂ o, Steps p.tables e below (T.setTop (mkF m pc Ls st)) s₂ ∧ s₂.status = .running ∧ Ended s₂ below o ∧ ∃ v L, o = .returned v ∧ (Fr n0 L ∧ G v s₂.heap) ∧ FE o s₂ L
abbrev WT : Type := Heap → Nat → Nat → Nat → Array Slot → List Value → Prop
def Ru (l : Launch) (Z : State) (own : String) (code : ByteArray) (maxL : Nat) (ret : Option FieldType) (nm : String) (R : Room) (n0 : Nat) (G : Option Value → Heap → Prop) (W : WT) : Prop :=
  ∃ (p : Program) (e : Env) (s : State) (m : MethodId) (args : Array Value) (below : List Frame) (meth : Method) (c : Code) (FE : Outcome → State → List Loc → Prop), Ctx p l e R s m args below meth c Z own code maxL ret nm ∧ (∀ o t L, FrameEnd s o t L R.cells R.slots → FE o t L) ∧ W = WP p l e R s m args below meth c n0 G FE
/-- a body's contract -/
def MeetsW (l : Launch) (Z : State) (n0 : Nat) (y : MethodName) (bytes : ByteArray) (maxL : Nat) (ret : Option FieldType) (rm : Room) (as : Array Value) (h : Heap) (G : Option Value → Heap → Prop) : Prop :=
  ∀ ws : List Cond, MetFree l y (head1 (Cond.code y bytes maxL ret :: ws) rm) (fun a U => a = as ∧ Z.Warmed39 U.vm ∧ U.heap = h) (fun _ _ _ _ _ => True)
    (fun _ U o U' => ∃ v L, o = .returned v ∧ (Fr n0 L ∧ G v U'.heap) ∧ FrameEnd U o U' L rm.cells rm.slots)
theorem MeetsW.intro {l : Launch} {Z : State} {n0 : Nat} {y : MethodName} {bytes : ByteArray} {maxL : Nat} {ret : Option FieldType} {rm : Room} {as : Array Value} {h : Heap} {G : Option Value → Heap → Prop} {Ls : Array Slot}
    (hp : plainFor y = true) (hef : ∀ m, entryFrame m as maxL = mkF m 0 Ls [])
    (body : ∀ W, Ru l Z y.cls bytes maxL ret y.name rm n0 G W → W h 0 0 0 Ls []) : MeetsW l Z n0 y bytes maxL ret rm as h G := by
  intro ws
  refine MetFree.of_bodySF hp hisR ?_
  intro p e s m args below meth c s₁ Bd hml0 hP hK
  obtain ⟨rfl, hZ, hh⟩ := hP
  have X0 : Stand p l e rm s m args below meth c s₁ [] 0 0 := Stand.of_body Bd
  have e0 : s₁.heap = h := by rw [← hh, Bd.state]; rfl
  have C : Ctx p l e rm s m args below meth c Z y.cls bytes maxL ret y.name := ⟨Bd.exec, Bd.bytes, hml0, findClass_of_methodNamed Bd.named, hZ, Bd.returns, Bd.notSynchronized, (name_of_methodNamed Bd.named Bd.method).1⟩
  have q := body _ ⟨p, e, s, m, args, below, meth, c, _, C, fun _ _ _ q => q, rfl⟩ s₁ [] 0 0 (Nat.le_refl _) (Nat.le_refl _) X0 e0 (Fr.nil n0)
  rw [hef]
  exact q

/-! shifts, by how many places -/
def sh5 (y : Int32) : Nat := y.toBitVec.toNat % 32
def sh6 (y : Int32) : Nat := y.toBitVec.toNat % 64
def shlI (x : Int32) (k : Nat) : Int32 := Int32.ofBitVec (x.toBitVec <<< k)
def shrI (x : Int32) (k : Nat) : Int32 := Int32.ofBitVec (x.toBitVec >>> k)
def sarI (x : Int32) (k : Nat) : Int32 := Int32.ofBitVec (x.toBitVec.sshiftRight k)
def shlL (x : Int64) (k : Nat) : Int64 := Int64.ofBitVec (x.toBitVec <<< k)
def shrL (x : Int64) (k : Nat) : Int64 := Int64.ofBitVec (x.toBitVec >>> k)
def sarL (x : Int64) (k : Nat) : Int64 := Int64.ofBitVec (x.toBitVec.sshiftRight k)
theorem and31 (y : Int32) : (y &&& 31).toBitVec.toNat = sh5 y := by
  show (y.toBitVec &&& (31 : Int32).toBitVec).toNat = _
  rw [BitVec.toNat_and, show (31 : Int32).toBitVec.toNat = 2 ^ 5 - 1 from by decide, Nat.and_two_pow_sub_one_eq_mod]; rfl
theorem and63 (y : Int32) : (y.toInt64 &&& 63).toBitVec = BitVec.ofNat 64 (sh6 y) := by
  apply BitVec.eq_of_toNat_eq
  show (y.toBitVec.signExtend 64 &&& (63 : Int64).toBitVec).toNat = _
  rw [BitVec.toNat_and, show (63 : Int64).toBitVec.toNat = 2 ^ 6 - 1 from by decide, Nat.and_two_pow_sub_one_eq_mod, BitVec.toNat_ofNat, BitVec.toNat_signExtend]
  have h1 := y.toBitVec.isLt
  have h2 : (BitVec.setWidth 64 y.toBitVec).toNat = y.toBitVec.toNat := by rw [BitVec.toNat_setWidth]; omega
  rw [h2]
  unfold sh6
  split <;> omega
theorem ishl_eq (x y : Int32) : x <<< (y &&& 31) = shlI x (sh5 y) := by
  apply Int32.toBitVec_inj.mp
  show x.toBitVec <<< ((y &&& 31).toBitVec.smod 32) = x.toBitVec <<< (sh5 y)
  rw [BitVec.shiftLeft_eq', sm32 y _ rfl]; rfl
theorem ishr_eq (x y : Int32) : x >>> (y &&& 31) = sarI x (sh5 y) := by
  apply Int32.toBitVec_inj.mp
  show x.toBitVec.sshiftRight (((y &&& 31).toBitVec.smod 32).toNat) = x.toBitVec.sshiftRight (sh5 y)
  rw [sm32 y _ rfl]; rfl
theorem iushr_eq (x y : Int32) : XT.ushr x y = shrI x (sh5 y) := by
  apply Int32.toBitVec_inj.mp
  show x.toBitVec >>> ((y &&& 31).toBitVec % 32) = x.toBitVec >>> (sh5 y)
  rw [BitVec.ushiftRight_eq', BitVec.toNat_umod, and31]
  congr 1
  show sh5 y % 32 = sh5 y
  unfold sh5; omega
theorem lshl_eq (x : Int64) (y : Int32) : x <<< (y.toInt64 &&& 63) = shlL x (sh6 y) := by
  apply Int64.toBitVec_inj.mp
  show x.toBitVec <<< ((y.toInt64 &&& 63).toBitVec.smod 64) = x.toBitVec <<< (sh6 y)
  rw [BitVec.shiftLeft_eq', and63, smod64 _ (by unfold sh6; omega)]
theorem lshr_eq (x : Int64) (y : Int32) : x >>> (y.toInt64 &&& 63) = sarL x (sh6 y) := by
  apply Int64.toBitVec_inj.mp
  show x.toBitVec.sshiftRight (((y.toInt64 &&& 63).toBitVec.smod 64).toNat) = x.toBitVec.sshiftRight (sh6 y)
  rw [and63, smod64 _ (by unfold sh6; omega)]
theorem lushr_eq (x : Int64) (y : Int32) : XT.ushrL x y = shrL x (sh6 y) := by
  apply Int64.toBitVec_inj.mp
  show x.toBitVec >>> ((y.toInt64 &&& 63).toBitVec % 64) = x.toBitVec >>> (sh6 y)
  rw [BitVec.ushiftRight_eq', BitVec.toNat_umod, and63, BitVec.toNat_ofNat]
  congr 1
  show sh6 y % 2 ^ 64 % 64 = sh6 y
  unfold sh6; omega
section Steps
variable {l : Launch} {Z : State} {own : String} {code : ByteArray} {maxL : Nat} {ret : Option FieldType} {nm : String} {R : Room} {n0 : Nat} {G : Option Value → Heap → Prop} {W : WT} {h : Heap} {k n pc pc' : Nat} {Ls : Array Slot} {st rest : List Value}
theorem Ru.mono (C : Ru l Z own code maxL ret nm R n0 G W) {k2 n2 : Nat} (hk : k ≤ k2) (hn : n ≤ n2) (q : W h k2 n2 pc Ls st) : W h k n pc Ls st := by
  obtain ⟨p, e, s, m, args, below, meth, c, FE, C, hFE, rfl⟩ := C
  intro T locs k' n' q1 q2 X eT N
  exact q T locs k' n' (Nat.le_trans q1 hk) (Nat.le_trans q2 hn) X eT N
theorem Ru.atPc (C : Ru l Z own code maxL ret nm R n0 G W) {pc2 : Nat} (hp : pc2 = pc) (q : W h k n pc2 Ls st) : W h k n pc Ls st := hp ▸ q
theorem Ru.iadd (C : Ru l Z own code maxL ret nm R n0 G W) {x y : Int32} (hd : decode code pc = .ok (.iadd, 1)) (hp : pc + 1 = pc') (q : W h k n pc' Ls (.int (x + y) :: rest)) : W h k n pc Ls (.int y :: .int x :: rest) := by
  obtain ⟨p, e, s, m, args, below, meth, c, FE, ⟨hx, hby, hml, hown, hZ, hre, hlk, hnm⟩, hFE, rfl⟩ := C
  subst hp
  intro T locs k' n' q1 q2 X eT N
  obtain ⟨s2, o, st2, r⟩ := q T locs k' n' q1 q2 X eT N
  exact ⟨s2, o, XS.iadd (X.here) hx rfl (hb hby hd) rfl st2, r⟩
theorem Ru.isub (C : Ru l Z own code maxL ret nm R n0 G W) {x y : Int32} (hd : decode code pc = .ok (.isub, 1)) (hp : pc + 1 = pc') (q : W h k n pc' Ls (.int (x - y) :: rest)) : W h k n pc Ls (.int y :: .int x :: rest) := by
  obtain ⟨p, e, s, m, args, below, meth, c, FE, ⟨hx, hby, hml, hown, hZ, hre, hlk, hnm⟩, hFE, rfl⟩ := C
  subst hp
  intro T locs k' n' q1 q2 X eT N
  obtain ⟨s2, o, st2, r⟩ := q T locs k' n' q1 q2 X eT N
  exact ⟨s2, o, XS.isub (X.here) hx rfl (hb hby hd) rfl st2, r⟩
theorem Ru.iand (C : Ru l Z own code maxL ret nm R n0 G W) {x y : Int32} (hd : decode code pc = .ok (.iand, 1)) (hp : pc + 1 = pc') (q : W h k n pc' Ls (.int (x &&& y) :: rest)) : W h k n pc Ls (.int y :: .int x :: rest) := by
  obtain ⟨p, e, s, m, args, below, meth, c, FE, ⟨hx, hby, hml, hown, hZ, hre, hlk, hnm⟩, hFE, rfl⟩ := C
  subst hp
  intro T locs k' n' q1 q2 X eT N
  obtain ⟨s2, o, st2, r⟩ := q T locs k' n' q1 q2 X eT N
  exact ⟨s2, o, XS.iand (X.here) hx rfl (hb hby hd) rfl st2, r⟩
theorem Ru.imul (C : Ru l Z own code maxL ret nm R n0 G W) {x y : Int32} (hd : decode code pc = .ok (.imul, 1)) (hp : pc + 1 = pc') (q : W h k n pc' Ls (.int (x * y) :: rest)) : W h k n pc Ls (.int y :: .int x :: rest) := by
  obtain ⟨p, e, s, m, args, below, meth, c, FE, ⟨hx, hby, hml, hown, hZ, hre, hlk, hnm⟩, hFE, rfl⟩ := C
  subst hp
  intro T locs k' n' q1 q2 X eT N
  obtain ⟨s2, o, st2, r⟩ := q T locs k' n' q1 q2 X eT N
  exact ⟨s2, o, XS.imul (X.here) hx rfl (hb hby hd) rfl st2, r⟩
theorem Ru.ixor (C : Ru l Z own code maxL ret nm R n0 G W) {x y : Int32} (hd : decode code pc = .ok (.ixor, 1)) (hp : pc + 1 = pc') (q : W h k n pc' Ls (.int (x ^^^ y) :: rest)) : W h k n pc Ls (.int y :: .int x :: rest) := by
  obtain ⟨p, e, s, m, args, below, meth, c, FE, ⟨hx, hby, hml, hown, hZ, hre, hlk, hnm⟩, hFE, rfl⟩ := C
  subst hp
  intro T locs k' n' q1 q2 X eT N
  obtain ⟨s2, o, st2, r⟩ := q T locs k' n' q1 q2 X eT N
  exact ⟨s2, o, XT.ixor (X.here) hx rfl (hb hby hd) rfl st2, r⟩
theorem Ru.ior (C : Ru l Z own code maxL ret nm R n0 G W) {x y : Int32} (hd : decode code pc = .ok (.ior, 1)) (hp : pc + 1 = pc') (q : W h k n pc' Ls (.int (x ||| y) :: rest)) : W h k n pc Ls (.int y :: .int x :: rest) := by
  obtain ⟨p, e, s, m, args, below, meth, c, FE, ⟨hx, hby, hml, hown, hZ, hre, hlk, hnm⟩, hFE, rfl⟩ := C
  subst hp
  intro T locs k' n' q1 q2 X eT N
  obtain ⟨s2, o, st2, r⟩ := q T locs k' n' q1 q2 X eT N
  exact ⟨s2, o, XT.ior (X.here) hx rfl (hb hby hd) rfl st2, r⟩
theorem Ru.idiv (C : Ru l Z own code maxL ret nm R n0 G W) {x y : Int32} (hd : decode code pc = .ok (.idiv, 1)) (hp : pc + 1 = pc') (hy : y ≠ 0) (q : W h k n pc' Ls (.int (x / y) :: rest)) : W h k n pc Ls (.int y :: .int x :: rest) := by
  obtain ⟨p, e, s, m, args, below, meth, c, FE, ⟨hx, hby, hml, hown, hZ, hre, hlk, hnm⟩, hFE, rfl⟩ := C
  subst hp
  intro T locs k' n' q1 q2 X eT N
  obtain ⟨s2, o, st2, r⟩ := q T locs k' n' q1 q2 X eT N
  exact ⟨s2, o, XS.idiv (X.here) hx rfl (hb hby hd) rfl hy st2, r⟩
theorem Ru.irem (C : Ru l Z own code maxL ret nm R n0 G W) {x y : Int32} (hd : decode code pc = .ok (.irem, 1)) (hp : pc + 1 = pc') (hy : y ≠ 0) (q : W h k n pc' Ls (.int (x % y) :: rest)) : W h k n pc Ls (.int y :: .int x :: rest) := by
  obtain ⟨p, e, s, m, args, below, meth, c, FE, ⟨hx, hby, hml, hown, hZ, hre, hlk, hnm⟩, hFE, rfl⟩ := C
  subst hp
  intro T locs k' n' q1 q2 X eT N
  obtain ⟨s2, o, st2, r⟩ := q T locs k' n' q1 q2 X eT N
  exact ⟨s2, o, iremM (X) hx rfl (hb hby hd) rfl hy st2, r⟩
theorem Ru.ineg (C : Ru l Z own code maxL ret nm R n0 G W) {x : Int32} (hd : decode code pc = .ok (.ineg, 1)) (hp : pc + 1 = pc') (q : W h k n pc' Ls (.int (-x) :: rest)) : W h k n pc Ls (.int x :: rest) := by
  obtain ⟨p, e, s, m, args, below, meth, c, FE, ⟨hx, hby, hml, hown, hZ, hre, hlk, hnm⟩, hFE, rfl⟩ := C
  subst hp
  intro T locs k' n' q1 q2 X eT N
  obtain ⟨s2, o, st2, r⟩ := q T locs k' n' q1 q2 X eT N
  exact ⟨s2, o, XS.ineg (X.here) hx rfl (hb hby hd) rfl st2, r⟩
theorem Ru.ladd (C : Ru l Z own code maxL ret nm R n0 G W) {x y : Int64} (hd : decode code pc = .ok (.ladd, 1)) (hp : pc + 1 = pc') (q : W h k n pc' Ls (.long (x + y) :: rest)) : W h k n pc Ls (.long y :: .long x :: rest) := by
  obtain ⟨p, e, s, m, args, below, meth, c, FE, ⟨hx, hby, hml, hown, hZ, hre, hlk, hnm⟩, hFE, rfl⟩ := C
  subst hp
  intro T locs k' n' q1 q2 X eT N
  obtain ⟨s2, o, st2, r⟩ := q T locs k' n' q1 q2 X eT N
  exact ⟨s2, o, XT.ladd (X.here) hx rfl (hb hby hd) rfl st2, r⟩
theorem Ru.lsub (C : Ru l Z own code maxL ret nm R n0 G W) {x y : Int64} (hd : decode code pc = .ok (.lsub, 1)) (hp : pc + 1 = pc') (q : W h k n pc' Ls (.long (x - y) :: rest)) : W h k n pc Ls (.long y :: .long x :: rest) := by
  obtain ⟨p, e, s, m, args, below, meth, c, FE, ⟨hx, hby, hml, hown, hZ, hre, hlk, hnm⟩, hFE, rfl⟩ := C
  subst hp
  intro T locs k' n' q1 q2 X eT N
  obtain ⟨s2, o, st2, r⟩ := q T locs k' n' q1 q2 X eT N
  exact ⟨s2, o, XT.lsub (X.here) hx rfl (hb hby hd) rfl st2, r⟩
theorem Ru.lmul (C : Ru l Z own code maxL ret nm R n0 G W) {x y : Int64} (hd : decode code pc = .ok (.lmul, 1)) (hp : pc + 1 = pc') (q : W h k n pc' Ls (.long (x * y) :: rest)) : W h k n pc Ls (.long y :: .long x :: rest) := by
  obtain ⟨p, e, s, m, args, below, meth, c, FE, ⟨hx, hby, hml, hown, hZ, hre, hlk, hnm⟩, hFE, rfl⟩ := C
  subst hp
  intro T locs k' n' q1 q2 X eT N
  obtain ⟨s2, o, st2, r⟩ := q T locs k' n' q1 q2 X eT N
  exact ⟨s2, o, XT.lmul (X.here) hx rfl (hb hby hd) rfl st2, r⟩
theorem Ru.land (C : Ru l Z own code maxL ret nm R n0 G W) {x y : Int64} (hd : decode code pc = .ok (.land, 1)) (hp : pc + 1 = pc') (q : W h k n pc' Ls (.long (x &&& y) :: rest)) : W h k n pc Ls (.long y :: .long x :: rest) := by
  obtain ⟨p, e, s, m, args, below, meth, c, FE, ⟨hx, hby, hml, hown, hZ, hre, hlk, hnm⟩, hFE, rfl⟩ := C
  subst hp
  intro T locs k' n' q1 q2 X eT N
  obtain ⟨s2, o, st2, r⟩ := q T locs k' n' q1 q2 X eT N
  exact ⟨s2, o, XT.land (X.here) hx rfl (hb hby hd) rfl st2, r⟩
theorem Ru.lor (C : Ru l Z own code maxL ret nm R n0 G W) {x y : Int64} (hd : decode code pc = .ok (.lor, 1)) (hp : pc + 1 = pc') (q : W h k n pc' Ls (.long (x ||| y) :: rest)) : W h k n pc Ls (.long y :: .long x :: rest) := by
  obtain ⟨p, e, s, m, args, below, meth, c, FE, ⟨hx, hby, hml, hown, hZ, hre, hlk, hnm⟩, hFE, rfl⟩ := C
  subst hp
  intro T locs k' n' q1 q2 X eT N
  obtain ⟨s2, o, st2, r⟩ := q T locs k' n' q1 q2 X eT N
  exact ⟨s2, o, XT.lor (X.here) hx rfl (hb hby hd) rfl st2, r⟩
theorem Ru.lxor (C : Ru l Z own code maxL ret nm R n0 G W) {x y : Int64} (hd : decode code pc = .ok (.lxor, 1)) (hp : pc + 1 = pc') (q : W h k n pc' Ls (.long (x ^^^ y) :: rest)) : W h k n pc Ls (.long y :: .long x :: rest) := by
  obtain ⟨p, e, s, m, args, below, meth, c, FE, ⟨hx, hby, hml, hown, hZ, hre, hlk, hnm⟩, hFE, rfl⟩ := C
  subst hp
  intro T locs k' n' q1 q2 X eT N
  obtain ⟨s2, o, st2, r⟩ := q T locs k' n' q1 q2 X eT N
  exact ⟨s2, o, XT.lxor (X.here) hx rfl (hb hby hd) rfl st2, r⟩
theorem Ru.ldiv (C : Ru l Z own code maxL ret nm R n0 G W) {x y : Int64} (hd : decode code pc = .ok (.ldiv, 1)) (hp : pc + 1 = pc') (hy : y ≠ 0) (q : W h k n pc' Ls (.long (x / y) :: rest)) : W h k n pc Ls (.long y :: .long x :: rest) := by
  obtain ⟨p, e, s, m, args, below, meth, c, FE, ⟨hx, hby, hml, hown, hZ, hre, hlk, hnm⟩, hFE, rfl⟩ := C
  subst hp
  intro T locs k' n' q1 q2 X eT N
  obtain ⟨s2, o, st2, r⟩ := q T locs k' n' q1 q2 X eT N
  exact ⟨s2, o, XT.ldiv (X.here) hx rfl (hb hby hd) rfl hy st2, r⟩
theorem Ru.ishl (C : Ru l Z own code maxL ret nm R n0 G W) {x : Int32} {y : Int32} {s : Nat} (hd : decode code pc = .ok (.ishl, 1)) (hp : pc + 1 = pc') (hs : sh5 y = s) (q : W h k n pc' Ls (.int (shlI x s) :: rest)) : W h k n pc Ls (.int y :: .int x :: rest) := by
  obtain ⟨p, e, s', m, args, below, meth, c, FE, ⟨hx, hby, hml, hown, hZ, hre, hlk, hnm⟩, hFE, rfl⟩ := C
  subst hp hs
  intro T locs k' n' q1 q2 X eT N
  obtain ⟨s2, o, st2, r⟩ := q T locs k' n' q1 q2 X eT N
  exact ⟨s2, o, XT.ishl X.here hx rfl (hb hby hd) rfl (by rw [ishl_eq]; exact st2), r⟩
theorem Ru.ishr (C : Ru l Z own code maxL ret nm R n0 G W) {x : Int32} {y : Int32} {s : Nat} (hd : decode code pc = .ok (.ishr, 1)) (hp : pc + 1 = pc') (hs : sh5 y = s) (q : W h k n pc' Ls (.int (sarI x s) :: rest)) : W h k n pc Ls (.int y :: .int x :: rest) := by
  obtain ⟨p, e, s', m, args, below, meth, c, FE, ⟨hx, hby, hml, hown, hZ, hre, hlk, hnm⟩, hFE, rfl⟩ := C
  subst hp hs
  intro T locs k' n' q1 q2 X eT N
  obtain ⟨s2, o, st2, r⟩ := q T locs k' n' q1 q2 X eT N
  exact ⟨s2, o, XT.ishr X.here hx rfl (hb hby hd) rfl (by rw [ishr_eq]; exact st2), r⟩
theorem Ru.iushr (C : Ru l Z own code maxL ret nm R n0 G W) {x : Int32} {y : Int32} {s : Nat} (hd : decode code pc = .ok (.iushr, 1)) (hp : pc + 1 = pc') (hs : sh5 y = s) (q : W h k n pc' Ls (.int (shrI x s) :: rest)) : W h k n pc Ls (.int y :: .int x :: rest) := by
  obtain ⟨p, e, s', m, args, below, meth, c, FE, ⟨hx, hby, hml, hown, hZ, hre, hlk, hnm⟩, hFE, rfl⟩ := C
  subst hp hs
  intro T locs k' n' q1 q2 X eT N
  obtain ⟨s2, o, st2, r⟩ := q T locs k' n' q1 q2 X eT N
  exact ⟨s2, o, XT.iushr X.here hx rfl (hb hby hd) rfl (by rw [iushr_eq]; exact st2), r⟩
theorem Ru.lshl (C : Ru l Z own code maxL ret nm R n0 G W) {x : Int64} {y : Int32} {s : Nat} (hd : decode code pc = .ok (.lshl, 1)) (hp : pc + 1 = pc') (hs : sh6 y = s) (q : W h k n pc' Ls (.long (shlL x s) :: rest)) : W h k n pc Ls (.int y :: .long x :: rest) := by
  obtain ⟨p, e, s', m, args, below, meth, c, FE, ⟨hx, hby, hml, hown, hZ, hre, hlk, hnm⟩, hFE, rfl⟩ := C
  subst hp hs
  intro T locs k' n' q1 q2 X eT N
  obtain ⟨s2, o, st2, r⟩ := q T locs k' n' q1 q2 X eT N
  exact ⟨s2, o, XT.lshl X.here hx rfl (hb hby hd) rfl (by rw [lshl_eq]; exact st2), r⟩
theorem Ru.lshr (C : Ru l Z own code maxL ret nm R n0 G W) {x : Int64} {y : Int32} {s : Nat} (hd : decode code pc = .ok (.lshr, 1)) (hp : pc + 1 = pc') (hs : sh6 y = s) (q : W h k n pc' Ls (.long (sarL x s) :: rest)) : W h k n pc Ls (.int y :: .long x :: rest) := by
  obtain ⟨p, e, s', m, args, below, meth, c, FE, ⟨hx, hby, hml, hown, hZ, hre, hlk, hnm⟩, hFE, rfl⟩ := C
  subst hp hs
  intro T locs k' n' q1 q2 X eT N
  obtain ⟨s2, o, st2, r⟩ := q T locs k' n' q1 q2 X eT N
  exact ⟨s2, o, XT.lshr X.here hx rfl (hb hby hd) rfl (by rw [lshr_eq]; exact st2), r⟩
theorem Ru.lushr (C : Ru l Z own code maxL ret nm R n0 G W) {x : Int64} {y : Int32} {s : Nat} (hd : decode code pc = .ok (.lushr, 1)) (hp : pc + 1 = pc') (hs : sh6 y = s) (q : W h k n pc' Ls (.long (shrL x s) :: rest)) : W h k n pc Ls (.int y :: .long x :: rest) := by
  obtain ⟨p, e, s', m, args, below, meth, c, FE, ⟨hx, hby, hml, hown, hZ, hre, hlk, hnm⟩, hFE, rfl⟩ := C
  subst hp hs
  intro T locs k' n' q1 q2 X eT N
  obtain ⟨s2, o, st2, r⟩ := q T locs k' n' q1 q2 X eT N
  exact ⟨s2, o, XT.lushr X.here hx rfl (hb hby hd) rfl (by rw [lushr_eq]; exact st2), r⟩
theorem Ru.i2l (C : Ru l Z own code maxL ret nm R n0 G W) {x : Int32} (hd : decode code pc = .ok (.i2l, 1)) (hp : pc + 1 = pc') (q : W h k n pc' Ls (.long x.toInt64 :: rest)) : W h k n pc Ls (.int x :: rest) := by
  obtain ⟨p, e, s, m, args, below, meth, c, FE, ⟨hx, hby, hml, hown, hZ, hre, hlk, hnm⟩, hFE, rfl⟩ := C
  subst hp
  intro T locs k' n' q1 q2 X eT N
  obtain ⟨s2, o, st2, r⟩ := q T locs k' n' q1 q2 X eT N
  exact ⟨s2, o, XT.i2l (X.here) hx rfl (hb hby hd) rfl st2, r⟩
theorem Ru.l2i (C : Ru l Z own code maxL ret nm R n0 G W) {x : Int64} (hd : decode code pc = .ok (.l2i, 1)) (hp : pc + 1 = pc') (q : W h k n pc' Ls (.int x.toInt32 :: rest)) : W h k n pc Ls (.long x :: rest) := by
  obtain ⟨p, e, s, m, args, below, meth, c, FE, ⟨hx, hby, hml, hown, hZ, hre, hlk, hnm⟩, hFE, rfl⟩ := C
  subst hp
  intro T locs k' n' q1 q2 X eT N
  obtain ⟨s2, o, st2, r⟩ := q T locs k' n' q1 q2 X eT N
  exact ⟨s2, o, XT.l2i (X.here) hx rfl (hb hby hd) rfl st2, r⟩
theorem Ru.i2b (C : Ru l Z own code maxL ret nm R n0 G W) {x : Int32} (hd : decode code pc = .ok (.i2b, 1)) (hp : pc + 1 = pc') (q : W h k n pc' Ls (.int x.toInt8.toInt32 :: rest)) : W h k n pc Ls (.int x :: rest) := by
  obtain ⟨p, e, s, m, args, below, meth, c, FE, ⟨hx, hby, hml, hown, hZ, hre, hlk, hnm⟩, hFE, rfl⟩ := C
  subst hp
  intro T locs k' n' q1 q2 X eT N
  obtain ⟨s2, o, st2, r⟩ := q T locs k' n' q1 q2 X eT N
  exact ⟨s2, o, XT.i2b (X.here) hx rfl (hb hby hd) rfl st2, r⟩
theorem Ru.iconst (C : Ru l Z own code maxL ret nm R n0 G W) {i : Int} {v : Int32} (hd : decode code pc = .ok (.iconst i, 1)) (hp : pc + 1 = pc') (hv : Int32.ofInt i = v) (q : W h k n pc' Ls (.int v :: st)) : W h k n pc Ls (st) := by
  obtain ⟨p, e, s, m, args, below, meth, c, FE, ⟨hx, hby, hml, hown, hZ, hre, hlk, hnm⟩, hFE, rfl⟩ := C
  subst hp hv
  intro T locs k' n' q1 q2 X eT N
  obtain ⟨s2, o, st2, r⟩ := q T locs k' n' q1 q2 X eT N
  exact ⟨s2, o, XS.iconst (X.here) hx rfl (hb hby hd)  st2, r⟩
theorem Ru.bipush (C : Ru l Z own code maxL ret nm R n0 G W) {i : Int} {v : Int32} (hd : decode code pc = .ok (.bipush i, 2)) (hp : pc + 2 = pc') (hv : (Int8.ofInt i).toInt32 = v) (q : W h k n pc' Ls (.int v :: st)) : W h k n pc Ls (st) := by
  obtain ⟨p, e, s, m, args, below, meth, c, FE, ⟨hx, hby, hml, hown, hZ, hre, hlk, hnm⟩, hFE, rfl⟩ := C
  subst hp hv
  intro T locs k' n' q1 q2 X eT N
  obtain ⟨s2, o, st2, r⟩ := q T locs k' n' q1 q2 X eT N
  exact ⟨s2, o, XS.bipush (X.here) hx rfl (hb hby hd)  st2, r⟩
theorem Ru.sipush (C : Ru l Z own code maxL ret nm R n0 G W) {i : Int} {v : Int32} (hd : decode code pc = .ok (.sipush i, 3)) (hp : pc + 3 = pc') (hv : (Int16.ofInt i).toInt32 = v) (q : W h k n pc' Ls (.int v :: st)) : W h k n pc Ls (st) := by
  obtain ⟨p, e, s, m, args, below, meth, c, FE, ⟨hx, hby, hml, hown, hZ, hre, hlk, hnm⟩, hFE, rfl⟩ := C
  subst hp hv
  intro T locs k' n' q1 q2 X eT N
  obtain ⟨s2, o, st2, r⟩ := q T locs k' n' q1 q2 X eT N
  exact ⟨s2, o, XS.sipush (X.here) hx rfl (hb hby hd)  st2, r⟩
theorem Ru.lconst (C : Ru l Z own code maxL ret nm R n0 G W) {i : Fin 2} {v : Int64} (hd : decode code pc = .ok (.lconst i, 1)) (hp : pc + 1 = pc') (hv : Int64.ofNat i = v) (q : W h k n pc' Ls (.long v :: st)) : W h k n pc Ls (st) := by
  obtain ⟨p, e, s, m, args, below, meth, c, FE, ⟨hx, hby, hml, hown, hZ, hre, hlk, hnm⟩, hFE, rfl⟩ := C
  subst hp hv
  intro T locs k' n' q1 q2 X eT N
  obtain ⟨s2, o, st2, r⟩ := q T locs k' n' q1 q2 X eT N
  exact ⟨s2, o, XT.lconst (X.here) hx rfl (hb hby hd)  st2, r⟩
theorem Ru.aconstNull (C : Ru l Z own code maxL ret nm R n0 G W)  (hd : decode code pc = .ok (.aconst_null, 1)) (hp : pc + 1 = pc') (q : W h k n pc' Ls (.null :: st)) : W h k n pc Ls (st) := by
  obtain ⟨p, e, s, m, args, below, meth, c, FE, ⟨hx, hby, hml, hown, hZ, hre, hlk, hnm⟩, hFE, rfl⟩ := C
  subst hp
  intro T locs k' n' q1 q2 X eT N
  obtain ⟨s2, o, st2, r⟩ := q T locs k' n' q1 q2 X eT N
  exact ⟨s2, o, XS.aconstNull (X.here) hx rfl (hb hby hd)  st2, r⟩
theorem Ru.dup (C : Ru l Z own code maxL ret nm R n0 G W) {x : Value} (hd : decode code pc = .ok (.dup, 1)) (hp : pc + 1 = pc') (hc : x.category = 1) (q : W h k n pc' Ls (x :: x :: rest)) : W h k n pc Ls (x :: rest) := by
  obtain ⟨p, e, s, m, args, below, meth, c, FE, ⟨hx, hby, hml, hown, hZ, hre, hlk, hnm⟩, hFE, rfl⟩ := C
  subst hp
  intro T locs k' n' q1 q2 X eT N
  obtain ⟨s2, o, st2, r⟩ := q T locs k' n' q1 q2 X eT N
  exact ⟨s2, o, XS.dup (X.here) hx rfl (hb hby hd) rfl hc st2, r⟩
theorem Ru.pop (C : Ru l Z own code maxL ret nm R n0 G W) {x : Value} (hd : decode code pc = .ok (.pop, 1)) (hp : pc + 1 = pc') (hc : x.category = 1) (q : W h k n pc' Ls (rest)) : W h k n pc Ls (x :: rest) := by
  obtain ⟨p, e, s, m, args, below, meth, c, FE, ⟨hx, hby, hml, hown, hZ, hre, hlk, hnm⟩, hFE, rfl⟩ := C
  subst hp
  intro T locs k' n' q1 q2 X eT N
  obtain ⟨s2, o, st2, r⟩ := q T locs k' n' q1 q2 X eT N
  exact ⟨s2, o, XT.pop (X.here) hx rfl (hb hby hd) rfl hc st2, r⟩
theorem Ru.dup2 (C : Ru l Z own code maxL ret nm R n0 G W) {x y : Value} (hd : decode code pc = .ok (.dup2, 1)) (hp : pc + 1 = pc') (hc : x.category = 1) (hc' : y.category = 1) (q : W h k n pc' Ls (x :: y :: x :: y :: rest)) : W h k n pc Ls (x :: y :: rest) := by
  obtain ⟨p, e, s, m, args, below, meth, c, FE, ⟨hx, hby, hml, hown, hZ, hre, hlk, hnm⟩, hFE, rfl⟩ := C
  subst hp
  intro T locs k' n' q1 q2 X eT N
  obtain ⟨s2, o, st2, r⟩ := q T locs k' n' q1 q2 X eT N
  exact ⟨s2, o, XT.dup2 (X.here) hx rfl (hb hby hd) rfl hc hc' st2, r⟩
theorem Ru.dup2L (C : Ru l Z own code maxL ret nm R n0 G W) {x : Int64} (hd : decode code pc = .ok (.dup2, 1)) (hp : pc + 1 = pc') (q : W h k n pc' Ls (.long x :: .long x :: rest)) : W h k n pc Ls (.long x :: rest) := by
  obtain ⟨p, e, s, m, args, below, meth, c, FE, ⟨hx, hby, hml, hown, hZ, hre, hlk, hnm⟩, hFE, rfl⟩ := C
  subst hp
  intro T locs k' n' q1 q2 X eT N
  obtain ⟨s2, o, st2, r⟩ := q T locs k' n' q1 q2 X eT N
  exact ⟨s2, o, XT.dup2L (X.here) hx rfl (hb hby hd) rfl st2, r⟩
theorem Ru.dupX1 (C : Ru l Z own code maxL ret nm R n0 G W) {x y : Value} (hd : decode code pc = .ok (.dup_x1, 1)) (hp : pc + 1 = pc') (hc : x.category = 1) (hc' : y.category = 1) (q : W h k n pc' Ls (x :: y :: x :: rest)) : W h k n pc Ls (x :: y :: rest) := by
  obtain ⟨p, e, s, m, args, below, meth, c, FE, ⟨hx, hby, hml, hown, hZ, hre, hlk, hnm⟩, hFE, rfl⟩ := C
  subst hp
  intro T locs k' n' q1 q2 X eT N
  obtain ⟨s2, o, st2, r⟩ := q T locs k' n' q1 q2 X eT N
  exact ⟨s2, o, XT.dupX1 (X.here) hx rfl (hb hby hd) rfl hc hc' st2, r⟩
theorem Ru.iload (C : Ru l Z own code maxL ret nm R n0 G W) {j : Nat} {v : Int32} (hd : decode code pc = .ok (.iload j, 2)) (hp : pc + 2 = pc') (hl : Ls[j]? = some (.val (.int v))) (q : W h k n pc' Ls (.int v :: st)) : W h k n pc Ls (st) := by
  obtain ⟨p, e, s, m, args, below, meth, c, FE, ⟨hx, hby, hml, hown, hZ, hre, hlk, hnm⟩, hFE, rfl⟩ := C
  subst hp
  intro T locs k' n' q1 q2 X eT N
  obtain ⟨s2, o, st2, r⟩ := q T locs k' n' q1 q2 X eT N
  exact ⟨s2, o, XS.iload (X.here) hx rfl (hb hby hd) hl st2, r⟩
theorem Ru.iloadN (C : Ru l Z own code maxL ret nm R n0 G W) {j : Fin 4} {v : Int32} (hd : decode code pc = .ok (.iload_n j, 1)) (hp : pc + 1 = pc') (hl : Ls[j.val]? = some (.val (.int v))) (q : W h k n pc' Ls (.int v :: st)) : W h k n pc Ls (st) := by
  obtain ⟨p, e, s, m, args, below, meth, c, FE, ⟨hx, hby, hml, hown, hZ, hre, hlk, hnm⟩, hFE, rfl⟩ := C
  subst hp
  intro T locs k' n' q1 q2 X eT N
  obtain ⟨s2, o, st2, r⟩ := q T locs k' n' q1 q2 X eT N
  exact ⟨s2, o, XS.iloadN (X.here) hx rfl (hb hby hd) hl st2, r⟩
theorem Ru.lload (C : Ru l Z own code maxL ret nm R n0 G W) {j : Nat} {v : Int64} (hd : decode code pc = .ok (.lload j, 2)) (hp : pc + 2 = pc') (hl : Ls[j]? = some (.val (.long v))) (q : W h k n pc' Ls (.long v :: st)) : W h k n pc Ls (st) := by
  obtain ⟨p, e, s, m, args, below, meth, c, FE, ⟨hx, hby, hml, hown, hZ, hre, hlk, hnm⟩, hFE, rfl⟩ := C
  subst hp
  intro T locs k' n' q1 q2 X eT N
  obtain ⟨s2, o, st2, r⟩ := q T locs k' n' q1 q2 X eT N
  exact ⟨s2, o, XT.lload (X.here) hx rfl (hb hby hd) hl st2, r⟩
theorem Ru.lloadN (C : Ru l Z own code maxL ret nm R n0 G W) {j : Fin 4} {v : Int64} (hd : decode code pc = .ok (.lload_n j, 1)) (hp : pc + 1 = pc') (hl : Ls[j.val]? = some (.val (.long v))) (q : W h k n pc' Ls (.long v :: st)) : W h k n pc Ls (st) := by
  obtain ⟨p, e, s, m, args, below, meth, c, FE, ⟨hx, hby, hml, hown, hZ, hre, hlk, hnm⟩, hFE, rfl⟩ := C
  subst hp
  intro T locs k' n' q1 q2 X eT N
  obtain ⟨s2, o, st2, r⟩ := q T locs k' n' q1 q2 X eT N
  exact ⟨s2, o, XT.lloadN (X.here) hx rfl (hb hby hd) hl st2, r⟩
theorem Ru.aload (C : Ru l Z own code maxL ret nm R n0 G W) {j : Nat} {v : Value} (hd : decode code pc = .ok (.aload j, 2)) (hp : pc + 2 = pc') (hl : Ls[j]? = some (.val v)) (hv : v.isRef = true) (q : W h k n pc' Ls (v :: st)) : W h k n pc Ls (st) := by
  obtain ⟨p, e, s, m, args, below, meth, c, FE, ⟨hx, hby, hml, hown, hZ, hre, hlk, hnm⟩, hFE, rfl⟩ := C
  subst hp
  intro T locs k' n' q1 q2 X eT N
  obtain ⟨s2, o, st2, r⟩ := q T locs k' n' q1 q2 X eT N
  exact ⟨s2, o, XS.aload (X.here) hx rfl (hb hby hd) hl hv st2, r⟩
theorem Ru.aloadN (C : Ru l Z own code maxL ret nm R n0 G W) {j : Fin 4} {v : Value} (hd : decode code pc = .ok (.aload_n j, 1)) (hp : pc + 1 = pc') (hl : Ls[j.val]? = some (.val v)) (hv : v.isRef = true) (q : W h k n pc' Ls (v :: st)) : W h k n pc Ls (st) := by
  obtain ⟨p, e, s, m, args, below, meth, c, FE, ⟨hx, hby, hml, hown, hZ, hre, hlk, hnm⟩, hFE, rfl⟩ := C
  subst hp
  intro T locs k' n' q1 q2 X eT N
  obtain ⟨s2, o, st2, r⟩ := q T locs k' n' q1 q2 X eT N
  exact ⟨s2, o, XS.aloadN (X.here) hx rfl (hb hby hd) hl hv st2, r⟩
theorem Ru.istoreX (C : Ru l Z own code maxL ret nm R n0 G W) {j : Nat} {x : Int32} {l' : Array Slot} (hd : decode code pc = .ok (.istore j, 2)) (hp : pc + 2 = pc') (hl : storeLocals Ls j (.int x) = some l') (q : W h k n pc' l' rest) : W h k n pc Ls (.int x :: rest) := by
  obtain ⟨p, e, s, m, args, below, meth, c, FE, ⟨hx, hby, hml, hown, hZ, hre, hlk, hnm⟩, hFE, rfl⟩ := C
  subst hp
  intro T locs k' n' q1 q2 X eT N
  obtain ⟨s2, o, st2, r⟩ := q T locs k' n' q1 q2 X eT N
  exact ⟨s2, o, XS.istore X.here hx rfl (hb hby hd) rfl hl st2, r⟩
theorem Ru.istoreNX (C : Ru l Z own code maxL ret nm R n0 G W) {j : Fin 4} {x : Int32} {l' : Array Slot} (hd : decode code pc = .ok (.istore_n j, 1)) (hp : pc + 1 = pc') (hl : storeLocals Ls j.val (.int x) = some l') (q : W h k n pc' l' rest) : W h k n pc Ls (.int x :: rest) := by
  obtain ⟨p, e, s, m, args, below, meth, c, FE, ⟨hx, hby, hml, hown, hZ, hre, hlk, hnm⟩, hFE, rfl⟩ := C
  subst hp
  intro T locs k' n' q1 q2 X eT N
  obtain ⟨s2, o, st2, r⟩ := q T locs k' n' q1 q2 X eT N
  exact ⟨s2, o, XS.istoreN X.here hx rfl (hb hby hd) rfl hl st2, r⟩
theorem Ru.lstoreX (C : Ru l Z own code maxL ret nm R n0 G W) {j : Nat} {x : Int64} {l' : Array Slot} (hd : decode code pc = .ok (.lstore j, 2)) (hp : pc + 2 = pc') (hl : storeLocals Ls j (.long x) = some l') (q : W h k n pc' l' rest) : W h k n pc Ls (.long x :: rest) := by
  obtain ⟨p, e, s, m, args, below, meth, c, FE, ⟨hx, hby, hml, hown, hZ, hre, hlk, hnm⟩, hFE, rfl⟩ := C
  subst hp
  intro T locs k' n' q1 q2 X eT N
  obtain ⟨s2, o, st2, r⟩ := q T locs k' n' q1 q2 X eT N
  exact ⟨s2, o, XT.lstore X.here hx rfl (hb hby hd) rfl hl st2, r⟩
theorem Ru.lstoreNX (C : Ru l Z own code maxL ret nm R n0 G W) {j : Fin 4} {x : Int64} {l' : Array Slot} (hd : decode code pc = .ok (.lstore_n j, 1)) (hp : pc + 1 = pc') (hl : storeLocals Ls j.val (.long x) = some l') (q : W h k n pc' l' rest) : W h k n pc Ls (.long x :: rest) := by
  obtain ⟨p, e, s, m, args, below, meth, c, FE, ⟨hx, hby, hml, hown, hZ, hre, hlk, hnm⟩, hFE, rfl⟩ := C
  subst hp
  intro T locs k' n' q1 q2 X eT N
  obtain ⟨s2, o, st2, r⟩ := q T locs k' n' q1 q2 X eT N
  exact ⟨s2, o, XT.lstoreN X.here hx rfl (hb hby hd) rfl hl st2, r⟩
theorem Ru.istore (C : Ru l Z own code maxL ret nm R n0 G W) {j : Nat} {x : Int32} {f : Int32 → Array Slot} (hd : decode code pc = .ok (.istore j, 2)) (hp : pc + 2 = pc') (hl : ∀ v, storeLocals Ls j (.int v) = some (f v)) (q : ∀ v, v = x → W h k n pc' (f v) rest) : W h k n pc Ls (.int x :: rest) := by
  obtain ⟨p, e, s, m, args, below, meth, c, FE, ⟨hx, hby, hml, hown, hZ, hre, hlk, hnm⟩, hFE, rfl⟩ := C
  subst hp
  intro T locs k' n' q1 q2 X eT N
  obtain ⟨s2, o, st2, r⟩ := q x rfl T locs k' n' q1 q2 X eT N
  exact ⟨s2, o, XS.istore X.here hx rfl (hb hby hd) rfl (hl x) st2, r⟩
theorem Ru.istoreN (C : Ru l Z own code maxL ret nm R n0 G W) {j : Fin 4} {x : Int32} {f : Int32 → Array Slot} (hd : decode code pc = .ok (.istore_n j, 1)) (hp : pc + 1 = pc') (hl : ∀ v, storeLocals Ls j.val (.int v) = some (f v)) (q : ∀ v, v = x → W h k n pc' (f v) rest) : W h k n pc Ls (.int x :: rest) := by
  obtain ⟨p, e, s, m, args, below, meth, c, FE, ⟨hx, hby, hml, hown, hZ, hre, hlk, hnm⟩, hFE, rfl⟩ := C
  subst hp
  intro T locs k' n' q1 q2 X eT N
  obtain ⟨s2, o, st2, r⟩ := q x rfl T locs k' n' q1 q2 X eT N
  exact ⟨s2, o, XS.istoreN X.here hx rfl (hb hby hd) rfl (hl x) st2, r⟩
theorem Ru.lstore (C : Ru l Z own code maxL ret nm R n0 G W) {j : Nat} {x : Int64} {f : Int64 → Array Slot} (hd : decode code pc = .ok (.lstore j, 2)) (hp : pc + 2 = pc') (hl : ∀ v, storeLocals Ls j (.long v) = some (f v)) (q : ∀ v, v = x → W h k n pc' (f v) rest) : W h k n pc Ls (.long x :: rest) := by
  obtain ⟨p, e, s, m, args, below, meth, c, FE, ⟨hx, hby, hml, hown, hZ, hre, hlk, hnm⟩, hFE, rfl⟩ := C
  subst hp
  intro T locs k' n' q1 q2 X eT N
  obtain ⟨s2, o, st2, r⟩ := q x rfl T locs k' n' q1 q2 X eT N
  exact ⟨s2, o, XT.lstore X.here hx rfl (hb hby hd) rfl (hl x) st2, r⟩
theorem Ru.lstoreN (C : Ru l Z own code maxL ret nm R n0 G W) {j : Fin 4} {x : Int64} {f : Int64 → Array Slot} (hd : decode code pc = .ok (.lstore_n j, 1)) (hp : pc + 1 = pc') (hl : ∀ v, storeLocals Ls j.val (.long v) = some (f v)) (q : ∀ v, v = x → W h k n pc' (f v) rest) : W h k n pc Ls (.long x :: rest) := by
  obtain ⟨p, e, s, m, args, below, meth, c, FE, ⟨hx, hby, hml, hown, hZ, hre, hlk, hnm⟩, hFE, rfl⟩ := C
  subst hp
  intro T locs k' n' q1 q2 X eT N
  obtain ⟨s2, o, st2, r⟩ := q x rfl T locs k' n' q1 q2 X eT N
  exact ⟨s2, o, XT.lstoreN X.here hx rfl (hb hby hd) rfl (hl x) st2, r⟩
theorem Ru.astore (C : Ru l Z own code maxL ret nm R n0 G W) {j : Nat} {x : Value} {l' : Array Slot} (hd : decode code pc = .ok (.astore j, 2)) (hp : pc + 2 = pc') (hv : x.isRef = true) (hl : storeLocals Ls j x = some l') (q : W h k n pc' l' rest) : W h k n pc Ls (x :: rest) := by
  obtain ⟨p, e, s, m, args, below, meth, c, FE, ⟨hx, hby, hml, hown, hZ, hre, hlk, hnm⟩, hFE, rfl⟩ := C
  subst hp
  intro T locs k' n' q1 q2 X eT N
  obtain ⟨s2, o, st2, r⟩ := q T locs k' n' q1 q2 X eT N
  exact ⟨s2, o, XS.astore X.here hx rfl (hb hby hd) rfl hv hl st2, r⟩
theorem Ru.astoreN (C : Ru l Z own code maxL ret nm R n0 G W) {j : Fin 4} {x : Value} {l' : Array Slot} (hd : decode code pc = .ok (.astore_n j, 1)) (hp : pc + 1 = pc') (hv : x.isRef = true) (hl : storeLocals Ls j.val x = some l') (q : W h k n pc' l' rest) : W h k n pc Ls (x :: rest) := by
  obtain ⟨p, e, s, m, args, below, meth, c, FE, ⟨hx, hby, hml, hown, hZ, hre, hlk, hnm⟩, hFE, rfl⟩ := C
  subst hp
  intro T locs k' n' q1 q2 X eT N
  obtain ⟨s2, o, st2, r⟩ := q T locs k' n' q1 q2 X eT N
  exact ⟨s2, o, XS.astoreN X.here hx rfl (hb hby hd) rfl hv hl st2, r⟩
theorem Ru.iinc (C : Ru l Z own code maxL ret nm R n0 G W) {j : Nat} {cst : Int} {x d : Int32} {f : Int32 → Array Slot} (hd : decode code pc = .ok (.iinc j cst, 3)) (hp : pc + 3 = pc') (hl : Ls[j]? = some (.val (.int x))) (hc : Int32.ofInt cst = d) (hl' : ∀ v, storeLocals Ls j (.int v) = some (f v)) (q : ∀ v, v = x + d → W h k n pc' (f v) st) : W h k n pc Ls st := by
  obtain ⟨p, e, s, m, args, below, meth, c, FE, ⟨hx, hby, hml, hown, hZ, hre, hlk, hnm⟩, hFE, rfl⟩ := C
  subst hp hc
  intro T locs k' n' q1 q2 X eT N
  obtain ⟨s2, o, st2, r⟩ := q _ rfl T locs k' n' q1 q2 X eT N
  exact ⟨s2, o, XS.iinc X.here hx rfl (hb hby hd) hl (hl' _) st2, r⟩
theorem Ru.goto (C : Ru l Z own code maxL ret nm R n0 G W) {o : Int} (hd : decode code pc = .ok (.goto o, 3)) (hp : (pc : Int) + o = (pc' : Int)) (q : W h k n pc' Ls st) : W h k n pc Ls st := by
  obtain ⟨p, e, s, m, args, below, meth, c, FE, ⟨hx, hby, hml, hown, hZ, hre, hlk, hnm⟩, hFE, rfl⟩ := C
  intro T locs k' n' q1 q2 X eT N
  obtain ⟨s2, o2, st2, r⟩ := q T locs k' n' q1 q2 X eT N
  exact ⟨s2, o2, XS.goto X.here hx rfl (pc0 := pc) (pc' := pc') rfl (hb hby hd) (by omega) (by omega) st2, r⟩
theorem Ru.ifAny (C : Ru l Z own code maxL ret nm R n0 G W) {cd : ClassFile.Cond} {o : Int} {x : Int32} {pt : Nat} (hd : decode code pc = .ok (.ifCond cd o, 3)) (hp : pc + 3 = pc') (ht : (pc : Int) + o = (pt : Int)) (q1 : ifCond.holds cd x = true → W h k n pt Ls rest) (q2 : ifCond.holds cd x = false → W h k n pc' Ls rest) : W h k n pc Ls (.int x :: rest) := by
  obtain ⟨p, e, s, m, args, below, meth, c, FE, ⟨hx, hby, hml, hown, hZ, hre, hlk, hnm⟩, hFE, rfl⟩ := C
  subst hp
  intro T locs k' n' u1 u2 X eT N
  cases hc : ifCond.holds cd x
  · obtain ⟨s2, o2, st2, r⟩ := q2 hc T locs k' n' u1 u2 X eT N
    exact ⟨s2, o2, XS.ifNo X.here hx rfl (hb hby hd) rfl hc st2, r⟩
  · obtain ⟨s2, o2, st2, r⟩ := q1 hc T locs k' n' u1 u2 X eT N
    exact ⟨s2, o2, XS.ifYes X.here hx rfl (pc0 := pc) (pc' := pt) rfl (hb hby hd) rfl hc (by omega) (by omega) st2, r⟩
theorem Ru.icmpAny (C : Ru l Z own code maxL ret nm R n0 G W) {cd : ClassFile.Cond} {o : Int} {x y : Int32} {pt : Nat} (hd : decode code pc = .ok (.if_icmp cd o, 3)) (hp : pc + 3 = pc') (ht : (pc : Int) + o = (pt : Int)) (q1 : if_icmp.holds cd x y = true → W h k n pt Ls rest) (q2 : if_icmp.holds cd x y = false → W h k n pc' Ls rest) : W h k n pc Ls (.int y :: .int x :: rest) := by
  obtain ⟨p, e, s, m, args, below, meth, c, FE, ⟨hx, hby, hml, hown, hZ, hre, hlk, hnm⟩, hFE, rfl⟩ := C
  subst hp
  intro T locs k' n' u1 u2 X eT N
  cases hc : if_icmp.holds cd x y
  · obtain ⟨s2, o2, st2, r⟩ := q2 hc T locs k' n' u1 u2 X eT N
    exact ⟨s2, o2, XS.icmpNo X.here hx rfl (hb hby hd) rfl hc st2, r⟩
  · obtain ⟨s2, o2, st2, r⟩ := q1 hc T locs k' n' u1 u2 X eT N
    exact ⟨s2, o2, XS.icmpYes X.here hx rfl (pc0 := pc) (pc' := pt) rfl (hb hby hd) rfl hc (by omega) (by omega) st2, r⟩
theorem Ru.lcmp (C : Ru l Z own code maxL ret nm R n0 G W) {x y : Int64} (hd : decode code pc = .ok (.lcmp, 1)) (hp : pc + 1 = pc') (q : W h k n pc' Ls (.int (XT.cmpL x y) :: rest)) : W h k n pc Ls (.long y :: .long x :: rest) := by
  obtain ⟨p, e, s, m, args, below, meth, c, FE, ⟨hx, hby, hml, hown, hZ, hre, hlk, hnm⟩, hFE, rfl⟩ := C
  subst hp
  intro T locs k' n' q1 q2 X eT N
  obtain ⟨s2, o, st2, r⟩ := q T locs k' n' q1 q2 X eT N
  exact ⟨s2, o, XT.lcmp X.here hx rfl (hb hby hd) rfl st2, r⟩
theorem cmpL_lt (x y : Int64) : XT.cmpL x y < 0 ↔ x < y := by
  have e : XT.cmpL x y = lcmpV x y := by simp only [XT.cmpL, lcmpV]; split <;> simp_all
  rw [e]; exact lc_lt x y
theorem cmpL_gt (x y : Int64) : 0 < XT.cmpL x y ↔ y < x := by
  have e : XT.cmpL x y = lcmpV x y := by simp only [XT.cmpL, lcmpV]; split <;> simp_all
  rw [e]; exact lc_gt x y
theorem cmpL_eq (x y : Int64) : XT.cmpL x y = 0 ↔ x = y := by
  have e : XT.cmpL x y = lcmpV x y := by simp only [XT.cmpL, lcmpV]; split <;> simp_all
  rw [e]; exact lc_eq x y
theorem Ru.if_eq (C : Ru l Z own code maxL ret nm R n0 G W) {o : Int} {x : Int32} {pt : Nat} (hd : decode code pc = .ok (.ifCond .eq o, 3)) (hp : pc + 3 = pc') (ht : (pc : Int) + o = (pt : Int)) (q1 : x = 0 → W h k n pt Ls rest) (q2 : ¬ x = 0 → W h k n pc' Ls rest) : W h k n pc Ls (.int x :: rest) :=
  C.ifAny hd hp ht (fun q => q1 (by simpa [ifCond.holds] using q)) (fun q => q2 (by simpa [ifCond.holds] using q))
theorem Ru.icmp_eq (C : Ru l Z own code maxL ret nm R n0 G W) {o : Int} {x y : Int32} {pt : Nat} (hd : decode code pc = .ok (.if_icmp .eq o, 3)) (hp : pc + 3 = pc') (ht : (pc : Int) + o = (pt : Int)) (q1 : x = y → W h k n pt Ls rest) (q2 : ¬ x = y → W h k n pc' Ls rest) : W h k n pc Ls (.int y :: .int x :: rest) :=
  C.icmpAny hd hp ht (fun q => q1 (by simpa [if_icmp.holds] using q)) (fun q => q2 (by simpa [if_icmp.holds] using q))
theorem Ru.lif_eq (C : Ru l Z own code maxL ret nm R n0 G W) {o : Int} {x y : Int64} {pi pt : Nat} (hd : decode code pc = .ok (.lcmp, 1)) (hi : pc + 1 = pi) (hd2 : decode code pi = .ok (.ifCond .eq o, 3)) (hp : pi + 3 = pc') (ht : (pi : Int) + o = (pt : Int)) (q1 : x = y → W h k n pt Ls rest) (q2 : ¬ x = y → W h k n pc' Ls rest) : W h k n pc Ls (.long y :: .long x :: rest) :=
  C.lcmp hd hi (C.if_eq hd2 hp ht (fun q => q1 (by simpa only [cmpL_eq, cmpL_lt, cmpL_gt] using q)) (fun q => q2 (by simpa only [cmpL_eq, cmpL_lt, cmpL_gt] using q)))
theorem Ru.if_ne (C : Ru l Z own code maxL ret nm R n0 G W) {o : Int} {x : Int32} {pt : Nat} (hd : decode code pc = .ok (.ifCond .ne o, 3)) (hp : pc + 3 = pc') (ht : (pc : Int) + o = (pt : Int)) (q1 : ¬ x = 0 → W h k n pt Ls rest) (q2 : x = 0 → W h k n pc' Ls rest) : W h k n pc Ls (.int x :: rest) :=
  C.ifAny hd hp ht (fun q => q1 (by simpa [ifCond.holds] using q)) (fun q => q2 (by simpa [ifCond.holds] using q))
theorem Ru.icmp_ne (C : Ru l Z own code maxL ret nm R n0 G W) {o : Int} {x y : Int32} {pt : Nat} (hd : decode code pc = .ok (.if_icmp .ne o, 3)) (hp : pc + 3 = pc') (ht : (pc : Int) + o = (pt : Int)) (q1 : ¬ x = y → W h k n pt Ls rest) (q2 : x = y → W h k n pc' Ls rest) : W h k n pc Ls (.int y :: .int x :: rest) :=
  C.icmpAny hd hp ht (fun q => q1 (by simpa [if_icmp.holds] using q)) (fun q => q2 (by simpa [if_icmp.holds] using q))
theorem Ru.lif_ne (C : Ru l Z own code maxL ret nm R n0 G W) {o : Int} {x y : Int64} {pi pt : Nat} (hd : decode code pc = .ok (.lcmp, 1)) (hi : pc + 1 = pi) (hd2 : decode code pi = .ok (.ifCond .ne o, 3)) (hp : pi + 3 = pc') (ht : (pi : Int) + o = (pt : Int)) (q1 : ¬ x = y → W h k n pt Ls rest) (q2 : x = y → W h k n pc' Ls rest) : W h k n pc Ls (.long y :: .long x :: rest) :=
  C.lcmp hd hi (C.if_ne hd2 hp ht (fun q => q1 (by simpa only [cmpL_eq, cmpL_lt, cmpL_gt] using q)) (fun q => q2 (by simpa only [cmpL_eq, cmpL_lt, cmpL_gt] using q)))
theorem Ru.if_lt (C : Ru l Z own code maxL ret nm R n0 G W) {o : Int} {x : Int32} {pt : Nat} (hd : decode code pc = .ok (.ifCond .lt o, 3)) (hp : pc + 3 = pc') (ht : (pc : Int) + o = (pt : Int)) (q1 : x < 0 → W h k n pt Ls rest) (q2 : ¬ x < 0 → W h k n pc' Ls rest) : W h k n pc Ls (.int x :: rest) :=
  C.ifAny hd hp ht (fun q => q1 (by simpa [ifCond.holds] using q)) (fun q => q2 (by simpa [ifCond.holds] using q))
theorem Ru.icmp_lt (C : Ru l Z own code maxL ret nm R n0 G W) {o : Int} {x y : Int32} {pt : Nat} (hd : decode code pc = .ok (.if_icmp .lt o, 3)) (hp : pc + 3 = pc') (ht : (pc : Int) + o = (pt : Int)) (q1 : x < y → W h k n pt Ls rest) (q2 : ¬ x < y → W h k n pc' Ls rest) : W h k n pc Ls (.int y :: .int x :: rest) :=
  C.icmpAny hd hp ht (fun q => q1 (by simpa [if_icmp.holds] using q)) (fun q => q2 (by simpa [if_icmp.holds] using q))
theorem Ru.lif_lt (C : Ru l Z own code maxL ret nm R n0 G W) {o : Int} {x y : Int64} {pi pt : Nat} (hd : decode code pc = .ok (.lcmp, 1)) (hi : pc + 1 = pi) (hd2 : decode code pi = .ok (.ifCond .lt o, 3)) (hp : pi + 3 = pc') (ht : (pi : Int) + o = (pt : Int)) (q1 : x < y → W h k n pt Ls rest) (q2 : ¬ x < y → W h k n pc' Ls rest) : W h k n pc Ls (.long y :: .long x :: rest) :=
  C.lcmp hd hi (C.if_lt hd2 hp ht (fun q => q1 (by simpa only [cmpL_eq, cmpL_lt, cmpL_gt] using q)) (fun q => q2 (by simpa only [cmpL_eq, cmpL_lt, cmpL_gt] using q)))
theorem Ru.if_ge (C : Ru l Z own code maxL ret nm R n0 G W) {o : Int} {x : Int32} {pt : Nat} (hd : decode code pc = .ok (.ifCond .ge o, 3)) (hp : pc + 3 = pc') (ht : (pc : Int) + o = (pt : Int)) (q1 : ¬ x < 0 → W h k n pt Ls rest) (q2 : x < 0 → W h k n pc' Ls rest) : W h k n pc Ls (.int x :: rest) :=
  C.ifAny hd hp ht (fun q => q1 (by simpa [ifCond.holds] using q)) (fun q => q2 (by simpa [ifCond.holds] using q))
theorem Ru.icmp_ge (C : Ru l Z own code maxL ret nm R n0 G W) {o : Int} {x y : Int32} {pt : Nat} (hd : decode code pc = .ok (.if_icmp .ge o, 3)) (hp : pc + 3 = pc') (ht : (pc : Int) + o = (pt : Int)) (q1 : ¬ x < y → W h k n pt Ls rest) (q2 : x < y → W h k n pc' Ls rest) : W h k n pc Ls (.int y :: .int x :: rest) :=
  C.icmpAny hd hp ht (fun q => q1 (by simpa [if_icmp.holds] using q)) (fun q => q2 (by simpa [if_icmp.holds] using q))
theorem Ru.lif_ge (C : Ru l Z own code maxL ret nm R n0 G W) {o : Int} {x y : Int64} {pi pt : Nat} (hd : decode code pc = .ok (.lcmp, 1)) (hi : pc + 1 = pi) (hd2 : decode code pi = .ok (.ifCond .ge o, 3)) (hp : pi + 3 = pc') (ht : (pi : Int) + o = (pt : Int)) (q1 : ¬ x < y → W h k n pt Ls rest) (q2 : x < y → W h k n pc' Ls rest) : W h k n pc Ls (.long y :: .long x :: rest) :=
  C.lcmp hd hi (C.if_ge hd2 hp ht (fun q => q1 (by simpa only [cmpL_eq, cmpL_lt, cmpL_gt] using q)) (fun q => q2 (by simpa only [cmpL_eq, cmpL_lt, cmpL_gt] using q)))
theorem Ru.if_gt (C : Ru l Z own code maxL ret nm R n0 G W) {o : Int} {x : Int32} {pt : Nat} (hd : decode code pc = .ok (.ifCond .gt o, 3)) (hp : pc + 3 = pc') (ht : (pc : Int) + o = (pt : Int)) (q1 : 0 < x → W h k n pt Ls rest) (q2 : ¬ 0 < x → W h k n pc' Ls rest) : W h k n pc Ls (.int x :: rest) :=
  C.ifAny hd hp ht (fun q => q1 (by simpa [ifCond.holds] using q)) (fun q => q2 (by simpa [ifCond.holds] using q))
theorem Ru.icmp_gt (C : Ru l Z own code maxL ret nm R n0 G W) {o : Int} {x y : Int32} {pt : Nat} (hd : decode code pc = .ok (.if_icmp .gt o, 3)) (hp : pc + 3 = pc') (ht : (pc : Int) + o = (pt : Int)) (q1 : y < x → W h k n pt Ls rest) (q2 : ¬ y < x → W h k n pc' Ls rest) : W h k n pc Ls (.int y :: .int x :: rest) :=
  C.icmpAny hd hp ht (fun q => q1 (by simpa [if_icmp.holds] using q)) (fun q => q2 (by simpa [if_icmp.holds] using q))
theorem Ru.lif_gt (C : Ru l Z own code maxL ret nm R n0 G W) {o : Int} {x y : Int64} {pi pt : Nat} (hd : decode code pc = .ok (.lcmp, 1)) (hi : pc + 1 = pi) (hd2 : decode code pi = .ok (.ifCond .gt o, 3)) (hp : pi + 3 = pc') (ht : (pi : Int) + o = (pt : Int)) (q1 : y < x → W h k n pt Ls rest) (q2 : ¬ y < x → W h k n pc' Ls rest) : W h k n pc Ls (.long y :: .long x :: rest) :=
  C.lcmp hd hi (C.if_gt hd2 hp ht (fun q => q1 (by simpa only [cmpL_eq, cmpL_lt, cmpL_gt] using q)) (fun q => q2 (by simpa only [cmpL_eq, cmpL_lt, cmpL_gt] using q)))
theorem Ru.if_le (C : Ru l Z own code maxL ret nm R n0 G W) {o : Int} {x : Int32} {pt : Nat} (hd : decode code pc = .ok (.ifCond .le o, 3)) (hp : pc + 3 = pc') (ht : (pc : Int) + o = (pt : Int)) (q1 : ¬ 0 < x → W h k n pt Ls rest) (q2 : 0 < x → W h k n pc' Ls rest) : W h k n pc Ls (.int x :: rest) :=
  C.ifAny hd hp ht (fun q => q1 (by simpa [ifCond.holds] using q)) (fun q => q2 (by simpa [ifCond.holds] using q))
theorem Ru.icmp_le (C : Ru l Z own code maxL ret nm R n0 G W) {o : Int} {x y : Int32} {pt : Nat} (hd : decode code pc = .ok (.if_icmp .le o, 3)) (hp : pc + 3 = pc') (ht : (pc : Int) + o = (pt : Int)) (q1 : ¬ y < x → W h k n pt Ls rest) (q2 : y < x → W h k n pc' Ls rest) : W h k n pc Ls (.int y :: .int x :: rest) :=
  C.icmpAny hd hp ht (fun q => q1 (by simpa [if_icmp.holds] using q)) (fun q => q2 (by simpa [if_icmp.holds] using q))
theorem Ru.lif_le (C : Ru l Z own code maxL ret nm R n0 G W) {o : Int} {x y : Int64} {pi pt : Nat} (hd : decode code pc = .ok (.lcmp, 1)) (hi : pc + 1 = pi) (hd2 : decode code pi = .ok (.ifCond .le o, 3)) (hp : pi + 3 = pc') (ht : (pi : Int) + o = (pt : Int)) (q1 : ¬ y < x → W h k n pt Ls rest) (q2 : y < x → W h k n pc' Ls rest) : W h k n pc Ls (.long y :: .long x :: rest) :=
  C.lcmp hd hi (C.if_le hd2 hp ht (fun q => q1 (by simpa only [cmpL_eq, cmpL_lt, cmpL_gt] using q)) (fun q => q2 (by simpa only [cmpL_eq, cmpL_lt, cmpL_gt] using q)))
theorem Ru.ifnullYes (C : Ru l Z own code maxL ret nm R n0 G W) {o : Int}  (hd : decode code pc = .ok (.ifnull o, 3)) (hp : (pc : Int) + o = (pc' : Int)) (q : W h k n pc' Ls rest) : W h k n pc Ls (.null :: rest) := by
  obtain ⟨p, e, s, m, args, below, meth, c, FE, ⟨hx, hby, hml, hown, hZ, hre, hlk, hnm⟩, hFE, rfl⟩ := C
  intro T locs k' n' q1 q2 X eT N
  obtain ⟨s2, o2, st2, r⟩ := q T locs k' n' q1 q2 X eT N
  exact ⟨s2, o2, XS.ifnullYes X.here hx rfl (pc0 := pc) (pc' := pc') rfl (hb hby hd) rfl (by omega) (by omega) st2, r⟩
theorem Ru.ifnullNo (C : Ru l Z own code maxL ret nm R n0 G W) {o : Int} {b : Addr} (hd : decode code pc = .ok (.ifnull o, 3)) (hp : pc + 3 = pc') (q : W h k n pc' Ls rest) : W h k n pc Ls (.ref b :: rest) := by
  obtain ⟨p, e, s, m, args, below, meth, c, FE, ⟨hx, hby, hml, hown, hZ, hre, hlk, hnm⟩, hFE, rfl⟩ := C
  subst hp
  intro T locs k' n' q1 q2 X eT N
  obtain ⟨s2, o2, st2, r⟩ := q T locs k' n' q1 q2 X eT N
  exact ⟨s2, o2, XS.ifnullNo X.here hx rfl (hb hby hd) rfl st2, r⟩
theorem Ru.ifnonnullYes (C : Ru l Z own code maxL ret nm R n0 G W) {o : Int} {b : Addr} (hd : decode code pc = .ok (.ifnonnull o, 3)) (hp : (pc : Int) + o = (pc' : Int)) (q : W h k n pc' Ls rest) : W h k n pc Ls (.ref b :: rest) := by
  obtain ⟨p, e, s, m, args, below, meth, c, FE, ⟨hx, hby, hml, hown, hZ, hre, hlk, hnm⟩, hFE, rfl⟩ := C
  intro T locs k' n' q1 q2 X eT N
  obtain ⟨s2, o2, st2, r⟩ := q T locs k' n' q1 q2 X eT N
  exact ⟨s2, o2, XT.ifnonnullYes X.here hx rfl (pc0 := pc) (pc' := pc') rfl (hb hby hd) rfl (by omega) (by omega) st2, r⟩
theorem Ru.ifnonnullNo (C : Ru l Z own code maxL ret nm R n0 G W) {o : Int}  (hd : decode code pc = .ok (.ifnonnull o, 3)) (hp : pc + 3 = pc') (q : W h k n pc' Ls rest) : W h k n pc Ls (.null :: rest) := by
  obtain ⟨p, e, s, m, args, below, meth, c, FE, ⟨hx, hby, hml, hown, hZ, hre, hlk, hnm⟩, hFE, rfl⟩ := C
  subst hp
  intro T locs k' n' q1 q2 X eT N
  obtain ⟨s2, o2, st2, r⟩ := q T locs k' n' q1 q2 X eT N
  exact ⟨s2, o2, XT.ifnonnullNo X.here hx rfl (hb hby hd) rfl st2, r⟩
theorem lrem_eq (x y : Int64) : x - (x / y) * y = x % y := lrem_mod x y
theorem Ru.lrem (C : Ru l Z own code maxL ret nm R n0 G W) {x y : Int64} (hd : decode code pc = .ok (.lrem, 1)) (hp : pc + 1 = pc') (hy : y ≠ 0) (q : W h k n pc' Ls (.long (x % y) :: rest)) : W h k n pc Ls (.long y :: .long x :: rest) := by
  obtain ⟨p, e, s, m, args, below, meth, c, FE, ⟨hx, hby, hml, hown, hZ, hre, hlk, hnm⟩, hFE, rfl⟩ := C
  subst hp
  intro T locs k' n' q1 q2 X eT N
  obtain ⟨s2, o, st2, r⟩ := q T locs k' n' q1 q2 X eT N
  exact ⟨s2, o, XT.lrem X.here hx rfl (hb hby hd) rfl hy (by rw [lrem_mod]; exact st2), r⟩
theorem Ru.ldcI (C : Ru l Z own code maxL ret nm R n0 G W) {a0 : Array Value} {i : Nat} {v : Int32} (w : (Cond.constant own i v).before a0 Z = true) (hd : decode code pc = .ok (.ldc i, 2)) (hp : pc + 2 = pc') (q : W h k n pc' Ls (.int v :: st)) : W h k n pc Ls st := by
  obtain ⟨p, e, s, m, args, below, meth, c, FE, ⟨hx, hby, hml, hown, hZ, hre, hlk, hnm⟩, hFE, rfl⟩ := C
  subst hp
  intro T locs k' n' q1 q2 X eT N
  obtain ⟨s2, o, st2, r⟩ := q T locs k' n' q1 q2 X eT N
  exact ⟨s2, o, X.ldcInt hx hown (mvT hZ w) (g := mkF m pc Ls st) rfl (hb hby hd) _ st2, r⟩
theorem Ru.ldcJ (C : Ru l Z own code maxL ret nm R n0 G W) {a0 : Array Value} {i : Nat} {v : Int64} (w : (Cond.constantLong own i v).before a0 Z = true) (hd : decode code pc = .ok (.ldc2_w i, 3)) (hp : pc + 3 = pc') (q : W h k n pc' Ls (.long v :: st)) : W h k n pc Ls st := by
  obtain ⟨p, e, s, m, args, below, meth, c, FE, ⟨hx, hby, hml, hown, hZ, hre, hlk, hnm⟩, hFE, rfl⟩ := C
  subst hp
  intro T locs k' n' q1 q2 X eT N
  obtain ⟨s2, o, st2, r⟩ := q T locs k' n' q1 q2 X eT N
  exact ⟨s2, o, X.ldc2Long hx hown (mvT hZ w) (g := mkF m pc Ls st) rfl (hb hby hd) _ st2, r⟩
/-! the heap -/
theorem Ru.getf (C : Ru l Z own code maxL ret nm R n0 G W) {a0 : Array Value} {R0 O f d : String} {i : Nat} {a : Addr} {v : Value} (w : (Cond.fieldLink own i R0 f d).before a0 Z = true) (via : Via Z R0 O f d) (F : Fld Z h a O f d v) (hd : decode code pc = .ok (.getfield i, 3)) (hp : pc + 3 = pc') (q : W h k n pc' Ls (v :: rest)) : W h k n pc Ls (.ref a :: rest) := by
  obtain ⟨p, e, s, m, args, below, meth, c, FE, ⟨hx, hby, hml, hown, hZ, hre, hlk, hnm⟩, hFE, rfl⟩ := C
  subst hp
  intro T locs k' n' q1 q2 X eT N
  obtain ⟨T', X', e', st'⟩ := getF X hx hZ hown (host := "") (Or.inl w) via eT F (g := mkF m pc Ls (.ref a :: rest)) rfl rfl (hb hby hd)
  obtain ⟨s2, o, st2, r⟩ := q T' locs k' n' q1 q2 X' e' N
  exact ⟨s2, o, st' _ st2, r⟩
theorem Ru.gets (C : Ru l Z own code maxL ret nm R n0 G W) {a0 : Array Value} {R0 O f d : String} {i : Nat} {v : Value} (w : (Cond.fieldLink own i R0 f d).before a0 Z = true) (via : Via Z R0 O f d) (F : Sta Z h O f d v) (hd : decode code pc = .ok (.getstatic i, 3)) (hp : pc + 3 = pc') (q : W h k n pc' Ls (v :: st)) : W h k n pc Ls st := by
  obtain ⟨p, e, s, m, args, below, meth, c, FE, ⟨hx, hby, hml, hown, hZ, hre, hlk, hnm⟩, hFE, rfl⟩ := C
  subst hp
  intro T locs k' n' q1 q2 X eT N
  obtain ⟨T', X', e', st'⟩ := getS X hx hZ (host := "") hown w via eT F (g := mkF m pc Ls st) rfl (hb hby hd)
  obtain ⟨s2, o, st2, r⟩ := q T' locs k' n' q1 q2 X' e' N
  exact ⟨s2, o, st' _ st2, r⟩
theorem Ru.putf (C : Ru l Z own code maxL ret nm R n0 G W) {a0 : Array Value} {R0 O f d D : String} {i kk : Nat} {ty : FieldType} {a : Addr} {v old : Value} (w : (Cond.fieldLink own i R0 f d).before a0 Z = true) (via : Via Z R0 O f d) (F : Fld Z h a O f d old) (E : Exa Z h a D)
    (L : (Cond.lays D O f d).before a0 Z = true ∨ ((Cond.laysFinal D O f d).before a0 Z = true ∧ own = O ∧ nm = "<init>")) (wi : (Cond.instantiable D kk).before a0 Z = true) (hty : parseFieldDescriptor d = some ty) (hn : narrow ty v = v) (hf : fits ty v = true) (hg : n0 ≤ a)
    (hd : decode code pc = .ok (.putfield i, 3)) (hp : pc + 3 = pc') (q : ∀ h', Wr h h' a (Jvm.RoadKit.slotOf Z O f d) v → W h' k n pc' Ls rest) : W h k n pc Ls (v :: .ref a :: rest) := by
  obtain ⟨p, e, s, m, args, below, meth, c, FE, ⟨hx, hby, hml, hown, hZ, hre, hlk, hnm⟩, hFE, rfl⟩ := C
  subst hp
  intro T locs k' n' q1 q2 X eT N
  obtain ⟨T', h', X', e', W', st'⟩ := putF X hx hZ hown (host := "") (Or.inl w) via eT F E (L.imp id fun u => ⟨u.1, u.2.1, hnm.trans u.2.2⟩) wi hty hn hf (g := mkF m pc Ls (v :: .ref a :: rest)) rfl rfl (hb hby hd)
  obtain ⟨s2, o, st2, r⟩ := q h' W' T' _ k' n' q1 q2 X' e' (Fr.snoc X' N hg)
  exact ⟨s2, o, st' _ st2, r⟩
theorem Ru.putfN (C : Ru l Z own code maxL ret nm R n0 G W) {a0 : Array Value} {R0 O f d D : String} {i kk : Nat} {ty : FieldType} {a : Addr} {v v' old : Value} (w : (Cond.fieldLink own i R0 f d).before a0 Z = true) (via : Via Z R0 O f d) (F : Fld Z h a O f d old) (E : Exa Z h a D)
    (L : (Cond.lays D O f d).before a0 Z = true ∨ ((Cond.laysFinal D O f d).before a0 Z = true ∧ own = O ∧ nm = "<init>")) (wi : (Cond.instantiable D kk).before a0 Z = true) (hty : parseFieldDescriptor d = some ty) (hn : narrow ty v = v') (hf : fits ty v' = true) (hg : n0 ≤ a)
    (hd : decode code pc = .ok (.putfield i, 3)) (hp : pc + 3 = pc') (q : ∀ h', Wr h h' a (Jvm.RoadKit.slotOf Z O f d) v' → W h' k n pc' Ls rest) : W h k n pc Ls (v :: .ref a :: rest) := by
  obtain ⟨p, e, s, m, args, below, meth, c, FE, ⟨hx, hby, hml, hown, hZ, hre, hlk, hnm⟩, hFE, rfl⟩ := C
  subst hp
  intro T locs k' n' q1 q2 X eT N
  obtain ⟨T', h', X', e', W', st'⟩ := putFN X hx hZ hown w via eT F E (L.imp id fun u => ⟨u.1, u.2.1, hnm.trans u.2.2⟩) wi hty hn hf (g := mkF m pc Ls (v :: .ref a :: rest)) rfl rfl (hb hby hd)
  obtain ⟨s2, o, st2, r⟩ := q h' W' T' _ k' n' q1 q2 X' e' (Fr.snoc X' N hg)
  exact ⟨s2, o, st' _ st2, r⟩
theorem Ru.new (C : Ru l Z own code maxL ret nm R n0 G W) {a0 : Array Value} {D : String} {i sl : Nat} (w : (Cond.classLink own i D).before a0 Z = true) (wi : (Cond.instantiable D sl).before a0 Z = true) (wz : (Cond.initialized D).before a0 Z = true)
    (hd : decode code pc = .ok (.new i, 3)) (hp : pc + 3 = pc') (hk : k + 1 ≤ R.cells) (hn : n + sl ≤ R.slots)
    (q : ∀ h' b, b = h.size → Ext h h' → Exa Z h' b D → (∀ {O nm d : String} {ty : FieldType}, Laid Z a0 D O nm d → parseFieldDescriptor d = some ty → Fld Z h' b O nm d (defaultValue ty)) → W h' (k + 1) (n + sl) pc' Ls (.ref b :: st)) : W h k n pc Ls st := by
  obtain ⟨p, e, s, m, args, below, meth, c, FE, ⟨hx, hby, hml, hown, hZ, hre, hlk, hnm⟩, hFE, rfl⟩ := C
  subst hp
  intro T locs k' n' q1 q2 X eT N
  obtain ⟨T', h', X', e', E', A', D', -, st'⟩ := newO X hx hZ hown w wi wz eT (g := mkF m pc Ls st) rfl (hb hby hd) (by omega) (by omega)
  obtain ⟨s2, o, st2, r⟩ := q h' _ rfl E' A' D' T' locs (k' + 1) (n' + sl) (by omega) (by omega) X' e' N
  exact ⟨s2, o, st' _ st2, r⟩
/-- an int array with just these elements -/
def AI (Z : State) (h : Heap) (a : Addr) (vs : List Int32) : Prop := ∃ c : Cell, Arr Z h a c .int ∧ c.slots = (vs.map Value.int).toArray ∧ vs.length < 2 ^ 31
def AJ (Z : State) (h : Heap) (a : Addr) (vs : List Int64) : Prop := ∃ c : Cell, Arr Z h a c .long ∧ c.slots = (vs.map Value.long).toArray ∧ vs.length < 2 ^ 31
/-- a byte array of this length -/
def AB (Z : State) (h : Heap) (a : Addr) (z : Nat) : Prop := ∃ c : Cell, Arr Z h a c .byte ∧ c.slots.size = z ∧ z < 2 ^ 31
theorem AI.lt {Z : State} {h : Heap} {a : Addr} {vs : List Int32} (F : AI Z h a vs) : a < h.size := by obtain ⟨c, A, -⟩ := F; exact A.lt
theorem AI.ext {Z : State} {h h' : Heap} {a : Addr} {vs : List Int32} (F : AI Z h a vs) (E : Ext h h') : AI Z h' a vs := by obtain ⟨c, A, r⟩ := F; exact ⟨c, A.ext E, r⟩
theorem AI.other {Z : State} {h h' : Heap} {a b : Addr} {sl : Nat} {v : Value} {vs : List Int32} (F : AI Z h b vs) (W : Wr h h' a sl v) (q : b ≠ a) : AI Z h' b vs := by obtain ⟨c, A, r⟩ := F; exact ⟨c, A.other W q, r⟩
theorem AI.keep {Z : State} {h h' : Heap} {a : Addr} {ws : List Addr} {vs : List Int32} (F : AI Z h a vs) (K : Keep h h' ws) (q : a ∉ ws) : AI Z h' a vs := by obtain ⟨c, A, r⟩ := F; exact ⟨c, ⟨K.2.1 a c A.1 q, A.2⟩, r⟩
theorem AI.set {Z : State} {h h' : Heap} {a : Addr} {j : Nat} {v : Int32} {vs : List Int32} (F : AI Z h a vs) (W : Wr h h' a j (.int v)) : AI Z h' a (vs.set j v) := by
  obtain ⟨c, A, e, r⟩ := F
  refine ⟨_, A.same W, ?_, by rw [List.length_set]; exact r⟩
  have q : (c.setSlot j (.int v)).slots = c.slots.setIfInBounds j (.int v) := rfl
  rw [q, e]
  apply Array.ext'
  simp [List.map_set]
theorem Ru.newAI (C : Ru l Z own code maxL ret nm R n0 G W) {a0 : Array Value} {z : Int32} {N cap : Nat} (w : (Cond.arrayClass .int).before a0 Z = true) (hd : decode code pc = .ok (.newarray .int, 2)) (hp : pc + 2 = pc') (hz : z.toInt = (N : Int)) (hcap : N ≤ cap) (hb8 : cap * 8 ≤ 536870912) (hk : k + 1 ≤ R.cells) (hn : n + cap ≤ R.slots)
    (q : ∀ h' b, b = h.size → Ext h h' → AI Z h' b (List.replicate N 0) → W h' (k + 1) (n + cap) pc' Ls (.ref b :: rest)) : W h k n pc Ls (.int z :: rest) := by
  obtain ⟨p, e, s, m, args, below, meth, c, FE, ⟨hx, hby, hml, hown, hZ, hre, hlk, hnm⟩, hFE, rfl⟩ := C
  subst hp
  intro T locs k' n' q1 q2 X eT Nf
  have hnn : ¬ z < 0 := by rw [Int32.lt_iff_toInt_lt]; show ¬ z.toInt < 0; omega
  have hzn : z.toNatClampNeg = N := by show z.toInt.toNat = N; omega
  have hlt : N < 2 ^ 31 := by have := (rng32 z).2; omega
  obtain ⟨T', h', cA, X', e', E', A', st'⟩ := newP X hx hZ (aty := .int) w eT (g := mkF m pc Ls (.int z :: rest)) rfl (hb hby hd) rfl hnn (cap := cap) (by omega) hb8 (by omega) (by omega)
  have F : AI Z h' h.size (List.replicate N 0) := by
    refine ⟨_, A', ?_, by rw [List.length_replicate]; exact hlt⟩
    simp only [newA, hzn]
    apply Array.ext'
    simp [defaultValue, newarray.typeOf]
  obtain ⟨s2, o, st2, r⟩ := q h' _ rfl E' F T' locs (k' + 1) (n' + cap) (by omega) (by omega) X' e' Nf
  exact ⟨s2, o, st' _ st2, r⟩
theorem Ru.ldAI (C : Ru l Z own code maxL ret nm R n0 G W) {a : Addr} {j : Int32} {i : Nat} {v : Int32} {vs : List Int32} (F : AI Z h a vs) (hj : j.toInt = (i : Int)) (hv : vs[i]? = some v) (hd : decode code pc = .ok (.iaload, 1)) (hp : pc + 1 = pc') (q : W h k n pc' Ls (.int v :: rest)) : W h k n pc Ls (.int j :: .ref a :: rest) := by
  obtain ⟨p, e, s, m, args, below, meth, c, FE, ⟨hx, hby, hml, hown, hZ, hre, hlk, hnm⟩, hFE, rfl⟩ := C
  subst hp
  intro T locs k' n' q1 q2 X eT N
  obtain ⟨cl, A, es, hl⟩ := F
  have hjn : j.toNatClampNeg = i := by show j.toInt.toNat = i; omega
  have hlt : i < vs.length := (List.getElem?_eq_some_iff.mp hv).1
  have hin : ¬ (j < 0 ∨ cl.slots.size ≤ j.toNatClampNeg) := by
    rw [Int32.lt_iff_toInt_lt, es, hjn]
    simp only [List.size_toArray, List.length_map]
    show ¬ (j.toInt < 0 ∨ _); omega
  have hat : cl.slots[j.toNatClampNeg]? = some (.int v) := by rw [es, hjn]; simp [hv]
  obtain ⟨s2, o, st2, r⟩ := q T locs k' n' q1 q2 X eT N
  exact ⟨s2, o, X.iaload hx (by rw [eT]; exact A.1) (State.isArrayOf_alike hZ.alike A.2.1) A.2.2 hin hat (g := mkF m pc Ls (.int j :: .ref a :: rest)) rfl rfl (hb hby hd) _ st2, r⟩
theorem Ru.stAI (C : Ru l Z own code maxL ret nm R n0 G W) {a : Addr} {j : Int32} {i : Nat} {v : Int32} {vs : List Int32} (F : AI Z h a vs) (hj : j.toInt = (i : Int)) (hlt : i < vs.length) (hg : n0 ≤ a) (hd : decode code pc = .ok (.iastore, 1)) (hp : pc + 1 = pc') (q : ∀ h', Wr h h' a i (.int v) → AI Z h' a (vs.set i v) → W h' k n pc' Ls rest) : W h k n pc Ls (.int v :: .int j :: .ref a :: rest) := by
  obtain ⟨p, e, s, m, args, below, meth, c, FE, ⟨hx, hby, hml, hown, hZ, hre, hlk, hnm⟩, hFE, rfl⟩ := C
  subst hp
  intro T locs k' n' q1 q2 X eT N
  have F0 := F
  obtain ⟨cl, A, es, hl⟩ := F
  have hjn : j.toNatClampNeg = i := by show j.toInt.toNat = i; omega
  have hin : ¬ (j < 0 ∨ cl.slots.size ≤ j.toNatClampNeg) := by
    rw [Int32.lt_iff_toInt_lt, es, hjn]
    simp only [List.size_toArray, List.length_map]
    show ¬ (j.toInt < 0 ∨ _); omega
  obtain ⟨T', h', X', e', W', st'⟩ := stI X hx hZ eT A (j := j) hin (g := mkF m pc Ls (.int v :: .int j :: .ref a :: rest)) rfl rfl (hb hby hd)
  rw [hjn] at W'
  obtain ⟨s2, o, st2, r⟩ := q h' W' (F0.set W') T' _ k' n' q1 q2 X' e' (Fr.snoc X' N hg)
  exact ⟨s2, o, st' _ st2, r⟩
theorem Ru.lenAI (C : Ru l Z own code maxL ret nm R n0 G W) {a : Addr} {vs : List Int32} {z : Int32} (F : AI Z h a vs) (hz : z.toInt = (vs.length : Int)) (hd : decode code pc = .ok (.arraylength, 1)) (hp : pc + 1 = pc') (q : W h k n pc' Ls (.int z :: rest)) : W h k n pc Ls (.ref a :: rest) := by
  obtain ⟨p, e, s, m, args, below, meth, c, FE, ⟨hx, hby, hml, hown, hZ, hre, hlk, hnm⟩, hFE, rfl⟩ := C
  subst hp
  intro T locs k' n' q1 q2 X eT N
  obtain ⟨cl, A, es, hl⟩ := F
  have e1 : cl.slots.size.toInt32 = z := by
    apply Int32.toInt_inj.mp
    rw [es, hz]
    simp only [List.size_toArray, List.length_map]
    exact len_toInt hl
  obtain ⟨s2, o, st2, r⟩ := q T locs k' n' q1 q2 X eT N
  exact ⟨s2, o, X.arraylength hx (by rw [eT]; exact A.1) (State.isArrayOf_alike hZ.alike A.2.1) (g := mkF m pc Ls (.ref a :: rest)) rfl rfl (hb hby hd) _ (by rw [e1]; exact st2), r⟩
theorem AJ.lt {Z : State} {h : Heap} {a : Addr} {vs : List Int64} (F : AJ Z h a vs) : a < h.size := by obtain ⟨c, A, -⟩ := F; exact A.lt
theorem AJ.ext {Z : State} {h h' : Heap} {a : Addr} {vs : List Int64} (F : AJ Z h a vs) (E : Ext h h') : AJ Z h' a vs := by obtain ⟨c, A, r⟩ := F; exact ⟨c, A.ext E, r⟩
theorem AJ.other {Z : State} {h h' : Heap} {a b : Addr} {sl : Nat} {v : Value} {vs : List Int64} (F : AJ Z h b vs) (W : Wr h h' a sl v) (q : b ≠ a) : AJ Z h' b vs := by obtain ⟨c, A, r⟩ := F; exact ⟨c, A.other W q, r⟩
theorem AJ.keep {Z : State} {h h' : Heap} {a : Addr} {ws : List Addr} {vs : List Int64} (F : AJ Z h a vs) (K : Keep h h' ws) (q : a ∉ ws) : AJ Z h' a vs := by obtain ⟨c, A, r⟩ := F; exact ⟨c, ⟨K.2.1 a c A.1 q, A.2⟩, r⟩
theorem AJ.set {Z : State} {h h' : Heap} {a : Addr} {j : Nat} {v : Int64} {vs : List Int64} (F : AJ Z h a vs) (W : Wr h h' a j (.long v)) : AJ Z h' a (vs.set j v) := by
  obtain ⟨c, A, e, r⟩ := F
  refine ⟨_, A.same W, ?_, by rw [List.length_set]; exact r⟩
  have q : (c.setSlot j (.long v)).slots = c.slots.setIfInBounds j (.long v) := rfl
  rw [q, e]
  apply Array.ext'
  simp [List.map_set]
theorem Ru.newAJ (C : Ru l Z own code maxL ret nm R n0 G W) {a0 : Array Value} {z : Int32} {N cap : Nat} (w : (Cond.arrayClass .long).before a0 Z = true) (hd : decode code pc = .ok (.newarray .long, 2)) (hp : pc + 2 = pc') (hz : z.toInt = (N : Int)) (hcap : N ≤ cap) (hb8 : cap * 8 ≤ 536870912) (hk : k + 1 ≤ R.cells) (hn : n + cap ≤ R.slots)
    (q : ∀ h' b, b = h.size → Ext h h' → AJ Z h' b (List.replicate N 0) → W h' (k + 1) (n + cap) pc' Ls (.ref b :: rest)) : W h k n pc Ls (.int z :: rest) := by
  obtain ⟨p, e, s, m, args, below, meth, c, FE, ⟨hx, hby, hml, hown, hZ, hre, hlk, hnm⟩, hFE, rfl⟩ := C
  subst hp
  intro T locs k' n' q1 q2 X eT Nf
  have hnn : ¬ z < 0 := by rw [Int32.lt_iff_toInt_lt]; show ¬ z.toInt < 0; omega
  have hzn : z.toNatClampNeg = N := by show z.toInt.toNat = N; omega
  have hlt : N < 2 ^ 31 := by have := (rng32 z).2; omega
  obtain ⟨T', h', cA, X', e', E', A', st'⟩ := newP X hx hZ (aty := .long) w eT (g := mkF m pc Ls (.int z :: rest)) rfl (hb hby hd) rfl hnn (cap := cap) (by omega) hb8 (by omega) (by omega)
  have F : AJ Z h' h.size (List.replicate N 0) := by
    refine ⟨_, A', ?_, by rw [List.length_replicate]; exact hlt⟩
    simp only [newA, hzn]
    apply Array.ext'
    simp [defaultValue, newarray.typeOf]
  obtain ⟨s2, o, st2, r⟩ := q h' _ rfl E' F T' locs (k' + 1) (n' + cap) (by omega) (by omega) X' e' Nf
  exact ⟨s2, o, st' _ st2, r⟩
theorem Ru.ldAJ (C : Ru l Z own code maxL ret nm R n0 G W) {a : Addr} {j : Int32} {i : Nat} {v : Int64} {vs : List Int64} (F : AJ Z h a vs) (hj : j.toInt = (i : Int)) (hv : vs[i]? = some v) (hd : decode code pc = .ok (.laload, 1)) (hp : pc + 1 = pc') (q : W h k n pc' Ls (.long v :: rest)) : W h k n pc Ls (.int j :: .ref a :: rest) := by
  obtain ⟨p, e, s, m, args, below, meth, c, FE, ⟨hx, hby, hml, hown, hZ, hre, hlk, hnm⟩, hFE, rfl⟩ := C
  subst hp
  intro T locs k' n' q1 q2 X eT N
  obtain ⟨cl, A, es, hl⟩ := F
  have hjn : j.toNatClampNeg = i := by show j.toInt.toNat = i; omega
  have hlt : i < vs.length := (List.getElem?_eq_some_iff.mp hv).1
  have hin : ¬ (j < 0 ∨ cl.slots.size ≤ j.toNatClampNeg) := by
    rw [Int32.lt_iff_toInt_lt, es, hjn]
    simp only [List.size_toArray, List.length_map]
    show ¬ (j.toInt < 0 ∨ _); omega
  have hat : cl.slots[j.toNatClampNeg]? = some (.long v) := by rw [es, hjn]; simp [hv]
  obtain ⟨s2, o, st2, r⟩ := q T locs k' n' q1 q2 X eT N
  exact ⟨s2, o, X.laload hx (by rw [eT]; exact A.1) (State.isArrayOf_alike hZ.alike A.2.1) A.2.2 hin hat (g := mkF m pc Ls (.int j :: .ref a :: rest)) rfl rfl (hb hby hd) _ st2, r⟩
theorem Ru.stAJ (C : Ru l Z own code maxL ret nm R n0 G W) {a : Addr} {j : Int32} {i : Nat} {v : Int64} {vs : List Int64} (F : AJ Z h a vs) (hj : j.toInt = (i : Int)) (hlt : i < vs.length) (hg : n0 ≤ a) (hd : decode code pc = .ok (.lastore, 1)) (hp : pc + 1 = pc') (q : ∀ h', Wr h h' a i (.long v) → AJ Z h' a (vs.set i v) → W h' k n pc' Ls rest) : W h k n pc Ls (.long v :: .int j :: .ref a :: rest) := by
  obtain ⟨p, e, s, m, args, below, meth, c, FE, ⟨hx, hby, hml, hown, hZ, hre, hlk, hnm⟩, hFE, rfl⟩ := C
  subst hp
  intro T locs k' n' q1 q2 X eT N
  have F0 := F
  obtain ⟨cl, A, es, hl⟩ := F
  have hjn : j.toNatClampNeg = i := by show j.toInt.toNat = i; omega
  have hin : ¬ (j < 0 ∨ cl.slots.size ≤ j.toNatClampNeg) := by
    rw [Int32.lt_iff_toInt_lt, es, hjn]
    simp only [List.size_toArray, List.length_map]
    show ¬ (j.toInt < 0 ∨ _); omega
  obtain ⟨T', h', X', e', W', st'⟩ := stJ X hx hZ eT A (j := j) hin (g := mkF m pc Ls (.long v :: .int j :: .ref a :: rest)) rfl rfl (hb hby hd)
  rw [hjn] at W'
  obtain ⟨s2, o, st2, r⟩ := q h' W' (F0.set W') T' _ k' n' q1 q2 X' e' (Fr.snoc X' N hg)
  exact ⟨s2, o, st' _ st2, r⟩
theorem Ru.lenAJ (C : Ru l Z own code maxL ret nm R n0 G W) {a : Addr} {vs : List Int64} {z : Int32} (F : AJ Z h a vs) (hz : z.toInt = (vs.length : Int)) (hd : decode code pc = .ok (.arraylength, 1)) (hp : pc + 1 = pc') (q : W h k n pc' Ls (.int z :: rest)) : W h k n pc Ls (.ref a :: rest) := by
  obtain ⟨p, e, s, m, args, below, meth, c, FE, ⟨hx, hby, hml, hown, hZ, hre, hlk, hnm⟩, hFE, rfl⟩ := C
  subst hp
  intro T locs k' n' q1 q2 X eT N
  obtain ⟨cl, A, es, hl⟩ := F
  have e1 : cl.slots.size.toInt32 = z := by
    apply Int32.toInt_inj.mp
    rw [es, hz]
    simp only [List.size_toArray, List.length_map]
    exact len_toInt hl
  obtain ⟨s2, o, st2, r⟩ := q T locs k' n' q1 q2 X eT N
  exact ⟨s2, o, X.arraylength hx (by rw [eT]; exact A.1) (State.isArrayOf_alike hZ.alike A.2.1) (g := mkF m pc Ls (.ref a :: rest)) rfl rfl (hb hby hd) _ (by rw [e1]; exact st2), r⟩
theorem AB.lt {Z : State} {h : Heap} {a : Addr} {z : Nat} (F : AB Z h a z) : a < h.size := by obtain ⟨c, A, -⟩ := F; exact A.lt
theorem AB.ext {Z : State} {h h' : Heap} {a : Addr} {z : Nat} (F : AB Z h a z) (E : Ext h h') : AB Z h' a z := by obtain ⟨c, A, r⟩ := F; exact ⟨c, A.ext E, r⟩
theorem AB.other {Z : State} {h h' : Heap} {a b : Addr} {sl : Nat} {v : Value} {z : Nat} (F : AB Z h b z) (W : Wr h h' a sl v) (q : b ≠ a) : AB Z h' b z := by obtain ⟨c, A, r⟩ := F; exact ⟨c, A.other W q, r⟩
theorem AB.keep {Z : State} {h h' : Heap} {a : Addr} {ws : List Addr} {z : Nat} (F : AB Z h a z) (K : Keep h h' ws) (q : a ∉ ws) : AB Z h' a z := by obtain ⟨c, A, r⟩ := F; exact ⟨c, ⟨K.2.1 a c A.1 q, A.2⟩, r⟩
theorem Ru.newAB (C : Ru l Z own code maxL ret nm R n0 G W) {a0 : Array Value} {z : Int32} {N cap : Nat} (w : (Cond.arrayClass .byte).before a0 Z = true) (hd : decode code pc = .ok (.newarray .byte, 2)) (hp : pc + 2 = pc') (hz : z.toInt = (N : Int)) (hcap : N ≤ cap) (hb8 : cap * 8 ≤ 536870912) (hk : k + 1 ≤ R.cells) (hn : n + cap ≤ R.slots)
    (q : ∀ h' b, b = h.size → Ext h h' → AB Z h' b N → W h' (k + 1) (n + cap) pc' Ls (.ref b :: rest)) : W h k n pc Ls (.int z :: rest) := by
  obtain ⟨p, e, s, m, args, below, meth, c, FE, ⟨hx, hby, hml, hown, hZ, hre, hlk, hnm⟩, hFE, rfl⟩ := C
  subst hp
  intro T locs k' n' q1 q2 X eT Nf
  have hnn : ¬ z < 0 := by rw [Int32.lt_iff_toInt_lt]; show ¬ z.toInt < 0; omega
  have hzn : z.toNatClampNeg = N := by show z.toInt.toNat = N; omega
  have hlt : N < 2 ^ 31 := by have := (rng32 z).2; omega
  obtain ⟨T', h', cA, X', e', E', A', st'⟩ := newP X hx hZ (aty := .byte) w eT (g := mkF m pc Ls (.int z :: rest)) rfl (hb hby hd) rfl hnn (cap := cap) (by omega) hb8 (by omega) (by omega)
  have F : AB Z h' h.size N := ⟨_, A', by rw [sz_new]; exact hzn, hlt⟩
  obtain ⟨s2, o, st2, r⟩ := q h' _ rfl E' F T' locs (k' + 1) (n' + cap) (by omega) (by omega) X' e' Nf
  exact ⟨s2, o, st' _ st2, r⟩
theorem Ru.stAB (C : Ru l Z own code maxL ret nm R n0 G W) {a : Addr} {j : Int32} {i : Nat} {v : Int32} {z : Nat} (F : AB Z h a z) (hj : j.toInt = (i : Int)) (hlt : i < z) (hg : n0 ≤ a) (hd : decode code pc = .ok (.bastore, 1)) (hp : pc + 1 = pc') (q : ∀ h', Wr h h' a i (.int (nar .byte v)) → AB Z h' a z → W h' k n pc' Ls rest) : W h k n pc Ls (.int v :: .int j :: .ref a :: rest) := by
  obtain ⟨p, e, s, m, args, below, meth, c, FE, ⟨hx, hby, hml, hown, hZ, hre, hlk, hnm⟩, hFE, rfl⟩ := C
  subst hp
  intro T locs k' n' q1 q2 X eT N
  obtain ⟨cl, A, es, hl⟩ := F
  have hjn : j.toNatClampNeg = i := by show j.toInt.toNat = i; omega
  have hin : ¬ (j < 0 ∨ cl.slots.size ≤ j.toNatClampNeg) := by
    rw [Int32.lt_iff_toInt_lt, es, hjn]
    show ¬ (j.toInt < 0 ∨ _); omega
  obtain ⟨T', h', X', e', W', st'⟩ := stB X hx hZ eT A (j := j) hin (g := mkF m pc Ls (.int v :: .int j :: .ref a :: rest)) rfl rfl (hb hby hd)
  rw [hjn] at W'
  obtain ⟨s2, o, st2, r⟩ := q h' W' ⟨_, A.same W', by rw [sz_set]; exact es, hl⟩ T' _ k' n' q1 q2 X' e' (Fr.snoc X' N hg)
  exact ⟨s2, o, st' _ st2, r⟩
theorem Ru.lenAB (C : Ru l Z own code maxL ret nm R n0 G W) {a : Addr} {N : Nat} {z : Int32} (F : AB Z h a N) (hz : z.toInt = (N : Int)) (hd : decode code pc = .ok (.arraylength, 1)) (hp : pc + 1 = pc') (q : W h k n pc' Ls (.int z :: rest)) : W h k n pc Ls (.ref a :: rest) := by
  obtain ⟨p, e, s, m, args, below, meth, c, FE, ⟨hx, hby, hml, hown, hZ, hre, hlk, hnm⟩, hFE, rfl⟩ := C
  subst hp
  intro T locs k' n' q1 q2 X eT Nf
  obtain ⟨cl, A, es, hl⟩ := F
  have e1 : cl.slots.size.toInt32 = z := by
    apply Int32.toInt_inj.mp
    rw [es, hz]
    exact len_toInt hl
  obtain ⟨s2, o, st2, r⟩ := q T locs k' n' q1 q2 X eT Nf
  exact ⟨s2, o, X.arraylength hx (by rw [eT]; exact A.1) (State.isArrayOf_alike hZ.alike A.2.1) (g := mkF m pc Ls (.ref a :: rest)) rfl rfl (hb hby hd) _ (by rw [e1]; exact st2), r⟩
/-! calls -/
/-- what a stack weighs -/
def wt (st : List Value) : Nat := (st.map fun v => v.category).sum
/-- Object.<init> -/
theorem Ru.initObj (C : Ru l Z own code maxL ret nm R n0 G W) {a0 : Array Value} {i w : Nat} {a : Addr} (w1 : (Cond.methodLink own i Lib.objectInit).before a0 Z = true) (w2 : (Cond.instanceMethod Lib.objectInit).before a0 Z = true) (w3 : (Cond.code Lib.objectInit ⟨#[0xb1]⟩ 1 none).before a0 Z = true)
    (hd : decode code pc = .ok (.invokespecial i, 3)) (hp : pc + 3 = pc') (hs : Ls.size = maxL) (hf : 1 ≤ R.frames) (hw : wt rest ≤ w) (hl : w + 12 ≤ R.locals) (q : W h k n pc' Ls rest) : W h k n pc Ls (.ref a :: rest) := by
  obtain ⟨p, e, s, m, args, below, meth, c, FE, ⟨hx, hby, hml, hown, hZ, hre, hlk, hnm⟩, hFE, rfl⟩ := C
  subst hp
  intro T locs k' n' q1 q2 X eT N
  obtain ⟨T', X', e', st'⟩ := initO X hx hZ hown w1 w2 w3 eT (g := mkF m pc Ls (.ref a :: rest)) rfl (by rw [hml]; exact hs) rfl (hb hby hd) hf (W := w) (by show 2 * 0 + _ ≤ _; simpa [wt] using hw) hl
  obtain ⟨s2, o, st2, r⟩ := q T' locs k' n' q1 q2 X' e' N
  exact ⟨s2, o, st' _ st2, r⟩
theorem Ru.calls (C : Ru l Z own code maxL ret nm R n0 G W) {a0 : Array Value} {i w : Nat} {y : MethodName} {bytes : ByteArray} {mx : Nat} {rt : Option FieldType} {rm : Room} {GC : Option Value → Heap → Prop} {argsL : List Value} {ps : List FieldType} {rt' : Option FieldType}
    (M : MeetsW l Z n0 y bytes mx rt rm argsL.toArray h GC) (w1 : (Cond.methodLink own i y).before a0 Z = true) (w2 : (Cond.static y).before a0 Z = true) (w3 : (Cond.initialized y.cls).before a0 Z = true) (w4 : (Cond.code y bytes mx rt).before a0 Z = true)
    (hd : decode code pc = .ok (.invokestatic i, 3)) (hp : pc + 3 = pc') (hs : Ls.size = maxL) (hst : st = argsL.reverse ++ rest) (hy : y.cls ≠ "java/lang/invoke/MethodHandle" ∧ y.cls ≠ "java/lang/invoke/VarHandle")
    (hdesc : parseMethodDescriptor y.desc = some ⟨ps, rt'⟩) (hlen : argsL.length = ps.length) (hf : rm.frames + 1 ≤ R.frames) (hw : wt rest ≤ w) (hl : w + (mx + 11) + rm.locals ≤ R.locals) (hk : k + rm.cells ≤ R.cells) (hn : n + rm.slots ≤ R.slots)
    (q : ∀ v h', GC v h' → W h' (k + rm.cells) (n + rm.slots) pc' Ls (v.toList ++ rest)) : W h k n pc Ls st := by
  obtain ⟨p, e, s, m, args, below, meth, c, FE, ⟨hx, hby, hml, hown, hZ, hre, hlk, hnm⟩, hFE, rfl⟩ := C
  subst hp hst
  intro T locs k' n' q1 q2 X eT N
  obtain ⟨v, _, ⟨T', L', k2, n2⟩, -, X', ⟨Lc, ⟨N', hQ⟩, hl', hk', hn'⟩, st'⟩ := Jvm.LawKit.callS X hx (y := y) hown (mvT hZ w1) (mvT hZ w2) (mvT hZ w3) (mvT hZ w4) hy (backOf (W := w) (Q := fun v h L => Fr n0 L ∧ GC v h) (M []) hZ w4 w3 hf hl) (g := mkF m pc Ls (argsL.reverse ++ rest)) rfl (by rw [hml]; exact hs) (argsL := argsL) (rest := rest) (lenOf hdesc hlen) rfl (by show 2 * 0 + _ ≤ _; simpa [wt] using hw) (hb hby hd) (fun _ _ => ⟨rfl, eT, (by show k' + rm.cells ≤ _; omega), (by show n' + rm.slots ≤ _; omega)⟩)
  dsimp only [Pt.U, Pt.locs, Pt.cells, Pt.slots] at X' hl' hk' hn' st' hQ
  subst hl' hk' hn'
  obtain ⟨s2, o, st2, r⟩ := q v T'.heap hQ T' _ _ _ (by omega) (by omega) X' rfl (Fr.app N N')
  exact ⟨s2, o, st' _ st2, r⟩
theorem Ru.callc (C : Ru l Z own code maxL ret nm R n0 G W) {a0 : Array Value} {i w : Nat} {y : MethodName} {bytes : ByteArray} {mx : Nat} {rm : Room} {GC : Option Value → Heap → Prop} {a : Addr} {argsL : List Value} {ps : List FieldType} {rt' : Option FieldType}
    (M : MeetsW l Z n0 y bytes mx none rm (.ref a :: argsL).toArray h GC) (hy1 : y.name = "<init>") (w1 : (Cond.methodLink own i y).before a0 Z = true) (w2 : (Cond.instanceMethod y).before a0 Z = true) (w3 : (Cond.initialized y.cls).before a0 Z = true) (w4 : (Cond.code y bytes mx none).before a0 Z = true)
    (hd : decode code pc = .ok (.invokespecial i, 3)) (hp : pc + 3 = pc') (hs : Ls.size = maxL) (hst : st = argsL.reverse ++ .ref a :: rest) (hy : y.cls ≠ "java/lang/invoke/MethodHandle" ∧ y.cls ≠ "java/lang/invoke/VarHandle")
    (hdesc : parseMethodDescriptor y.desc = some ⟨ps, rt'⟩) (hlen : argsL.length = ps.length) (hf : rm.frames + 1 ≤ R.frames) (hw : wt rest ≤ w) (hl : w + (mx + 11) + rm.locals ≤ R.locals) (hk : k + rm.cells ≤ R.cells) (hn : n + rm.slots ≤ R.slots)
    (q : ∀ v h', GC v h' → W h' (k + rm.cells) (n + rm.slots) pc' Ls (v.toList ++ rest)) : W h k n pc Ls st := by
  obtain ⟨p, e, s, m, args, below, meth, c, FE, ⟨hx, hby, hml, hown, hZ, hre, hlk, hnm⟩, hFE, rfl⟩ := C
  subst hp hst
  intro T locs k' n' q1 q2 X eT N
  obtain ⟨v, _, ⟨T', L', k2, n2⟩, -, X', ⟨Lc, ⟨N', hQ⟩, hl', hk', hn'⟩, st'⟩ := X.specialBack hx (y := y) hy1 hown (mvT hZ w1) (mvT hZ w2) (mvT hZ w4) hy (backOf (W := w) (Q := fun v h L => Fr n0 L ∧ GC v h) (M []) hZ w4 w3 hf hl) (g := mkF m pc Ls (argsL.reverse ++ .ref a :: rest)) rfl (by rw [hml]; exact hs) (Steps.refl _) (a := a) (argsL := argsL) (rest := rest) (lenOf hdesc hlen) rfl (by show 2 * 0 + _ ≤ _; simpa [wt] using hw) (hb hby hd) (fun _ _ => ⟨rfl, eT, (by show k' + rm.cells ≤ _; omega), (by show n' + rm.slots ≤ _; omega)⟩)
  dsimp only [Pt.U, Pt.locs, Pt.cells, Pt.slots] at X' hl' hk' hn' st' hQ
  subst hl' hk' hn'
  obtain ⟨s2, o, st2, r⟩ := q v T'.heap hQ T' _ _ _ (by omega) (by omega) X' rfl (Fr.app N N')
  exact ⟨s2, o, st'.trans st2, r⟩
theorem Ru.callv (C : Ru l Z own code maxL ret nm R n0 G W) {a0 : Array Value} {i w : Nat} {y : MethodName} {bytes : ByteArray} {mx : Nat} {rt : Option FieldType} {rm : Room} {GC : Option Value → Heap → Prop} {a : Addr} {argsL : List Value} {ps : List FieldType} {rt' : Option FieldType} {D : String}
    (M : MeetsW l Z n0 y bytes mx rt rm (.ref a :: argsL).toArray h GC) (E : Exa Z h a D) (w1 : (Cond.methodLink own i y).before a0 Z = true) (w2 : (Cond.declares y).before a0 Z = true) (w5 : (Cond.selects D y y).before a0 Z = true) (w6 : (Cond.instanceMethod y).before a0 Z = true) (w3 : (Cond.initialized y.cls).before a0 Z = true) (w4 : (Cond.code y bytes mx rt).before a0 Z = true)
    (hd : decode code pc = .ok (.invokevirtual i, 3)) (hp : pc + 3 = pc') (hs : Ls.size = maxL) (hst : st = argsL.reverse ++ .ref a :: rest) (hy : y.cls ≠ "java/lang/invoke/MethodHandle" ∧ y.cls ≠ "java/lang/invoke/VarHandle")
    (hdesc : parseMethodDescriptor y.desc = some ⟨ps, rt'⟩) (hlen : argsL.length = ps.length) (hf : rm.frames + 1 ≤ R.frames) (hw : wt rest ≤ w) (hl : w + (mx + 11) + rm.locals ≤ R.locals) (hk : k + rm.cells ≤ R.cells) (hn : n + rm.slots ≤ R.slots)
    (q : ∀ v h', GC v h' → W h' (k + rm.cells) (n + rm.slots) pc' Ls (v.toList ++ rest)) : W h k n pc Ls st := by
  obtain ⟨p, e, s, m, args, below, meth, c, FE, ⟨hx, hby, hml, hown, hZ, hre, hlk, hnm⟩, hFE, rfl⟩ := C
  subst hp hst
  intro T locs k' n' q1 q2 X eT N
  obtain ⟨cq, kq, qa, qb, qc⟩ := isOf hZ eT E
  obtain ⟨v, _, ⟨T', L', k2, n2⟩, -, X', ⟨Lc, ⟨N', hQ⟩, hl', hk', hn'⟩, st'⟩ := X.virtualBack hx (y := y) (z := y) hown (mvT hZ w1) (mvT hZ w2) (notFace_of_selects (args := #[]) (mvT hZ w5)) (mvT hZ w5) (mvT hZ w6) hy (backOf (W := w) (Q := fun v h L => Fr n0 L ∧ GC v h) (M []) hZ w4 w3 hf hl) qa qc (g := mkF m pc Ls (argsL.reverse ++ .ref a :: rest)) rfl (by rw [hml]; exact hs) (Steps.refl _) (argsL := argsL) (rest := rest) (lenOf hdesc hlen) rfl (by show 2 * 0 + _ ≤ _; simpa [wt] using hw) (hb hby hd) (fun _ _ => ⟨rfl, eT, (by show k' + rm.cells ≤ _; omega), (by show n' + rm.slots ≤ _; omega)⟩)
  dsimp only [Pt.U, Pt.locs, Pt.cells, Pt.slots] at X' hl' hk' hn' st' hQ
  subst hl' hk' hn'
  obtain ⟨s2, o, st2, r⟩ := q v T'.heap hQ T' _ _ _ (by omega) (by omega) X' rfl (Fr.app N N')
  exact ⟨s2, o, st'.trans st2, r⟩
theorem Ru.callp (C : Ru l Z own code maxL ret nm R n0 G W) {a0 : Array Value} {i w : Nat} {y : MethodName} {bytes : ByteArray} {mx : Nat} {rt : Option FieldType} {rm : Room} {GC : Option Value → Heap → Prop} {a : Addr} {argsL : List Value} {ps : List FieldType} {rt' : Option FieldType} {D : String}
    (M : MeetsW l Z n0 y bytes mx rt rm (.ref a :: argsL).toArray h GC) (E : Exa Z h a D) (w1 : (Cond.methodLink own i y).before a0 Z = true) (w6 : (Cond.instanceMethod y).before a0 Z = true) {nn : Nat} (w5 : (Cond.instantiable y.cls nn).before a0 Z = true) (w7 : (Cond.privateMethod y).before a0 Z = true) (w3 : (Cond.initialized y.cls).before a0 Z = true) (w4 : (Cond.code y bytes mx rt).before a0 Z = true)
    (hd : decode code pc = .ok (.invokevirtual i, 3)) (hp : pc + 3 = pc') (hs : Ls.size = maxL) (hst : st = argsL.reverse ++ .ref a :: rest) (hy : y.cls ≠ "java/lang/invoke/MethodHandle" ∧ y.cls ≠ "java/lang/invoke/VarHandle")
    (hdesc : parseMethodDescriptor y.desc = some ⟨ps, rt'⟩) (hlen : argsL.length = ps.length) (hf : rm.frames + 1 ≤ R.frames) (hw : wt rest ≤ w) (hl : w + (mx + 11) + rm.locals ≤ R.locals) (hk : k + rm.cells ≤ R.cells) (hn : n + rm.slots ≤ R.slots)
    (q : ∀ v h', GC v h' → W h' (k + rm.cells) (n + rm.slots) pc' Ls (v.toList ++ rest)) : W h k n pc Ls st := by
  obtain ⟨p, e, s, m, args, below, meth, c, FE, ⟨hx, hby, hml, hown, hZ, hre, hlk, hnm⟩, hFE, rfl⟩ := C
  subst hp hst
  intro T locs k' n' q1 q2 X eT N
  obtain ⟨cq, qa, qb⟩ := E.cell
  have hpv : s.PrivateAt y := Cond.privateMethod_at (mvP hZ w7 (args := #[]))
  obtain ⟨cI, kI, hcI, hkI, -, hniab, -, -⟩ := Cond.instantiable_spec (mvT hZ w5 (args := args))
  have hsel : (Cond.selects y.cls y y).before args s = true := Jvm.Stand.selects_self_of_private hcI hkI (Bool.or_eq_false_iff.mp hniab).1 hpv (mvT hZ w6) hy
  obtain ⟨v, _, ⟨T', L', k2, n2⟩, -, X', ⟨Lc, ⟨N', hQ⟩, hl', hk', hn'⟩, st'⟩ := X.privateBack hx (y := y) hown (mvT hZ w1) (mvT hZ w6) hsel hpv (mvT hZ w4) hy (backOf (W := w) (Q := fun v h L => Fr n0 L ∧ GC v h) (M []) hZ w4 w3 hf hl) (g := mkF m pc Ls (argsL.reverse ++ .ref a :: rest)) rfl (by rw [hml]; exact hs) (Steps.refl _) (a := a) (by rw [eT]; exact qa) qb (argsL := argsL) (rest := rest) (lenOf hdesc hlen) rfl (by show 2 * 0 + _ ≤ _; simpa [wt] using hw) (hb hby hd) (fun _ _ => ⟨rfl, eT, (by show k' + rm.cells ≤ _; omega), (by show n' + rm.slots ≤ _; omega)⟩)
  dsimp only [Pt.U, Pt.locs, Pt.cells, Pt.slots] at X' hl' hk' hn' st' hQ
  subst hl' hk' hn'
  obtain ⟨s2, o, st2, r⟩ := q v T'.heap hQ T' _ _ _ (by omega) (by omega) X' rfl (Fr.app N N')
  exact ⟨s2, o, st'.trans st2, r⟩
theorem Ru.castY (C : Ru l Z own code maxL ret nm R n0 G W) {a0 : Array Value} {D : String} {i : Nat} {a : Addr} (w : (Cond.classLink own i D).before a0 Z = true) (F : Ins Z h a D true) (hd : decode code pc = .ok (.checkcast i, 3)) (hp : pc + 3 = pc') (q : W h k n pc' Ls (.ref a :: rest)) : W h k n pc Ls (.ref a :: rest) := by
  obtain ⟨p, e, s, m, args, below, meth, c, FE, ⟨hx, hby, hml, hown, hZ, hre, hlk, hnm⟩, hFE, rfl⟩ := C
  subst hp
  intro T locs k' n' q1 q2 X eT N
  obtain ⟨T', X', e', st'⟩ := castY X hx hZ hown w eT F (g := mkF m pc Ls (.ref a :: rest)) rfl rfl (hb hby hd)
  obtain ⟨s2, o, st2, r⟩ := q T' locs k' n' q1 q2 X' e' N
  exact ⟨s2, o, st' _ st2, r⟩
theorem Ru.newAIE (C : Ru l Z own code maxL ret nm R n0 G W) {a0 : Array Value} {z : Int32} {N cap : Nat} (w : (Cond.arrayClass .int).before a0 Z = true) (hd : decode code pc = .ok (.newarray .int, 2)) (hp : pc + 2 = pc') (hz : z.toInt = (N : Int)) (hcap : N ≤ cap) (hb8 : cap * 8 ≤ 536870912) (hk : k + 1 ≤ R.cells) (hn : n + cap ≤ R.slots)
    (q : ∀ h' b, b = h.size → Ext h h' → AI Z h' b (List.replicate N 0) → Exa Z h' b "[I" → W h' (k + 1) (n + cap) pc' Ls (.ref b :: rest)) : W h k n pc Ls (.int z :: rest) := by
  obtain ⟨p, e, s, m, args, below, meth, c, FE, ⟨hx, hby, hml, hown, hZ, hre, hlk, hnm⟩, hFE, rfl⟩ := C
  subst hp
  intro T locs k' n' q1 q2 X eT Nf
  have hnn : ¬ z < 0 := by rw [Int32.lt_iff_toInt_lt]; show ¬ z.toInt < 0; omega
  have hzn : z.toNatClampNeg = N := by show z.toInt.toNat = N; omega
  have hlt : N < 2 ^ 31 := by have := (rng32 z).2; omega
  obtain ⟨T', h', cA, X', e', E', A', B', st'⟩ := newPE X hx hZ (aty := .int) w eT (g := mkF m pc Ls (.int z :: rest)) rfl (hb hby hd) rfl hnn (cap := cap) (by omega) hb8 (by omega) (by omega) (ad := "[I") (by decide)
  have F : AI Z h' h.size (List.replicate N 0) := by
    refine ⟨_, A', ?_, by rw [List.length_replicate]; exact hlt⟩
    simp only [newA, hzn]
    apply Array.ext'
    simp [defaultValue, newarray.typeOf]
  obtain ⟨s2, o, st2, r⟩ := q h' _ rfl E' F B' T' locs (k' + 1) (n' + cap) (by omega) (by omega) X' e' Nf
  exact ⟨s2, o, st' _ st2, r⟩
theorem Ru.cloneAI (C : Ru l Z own code maxL ret nm R n0 G W) {a0 : Array Value} {i w cap : Nat} {a : Addr} {vs : List Int32}
    (w1 : (Cond.methodLink own i ⟨"[I", "clone", "()Ljava/lang/Object;"⟩).before a0 Z = true) (w2 : (Cond.sameMethod "[I" "java/lang/Object" "clone" "()Ljava/lang/Object;").before a0 Z = true) (w3 : (Cond.native ⟨"java/lang/Object", "clone", "()Ljava/lang/Object;"⟩).before a0 Z = true)
    (w4 : (Cond.instanceMethod ⟨"java/lang/Object", "clone", "()Ljava/lang/Object;"⟩).before a0 Z = true) (w5 : (Cond.selects "[I" ⟨"[I", "clone", "()Ljava/lang/Object;"⟩ ⟨"java/lang/Object", "clone", "()Ljava/lang/Object;"⟩).before a0 Z = true) (w6 : (Cond.castable "[I" "java/lang/Cloneable").before a0 Z = true)
    (F : AI Z h a vs) (E : Exa Z h a "[I") (hd : decode code pc = .ok (.invokevirtual i, 3)) (hp : pc + 3 = pc') (hs : Ls.size = maxL) (hf : 1 ≤ R.frames) (hw : wt rest ≤ w) (hl : w + 14 ≤ R.locals) (hcap : vs.length ≤ cap) (hk : k + 1 ≤ R.cells) (hn : n + cap ≤ R.slots)
    (q : ∀ h' b, b = h.size → Ext h h' → AI Z h' b vs → Exa Z h' b "[I" → W h' (k + 1) (n + cap) pc' Ls (.ref b :: rest)) : W h k n pc Ls (.ref a :: rest) := by
  obtain ⟨p, e, s, m, args, below, meth, c, FE, ⟨hx, hby, hml, hown, hZ, hre, hlk, hnm⟩, hFE, rfl⟩ := C
  subst hp
  intro T locs k' n' q1 q2 X eT Nf
  obtain ⟨cl, A, es, hlen⟩ := F
  have hsz : cl.slots.size = vs.length := by rw [es]; simp
  have FC : FitC Z cl := fitC_of A fun j hj v hv => by
    rw [es] at hv
    simp only [List.getElem?_toArray, List.getElem?_map, Option.map_eq_some_iff] at hv
    obtain ⟨y, -, rfl⟩ := hv
    rfl
  obtain ⟨T', h', X', e', E', A', B', st'⟩ := cloneA X hx hZ hown w1 w2 w3 w4 w5 w6 eT A E FC (g := mkF m pc Ls (.ref a :: rest)) rfl (by rw [hml]; exact hs) rfl (hb hby hd) hf (W := w) (cap := cap) (by show 2 * 0 + _ ≤ _; simpa [wt] using hw) hl (by omega) (by omega) (by omega)
  obtain ⟨s2, o, st2, r⟩ := q h' _ rfl E' ⟨_, A', es, hlen⟩ B' T' locs (k' + 1) (n' + cap) (by omega) (by omega) X' e' Nf
  exact ⟨s2, o, st' _ st2, r⟩
/-! returns -/
theorem Ru.retV (C : Ru l Z own code maxL ret nm R n0 G W) (hr : ret = none) (hd : decode code pc = .ok (.return_, 1)) (hk : k ≤ R.cells) (hn : n ≤ R.slots) (q : G none h) : W h k n pc Ls [] := by
  obtain ⟨p, e, s, m, args, below, meth, c, FE, ⟨hx, hby, hml, hown, hZ, hre, hlk, hnm⟩, hFE, rfl⟩ := C
  intro T locs k' n' q1 q2 X eT N
  obtain ⟨fs, hrr, hrun, hended, hW, hsame⟩ := X.leave (v := none) (fun _ => rfl)
  exact ⟨_, _, X.returnOut hx (hre.trans hr) (hb hby hd) hrr, hrun, hended, _, _, rfl, ⟨N, by show G none T.heap; rw [eT]; exact q⟩, hFE _ _ _ ⟨⟨_, rfl⟩, hW, hsame.mono (by omega) (by omega)⟩⟩
theorem Ru.retI (C : Ru l Z own code maxL ret nm R n0 G W) {z : Int32} (hr : ret = some .int) (hd : decode code pc = .ok (.ireturn, 1)) (hk : k ≤ R.cells) (hn : n ≤ R.slots) (q : G (some (.int z)) h) : W h k n pc Ls (.int z :: rest) := by
  obtain ⟨p, e, s, m, args, below, meth, c, FE, ⟨hx, hby, hml, hown, hZ, hre, hlk, hnm⟩, hFE, rfl⟩ := C
  intro T locs k' n' q1 q2 X eT N
  obtain ⟨fs, hrr, hrun, hended, hW, hsame⟩ := X.leave (v := some (.int z)) (fun h => by rw [hre, hr] at h; cases h)
  exact ⟨_, _, retOut X hx (hre.trans hr) rfl (Or.inl ⟨rfl, Or.inl rfl, z, rfl⟩) (hb hby hd) hrr, hrun, hended, _, _, rfl, ⟨N, by show G _ T.heap; rw [eT]; exact q⟩, hFE _ _ _ ⟨⟨_, rfl⟩, hW, hsame.mono (by omega) (by omega)⟩⟩
theorem Ru.retZ (C : Ru l Z own code maxL ret nm R n0 G W) {z : Int32} (hr : ret = some .boolean) (hz : z = 0 ∨ z = 1) (hd : decode code pc = .ok (.ireturn, 1)) (hk : k ≤ R.cells) (hn : n ≤ R.slots) (q : G (some (.int z)) h) : W h k n pc Ls (.int z :: rest) := by
  obtain ⟨p, e, s, m, args, below, meth, c, FE, ⟨hx, hby, hml, hown, hZ, hre, hlk, hnm⟩, hFE, rfl⟩ := C
  intro T locs k' n' q1 q2 X eT N
  obtain ⟨fs, hrr, hrun, hended, hW, hsame⟩ := X.leave (v := some (.int z)) (fun h => by rw [hre, hr] at h; cases h)
  have hnr : narrow .boolean (.int z) = .int z := by rcases hz with rfl | rfl <;> decide
  exact ⟨_, _, retOut X hx (hre.trans hr) hnr (Or.inl ⟨rfl, Or.inr (Or.inl rfl), z, rfl⟩) (hb hby hd) hrr, hrun, hended, _, _, rfl, ⟨N, by show G _ T.heap; rw [eT]; exact q⟩, hFE _ _ _ ⟨⟨_, rfl⟩, hW, hsame.mono (by omega) (by omega)⟩⟩
theorem Ru.retJ (C : Ru l Z own code maxL ret nm R n0 G W) {z : Int64} (hr : ret = some .long) (hd : decode code pc = .ok (.lreturn, 1)) (hk : k ≤ R.cells) (hn : n ≤ R.slots) (q : G (some (.long z)) h) : W h k n pc Ls (.long z :: rest) := by
  obtain ⟨p, e, s, m, args, below, meth, c, FE, ⟨hx, hby, hml, hown, hZ, hre, hlk, hnm⟩, hFE, rfl⟩ := C
  intro T locs k' n' q1 q2 X eT N
  obtain ⟨fs, hrr, hrun, hended, hW, hsame⟩ := X.leave (v := some (.long z)) (fun h => by rw [hre, hr] at h; cases h)
  exact ⟨_, _, retOut X hx (hre.trans hr) rfl (Or.inr (Or.inl ⟨rfl, rfl, z, rfl⟩)) (hb hby hd) hrr, hrun, hended, _, _, rfl, ⟨N, by show G _ T.heap; rw [eT]; exact q⟩, hFE _ _ _ ⟨⟨_, rfl⟩, hW, hsame.mono (by omega) (by omega)⟩⟩
theorem Ru.retA (C : Ru l Z own code maxL ret nm R n0 G W) {a : Addr} {t : FieldType} (hr : ret = some t) (ht : t.isReference = true) (hd : decode code pc = .ok (.areturn, 1)) (hk : k ≤ R.cells) (hn : n ≤ R.slots) (q : G (some (.ref a)) h) : W h k n pc Ls (.ref a :: rest) := by
  obtain ⟨p, e, s, m, args, below, meth, c, FE, ⟨hx, hby, hml, hown, hZ, hre, hlk, hnm⟩, hFE, rfl⟩ := C
  intro T locs k' n' q1 q2 X eT N
  obtain ⟨fs, hrr, hrun, hended, hW, hsame⟩ := X.leave (v := some (.ref a)) (fun h => by rw [hre, hr] at h; cases h)
  have hnr : narrow t (.ref a) = .ref a := by cases t <;> first | rfl | cases ht
  exact ⟨_, _, retOut X hx (hre.trans hr) hnr (Or.inr (Or.inr (Or.inr (Or.inr ⟨rfl, ht, rfl⟩)))) (hb hby hd) hrr, hrun, hended, _, _, rfl, ⟨N, by show G _ T.heap; rw [eT]; exact q⟩, hFE _ _ _ ⟨⟨_, rfl⟩, hW, hsame.mono (by omega) (by omega)⟩⟩
end Steps
/-! kinds of results -/
def RI (P : Int32 → Heap → Prop) : Option Value → Heap → Prop := fun v h => ∃ r, v = some (.int r) ∧ P r h
def RJ (P : Int64 → Heap → Prop) : Option Value → Heap → Prop := fun v h => ∃ r, v = some (.long r) ∧ P r h
def RA (P : Addr → Heap → Prop) : Option Value → Heap → Prop := fun v h => ∃ r, v = some (.ref r) ∧ P r h
def RV (P : Heap → Prop) : Option Value → Heap → Prop := fun v h => v = none ∧ P h
theorem kI {P : Int32 → Heap → Prop} {W : WT} {k n pc : Nat} {Ls : Array Slot} {rest : List Value} (q : ∀ r h, P r h → W h k n pc Ls (.int r :: rest)) : ∀ v h, RI P v h → W h k n pc Ls (v.toList ++ rest) := by
  rintro _ h ⟨r, rfl, p⟩; exact q r h p
theorem kJ {P : Int64 → Heap → Prop} {W : WT} {k n pc : Nat} {Ls : Array Slot} {rest : List Value} (q : ∀ r h, P r h → W h k n pc Ls (.long r :: rest)) : ∀ v h, RJ P v h → W h k n pc Ls (v.toList ++ rest) := by
  rintro _ h ⟨r, rfl, p⟩; exact q r h p
theorem kA {P : Addr → Heap → Prop} {W : WT} {k n pc : Nat} {Ls : Array Slot} {rest : List Value} (q : ∀ r h, P r h → W h k n pc Ls (.ref r :: rest)) : ∀ v h, RA P v h → W h k n pc Ls (v.toList ++ rest) := by
  rintro _ h ⟨r, rfl, p⟩; exact q r h p
theorem kV {P : Heap → Prop} {W : WT} {k n pc : Nat} {Ls : Array Slot} {rest : List Value} (q : ∀ h, P h → W h k n pc Ls rest) : ∀ v h, RV P v h → W h k n pc Ls (v.toList ++ rest) := by
  rintro _ h ⟨rfl, p⟩; exact q h p
/-- the same, for a callee that leaves the heap as it was and returns just this -/
theorem kI0 {P : Int32 → Prop} {h0 : Heap} {W : WT} {k n pc : Nat} {Ls : Array Slot} {rest : List Value} (q : ∀ r, P r → W h0 k n pc Ls (.int r :: rest)) : ∀ v h, RI (fun r h => P r ∧ h = h0) v h → W h k n pc Ls (v.toList ++ rest) := by
  rintro _ h ⟨r, rfl, p, rfl⟩; exact q r p
theorem kJ0 {P : Int64 → Prop} {h0 : Heap} {W : WT} {k n pc : Nat} {Ls : Array Slot} {rest : List Value} (q : ∀ r, P r → W h0 k n pc Ls (.long r :: rest)) : ∀ v h, RJ (fun r h => P r ∧ h = h0) v h → W h k n pc Ls (v.toList ++ rest) := by
  rintro _ h ⟨r, rfl, p, rfl⟩; exact q r p
theorem kIe {x : Int32} {h0 : Heap} {W : WT} {k n pc : Nat} {Ls : Array Slot} {rest : List Value} (q : W h0 k n pc Ls (.int x :: rest)) : ∀ v h, RI (fun r h => r = x ∧ h = h0) v h → W h k n pc Ls (v.toList ++ rest) := by
  rintro _ h ⟨r, rfl, rfl, rfl⟩; exact q
theorem kJe {x : Int64} {h0 : Heap} {W : WT} {k n pc : Nat} {Ls : Array Slot} {rest : List Value} (q : W h0 k n pc Ls (.long x :: rest)) : ∀ v h, RJ (fun r h => r = x ∧ h = h0) v h → W h k n pc Ls (v.toList ++ rest) := by
  rintro _ h ⟨r, rfl, rfl, rfl⟩; exact q
theorem exaLt {Z : State} {h : Heap} {a : Addr} {C : String} (F : Exa Z h a C) : a < h.size := by obtain ⟨c, _, h1, -⟩ := F; exact (Array.getElem?_eq_some_iff.mp h1).1
end Jvm.OwnW

namespace Jvm.Pilot.@@N@@
open Jvm Jvm.ClassFile Sem Op Lib Jvm.Free Jvm.Stand Jvm.LawKit Jvm.RoadKit Bundle Jvm.Pilot.@@N@@.Jvm.D Jvm.OwnW
end Jvm.Pilot.@@N@@
namespace Jvm.OwnP
open Jvm.OwnW
/-- a long as a number below 2^64 -/
def toN (x : Int64) : Nat := x.toBitVec.toNat
theorem toN_lt (x : Int64) : toN x < 18446744073709551616 := x.toBitVec.isLt
theorem toN_inj {x y : Int64} (h : toN x = toN y) : x = y := Int64.toBitVec_inj.mp (BitVec.eq_of_toNat_eq h)
theorem nAdd (x y : Int64) : toN (x + y) = (toN x + toN y) % 18446744073709551616 := BitVec.toNat_add x.toBitVec y.toBitVec
theorem nSub (x y : Int64) : toN (x - y) = (18446744073709551616 - toN y + toN x) % 18446744073709551616 := BitVec.toNat_sub x.toBitVec y.toBitVec
theorem nMul (x y : Int64) : toN (x * y) = (toN x * toN y) % 18446744073709551616 := BitVec.toNat_mul x.toBitVec y.toBitVec
theorem nAnd (x y : Int64) : toN (x &&& y) = toN x &&& toN y := BitVec.toNat_and x.toBitVec y.toBitVec
theorem nOr (x y : Int64) : toN (x ||| y) = toN x ||| toN y := BitVec.toNat_or x.toBitVec y.toBitVec
theorem nXor (x y : Int64) : toN (x ^^^ y) = toN x ^^^ toN y := BitVec.toNat_xor x.toBitVec y.toBitVec
theorem nShl (x : Int64) (k : Nat) : toN (shlL x k) = (toN x * 2 ^ k) % 18446744073709551616 := by
  show (x.toBitVec <<< k).toNat = _
  rw [BitVec.toNat_shiftLeft, Nat.shiftLeft_eq]; rfl
theorem nShr (x : Int64) (k : Nat) : toN (shrL x k) = toN x / 2 ^ k := by
  show (x.toBitVec >>> k).toNat = _
  rw [BitVec.toNat_ushiftRight, Nat.shiftRight_eq_div_pow]; rfl
/-- a long's sign and its number -/
theorem toInt_toN (x : Int64) : x.toInt = if 2 * toN x < 18446744073709551616 then (toN x : Int) else (toN x : Int) - 18446744073709551616 := BitVec.toInt_eq_toNat_cond x.toBitVec
theorem toN_of_nonneg {x : Int64} (h : 0 ≤ x.toInt) : (toN x : Int) = x.toInt := by
  have := toInt_toN x; have := toN_lt x; split at * <;> omega
theorem toN_i2l {x : Int32} (h : 0 ≤ x.toInt) : (toN x.toInt64 : Int) = x.toInt := by
  have e : x.toInt64.toInt = x.toInt := Int32.toInt_toInt64 x
  rw [← e] at h ⊢; exact toN_of_nonneg h
theorem and_split (x y : Nat) (k : Nat) : x &&& y = (x % 2 ^ k &&& y % 2 ^ k) + 2 ^ k * (x / 2 ^ k &&& y / 2 ^ k) := by
  rw [← Nat.and_mod_two_pow, ← Nat.and_div_two_pow]; exact (Nat.mod_add_div _ _).symm
theorem or_disj {a b k : Nat} (h : a < 2 ^ k) : a ||| (b * 2 ^ k) = a + b * 2 ^ k := by
  rw [Nat.mul_comm b, Nat.or_comm, ← Nat.two_pow_add_eq_or_of_lt h, Nat.add_comm]
end Jvm.OwnP
namespace Jvm.OwnP
open Jvm.RoadKit
theorem nn_toInt {j : Int32} (h : ¬ j < 0) : j.toInt = (j.toInt.toNat : Int) := by
  rw [Int32.lt_iff_toInt_lt] at h
  have : ¬ j.toInt < 0 := h
  omega
theorem getD_some {α : Type} {vs : List α} {i : Nat} {d : α} (h : i < vs.length) : vs[i]? = some (vs.getD i d) := by
  rw [List.getD_eq_getElem?_getD, List.getElem?_eq_getElem h]; rfl
theorem and3 (c : Int32) : c &&& 3 = 0 ∨ c &&& 3 = 1 ∨ c &&& 3 = 2 ∨ c &&& 3 = 3 := by
  have m := c_mask c 3 2 (by decide) (by decide)
  have h : (c &&& 3).toInt = 0 ∨ (c &&& 3).toInt = 1 ∨ (c &&& 3).toInt = 2 ∨ (c &&& 3).toInt = 3 := by omega
  rcases h with h | h | h | h
  · exact Or.inl (Int32.toInt_inj.mp h)
  · exact Or.inr (Or.inl (Int32.toInt_inj.mp h))
  · exact Or.inr (Or.inr (Or.inl (Int32.toInt_inj.mp h)))
  · exact Or.inr (Or.inr (Or.inr (Int32.toInt_inj.mp h)))
theorem fill_step {α : Type} {L M : List α} {i : Nat} (hl : L.length = M.length) (h : ∀ j, j < i → L[j]? = M[j]?) {v : α} (hv : M[i]? = some v) : (L.set i v).length = M.length ∧ ∀ j, j < i + 1 → (L.set i v)[j]? = M[j]? := by
  have hi : i < L.length := by rw [hl]; exact (List.getElem?_eq_some_iff.mp hv).1
  refine ⟨by rw [List.length_set]; exact hl, fun j hj => ?_⟩
  by_cases e : j = i
  · subst e; rw [List.getElem?_set_self hi, hv]
  · rw [List.getElem?_set_ne (Ne.symm e)]; exact h j (by omega)
theorem fill_done {α : Type} {L M : List α} {i : Nat} (hl : L.length = M.length) (h : ∀ j, j < i → L[j]? = M[j]?) (hi : M.length ≤ i) : L = M := by
  apply List.ext_getElem?
  intro j
  by_cases e : j < i
  · exact h j e
  · rw [List.getElem?_eq_none (by omega), List.getElem?_eq_none (by omega)]
theorem lt_iff {x y : Int32} {a b : Nat} (hx : x.toInt = (a : Int)) (hy : y.toInt = (b : Int)) : x < y ↔ a < b := by
  rw [Int32.lt_iff_toInt_lt, hx, hy]; omega
theorem inc_toInt {x v : Int32} {a : Nat} (hx : x.toInt = (a : Int)) (h : a < 2147483647) (e : v = x + 1) : v.toInt = ((a + 1 : Nat) : Int) := by
  have s := c_iadd x 1; have b := rng32 (x + 1); have o : (1 : Int32).toInt = 1 := by decide
  rw [e]; omega
theorem narZ {x : Int32} (h : x = 0 ∨ x = 1) : Jvm.narrow .boolean (.int x) = .int x ∧ Jvm.fits .boolean (.int x) = true := by
  rcases h with rfl | rfl <;> exact ⟨by decide, by decide⟩
theorem rem3 {c : Int32} (h : ¬ c < 0) : c % 3 = 0 ∨ c % 3 = 1 ∨ c % 3 = 2 := by
  rw [Int32.lt_iff_toInt_lt] at h
  have h0 : ¬ c.toInt < 0 := h
  have m := (c_irem c 3 3 (by decide)).1 (by omega)
  have h : (c % 3).toInt = 0 ∨ (c % 3).toInt = 1 ∨ (c % 3).toInt = 2 := by omega
  rcases h with h | h | h
  · exact Or.inl (Int32.toInt_inj.mp h)
  · exact Or.inr (Or.inl (Int32.toInt_inj.mp h))
  · exact Or.inr (Or.inr (Int32.toInt_inj.mp h))
end Jvm.OwnP
namespace Jvm.OwnP
open Jvm.OwnW
/-- a cell of a list of ints as a number -/
def sv (L : List Int32) (q : Nat) : Nat := (L.getD q 0).toInt.toNat
def OKL (O : List Int32) : Prop := O.length = 64 ∧ ∀ k, k < 64 → (O.getD k 0).toInt = (sv O k : Int) ∧ sv O k < 64
/-- the bit of a long, counted from its top -/
def mb (x : Int64) (k : Nat) : Bool := x.toBitVec.getMsbD k
def maskL (O : List Int32) : Nat → Int64
  | 0 => 0
  | n + 1 => maskL O n ||| shrL (-9223372036854775808) (sh6 (O.getD n 0))
theorem gset {α : Type} {L : List α} {i : Nat} {v d : α} (h : i < L.length) : (L.set i v).getD i d = v := by
  rw [List.getD_eq_getElem?_getD, List.getElem?_set_self h]; rfl
theorem gset_ne {α : Type} {L : List α} {i q : Nat} {v d : α} (h : q ≠ i) : (L.set i v).getD q d = L.getD q d := by
  rw [List.getD_eq_getElem?_getD, List.getElem?_set_ne (Ne.symm h), ← List.getD_eq_getElem?_getD]
theorem svset {L : List Int32} {i a : Nat} {v : Int32} (h : i < L.length) (hv : v.toInt = (a : Int)) : sv (L.set i v) i = a := by
  unfold sv; rw [gset h, hv]; omega
theorem svset_ne {L : List Int32} {i q : Nat} {v : Int32} (h : q ≠ i) : sv (L.set i v) q = sv L q := by unfold sv; rw [gset_ne h]
def Inv1 (O S : List Int32) (r i : Nat) : Prop :=
  S.length = 65 ∧ r ≤ i ∧ (0 < i → 1 ≤ r ∧ sv S 0 = 0) ∧ (∀ q, q < r → (S.getD q 0).toInt = (sv S q : Int) ∧ sv S q < i) ∧ (∀ a b, a < b → b < r → sv S a < sv S b) ∧ (∀ k, 0 < k → k < i → (∀ q, q < r → sv S q ≠ k) → sv O k = sv O (k - 1) + 1)
def Inv2 (O S : List Int32) (r : Nat) : Prop :=
  S.length = 65 ∧ 1 ≤ r ∧ r ≤ 64 ∧ sv S 0 = 0 ∧ (∀ q, q ≤ r → (S.getD q 0).toInt = (sv S q : Int)) ∧ (∀ q, q < r → sv S q < 64) ∧ sv S r = 64 ∧ (∀ a b, a < b → b ≤ r → sv S a < sv S b) ∧ (∀ k, 0 < k → k < 64 → (∀ q, q < r → sv S q ≠ k) → sv O k = sv O (k - 1) + 1)
theorem inv1_zero (O : List Int32) : Inv1 O (List.replicate 65 0) 0 0 :=
  ⟨List.length_replicate, Nat.le_refl _, fun h => absurd h (by decide), fun q h => absurd h (by omega), fun a b _ h => absurd h (by omega), fun k _ h => absurd h (by omega)⟩
theorem inv1_add {O S : List Int32} {r i : Nat} {iv : Int32} (hi : iv.toInt = (i : Int)) (h64 : i < 64) (v : Inv1 O S r i) : Inv1 O (S.set r iv) (r + 1) (i + 1) := by
  obtain ⟨v1, v2, v3, v4, v5, v6⟩ := v
  have hr : r < S.length := by omega
  refine ⟨by rw [List.length_set]; exact v1, by omega, fun _ => ⟨by omega, ?_⟩, ?_, ?_, ?_⟩
  · by_cases e : r = 0
    · subst e; rw [svset hr hi]; omega
    · rw [svset_ne (Ne.symm e)]; exact (v3 (by omega)).2
  · intro q hq
    by_cases e : q = r
    · subst e; rw [svset hr hi, gset hr]; exact ⟨hi, by omega⟩
    · rw [svset_ne e, gset_ne e]; have := v4 q (by omega); exact ⟨this.1, by omega⟩
  · intro a b hab hb
    by_cases e : b = r
    · subst e; rw [svset hr hi, svset_ne (by omega)]; exact (v4 a hab).2
    · rw [svset_ne e, svset_ne (by omega)]; exact v5 a b hab (by omega)
  · intro k k0 ki hk
    have nk : k ≠ i := by
      intro e; refine hk r (by omega) ?_; rw [svset hr hi, e]
    refine v6 k k0 (by omega) fun q hq => ?_
    have := hk q (by omega); rwa [svset_ne (by omega)] at this
theorem inv1_run {O S : List Int32} {r i : Nat} (hO : OKL O) (h64 : i < 64) (h0 : i ≠ 0) (hn : O.getD i 0 = O.getD (i - 1) 0 + 1) (v : Inv1 O S r i) : Inv1 O S r (i + 1) := by
  obtain ⟨v1, v2, v3, v4, v5, v6⟩ := v
  refine ⟨v1, by omega, fun _ => v3 (by omega), fun q hq => ⟨(v4 q hq).1, by have := (v4 q hq).2; omega⟩, v5, ?_⟩
  intro k k0 ki hk
  by_cases e : k = i
  · subst e
    have a := hO.2 k h64; have b := hO.2 (k - 1) (by omega)
    have s := Jvm.RoadKit.c_iadd (O.getD (k - 1) 0) 1; have g := Jvm.RoadKit.rng32 (O.getD (k - 1) 0 + 1); have o : (1 : Int32).toInt = 1 := by decide
    rw [← hn] at s g
    omega
  · exact v6 k k0 (by omega) hk
theorem inv2_of {O S : List Int32} {r : Nat} (v : Inv1 O S r 64) : Inv2 O (S.set r 64) r := by
  obtain ⟨v1, v2, v3, v4, v5, v6⟩ := v
  have hr : r < S.length := by omega
  have h64 : (64 : Int32).toInt = ((64 : Nat) : Int) := by decide
  have v3' := v3 (by decide)
  refine ⟨by rw [List.length_set]; exact v1, v3'.1, v2, ?_, ?_, ?_, svset hr h64, ?_, ?_⟩
  · rw [svset_ne (by omega)]; exact v3'.2
  · intro q hq
    by_cases e : q = r
    · subst e; rw [svset hr h64, gset hr]; exact h64
    · rw [svset_ne e, gset_ne e]; exact (v4 q (by omega)).1
  · intro q hq; rw [svset_ne (by omega)]; exact (v4 q hq).2
  · intro a b hab hb
    by_cases e : b = r
    · subst e; rw [svset hr h64, svset_ne (by omega)]; exact (v4 a hab).2
    · rw [svset_ne e, svset_ne (by omega)]; exact v5 a b hab (by omega)
  · intro k k0 ki hk
    refine v6 k k0 ki fun q hq => ?_
    have := hk q hq; rwa [svset_ne (by omega)] at this
def TabTo (O S T B Q : List Int32) (r j : Nat) : Prop :=
  T.length = r ∧ B.length = r ∧ Q.length = r ∧ ∀ q, q < j → (T.getD q 0).toInt = (sv O (sv S q) : Int) ∧ (B.getD q 0).toInt + (sv S (q + 1) : Int) = 64 + (sv S q : Int) ∧ (Q.getD q 0).toInt + (sv S (q + 1) : Int) = 64
def Tab (O T B Q : List Int32) : Prop := ∃ (S : List Int32) (r : Nat), Inv2 O S r ∧ TabTo O S T B Q r r
theorem tab_step {O S T B Q : List Int32} {r j : Nat} {d : Int32} (hO : OKL O) (v : Inv2 O S r) (hj : j < r) (t : TabTo O S T B Q r j) (hd : d = S.getD (j + 1) 0 - S.getD j 0) :
    TabTo O S (T.set j (O.getD (sv S j) 0)) (B.set j (64 - d)) (Q.set j (64 - S.getD j 0 - d)) r (j + 1) := by
  obtain ⟨t1, t2, t3, t4⟩ := t
  refine ⟨by rw [List.length_set]; exact t1, by rw [List.length_set]; exact t2, by rw [List.length_set]; exact t3, ?_⟩
  intro q hq
  by_cases e : q = j
  · subst e
    rw [gset (by omega), gset (by omega), gset (by omega)]
    obtain ⟨v1, v2, v3, v4, v5, v6, v7, v8, v9⟩ := v
    have a := v5 q (by omega); have b := v5 (q + 1) (by omega); have c := v8 q (q + 1) (by omega) (by omega); have l := v6 q hj
    have l2 : sv S (q + 1) ≤ 64 := by
      by_cases z : q + 1 = r
      · rw [z, v7]; omega
      · have := v6 (q + 1) (by omega); omega
    have s1 := Jvm.RoadKit.c_isub (S.getD (q + 1) 0) (S.getD q 0); have g1 := Jvm.RoadKit.rng32 (S.getD (q + 1) 0 - S.getD q 0)
    rw [← hd] at s1 g1
    have s2 := Jvm.RoadKit.c_isub 64 d; have g2 := Jvm.RoadKit.rng32 (64 - d); have s3 := Jvm.RoadKit.c_isub 64 (S.getD q 0); have g3 := Jvm.RoadKit.rng32 (64 - S.getD q 0)
    have s4 := Jvm.RoadKit.c_isub (64 - S.getD q 0) d; have g4 := Jvm.RoadKit.rng32 (64 - S.getD q 0 - d)
    have o : (64 : Int32).toInt = 64 := by decide
    refine ⟨(hO.2 _ l).1, by omega, by omega⟩
  · rw [gset_ne e, gset_ne e, gset_ne e]; exact t4 q (by omega)
theorem tab_zero {O S : List Int32} {r : Nat} : TabTo O S (List.replicate r 0) (List.replicate r 0) (List.replicate r 0) r 0 :=
  ⟨List.length_replicate, List.length_replicate, List.length_replicate, fun q h => absurd h (by omega)⟩
/-- bits -/
theorem mbShl (x : Int64) (n k : Nat) : mb (shlL x n) k = mb x (k + n) := by
  show (x.toBitVec <<< n).getMsbD k = _; rw [BitVec.getMsbD_shiftLeft]; rfl
theorem mbShr (x : Int64) (n k : Nat) : mb (shrL x n) k = (decide (k < 64) && (!decide (k < n) && mb x (k - n))) := by
  show (x.toBitVec >>> n).getMsbD k = _; rw [BitVec.getMsbD_ushiftRight]; rfl
theorem mbOr (x y : Int64) (k : Nat) : mb (x ||| y) k = (mb x k || mb y k) := by
  show (x.toBitVec ||| y.toBitVec).getMsbD k = _; rw [BitVec.getMsbD_or]; rfl
theorem mbAnd (x y : Int64) (k : Nat) : mb (x &&& y) k = (mb x k && mb y k) := by
  show (x.toBitVec &&& y.toBitVec).getMsbD k = _; rw [BitVec.getMsbD_and]; rfl
theorem mb_ge {x : Int64} {k : Nat} (h : 64 ≤ k) : mb x k = false := BitVec.getMsbD_of_ge _ _ h
theorem mb_zero (k : Nat) : mb 0 k = false := by show (0#64).getMsbD k = false; exact BitVec.getMsbD_zero
theorem eq_zero {x : Int64} : x = 0 ↔ ∀ k, k < 64 → mb x k = false := by
  constructor
  · rintro rfl k _; exact mb_zero k
  · intro h
    apply Int64.toBitVec_inj.mp
    apply BitVec.eq_of_getMsbD_eq
    intro i hi
    exact (h i hi).trans (mb_zero i).symm
theorem neg_iff (x : Int64) : x < 0 ↔ mb x 0 = true := by
  rw [Int64.lt_iff_toInt_lt]
  show x.toBitVec.toInt < 0 ↔ x.toBitVec.msb = true
  rw [BitVec.msb_eq_toInt]; simp
theorem sh6_of {y : Int32} {n : Nat} (h : y.toInt = (n : Int)) (hn : n < 64) : sh6 y = n := by
  unfold sh6
  have e : y.toInt = y.toBitVec.toInt := rfl
  have k := BitVec.toInt_eq_toNat_cond y.toBitVec; have l := y.toBitVec.isLt
  split at k <;> omega
theorem mb_top {n k : Nat} (hk : k < 64) : mb (shrL (-9223372036854775808) n) k = decide (k = n) := by
  rw [mbShr]
  have m0 : mb (-9223372036854775808) 0 = true := by decide
  have ms : ∀ j, j < 64 → 0 < j → mb (-9223372036854775808) j = false := by decide
  by_cases a : k < n
  · simp [a, Nat.ne_of_lt a]
  · by_cases e : k = n
    · subst e; simp [hk, m0]
    · rw [ms (k - n) (by omega) (by omega)]; simp [e]
theorem mb_mask {O : List Int32} (hO : OKL O) {n : Nat} (hn : n ≤ 64) {k : Nat} (hk : k < 64) : mb (maskL O n) k = true ↔ ∃ i, i < n ∧ sv O i = k := by
  induction n with
  | zero => 
    show mb 0 k = true ↔ _
    rw [mb_zero]; constructor
    · intro h; cases h
    · rintro ⟨i, h, -⟩; omega
  | succ n ih =>
    have o := hO.2 n (by omega)
    show mb (maskL O n ||| _) k = true ↔ _
    rw [mbOr, Bool.or_eq_true, ih (by omega), sh6_of o.1 o.2, mb_top hk, decide_eq_true_eq]
    constructor
    · rintro (⟨i, h, e⟩ | e)
      · exact ⟨i, by omega, e⟩
      · exact ⟨n, by omega, e.symm⟩
    · rintro ⟨i, h, e⟩
      by_cases z : i = n
      · right; rw [← e, z]
      · left; exact ⟨i, by omega, e⟩
theorem and_mask {O : List Int32} (hO : OKL O) {n : Nat} (hn : n ≤ 64) {d : Int64} : d &&& maskL O n = 0 ↔ ∀ i, i < n → mb d (sv O i) = false := by
  rw [eq_zero]
  constructor
  · intro h i hi
    have l := (hO.2 i (by omega)).2
    have := h (sv O i) l
    rw [mbAnd, (mb_mask hO hn l).mpr ⟨i, hi, rfl⟩, Bool.and_true] at this; exact this
  · intro h k hk
    rw [mbAnd]
    by_cases z : mb (maskL O n) k = true
    · obtain ⟨i, hi, e⟩ := (mb_mask hO hn hk).mp z
      rw [← e, h i hi]; rfl
    · rw [Bool.not_eq_true] at z; rw [z, Bool.and_false]
/-- a run's cells follow each other -/
theorem run_eq {O S : List Int32} {r j : Nat} (v : Inv2 O S r) (hj : j < r) : ∀ d, sv S j + d < sv S (j + 1) → sv O (sv S j + d) = sv O (sv S j) + d := by
  obtain ⟨v1, v2, v3, v4, v5, v6, v7, v8, v9⟩ := v
  have l2 : sv S (j + 1) ≤ 64 := by
    by_cases z : j + 1 = r
    · rw [z, v7]; omega
    · have := v6 (j + 1) (by omega); omega
  intro d
  induction d with
  | zero => intro _; rfl
  | succ d ih =>
    intro h
    have := v9 (sv S j + (d + 1)) (by omega) (by omega) (by
      intro q hq e
      by_cases z : q ≤ j
      · by_cases z2 : q = j
        · subst z2; omega
        · have := v8 q j (by omega) (by omega); omega
      · by_cases z2 : q = j + 1
        · subst z2; omega
        · have := v8 (j + 1) q (by omega) (by omega); omega)
    rw [this, show sv S j + (d + 1) - 1 = sv S j + d from by omega, ih (by omega)]; omega
def Done (O : List Int32) (x res : Int64) (n : Nat) : Prop := ∀ k, k < 64 → mb res k = (decide (k < n) && mb x (sv O k))
theorem done_zero {O : List Int32} {x : Int64} : Done O x 0 0 := by
  intro k _; rw [mb_zero]; simp
theorem done_step {O S T B Q : List Int32} {r j : Nat} {x res : Int64} (v : Inv2 O S r) (t : TabTo O S T B Q r r) (hj : j < r) (hO : OKL O) (h : Done O x res (sv S j)) :
    Done O x (res ||| shlL (shrL (shlL x (sh6 (T.getD j 0))) (sh6 (B.getD j 0))) (sh6 (Q.getD j 0))) (sv S (j + 1)) := by
  obtain ⟨e1, e2, e3⟩ := t.2.2.2 j hj
  have re := run_eq v hj
  obtain ⟨v1, v2, v3, v4, v5, v6, v7, v8, v9⟩ := v
  have l2 : sv S (j + 1) ≤ 64 := by
    by_cases z : j + 1 = r
    · rw [z, v7]; omega
    · have := v6 (j + 1) (by omega); omega
  have lt := v8 j (j + 1) (by omega) (by omega)
  have l1 := v6 j hj
  rw [sh6_of e1 (hO.2 _ l1).2, sh6_of (n := 64 + sv S j - sv S (j + 1)) (by omega) (by omega), sh6_of (n := 64 - sv S (j + 1)) (by omega) (by omega)]
  intro k hk
  rw [mbOr, h k hk, mbShl, mbShr, mbShl]
  by_cases a : k < sv S j
  · have b : k < sv S (j + 1) := by omega
    have c : k + (64 - sv S (j + 1)) < 64 + sv S j - sv S (j + 1) := by omega
    simp [a, b, c]
  · by_cases b : k < sv S (j + 1)
    · have c : ¬ (k + (64 - sv S (j + 1)) < 64 + sv S j - sv S (j + 1)) := by omega
      have c2 : k + (64 - sv S (j + 1)) < 64 := by omega
      have := re (k - sv S j) (by omega)
      rw [show sv S j + (k - sv S j) = k from by omega] at this
      rw [show k + (64 - sv S (j + 1)) - (64 + sv S j - sv S (j + 1)) + sv O (sv S j) = sv O k from by omega]
      simp [a, b, c, c2]
    · have c2 : ¬ (k + (64 - sv S (j + 1)) < 64) := by omega
      simp [a, b, c2]
/-- a list that is filled cell by cell -/
def Fill (f : Nat → Int32) (n : Nat) (L : List Int32) : Prop := L.length = 64 ∧ ∀ q, q < n → L.getD q 0 = f q
theorem fill0 (f : Nat → Int32) : Fill f 0 (List.replicate 64 0) := ⟨List.length_replicate, fun q h => absurd h (by omega)⟩
theorem fillS {f : Nat → Int32} {n : Nat} {L : List Int32} {v : Int32} (h : Fill f n L) (hn : n < 64) (hv : v = f n) : Fill f (n + 1) (L.set n v) := by
  refine ⟨by rw [List.length_set]; exact h.1, fun q hq => ?_⟩
  by_cases e : q = n
  · subst e; rw [gset (by rw [h.1]; exact hn), hv]
  · rw [gset_ne e]; exact h.2 q (by omega)
theorem fill_ok {f : Nat → Int32} {L : List Int32} (h : Fill f 64 L) (hf : ∀ q, q < 64 → 0 ≤ (f q).toInt ∧ (f q).toInt < 64) : OKL L := by
  refine ⟨h.1, fun k hk => ?_⟩
  have := hf k hk; have e := h.2 k hk
  unfold sv; rw [e]; omega
end Jvm.OwnP
namespace Jvm.Pilot.@@N@@
open Jvm Jvm.ClassFile Sem Op Lib Jvm.Free Jvm.Stand Jvm.LawKit Jvm.RoadKit Bundle Jvm.Pilot.@@N@@.Jvm.D Jvm.OwnW

def eF (i r d : Int32) : Int32 := if d = 0 then (r + i) &&& 63 else (r - i) &&& 63

open Jvm.OwnP
theorem own_i0 {iv : Int32} {i : Nat} (hi : iv.toInt = (i : Int)) (h : ¬ iv = 0) : i ≠ 0 := fun e => h (Int32.toInt_inj.mp (by rw [hi, e]; rfl))
theorem own_dec {jv : Int32} {j : Nat} (h : jv.toInt = (j : Int)) (h1 : j ≠ 0) : (jv - 1).toInt = ((j - 1 : Nat) : Int) := by
  have s := c_isub jv 1; have b := rng32 (jv - 1); have b2 := rng32 jv; have o : (1 : Int32).toInt = 1 := by decide
  omega
theorem own_mk1 {O : List Int32} {i P : Nat} {mk v : Int64} (hm : mk = maskL O (min i P)) (h : i < P) (e : v = mk ||| shrL (-9223372036854775808) (sh6 (O.getD i 0))) : v = maskL O (min (i + 1) P) := by
  rw [e, hm, Nat.min_eq_left (by omega), Nat.min_eq_left (by omega)]; rfl
theorem own_mk0 {O : List Int32} {i P : Nat} {mk : Int64} (hm : mk = maskL O (min i P)) (h : ¬ i < P) : mk = maskL O (min (i + 1) P) := by
  rw [hm, Nat.min_eq_right (by omega), Nat.min_eq_right (by omega)]
theorem own_prev {O : List Int32} {i : Nat} {iv : Int32} (hi : iv.toInt = (i : Int)) (hok : OKL O) (h : i < 64) (h0 : i ≠ 0) (c : O.getD i 0 = O.getD (i - 1) 0 + 1) : O.getD i 0 = O.getD (i - 1) 0 + 1 := c
theorem own_full {O S T B Q : List Int32} {r j fu : Nat} (t : TabTo O S T B Q r j) (h : ¬ j < r) (g : j + fu = r) : TabTo O S T B Q r r := by
  have : j = r := by omega
  rw [this] at t; exact t

theorem own_63 (x : Int32) : 0 ≤ (x &&& 63).toInt ∧ (x &&& 63).toInt < 64 ∧ (x &&& 63).toInt = x.toInt % 64 := by
  have m := c_mask x 63 6 (by decide) (by decide)
  have e : ((2 : Int) ^ 6) = 64 := by decide
  omega
theorem own_rng (r d : Int32) : ∀ q, q < 64 → 0 ≤ ((fun q => eF (Int32.ofNat q) r d) q).toInt ∧ ((fun q => eF (Int32.ofNat q) r d) q).toInt < 64 := by
  intro q _
  show 0 ≤ (eF (Int32.ofNat q) r d).toInt ∧ (eF (Int32.ofNat q) r d).toInt < 64
  unfold eF; split
  · have := own_63 (r + Int32.ofNat q); exact ⟨this.1, this.2.1⟩
  · have := own_63 (r - Int32.ofNat q); exact ⟨this.1, this.2.1⟩
theorem own_p {p v : Int32} (e : v = (p &&& 63) + 1) : ∃ P : Nat, v.toInt = (P : Int) ∧ 1 ≤ P ∧ P ≤ 64 := by
  have m := own_63 p
  have s := c_iadd (p &&& 63) 1; have b := rng32 ((p &&& 63) + 1); have o : (1 : Int32).toInt = 1 := by decide
  rw [← e] at s b
  exact ⟨v.toInt.toNat, by omega, by omega, by omega⟩
theorem own_ofNat {q : Nat} (h : q < 64) : (Int32.ofNat q).toInt = (q : Int) := by
  rw [Int32.toInt_ofNat', show Int32.size = 4294967296 from rfl, Int.bmod_eq_of_le (by omega) (by omega)]
/-- the prefix bits are a cyclic interval -/
theorem own_cyc {O : List Int32} {r v d st : Int32} {P : Nat} (hF : Fill (fun q => eF (Int32.ofNat q) r d) 64 O) (hp : v.toInt = (P : Int)) (h1 : 1 ≤ P) (h64 : P ≤ 64) (x42 : (d = 0 ∧ st = r &&& 63) ∨ (¬ d = 0 ∧ st = ((r - v) + 1) &&& 63)) :
    ∃ Z : Nat, Z < 64 ∧ st.toInt = (Z : Int) ∧ ∀ i, i < P → sv O i = (Z + (if d = 0 then i else P - 1 - i)) % 64 := by
  have o : (1 : Int32).toInt = 1 := by decide
  rcases x42 with ⟨hd, e⟩ | ⟨hd, e⟩
  · have m := own_63 r; rw [← e] at m
    refine ⟨st.toInt.toNat, by omega, by omega, fun i hi => ?_⟩
    rw [if_pos hd]
    have g := hF.2 i (by omega)
    have g2 : O.getD i 0 = (r + Int32.ofNat i) &&& 63 := by rw [g]; show eF _ _ _ = _; unfold eF; rw [if_pos hd]
    have m2 := own_63 (r + Int32.ofNat i); have s := c_iadd r (Int32.ofNat i); have k := own_ofNat (q := i) (by omega)
    unfold sv; rw [g2]; omega
  · have m := own_63 ((r - v) + 1); rw [← e] at m
    have s1 := c_isub r v; have s2 := c_iadd (r - v) 1
    refine ⟨st.toInt.toNat, by omega, by omega, fun i hi => ?_⟩
    rw [if_neg hd]
    have g := hF.2 i (by omega)
    have g2 : O.getD i 0 = (r - Int32.ofNat i) &&& 63 := by rw [g]; show eF _ _ _ = _; unfold eF; rw [if_neg hd]
    have m2 := own_63 (r - Int32.ofNat i); have s := c_isub r (Int32.ofNat i); have k := own_ofNat (q := i) (by omega)
    unfold sv; rw [g2]; omega
theorem own_set {O : List Int32} {d : Int32} {x : Int64} {P Z : Nat} (h1 : 1 ≤ P) (h : ∀ i, i < P → sv O i = (Z + (if d = 0 then i else P - 1 - i)) % 64) : (∀ i, i < P → mb x (sv O i) = false) ↔ ∀ k, k < P → mb x ((k + Z) % 64) = false := by
  by_cases hd : d = 0
  · simp only [hd, if_true] at h
    constructor
    · intro q k hk; have := q k hk; rw [h k hk, Nat.add_comm] at this; exact this
    · intro q k hk; rw [h k hk, Nat.add_comm]; exact q k hk
  · simp only [hd, if_false] at h
    constructor
    · intro q k hk; have := q (P - 1 - k) (by omega); rw [h _ (by omega), show P - 1 - (P - 1 - k) = k from by omega, Nat.add_comm] at this; exact this
    · intro q k hk; rw [h k hk, Nat.add_comm]; exact q (P - 1 - k) (by omega)
theorem own_all {x : Int64} {Z : Nat} (hZ : Z < 64) : x = 0 ↔ ∀ k, k < 64 → mb x ((k + Z) % 64) = false := by
  rw [eq_zero]
  constructor
  · intro q k _; exact q _ (Nat.mod_lt _ (by decide))
  · intro q k hk
    have := q ((k + 64 - Z) % 64) (Nat.mod_lt _ (by decide))
    rw [show ((k + 64 - Z) % 64 + Z) % 64 = k from by omega] at this; exact this
theorem own_rot {x rot : Int64} {st : Int32} {Z : Nat} (hZ : Z < 64) (hs : st.toInt = (Z : Int)) (er : rot = shlL x (sh6 st) ||| shrL x (sh6 ((64 - st) &&& 63))) {k : Nat} (hk : k < 64) : mb rot k = mb x ((k + Z) % 64) := by
  have o : (64 : Int32).toInt = 64 := by decide
  have s := c_isub 64 st; have m := own_63 (64 - st); have b := rng32 (64 - st)
  rw [er, mbOr, mbShl, mbShr, sh6_of hs hZ, sh6_of (n := (64 - Z) % 64) (by omega) (by omega)]
  by_cases z : Z = 0
  · subst z
    rw [show (64 - 0) % 64 = 0 from rfl, Nat.add_zero, Nat.sub_zero, Nat.mod_eq_of_lt hk]
    simp [hk]
  · rw [show (64 - Z) % 64 = 64 - Z from by omega]
    by_cases c : k < 64 - Z
    · rw [show (k + Z) % 64 = k + Z from by omega]; simp [c]
    · rw [mb_ge (x := x) (k := k + Z) (by omega), show (k + Z) % 64 = k - (64 - Z) from by omega]; simp [c, hk]
theorem own_top {x : Int64} {P : Nat} (h64 : P ≤ 64) : shrL x (64 - P) = 0 ↔ ∀ k, k < P → mb x k = false := by
  rw [eq_zero]
  constructor
  · intro q k hk
    have := q (k + (64 - P)) (by omega)
    rw [mbShr, Nat.add_sub_cancel] at this
    simpa [show k + (64 - P) < 64 from by omega] using this
  · intro q k hk
    rw [mbShr]
    by_cases c : k < 64 - P
    · simp [c]
    · rw [q (k - (64 - P)) (by omega)]; simp
theorem own_law {O : List Int32} {r v d st s : Int32} {P : Nat} {x rot : Int64} (hF : Fill (fun q => eF (Int32.ofNat q) r d) 64 O) (hO : OKL O) (hp : v.toInt = (P : Int)) (h1 : 1 ≤ P) (h64 : P ≤ 64) (x42 : (d = 0 ∧ st = r &&& 63) ∨ (¬ d = 0 ∧ st = ((r - v) + 1) &&& 63))
    (er : rot = shlL x (sh6 st) ||| shrL x (sh6 ((64 - st) &&& 63)))
    (x186 : (¬ (v = 64) ∧ ¬ (shrL rot (sh6 (64 - v)) = 0) ∧ s = 0) ∨ (¬ (v = 64) ∧ shrL rot (sh6 (64 - v)) = 0 ∧ s = 1) ∨ (v = 64 ∧ ¬ (x = 0) ∧ s = 0) ∨ (v = 64 ∧ x = 0 ∧ s = 1)) : (if x &&& maskL O P = 0 then (1 : Int32) else 0) = s := by
  obtain ⟨Z, hZ, hs, hc⟩ := own_cyc hF hp h1 h64 x42
  have o : (64 : Int32).toInt = 64 := by decide
  have key : x &&& maskL O P = 0 ↔ ∀ k, k < P → mb x ((k + Z) % 64) = false := (and_mask hO h64).trans (own_set h1 hc)
  have k64 : v = 64 → (x = 0 ↔ x &&& maskL O P = 0) := by
    intro e; rw [e, o] at hp
    have : P = 64 := by omega
    subst this; rw [key]; exact own_all hZ
  have kr : ¬ v = 64 → (shrL rot (sh6 (64 - v)) = 0 ↔ x &&& maskL O P = 0) := by
    intro e
    have ne : P ≠ 64 := fun q => e (Int32.toInt_inj.mp (by rw [hp, q, o]; rfl))
    have s1 := c_isub 64 v; have b := rng32 (64 - v)
    rw [sh6_of (y := 64 - v) (n := 64 - P) (by omega) (by omega), own_top h64, key]
    constructor
    · intro q k hk; rw [← own_rot hZ hs er (by omega)]; exact q k hk
    · intro q k hk; rw [own_rot hZ hs er (by omega)]; exact q k hk
  rcases x186 with ⟨a, b, rfl⟩ | ⟨a, b, rfl⟩ | ⟨a, b, rfl⟩ | ⟨a, b, rfl⟩
  · rw [if_neg (fun q => b ((kr a).mpr q))]
  · rw [if_pos ((kr a).mp b)]
  · rw [if_neg (fun q => b ((k64 a).mpr q))]
  · rw [if_pos ((k64 a).mp b)]

theorem od2_0 : decode method_2_code 0 = .ok (.iload_n 2, 1) := by decide +kernel
theorem od2_1 : decode method_2_code 1 = .ok (.ifCond .eq 12, 3) := by decide +kernel
theorem od2_13 : decode method_2_code 13 = .ok (.iload_n 1, 1) := by decide +kernel
theorem od2_14 : decode method_2_code 14 = .ok (.iload_n 0, 1) := by decide +kernel
theorem od2_15 : decode method_2_code 15 = .ok (.iadd, 1) := by decide +kernel
theorem od2_16 : decode method_2_code 16 = .ok (.bipush 63, 2) := by decide +kernel
theorem od2_18 : decode method_2_code 18 = .ok (.iand, 1) := by decide +kernel
theorem od2_19 : decode method_2_code 19 = .ok (.ireturn, 1) := by decide +kernel
theorem od2_4 : decode method_2_code 4 = .ok (.iload_n 1, 1) := by decide +kernel
theorem od2_5 : decode method_2_code 5 = .ok (.iload_n 0, 1) := by decide +kernel
theorem od2_6 : decode method_2_code 6 = .ok (.isub, 1) := by decide +kernel
theorem od2_7 : decode method_2_code 7 = .ok (.bipush 63, 2) := by decide +kernel
theorem od2_9 : decode method_2_code 9 = .ok (.iand, 1) := by decide +kernel
theorem od2_10 : decode method_2_code 10 = .ok (.goto 9, 3) := by decide +kernel
theorem ef_own_rm2 (m : MethodId) (x0 : Int32) (x1 : Int32) (x2 : Int32) : entryFrame m #[(.int x0), (.int x1), (.int x2)] 3 = mkF m 0 #[.val (.int x0), .val (.int x1), .val (.int x2)] [] := by first | (simp [entryFrame, mkF, argsToLocals, Value.category]; done) | rfl
theorem pn_com_example_hyperplane_hyperplane_index_TableAgreesPinLaw_e__IIZ_I : plainFor (⟨"com/example/hyperplane/hyperplane/index/TableAgreesPinLaw", "e", "(IIZ)I"⟩ : MethodName) = true := plainFor_of_name (by first | (simp [plainName, overriddenIn]; done) | decide +kernel)
set_option maxRecDepth 65536 in
set_option maxHeartbeats 40000000 in
theorem own_rm2 (l : Launch) (Z : State) (a0 : Array Value) (hw : ∀ d ∈ tables_1, d.before a0 Z = true) (n0 : Nat) (hO : Heap) (i : Int32) (rr : Int32) (d : Int32) :
    MeetsW l Z n0 (⟨"com/example/hyperplane/hyperplane/index/TableAgreesPinLaw", "e", "(IIZ)I"⟩ : MethodName) method_2_code 3 (some .int) ({ frames := 0, cells := 0, slots := 0, locals := 0 } : Room) #[(.int i), (.int rr), (.int d)] hO (RI fun r h => r = (eF i rr d) ∧ h = hO) := by
  refine MeetsW.intro pn_com_example_hyperplane_hyperplane_index_TableAgreesPinLaw_e__IIZ_I (fun m => ef_own_rm2 m i rr d) ?_
  intro W C
  replace C : Ru l Z "com/example/hyperplane/hyperplane/index/TableAgreesPinLaw" method_2_code 3 (some .int) "e" ({ frames := 0, cells := 0, slots := 0, locals := 0 } : Room) n0 (RI fun r h => r = (eF i rr d) ∧ h = hO) W := C
  refine C.iloadN (pc' := 1) od2_0 rfl rfl ?_
  refine C.if_eq (pc' := 4) (pt := 13) od2_1 rfl rfl (fun c1 => ?_) (fun c1 => ?_)
  · skip
    refine C.iloadN (pc' := 14) od2_13 rfl rfl ?_
    refine C.iloadN (pc' := 15) od2_14 rfl rfl ?_
    refine C.iadd (pc' := 16) od2_15 rfl ?_
    refine C.bipush (v := 63) (pc' := 18) od2_16 rfl rfl ?_
    refine C.iand (pc' := 19) od2_18 rfl ?_
    refine C.retI rfl od2_19 (by decide) (by decide) ⟨_, rfl, ?_⟩
    exact ⟨by unfold eF; rw [if_pos c1], rfl⟩
  · skip
    refine C.iloadN (pc' := 5) od2_4 rfl rfl ?_
    refine C.iloadN (pc' := 6) od2_5 rfl rfl ?_
    refine C.isub (pc' := 7) od2_6 rfl ?_
    refine C.bipush (v := 63) (pc' := 9) od2_7 rfl rfl ?_
    refine C.iand (pc' := 10) od2_9 rfl ?_
    refine C.goto (pc' := 19) od2_10 rfl ?_
    refine C.retI rfl od2_19 (by decide) (by decide) ⟨_, rfl, ?_⟩
    exact ⟨by unfold eF; rw [if_neg c1], rfl⟩
theorem od1_0 : decode method_3_code 0 = .ok (.bipush 64, 2) := by decide +kernel
theorem ow8 {a0 : Array Value} {Z : State} (hw : ∀ d ∈ tables_1, d.before a0 Z = true) : (Jvm.Cond.arrayClass Jvm.ClassFile.FieldType.int).before a0 Z = true := hw _ (List.mem_of_getElem? (i := 8) rfl)
theorem od1_2 : decode method_3_code 2 = .ok (.newarray .int, 2) := by decide +kernel
theorem od1_4 : decode method_3_code 4 = .ok (.dup, 1) := by decide +kernel
theorem od1_5 : decode method_3_code 5 = .ok (.iconst 0, 1) := by decide +kernel
theorem od1_6 : decode method_3_code 6 = .ok (.iconst 0, 1) := by decide +kernel
theorem od1_7 : decode method_3_code 7 = .ok (.iload_n 0, 1) := by decide +kernel
theorem od1_8 : decode method_3_code 8 = .ok (.iload_n 1, 1) := by decide +kernel
theorem od1_9 : decode method_3_code 9 = .ok (.invokestatic 7, 3) := by decide +kernel
theorem pd__IIZ_I : parseMethodDescriptor "(IIZ)I" = some ⟨[.int, .int, .boolean], some .int⟩ := by decide +kernel
theorem ow11 {a0 : Array Value} {Z : State} (hw : ∀ d ∈ tables_1, d.before a0 Z = true) : (Jvm.Cond.code ({ cls := "com/example/hyperplane/hyperplane/index/TableAgreesPinLaw", name := "e", desc := "(IIZ)I" } : Jvm.MethodName) method_2_code (3 : Nat) (Option.some Jvm.ClassFile.FieldType.int)).before a0 Z = true := hw _ (List.mem_of_getElem? (i := 11) rfl)
theorem ow6 {a0 : Array Value} {Z : State} (hw : ∀ d ∈ tables_1, d.before a0 Z = true) : (Jvm.Cond.initialized "com/example/hyperplane/hyperplane/index/TableAgreesPinLaw").before a0 Z = true := hw _ (List.mem_of_getElem? (i := 6) rfl)
theorem ow9 {a0 : Array Value} {Z : State} (hw : ∀ d ∈ tables_1, d.before a0 Z = true) : (Jvm.Cond.methodLink "com/example/hyperplane/hyperplane/index/TableAgreesPinLaw" (7 : Nat) ({ cls := "com/example/hyperplane/hyperplane/index/TableAgreesPinLaw", name := "e", desc := "(IIZ)I" } : Jvm.MethodName)).before a0 Z = true := hw _ (List.mem_of_getElem? (i := 9) rfl)
theorem ow10 {a0 : Array Value} {Z : State} (hw : ∀ d ∈ tables_1, d.before a0 Z = true) : (Jvm.Cond.static ({ cls := "com/example/hyperplane/hyperplane/index/TableAgreesPinLaw", name := "e", desc := "(IIZ)I" } : Jvm.MethodName)).before a0 Z = true := hw _ (List.mem_of_getElem? (i := 10) rfl)
theorem od1_12 : decode method_3_code 12 = .ok (.iastore, 1) := by decide +kernel
theorem od1_13 : decode method_3_code 13 = .ok (.dup, 1) := by decide +kernel
theorem od1_14 : decode method_3_code 14 = .ok (.iconst 1, 1) := by decide +kernel
theorem od1_15 : decode method_3_code 15 = .ok (.iconst 1, 1) := by decide +kernel
theorem od1_16 : decode method_3_code 16 = .ok (.iload_n 0, 1) := by decide +kernel
theorem od1_17 : decode method_3_code 17 = .ok (.iload_n 1, 1) := by decide +kernel
theorem od1_18 : decode method_3_code 18 = .ok (.invokestatic 7, 3) := by decide +kernel
theorem od1_21 : decode method_3_code 21 = .ok (.iastore, 1) := by decide +kernel
theorem od1_22 : decode method_3_code 22 = .ok (.dup, 1) := by decide +kernel
theorem od1_23 : decode method_3_code 23 = .ok (.iconst 2, 1) := by decide +kernel
theorem od1_24 : decode method_3_code 24 = .ok (.iconst 2, 1) := by decide +kernel
theorem od1_25 : decode method_3_code 25 = .ok (.iload_n 0, 1) := by decide +kernel
theorem od1_26 : decode method_3_code 26 = .ok (.iload_n 1, 1) := by decide +kernel
theorem od1_27 : decode method_3_code 27 = .ok (.invokestatic 7, 3) := by decide +kernel
theorem od1_30 : decode method_3_code 30 = .ok (.iastore, 1) := by decide +kernel
theorem od1_31 : decode method_3_code 31 = .ok (.dup, 1) := by decide +kernel
theorem od1_32 : decode method_3_code 32 = .ok (.iconst 3, 1) := by decide +kernel
theorem od1_33 : decode method_3_code 33 = .ok (.iconst 3, 1) := by decide +kernel
theorem od1_34 : decode method_3_code 34 = .ok (.iload_n 0, 1) := by decide +kernel
theorem od1_35 : decode method_3_code 35 = .ok (.iload_n 1, 1) := by decide +kernel
theorem od1_36 : decode method_3_code 36 = .ok (.invokestatic 7, 3) := by decide +kernel
theorem od1_39 : decode method_3_code 39 = .ok (.iastore, 1) := by decide +kernel
theorem od1_40 : decode method_3_code 40 = .ok (.dup, 1) := by decide +kernel
theorem od1_41 : decode method_3_code 41 = .ok (.iconst 4, 1) := by decide +kernel
theorem od1_42 : decode method_3_code 42 = .ok (.iconst 4, 1) := by decide +kernel
theorem od1_43 : decode method_3_code 43 = .ok (.iload_n 0, 1) := by decide +kernel
theorem od1_44 : decode method_3_code 44 = .ok (.iload_n 1, 1) := by decide +kernel
theorem od1_45 : decode method_3_code 45 = .ok (.invokestatic 7, 3) := by decide +kernel
theorem od1_48 : decode method_3_code 48 = .ok (.iastore, 1) := by decide +kernel
theorem od1_49 : decode method_3_code 49 = .ok (.dup, 1) := by decide +kernel
theorem od1_50 : decode method_3_code 50 = .ok (.iconst 5, 1) := by decide +kernel
theorem od1_51 : decode method_3_code 51 = .ok (.iconst 5, 1) := by decide +kernel
theorem od1_52 : decode method_3_code 52 = .ok (.iload_n 0, 1) := by decide +kernel
theorem od1_53 : decode method_3_code 53 = .ok (.iload_n 1, 1) := by decide +kernel
theorem od1_54 : decode method_3_code 54 = .ok (.invokestatic 7, 3) := by decide +kernel
theorem od1_57 : decode method_3_code 57 = .ok (.iastore, 1) := by decide +kernel
theorem od1_58 : decode method_3_code 58 = .ok (.dup, 1) := by decide +kernel
theorem od1_59 : decode method_3_code 59 = .ok (.bipush 6, 2) := by decide +kernel
theorem od1_61 : decode method_3_code 61 = .ok (.bipush 6, 2) := by decide +kernel
theorem od1_63 : decode method_3_code 63 = .ok (.iload_n 0, 1) := by decide +kernel
theorem od1_64 : decode method_3_code 64 = .ok (.iload_n 1, 1) := by decide +kernel
theorem od1_65 : decode method_3_code 65 = .ok (.invokestatic 7, 3) := by decide +kernel
theorem od1_68 : decode method_3_code 68 = .ok (.iastore, 1) := by decide +kernel
theorem od1_69 : decode method_3_code 69 = .ok (.dup, 1) := by decide +kernel
theorem od1_70 : decode method_3_code 70 = .ok (.bipush 7, 2) := by decide +kernel
theorem od1_72 : decode method_3_code 72 = .ok (.bipush 7, 2) := by decide +kernel
theorem od1_74 : decode method_3_code 74 = .ok (.iload_n 0, 1) := by decide +kernel
theorem od1_75 : decode method_3_code 75 = .ok (.iload_n 1, 1) := by decide +kernel
theorem od1_76 : decode method_3_code 76 = .ok (.invokestatic 7, 3) := by decide +kernel
theorem od1_79 : decode method_3_code 79 = .ok (.iastore, 1) := by decide +kernel
theorem od1_80 : decode method_3_code 80 = .ok (.dup, 1) := by decide +kernel
theorem od1_81 : decode method_3_code 81 = .ok (.bipush 8, 2) := by decide +kernel
theorem od1_83 : decode method_3_code 83 = .ok (.bipush 8, 2) := by decide +kernel
theorem od1_85 : decode method_3_code 85 = .ok (.iload_n 0, 1) := by decide +kernel
theorem od1_86 : decode method_3_code 86 = .ok (.iload_n 1, 1) := by decide +kernel
theorem od1_87 : decode method_3_code 87 = .ok (.invokestatic 7, 3) := by decide +kernel
theorem od1_90 : decode method_3_code 90 = .ok (.iastore, 1) := by decide +kernel
theorem od1_91 : decode method_3_code 91 = .ok (.dup, 1) := by decide +kernel
theorem od1_92 : decode method_3_code 92 = .ok (.bipush 9, 2) := by decide +kernel
theorem od1_94 : decode method_3_code 94 = .ok (.bipush 9, 2) := by decide +kernel
theorem od1_96 : decode method_3_code 96 = .ok (.iload_n 0, 1) := by decide +kernel
theorem od1_97 : decode method_3_code 97 = .ok (.iload_n 1, 1) := by decide +kernel
theorem od1_98 : decode method_3_code 98 = .ok (.invokestatic 7, 3) := by decide +kernel
theorem od1_101 : decode method_3_code 101 = .ok (.iastore, 1) := by decide +kernel
theorem od1_102 : decode method_3_code 102 = .ok (.dup, 1) := by decide +kernel
theorem od1_103 : decode method_3_code 103 = .ok (.bipush 10, 2) := by decide +kernel
theorem od1_105 : decode method_3_code 105 = .ok (.bipush 10, 2) := by decide +kernel
theorem od1_107 : decode method_3_code 107 = .ok (.iload_n 0, 1) := by decide +kernel
theorem od1_108 : decode method_3_code 108 = .ok (.iload_n 1, 1) := by decide +kernel
theorem od1_109 : decode method_3_code 109 = .ok (.invokestatic 7, 3) := by decide +kernel
theorem od1_112 : decode method_3_code 112 = .ok (.iastore, 1) := by decide +kernel
theorem od1_113 : decode method_3_code 113 = .ok (.dup, 1) := by decide +kernel
theorem od1_114 : decode method_3_code 114 = .ok (.bipush 11, 2) := by decide +kernel
theorem od1_116 : decode method_3_code 116 = .ok (.bipush 11, 2) := by decide +kernel
theorem od1_118 : decode method_3_code 118 = .ok (.iload_n 0, 1) := by decide +kernel
theorem od1_119 : decode method_3_code 119 = .ok (.iload_n 1, 1) := by decide +kernel
theorem od1_120 : decode method_3_code 120 = .ok (.invokestatic 7, 3) := by decide +kernel
theorem od1_123 : decode method_3_code 123 = .ok (.iastore, 1) := by decide +kernel
theorem od1_124 : decode method_3_code 124 = .ok (.dup, 1) := by decide +kernel
theorem od1_125 : decode method_3_code 125 = .ok (.bipush 12, 2) := by decide +kernel
theorem od1_127 : decode method_3_code 127 = .ok (.bipush 12, 2) := by decide +kernel
theorem od1_129 : decode method_3_code 129 = .ok (.iload_n 0, 1) := by decide +kernel
theorem od1_130 : decode method_3_code 130 = .ok (.iload_n 1, 1) := by decide +kernel
theorem od1_131 : decode method_3_code 131 = .ok (.invokestatic 7, 3) := by decide +kernel
theorem od1_134 : decode method_3_code 134 = .ok (.iastore, 1) := by decide +kernel
theorem od1_135 : decode method_3_code 135 = .ok (.dup, 1) := by decide +kernel
theorem od1_136 : decode method_3_code 136 = .ok (.bipush 13, 2) := by decide +kernel
theorem od1_138 : decode method_3_code 138 = .ok (.bipush 13, 2) := by decide +kernel
theorem od1_140 : decode method_3_code 140 = .ok (.iload_n 0, 1) := by decide +kernel
theorem od1_141 : decode method_3_code 141 = .ok (.iload_n 1, 1) := by decide +kernel
theorem od1_142 : decode method_3_code 142 = .ok (.invokestatic 7, 3) := by decide +kernel
theorem od1_145 : decode method_3_code 145 = .ok (.iastore, 1) := by decide +kernel
theorem od1_146 : decode method_3_code 146 = .ok (.dup, 1) := by decide +kernel
theorem od1_147 : decode method_3_code 147 = .ok (.bipush 14, 2) := by decide +kernel
theorem od1_149 : decode method_3_code 149 = .ok (.bipush 14, 2) := by decide +kernel
theorem od1_151 : decode method_3_code 151 = .ok (.iload_n 0, 1) := by decide +kernel
theorem od1_152 : decode method_3_code 152 = .ok (.iload_n 1, 1) := by decide +kernel
theorem od1_153 : decode method_3_code 153 = .ok (.invokestatic 7, 3) := by decide +kernel
theorem od1_156 : decode method_3_code 156 = .ok (.iastore, 1) := by decide +kernel
theorem od1_157 : decode method_3_code 157 = .ok (.dup, 1) := by decide +kernel
theorem od1_158 : decode method_3_code 158 = .ok (.bipush 15, 2) := by decide +kernel
theorem od1_160 : decode method_3_code 160 = .ok (.bipush 15, 2) := by decide +kernel
theorem od1_162 : decode method_3_code 162 = .ok (.iload_n 0, 1) := by decide +kernel
theorem od1_163 : decode method_3_code 163 = .ok (.iload_n 1, 1) := by decide +kernel
theorem od1_164 : decode method_3_code 164 = .ok (.invokestatic 7, 3) := by decide +kernel
theorem od1_167 : decode method_3_code 167 = .ok (.iastore, 1) := by decide +kernel
theorem od1_168 : decode method_3_code 168 = .ok (.dup, 1) := by decide +kernel
theorem od1_169 : decode method_3_code 169 = .ok (.bipush 16, 2) := by decide +kernel
theorem od1_171 : decode method_3_code 171 = .ok (.bipush 16, 2) := by decide +kernel
theorem od1_173 : decode method_3_code 173 = .ok (.iload_n 0, 1) := by decide +kernel
theorem od1_174 : decode method_3_code 174 = .ok (.iload_n 1, 1) := by decide +kernel
theorem od1_175 : decode method_3_code 175 = .ok (.invokestatic 7, 3) := by decide +kernel
theorem od1_178 : decode method_3_code 178 = .ok (.iastore, 1) := by decide +kernel
theorem od1_179 : decode method_3_code 179 = .ok (.dup, 1) := by decide +kernel
theorem od1_180 : decode method_3_code 180 = .ok (.bipush 17, 2) := by decide +kernel
theorem od1_182 : decode method_3_code 182 = .ok (.bipush 17, 2) := by decide +kernel
theorem od1_184 : decode method_3_code 184 = .ok (.iload_n 0, 1) := by decide +kernel
theorem od1_185 : decode method_3_code 185 = .ok (.iload_n 1, 1) := by decide +kernel
theorem od1_186 : decode method_3_code 186 = .ok (.invokestatic 7, 3) := by decide +kernel
theorem od1_189 : decode method_3_code 189 = .ok (.iastore, 1) := by decide +kernel
theorem od1_190 : decode method_3_code 190 = .ok (.dup, 1) := by decide +kernel
theorem od1_191 : decode method_3_code 191 = .ok (.bipush 18, 2) := by decide +kernel
theorem od1_193 : decode method_3_code 193 = .ok (.bipush 18, 2) := by decide +kernel
theorem od1_195 : decode method_3_code 195 = .ok (.iload_n 0, 1) := by decide +kernel
theorem od1_196 : decode method_3_code 196 = .ok (.iload_n 1, 1) := by decide +kernel
theorem od1_197 : decode method_3_code 197 = .ok (.invokestatic 7, 3) := by decide +kernel
theorem od1_200 : decode method_3_code 200 = .ok (.iastore, 1) := by decide +kernel
theorem od1_201 : decode method_3_code 201 = .ok (.dup, 1) := by decide +kernel
theorem od1_202 : decode method_3_code 202 = .ok (.bipush 19, 2) := by decide +kernel
theorem od1_204 : decode method_3_code 204 = .ok (.bipush 19, 2) := by decide +kernel
theorem od1_206 : decode method_3_code 206 = .ok (.iload_n 0, 1) := by decide +kernel
theorem od1_207 : decode method_3_code 207 = .ok (.iload_n 1, 1) := by decide +kernel
theorem od1_208 : decode method_3_code 208 = .ok (.invokestatic 7, 3) := by decide +kernel
theorem od1_211 : decode method_3_code 211 = .ok (.iastore, 1) := by decide +kernel
theorem od1_212 : decode method_3_code 212 = .ok (.dup, 1) := by decide +kernel
theorem od1_213 : decode method_3_code 213 = .ok (.bipush 20, 2) := by decide +kernel
theorem od1_215 : decode method_3_code 215 = .ok (.bipush 20, 2) := by decide +kernel
theorem od1_217 : decode method_3_code 217 = .ok (.iload_n 0, 1) := by decide +kernel
theorem od1_218 : decode method_3_code 218 = .ok (.iload_n 1, 1) := by decide +kernel
theorem od1_219 : decode method_3_code 219 = .ok (.invokestatic 7, 3) := by decide +kernel
theorem od1_222 : decode method_3_code 222 = .ok (.iastore, 1) := by decide +kernel
theorem od1_223 : decode method_3_code 223 = .ok (.dup, 1) := by decide +kernel
theorem od1_224 : decode method_3_code 224 = .ok (.bipush 21, 2) := by decide +kernel
theorem od1_226 : decode method_3_code 226 = .ok (.bipush 21, 2) := by decide +kernel
theorem od1_228 : decode method_3_code 228 = .ok (.iload_n 0, 1) := by decide +kernel
theorem od1_229 : decode method_3_code 229 = .ok (.iload_n 1, 1) := by decide +kernel
theorem od1_230 : decode method_3_code 230 = .ok (.invokestatic 7, 3) := by decide +kernel
theorem od1_233 : decode method_3_code 233 = .ok (.iastore, 1) := by decide +kernel
theorem od1_234 : decode method_3_code 234 = .ok (.dup, 1) := by decide +kernel
theorem od1_235 : decode method_3_code 235 = .ok (.bipush 22, 2) := by decide +kernel
theorem od1_237 : decode method_3_code 237 = .ok (.bipush 22, 2) := by decide +kernel
theorem od1_239 : decode method_3_code 239 = .ok (.iload_n 0, 1) := by decide +kernel
theorem od1_240 : decode method_3_code 240 = .ok (.iload_n 1, 1) := by decide +kernel
theorem od1_241 : decode method_3_code 241 = .ok (.invokestatic 7, 3) := by decide +kernel
theorem od1_244 : decode method_3_code 244 = .ok (.iastore, 1) := by decide +kernel
theorem od1_245 : decode method_3_code 245 = .ok (.dup, 1) := by decide +kernel
theorem od1_246 : decode method_3_code 246 = .ok (.bipush 23, 2) := by decide +kernel
theorem od1_248 : decode method_3_code 248 = .ok (.bipush 23, 2) := by decide +kernel
theorem od1_250 : decode method_3_code 250 = .ok (.iload_n 0, 1) := by decide +kernel
theorem od1_251 : decode method_3_code 251 = .ok (.iload_n 1, 1) := by decide +kernel
theorem od1_252 : decode method_3_code 252 = .ok (.invokestatic 7, 3) := by decide +kernel
theorem od1_255 : decode method_3_code 255 = .ok (.iastore, 1) := by decide +kernel
theorem od1_256 : decode method_3_code 256 = .ok (.dup, 1) := by decide +kernel
theorem od1_257 : decode method_3_code 257 = .ok (.bipush 24, 2) := by decide +kernel
theorem od1_259 : decode method_3_code 259 = .ok (.bipush 24, 2) := by decide +kernel
theorem od1_261 : decode method_3_code 261 = .ok (.iload_n 0, 1) := by decide +kernel
theorem od1_262 : decode method_3_code 262 = .ok (.iload_n 1, 1) := by decide +kernel
theorem od1_263 : decode method_3_code 263 = .ok (.invokestatic 7, 3) := by decide +kernel
theorem od1_266 : decode method_3_code 266 = .ok (.iastore, 1) := by decide +kernel
theorem od1_267 : decode method_3_code 267 = .ok (.dup, 1) := by decide +kernel
theorem od1_268 : decode method_3_code 268 = .ok (.bipush 25, 2) := by decide +kernel
theorem od1_270 : decode method_3_code 270 = .ok (.bipush 25, 2) := by decide +kernel
theorem od1_272 : decode method_3_code 272 = .ok (.iload_n 0, 1) := by decide +kernel
theorem od1_273 : decode method_3_code 273 = .ok (.iload_n 1, 1) := by decide +kernel
theorem od1_274 : decode method_3_code 274 = .ok (.invokestatic 7, 3) := by decide +kernel
theorem od1_277 : decode method_3_code 277 = .ok (.iastore, 1) := by decide +kernel
theorem od1_278 : decode method_3_code 278 = .ok (.dup, 1) := by decide +kernel
theorem od1_279 : decode method_3_code 279 = .ok (.bipush 26, 2) := by decide +kernel
theorem od1_281 : decode method_3_code 281 = .ok (.bipush 26, 2) := by decide +kernel
theorem od1_283 : decode method_3_code 283 = .ok (.iload_n 0, 1) := by decide +kernel
theorem od1_284 : decode method_3_code 284 = .ok (.iload_n 1, 1) := by decide +kernel
theorem od1_285 : decode method_3_code 285 = .ok (.invokestatic 7, 3) := by decide +kernel
theorem od1_288 : decode method_3_code 288 = .ok (.iastore, 1) := by decide +kernel
theorem od1_289 : decode method_3_code 289 = .ok (.dup, 1) := by decide +kernel
theorem od1_290 : decode method_3_code 290 = .ok (.bipush 27, 2) := by decide +kernel
theorem od1_292 : decode method_3_code 292 = .ok (.bipush 27, 2) := by decide +kernel
theorem od1_294 : decode method_3_code 294 = .ok (.iload_n 0, 1) := by decide +kernel
theorem od1_295 : decode method_3_code 295 = .ok (.iload_n 1, 1) := by decide +kernel
theorem od1_296 : decode method_3_code 296 = .ok (.invokestatic 7, 3) := by decide +kernel
theorem od1_299 : decode method_3_code 299 = .ok (.iastore, 1) := by decide +kernel
theorem od1_300 : decode method_3_code 300 = .ok (.dup, 1) := by decide +kernel
theorem od1_301 : decode method_3_code 301 = .ok (.bipush 28, 2) := by decide +kernel
theorem od1_303 : decode method_3_code 303 = .ok (.bipush 28, 2) := by decide +kernel
theorem od1_305 : decode method_3_code 305 = .ok (.iload_n 0, 1) := by decide +kernel
theorem od1_306 : decode method_3_code 306 = .ok (.iload_n 1, 1) := by decide +kernel
theorem od1_307 : decode method_3_code 307 = .ok (.invokestatic 7, 3) := by decide +kernel
theorem od1_310 : decode method_3_code 310 = .ok (.iastore, 1) := by decide +kernel
theorem od1_311 : decode method_3_code 311 = .ok (.dup, 1) := by decide +kernel
theorem od1_312 : decode method_3_code 312 = .ok (.bipush 29, 2) := by decide +kernel
theorem od1_314 : decode method_3_code 314 = .ok (.bipush 29, 2) := by decide +kernel
theorem od1_316 : decode method_3_code 316 = .ok (.iload_n 0, 1) := by decide +kernel
theorem od1_317 : decode method_3_code 317 = .ok (.iload_n 1, 1) := by decide +kernel
theorem od1_318 : decode method_3_code 318 = .ok (.invokestatic 7, 3) := by decide +kernel
theorem od1_321 : decode method_3_code 321 = .ok (.iastore, 1) := by decide +kernel
theorem od1_322 : decode method_3_code 322 = .ok (.dup, 1) := by decide +kernel
theorem od1_323 : decode method_3_code 323 = .ok (.bipush 30, 2) := by decide +kernel
theorem od1_325 : decode method_3_code 325 = .ok (.bipush 30, 2) := by decide +kernel
theorem od1_327 : decode method_3_code 327 = .ok (.iload_n 0, 1) := by decide +kernel
theorem od1_328 : decode method_3_code 328 = .ok (.iload_n 1, 1) := by decide +kernel
theorem od1_329 : decode method_3_code 329 = .ok (.invokestatic 7, 3) := by decide +kernel
theorem od1_332 : decode method_3_code 332 = .ok (.iastore, 1) := by decide +kernel
theorem od1_333 : decode method_3_code 333 = .ok (.dup, 1) := by decide +kernel
theorem od1_334 : decode method_3_code 334 = .ok (.bipush 31, 2) := by decide +kernel
theorem od1_336 : decode method_3_code 336 = .ok (.bipush 31, 2) := by decide +kernel
theorem od1_338 : decode method_3_code 338 = .ok (.iload_n 0, 1) := by decide +kernel
theorem od1_339 : decode method_3_code 339 = .ok (.iload_n 1, 1) := by decide +kernel
theorem od1_340 : decode method_3_code 340 = .ok (.invokestatic 7, 3) := by decide +kernel
theorem od1_343 : decode method_3_code 343 = .ok (.iastore, 1) := by decide +kernel
theorem od1_344 : decode method_3_code 344 = .ok (.dup, 1) := by decide +kernel
theorem od1_345 : decode method_3_code 345 = .ok (.bipush 32, 2) := by decide +kernel
theorem od1_347 : decode method_3_code 347 = .ok (.bipush 32, 2) := by decide +kernel
theorem od1_349 : decode method_3_code 349 = .ok (.iload_n 0, 1) := by decide +kernel
theorem od1_350 : decode method_3_code 350 = .ok (.iload_n 1, 1) := by decide +kernel
theorem od1_351 : decode method_3_code 351 = .ok (.invokestatic 7, 3) := by decide +kernel
theorem od1_354 : decode method_3_code 354 = .ok (.iastore, 1) := by decide +kernel
theorem od1_355 : decode method_3_code 355 = .ok (.dup, 1) := by decide +kernel
theorem od1_356 : decode method_3_code 356 = .ok (.bipush 33, 2) := by decide +kernel
theorem od1_358 : decode method_3_code 358 = .ok (.bipush 33, 2) := by decide +kernel
theorem od1_360 : decode method_3_code 360 = .ok (.iload_n 0, 1) := by decide +kernel
theorem od1_361 : decode method_3_code 361 = .ok (.iload_n 1, 1) := by decide +kernel
theorem od1_362 : decode method_3_code 362 = .ok (.invokestatic 7, 3) := by decide +kernel
theorem od1_365 : decode method_3_code 365 = .ok (.iastore, 1) := by decide +kernel
theorem od1_366 : decode method_3_code 366 = .ok (.dup, 1) := by decide +kernel
theorem od1_367 : decode method_3_code 367 = .ok (.bipush 34, 2) := by decide +kernel
theorem od1_369 : decode method_3_code 369 = .ok (.bipush 34, 2) := by decide +kernel
theorem od1_371 : decode method_3_code 371 = .ok (.iload_n 0, 1) := by decide +kernel
theorem od1_372 : decode method_3_code 372 = .ok (.iload_n 1, 1) := by decide +kernel
theorem od1_373 : decode method_3_code 373 = .ok (.invokestatic 7, 3) := by decide +kernel
theorem od1_376 : decode method_3_code 376 = .ok (.iastore, 1) := by decide +kernel
theorem od1_377 : decode method_3_code 377 = .ok (.dup, 1) := by decide +kernel
theorem od1_378 : decode method_3_code 378 = .ok (.bipush 35, 2) := by decide +kernel
theorem od1_380 : decode method_3_code 380 = .ok (.bipush 35, 2) := by decide +kernel
theorem od1_382 : decode method_3_code 382 = .ok (.iload_n 0, 1) := by decide +kernel
theorem od1_383 : decode method_3_code 383 = .ok (.iload_n 1, 1) := by decide +kernel
theorem od1_384 : decode method_3_code 384 = .ok (.invokestatic 7, 3) := by decide +kernel
theorem od1_387 : decode method_3_code 387 = .ok (.iastore, 1) := by decide +kernel
theorem od1_388 : decode method_3_code 388 = .ok (.dup, 1) := by decide +kernel
theorem od1_389 : decode method_3_code 389 = .ok (.bipush 36, 2) := by decide +kernel
theorem od1_391 : decode method_3_code 391 = .ok (.bipush 36, 2) := by decide +kernel
theorem od1_393 : decode method_3_code 393 = .ok (.iload_n 0, 1) := by decide +kernel
theorem od1_394 : decode method_3_code 394 = .ok (.iload_n 1, 1) := by decide +kernel
theorem od1_395 : decode method_3_code 395 = .ok (.invokestatic 7, 3) := by decide +kernel
theorem od1_398 : decode method_3_code 398 = .ok (.iastore, 1) := by decide +kernel
theorem od1_399 : decode method_3_code 399 = .ok (.dup, 1) := by decide +kernel
theorem od1_400 : decode method_3_code 400 = .ok (.bipush 37, 2) := by decide +kernel
theorem od1_402 : decode method_3_code 402 = .ok (.bipush 37, 2) := by decide +kernel
theorem od1_404 : decode method_3_code 404 = .ok (.iload_n 0, 1) := by decide +kernel
theorem od1_405 : decode method_3_code 405 = .ok (.iload_n 1, 1) := by decide +kernel
theorem od1_406 : decode method_3_code 406 = .ok (.invokestatic 7, 3) := by decide +kernel
theorem od1_409 : decode method_3_code 409 = .ok (.iastore, 1) := by decide +kernel
theorem od1_410 : decode method_3_code 410 = .ok (.dup, 1) := by decide +kernel
theorem od1_411 : decode method_3_code 411 = .ok (.bipush 38, 2) := by decide +kernel
theorem od1_413 : decode method_3_code 413 = .ok (.bipush 38, 2) := by decide +kernel
theorem od1_415 : decode method_3_code 415 = .ok (.iload_n 0, 1) := by decide +kernel
theorem od1_416 : decode method_3_code 416 = .ok (.iload_n 1, 1) := by decide +kernel
theorem od1_417 : decode method_3_code 417 = .ok (.invokestatic 7, 3) := by decide +kernel
theorem od1_420 : decode method_3_code 420 = .ok (.iastore, 1) := by decide +kernel
theorem od1_421 : decode method_3_code 421 = .ok (.dup, 1) := by decide +kernel
theorem od1_422 : decode method_3_code 422 = .ok (.bipush 39, 2) := by decide +kernel
theorem od1_424 : decode method_3_code 424 = .ok (.bipush 39, 2) := by decide +kernel
theorem od1_426 : decode method_3_code 426 = .ok (.iload_n 0, 1) := by decide +kernel
theorem od1_427 : decode method_3_code 427 = .ok (.iload_n 1, 1) := by decide +kernel
theorem od1_428 : decode method_3_code 428 = .ok (.invokestatic 7, 3) := by decide +kernel
theorem od1_431 : decode method_3_code 431 = .ok (.iastore, 1) := by decide +kernel
theorem od1_432 : decode method_3_code 432 = .ok (.dup, 1) := by decide +kernel
theorem od1_433 : decode method_3_code 433 = .ok (.bipush 40, 2) := by decide +kernel
theorem od1_435 : decode method_3_code 435 = .ok (.bipush 40, 2) := by decide +kernel
theorem od1_437 : decode method_3_code 437 = .ok (.iload_n 0, 1) := by decide +kernel
theorem od1_438 : decode method_3_code 438 = .ok (.iload_n 1, 1) := by decide +kernel
theorem od1_439 : decode method_3_code 439 = .ok (.invokestatic 7, 3) := by decide +kernel
theorem od1_442 : decode method_3_code 442 = .ok (.iastore, 1) := by decide +kernel
theorem od1_443 : decode method_3_code 443 = .ok (.dup, 1) := by decide +kernel
theorem od1_444 : decode method_3_code 444 = .ok (.bipush 41, 2) := by decide +kernel
theorem od1_446 : decode method_3_code 446 = .ok (.bipush 41, 2) := by decide +kernel
theorem od1_448 : decode method_3_code 448 = .ok (.iload_n 0, 1) := by decide +kernel
theorem od1_449 : decode method_3_code 449 = .ok (.iload_n 1, 1) := by decide +kernel
theorem od1_450 : decode method_3_code 450 = .ok (.invokestatic 7, 3) := by decide +kernel
theorem od1_453 : decode method_3_code 453 = .ok (.iastore, 1) := by decide +kernel
theorem od1_454 : decode method_3_code 454 = .ok (.dup, 1) := by decide +kernel
theorem od1_455 : decode method_3_code 455 = .ok (.bipush 42, 2) := by decide +kernel
theorem od1_457 : decode method_3_code 457 = .ok (.bipush 42, 2) := by decide +kernel
theorem od1_459 : decode method_3_code 459 = .ok (.iload_n 0, 1) := by decide +kernel
theorem od1_460 : decode method_3_code 460 = .ok (.iload_n 1, 1) := by decide +kernel
theorem od1_461 : decode method_3_code 461 = .ok (.invokestatic 7, 3) := by decide +kernel
theorem od1_464 : decode method_3_code 464 = .ok (.iastore, 1) := by decide +kernel
theorem od1_465 : decode method_3_code 465 = .ok (.dup, 1) := by decide +kernel
theorem od1_466 : decode method_3_code 466 = .ok (.bipush 43, 2) := by decide +kernel
theorem od1_468 : decode method_3_code 468 = .ok (.bipush 43, 2) := by decide +kernel
theorem od1_470 : decode method_3_code 470 = .ok (.iload_n 0, 1) := by decide +kernel
theorem od1_471 : decode method_3_code 471 = .ok (.iload_n 1, 1) := by decide +kernel
theorem od1_472 : decode method_3_code 472 = .ok (.invokestatic 7, 3) := by decide +kernel
theorem od1_475 : decode method_3_code 475 = .ok (.iastore, 1) := by decide +kernel
theorem od1_476 : decode method_3_code 476 = .ok (.dup, 1) := by decide +kernel
theorem od1_477 : decode method_3_code 477 = .ok (.bipush 44, 2) := by decide +kernel
theorem od1_479 : decode method_3_code 479 = .ok (.bipush 44, 2) := by decide +kernel
theorem od1_481 : decode method_3_code 481 = .ok (.iload_n 0, 1) := by decide +kernel
theorem od1_482 : decode method_3_code 482 = .ok (.iload_n 1, 1) := by decide +kernel
theorem od1_483 : decode method_3_code 483 = .ok (.invokestatic 7, 3) := by decide +kernel
theorem od1_486 : decode method_3_code 486 = .ok (.iastore, 1) := by decide +kernel
theorem od1_487 : decode method_3_code 487 = .ok (.dup, 1) := by decide +kernel
theorem od1_488 : decode method_3_code 488 = .ok (.bipush 45, 2) := by decide +kernel
theorem od1_490 : decode method_3_code 490 = .ok (.bipush 45, 2) := by decide +kernel
theorem od1_492 : decode method_3_code 492 = .ok (.iload_n 0, 1) := by decide +kernel
theorem od1_493 : decode method_3_code 493 = .ok (.iload_n 1, 1) := by decide +kernel
theorem od1_494 : decode method_3_code 494 = .ok (.invokestatic 7, 3) := by decide +kernel
theorem od1_497 : decode method_3_code 497 = .ok (.iastore, 1) := by decide +kernel
theorem od1_498 : decode method_3_code 498 = .ok (.dup, 1) := by decide +kernel
theorem od1_499 : decode method_3_code 499 = .ok (.bipush 46, 2) := by decide +kernel
theorem od1_501 : decode method_3_code 501 = .ok (.bipush 46, 2) := by decide +kernel
theorem od1_503 : decode method_3_code 503 = .ok (.iload_n 0, 1) := by decide +kernel
theorem od1_504 : decode method_3_code 504 = .ok (.iload_n 1, 1) := by decide +kernel
theorem od1_505 : decode method_3_code 505 = .ok (.invokestatic 7, 3) := by decide +kernel
theorem od1_508 : decode method_3_code 508 = .ok (.iastore, 1) := by decide +kernel
theorem od1_509 : decode method_3_code 509 = .ok (.dup, 1) := by decide +kernel
theorem od1_510 : decode method_3_code 510 = .ok (.bipush 47, 2) := by decide +kernel
theorem od1_512 : decode method_3_code 512 = .ok (.bipush 47, 2) := by decide +kernel
theorem od1_514 : decode method_3_code 514 = .ok (.iload_n 0, 1) := by decide +kernel
theorem od1_515 : decode method_3_code 515 = .ok (.iload_n 1, 1) := by decide +kernel
theorem od1_516 : decode method_3_code 516 = .ok (.invokestatic 7, 3) := by decide +kernel
theorem od1_519 : decode method_3_code 519 = .ok (.iastore, 1) := by decide +kernel
theorem od1_520 : decode method_3_code 520 = .ok (.dup, 1) := by decide +kernel
theorem od1_521 : decode method_3_code 521 = .ok (.bipush 48, 2) := by decide +kernel
theorem od1_523 : decode method_3_code 523 = .ok (.bipush 48, 2) := by decide +kernel
theorem od1_525 : decode method_3_code 525 = .ok (.iload_n 0, 1) := by decide +kernel
theorem od1_526 : decode method_3_code 526 = .ok (.iload_n 1, 1) := by decide +kernel
theorem od1_527 : decode method_3_code 527 = .ok (.invokestatic 7, 3) := by decide +kernel
theorem od1_530 : decode method_3_code 530 = .ok (.iastore, 1) := by decide +kernel
theorem od1_531 : decode method_3_code 531 = .ok (.dup, 1) := by decide +kernel
theorem od1_532 : decode method_3_code 532 = .ok (.bipush 49, 2) := by decide +kernel
theorem od1_534 : decode method_3_code 534 = .ok (.bipush 49, 2) := by decide +kernel
theorem od1_536 : decode method_3_code 536 = .ok (.iload_n 0, 1) := by decide +kernel
theorem od1_537 : decode method_3_code 537 = .ok (.iload_n 1, 1) := by decide +kernel
theorem od1_538 : decode method_3_code 538 = .ok (.invokestatic 7, 3) := by decide +kernel
theorem od1_541 : decode method_3_code 541 = .ok (.iastore, 1) := by decide +kernel
theorem od1_542 : decode method_3_code 542 = .ok (.dup, 1) := by decide +kernel
theorem od1_543 : decode method_3_code 543 = .ok (.bipush 50, 2) := by decide +kernel
theorem od1_545 : decode method_3_code 545 = .ok (.bipush 50, 2) := by decide +kernel
theorem od1_547 : decode method_3_code 547 = .ok (.iload_n 0, 1) := by decide +kernel
theorem od1_548 : decode method_3_code 548 = .ok (.iload_n 1, 1) := by decide +kernel
theorem od1_549 : decode method_3_code 549 = .ok (.invokestatic 7, 3) := by decide +kernel
theorem od1_552 : decode method_3_code 552 = .ok (.iastore, 1) := by decide +kernel
theorem od1_553 : decode method_3_code 553 = .ok (.dup, 1) := by decide +kernel
theorem od1_554 : decode method_3_code 554 = .ok (.bipush 51, 2) := by decide +kernel
theorem od1_556 : decode method_3_code 556 = .ok (.bipush 51, 2) := by decide +kernel
theorem od1_558 : decode method_3_code 558 = .ok (.iload_n 0, 1) := by decide +kernel
theorem od1_559 : decode method_3_code 559 = .ok (.iload_n 1, 1) := by decide +kernel
theorem od1_560 : decode method_3_code 560 = .ok (.invokestatic 7, 3) := by decide +kernel
theorem od1_563 : decode method_3_code 563 = .ok (.iastore, 1) := by decide +kernel
theorem od1_564 : decode method_3_code 564 = .ok (.dup, 1) := by decide +kernel
theorem od1_565 : decode method_3_code 565 = .ok (.bipush 52, 2) := by decide +kernel
theorem od1_567 : decode method_3_code 567 = .ok (.bipush 52, 2) := by decide +kernel
theorem od1_569 : decode method_3_code 569 = .ok (.iload_n 0, 1) := by decide +kernel
theorem od1_570 : decode method_3_code 570 = .ok (.iload_n 1, 1) := by decide +kernel
theorem od1_571 : decode method_3_code 571 = .ok (.invokestatic 7, 3) := by decide +kernel
theorem od1_574 : decode method_3_code 574 = .ok (.iastore, 1) := by decide +kernel
theorem od1_575 : decode method_3_code 575 = .ok (.dup, 1) := by decide +kernel
theorem od1_576 : decode method_3_code 576 = .ok (.bipush 53, 2) := by decide +kernel
theorem od1_578 : decode method_3_code 578 = .ok (.bipush 53, 2) := by decide +kernel
theorem od1_580 : decode method_3_code 580 = .ok (.iload_n 0, 1) := by decide +kernel
theorem od1_581 : decode method_3_code 581 = .ok (.iload_n 1, 1) := by decide +kernel
theorem od1_582 : decode method_3_code 582 = .ok (.invokestatic 7, 3) := by decide +kernel
theorem od1_585 : decode method_3_code 585 = .ok (.iastore, 1) := by decide +kernel
theorem od1_586 : decode method_3_code 586 = .ok (.dup, 1) := by decide +kernel
theorem od1_587 : decode method_3_code 587 = .ok (.bipush 54, 2) := by decide +kernel
theorem od1_589 : decode method_3_code 589 = .ok (.bipush 54, 2) := by decide +kernel
theorem od1_591 : decode method_3_code 591 = .ok (.iload_n 0, 1) := by decide +kernel
theorem od1_592 : decode method_3_code 592 = .ok (.iload_n 1, 1) := by decide +kernel
theorem od1_593 : decode method_3_code 593 = .ok (.invokestatic 7, 3) := by decide +kernel
theorem od1_596 : decode method_3_code 596 = .ok (.iastore, 1) := by decide +kernel
theorem od1_597 : decode method_3_code 597 = .ok (.dup, 1) := by decide +kernel
theorem od1_598 : decode method_3_code 598 = .ok (.bipush 55, 2) := by decide +kernel
theorem od1_600 : decode method_3_code 600 = .ok (.bipush 55, 2) := by decide +kernel
theorem od1_602 : decode method_3_code 602 = .ok (.iload_n 0, 1) := by decide +kernel
theorem od1_603 : decode method_3_code 603 = .ok (.iload_n 1, 1) := by decide +kernel
theorem od1_604 : decode method_3_code 604 = .ok (.invokestatic 7, 3) := by decide +kernel
theorem od1_607 : decode method_3_code 607 = .ok (.iastore, 1) := by decide +kernel
theorem od1_608 : decode method_3_code 608 = .ok (.dup, 1) := by decide +kernel
theorem od1_609 : decode method_3_code 609 = .ok (.bipush 56, 2) := by decide +kernel
theorem od1_611 : decode method_3_code 611 = .ok (.bipush 56, 2) := by decide +kernel
theorem od1_613 : decode method_3_code 613 = .ok (.iload_n 0, 1) := by decide +kernel
theorem od1_614 : decode method_3_code 614 = .ok (.iload_n 1, 1) := by decide +kernel
theorem od1_615 : decode method_3_code 615 = .ok (.invokestatic 7, 3) := by decide +kernel
theorem od1_618 : decode method_3_code 618 = .ok (.iastore, 1) := by decide +kernel
theorem od1_619 : decode method_3_code 619 = .ok (.dup, 1) := by decide +kernel
theorem od1_620 : decode method_3_code 620 = .ok (.bipush 57, 2) := by decide +kernel
theorem od1_622 : decode method_3_code 622 = .ok (.bipush 57, 2) := by decide +kernel
theorem od1_624 : decode method_3_code 624 = .ok (.iload_n 0, 1) := by decide +kernel
theorem od1_625 : decode method_3_code 625 = .ok (.iload_n 1, 1) := by decide +kernel
theorem od1_626 : decode method_3_code 626 = .ok (.invokestatic 7, 3) := by decide +kernel
theorem od1_629 : decode method_3_code 629 = .ok (.iastore, 1) := by decide +kernel
theorem od1_630 : decode method_3_code 630 = .ok (.dup, 1) := by decide +kernel
theorem od1_631 : decode method_3_code 631 = .ok (.bipush 58, 2) := by decide +kernel
theorem od1_633 : decode method_3_code 633 = .ok (.bipush 58, 2) := by decide +kernel
theorem od1_635 : decode method_3_code 635 = .ok (.iload_n 0, 1) := by decide +kernel
theorem od1_636 : decode method_3_code 636 = .ok (.iload_n 1, 1) := by decide +kernel
theorem od1_637 : decode method_3_code 637 = .ok (.invokestatic 7, 3) := by decide +kernel
theorem od1_640 : decode method_3_code 640 = .ok (.iastore, 1) := by decide +kernel
theorem od1_641 : decode method_3_code 641 = .ok (.dup, 1) := by decide +kernel
theorem od1_642 : decode method_3_code 642 = .ok (.bipush 59, 2) := by decide +kernel
theorem od1_644 : decode method_3_code 644 = .ok (.bipush 59, 2) := by decide +kernel
theorem od1_646 : decode method_3_code 646 = .ok (.iload_n 0, 1) := by decide +kernel
theorem od1_647 : decode method_3_code 647 = .ok (.iload_n 1, 1) := by decide +kernel
theorem od1_648 : decode method_3_code 648 = .ok (.invokestatic 7, 3) := by decide +kernel
theorem od1_651 : decode method_3_code 651 = .ok (.iastore, 1) := by decide +kernel
theorem od1_652 : decode method_3_code 652 = .ok (.dup, 1) := by decide +kernel
theorem od1_653 : decode method_3_code 653 = .ok (.bipush 60, 2) := by decide +kernel
theorem od1_655 : decode method_3_code 655 = .ok (.bipush 60, 2) := by decide +kernel
theorem od1_657 : decode method_3_code 657 = .ok (.iload_n 0, 1) := by decide +kernel
theorem od1_658 : decode method_3_code 658 = .ok (.iload_n 1, 1) := by decide +kernel
theorem od1_659 : decode method_3_code 659 = .ok (.invokestatic 7, 3) := by decide +kernel
theorem od1_662 : decode method_3_code 662 = .ok (.iastore, 1) := by decide +kernel
theorem od1_663 : decode method_3_code 663 = .ok (.dup, 1) := by decide +kernel
theorem od1_664 : decode method_3_code 664 = .ok (.bipush 61, 2) := by decide +kernel
theorem od1_666 : decode method_3_code 666 = .ok (.bipush 61, 2) := by decide +kernel
theorem od1_668 : decode method_3_code 668 = .ok (.iload_n 0, 1) := by decide +kernel
theorem od1_669 : decode method_3_code 669 = .ok (.iload_n 1, 1) := by decide +kernel
theorem od1_670 : decode method_3_code 670 = .ok (.invokestatic 7, 3) := by decide +kernel
theorem od1_673 : decode method_3_code 673 = .ok (.iastore, 1) := by decide +kernel
theorem od1_674 : decode method_3_code 674 = .ok (.dup, 1) := by decide +kernel
theorem od1_675 : decode method_3_code 675 = .ok (.bipush 62, 2) := by decide +kernel
theorem od1_677 : decode method_3_code 677 = .ok (.bipush 62, 2) := by decide +kernel
theorem od1_679 : decode method_3_code 679 = .ok (.iload_n 0, 1) := by decide +kernel
theorem od1_680 : decode method_3_code 680 = .ok (.iload_n 1, 1) := by decide +kernel
theorem od1_681 : decode method_3_code 681 = .ok (.invokestatic 7, 3) := by decide +kernel
theorem od1_684 : decode method_3_code 684 = .ok (.iastore, 1) := by decide +kernel
theorem od1_685 : decode method_3_code 685 = .ok (.dup, 1) := by decide +kernel
theorem od1_686 : decode method_3_code 686 = .ok (.bipush 63, 2) := by decide +kernel
theorem od1_688 : decode method_3_code 688 = .ok (.bipush 63, 2) := by decide +kernel
theorem od1_690 : decode method_3_code 690 = .ok (.iload_n 0, 1) := by decide +kernel
theorem od1_691 : decode method_3_code 691 = .ok (.iload_n 1, 1) := by decide +kernel
theorem od1_692 : decode method_3_code 692 = .ok (.invokestatic 7, 3) := by decide +kernel
theorem od1_695 : decode method_3_code 695 = .ok (.iastore, 1) := by decide +kernel
theorem od1_696 : decode method_3_code 696 = .ok (.areturn, 1) := by decide +kernel
theorem ef_own_rm1 (m : MethodId) (x0 : Int32) (x1 : Int32) : entryFrame m #[(.int x0), (.int x1)] 2 = mkF m 0 #[.val (.int x0), .val (.int x1)] [] := by first | (simp [entryFrame, mkF, argsToLocals, Value.category]; done) | rfl
theorem pn_com_example_hyperplane_hyperplane_index_TableAgreesPinLaw_order__IZ__I : plainFor (⟨"com/example/hyperplane/hyperplane/index/TableAgreesPinLaw", "order", "(IZ)[I"⟩ : MethodName) = true := plainFor_of_name (by first | (simp [plainName, overriddenIn]; done) | decide +kernel)
set_option maxRecDepth 65536 in
set_option maxHeartbeats 40000000 in
theorem own_rm1 (l : Launch) (Z : State) (a0 : Array Value) (hw : ∀ d ∈ tables_1, d.before a0 Z = true) (n0 : Nat) (hO : Heap) (rr : Int32) (d : Int32) (Z0 : n0 ≤ hO.size) :
    MeetsW l Z n0 (⟨"com/example/hyperplane/hyperplane/index/TableAgreesPinLaw", "order", "(IZ)[I"⟩ : MethodName) method_3_code 2 (some (.array .int)) ({ frames := 1, cells := 1, slots := 64, locals := 17 } : Room) #[(.int rr), (.int d)] hO (RA fun r h => ∃ O : List Int32, Fill (fun q => eF (Int32.ofNat q) rr d) 64 O ∧ Keep hO h [] ∧ hO.size ≤ r ∧ AI Z h r O) := by
  refine MeetsW.intro pn_com_example_hyperplane_hyperplane_index_TableAgreesPinLaw_order__IZ__I (fun m => ef_own_rm1 m rr d) ?_
  intro W C
  replace C : Ru l Z "com/example/hyperplane/hyperplane/index/TableAgreesPinLaw" method_3_code 2 (some (.array .int)) "order" ({ frames := 1, cells := 1, slots := 64, locals := 17 } : Room) n0 (RA fun r h => ∃ O : List Int32, Fill (fun q => eF (Int32.ofNat q) rr d) 64 O ∧ Keep hO h [] ∧ hO.size ≤ r ∧ AI Z h r O) W := C
  have K : Keep hO hO [] := Keep.refl _ _
  refine C.bipush (v := 64) (pc' := 2) od1_0 rfl rfl ?_
  refine C.newAI (N := 64) (cap := 64) (ow8 hw) (pc' := 4) od1_2 rfl (by decide) (by decide) (by decide) (by decide) (by decide) (fun h2 b2 hb2 X2 A_b2 => ?_)
  have sz_b2 : hO.size ≤ b2 := by rw [hb2]; exact K.1
  have g_b2 : n0 ≤ b2 := Nat.le_trans Z0 sz_b2
  replace K := K.ext X2
  obtain ⟨L0, eL0⟩ : ∃ L, L = List.replicate 64 (0 : Int32) := ⟨_, rfl⟩
  rw [← eL0] at A_b2
  have FL0 : Fill (fun q => eF (Int32.ofNat q) rr d) 0 L0 := by rw [eL0]; exact fill0 _
  refine C.dup (pc' := 5) od1_4 rfl rfl ?_
  refine C.iconst (v := 0) (pc' := 6) od1_5 rfl rfl ?_
  refine C.iconst (v := 0) (pc' := 7) od1_6 rfl rfl ?_
  refine C.iloadN (pc' := 8) od1_7 rfl rfl ?_
  refine C.iloadN (pc' := 9) od1_8 rfl rfl ?_
  refine C.calls (w := 3) (own_rm2 l Z a0 hw n0 h2 (0 : Int32) rr d) (ow9 hw) (ow10 hw) (ow6 hw) (ow11 hw) (pc' := 12) od1_9 rfl rfl rfl (by decide) pd__IIZ_I rfl (by decide) (Nat.le_of_eq rfl) (by decide) (by decide) (by decide) (kIe ?_)
  refine C.stAI (i := 0) A_b2 (by decide) (by rw [FL0.1]; decide) g_b2 (pc' := 13) od1_12 rfl (fun h12 X12 B12 => ?_)
  have A_b2 : AI Z h12 b2 (L0.set 0 (eF (0 : Int32) rr d)) := B12
  replace K := K.wr X12 (Or.inr sz_b2)
  obtain ⟨L1, eL1⟩ : ∃ L, L = (L0.set 0 (eF (0 : Int32) rr d)) := ⟨_, rfl⟩
  rw [← eL1] at A_b2
  have FL1 : Fill (fun q => eF (Int32.ofNat q) rr d) 1 L1 := by rw [eL1]; exact fillS FL0 (by decide) rfl
  refine C.dup (pc' := 14) od1_13 rfl rfl ?_
  refine C.iconst (v := 1) (pc' := 15) od1_14 rfl rfl ?_
  refine C.iconst (v := 1) (pc' := 16) od1_15 rfl rfl ?_
  refine C.iloadN (pc' := 17) od1_16 rfl rfl ?_
  refine C.iloadN (pc' := 18) od1_17 rfl rfl ?_
  refine C.calls (w := 3) (own_rm2 l Z a0 hw n0 h12 (1 : Int32) rr d) (ow9 hw) (ow10 hw) (ow6 hw) (ow11 hw) (pc' := 21) od1_18 rfl rfl rfl (by decide) pd__IIZ_I rfl (by decide) (Nat.le_of_eq rfl) (by decide) (by decide) (by decide) (kIe ?_)
  refine C.stAI (i := 1) A_b2 (by decide) (by rw [FL1.1]; decide) g_b2 (pc' := 22) od1_21 rfl (fun h21 X21 B21 => ?_)
  have A_b2 : AI Z h21 b2 (L1.set 1 (eF (1 : Int32) rr d)) := B21
  replace K := K.wr X21 (Or.inr sz_b2)
  obtain ⟨L2, eL2⟩ : ∃ L, L = (L1.set 1 (eF (1 : Int32) rr d)) := ⟨_, rfl⟩
  rw [← eL2] at A_b2
  have FL2 : Fill (fun q => eF (Int32.ofNat q) rr d) 2 L2 := by rw [eL2]; exact fillS FL1 (by decide) rfl
  refine C.dup (pc' := 23) od1_22 rfl rfl ?_
  refine C.iconst (v := 2) (pc' := 24) od1_23 rfl rfl ?_
  refine C.iconst (v := 2) (pc' := 25) od1_24 rfl rfl ?_
  refine C.iloadN (pc' := 26) od1_25 rfl rfl ?_
  refine C.iloadN (pc' := 27) od1_26 rfl rfl ?_
  refine C.calls (w := 3) (own_rm2 l Z a0 hw n0 h21 (2 : Int32) rr d) (ow9 hw) (ow10 hw) (ow6 hw) (ow11 hw) (pc' := 30) od1_27 rfl rfl rfl (by decide) pd__IIZ_I rfl (by decide) (Nat.le_of_eq rfl) (by decide) (by decide) (by decide) (kIe ?_)
  refine C.stAI (i := 2) A_b2 (by decide) (by rw [FL2.1]; decide) g_b2 (pc' := 31) od1_30 rfl (fun h30 X30 B30 => ?_)
  have A_b2 : AI Z h30 b2 (L2.set 2 (eF (2 : Int32) rr d)) := B30
  replace K := K.wr X30 (Or.inr sz_b2)
  obtain ⟨L3, eL3⟩ : ∃ L, L = (L2.set 2 (eF (2 : Int32) rr d)) := ⟨_, rfl⟩
  rw [← eL3] at A_b2
  have FL3 : Fill (fun q => eF (Int32.ofNat q) rr d) 3 L3 := by rw [eL3]; exact fillS FL2 (by decide) rfl
  refine C.dup (pc' := 32) od1_31 rfl rfl ?_
  refine C.iconst (v := 3) (pc' := 33) od1_32 rfl rfl ?_
  refine C.iconst (v := 3) (pc' := 34) od1_33 rfl rfl ?_
  refine C.iloadN (pc' := 35) od1_34 rfl rfl ?_
  refine C.iloadN (pc' := 36) od1_35 rfl rfl ?_
  refine C.calls (w := 3) (own_rm2 l Z a0 hw n0 h30 (3 : Int32) rr d) (ow9 hw) (ow10 hw) (ow6 hw) (ow11 hw) (pc' := 39) od1_36 rfl rfl rfl (by decide) pd__IIZ_I rfl (by decide) (Nat.le_of_eq rfl) (by decide) (by decide) (by decide) (kIe ?_)
  refine C.stAI (i := 3) A_b2 (by decide) (by rw [FL3.1]; decide) g_b2 (pc' := 40) od1_39 rfl (fun h39 X39 B39 => ?_)
  have A_b2 : AI Z h39 b2 (L3.set 3 (eF (3 : Int32) rr d)) := B39
  replace K := K.wr X39 (Or.inr sz_b2)
  obtain ⟨L4, eL4⟩ : ∃ L, L = (L3.set 3 (eF (3 : Int32) rr d)) := ⟨_, rfl⟩
  rw [← eL4] at A_b2
  have FL4 : Fill (fun q => eF (Int32.ofNat q) rr d) 4 L4 := by rw [eL4]; exact fillS FL3 (by decide) rfl
  refine C.dup (pc' := 41) od1_40 rfl rfl ?_
  refine C.iconst (v := 4) (pc' := 42) od1_41 rfl rfl ?_
  refine C.iconst (v := 4) (pc' := 43) od1_42 rfl rfl ?_
  refine C.iloadN (pc' := 44) od1_43 rfl rfl ?_
  refine C.iloadN (pc' := 45) od1_44 rfl rfl ?_
  refine C.calls (w := 3) (own_rm2 l Z a0 hw n0 h39 (4 : Int32) rr d) (ow9 hw) (ow10 hw) (ow6 hw) (ow11 hw) (pc' := 48) od1_45 rfl rfl rfl (by decide) pd__IIZ_I rfl (by decide) (Nat.le_of_eq rfl) (by decide) (by decide) (by decide) (kIe ?_)
  refine C.stAI (i := 4) A_b2 (by decide) (by rw [FL4.1]; decide) g_b2 (pc' := 49) od1_48 rfl (fun h48 X48 B48 => ?_)
  have A_b2 : AI Z h48 b2 (L4.set 4 (eF (4 : Int32) rr d)) := B48
  replace K := K.wr X48 (Or.inr sz_b2)
  obtain ⟨L5, eL5⟩ : ∃ L, L = (L4.set 4 (eF (4 : Int32) rr d)) := ⟨_, rfl⟩
  rw [← eL5] at A_b2
  have FL5 : Fill (fun q => eF (Int32.ofNat q) rr d) 5 L5 := by rw [eL5]; exact fillS FL4 (by decide) rfl
  refine C.dup (pc' := 50) od1_49 rfl rfl ?_
  refine C.iconst (v := 5) (pc' := 51) od1_50 rfl rfl ?_
  refine C.iconst (v := 5) (pc' := 52) od1_51 rfl rfl ?_
  refine C.iloadN (pc' := 53) od1_52 rfl rfl ?_
  refine C.iloadN (pc' := 54) od1_53 rfl rfl ?_
  refine C.calls (w := 3) (own_rm2 l Z a0 hw n0 h48 (5 : Int32) rr d) (ow9 hw) (ow10 hw) (ow6 hw) (ow11 hw) (pc' := 57) od1_54 rfl rfl rfl (by decide) pd__IIZ_I rfl (by decide) (Nat.le_of_eq rfl) (by decide) (by decide) (by decide) (kIe ?_)
  refine C.stAI (i := 5) A_b2 (by decide) (by rw [FL5.1]; decide) g_b2 (pc' := 58) od1_57 rfl (fun h57 X57 B57 => ?_)
  have A_b2 : AI Z h57 b2 (L5.set 5 (eF (5 : Int32) rr d)) := B57
  replace K := K.wr X57 (Or.inr sz_b2)
  obtain ⟨L6, eL6⟩ : ∃ L, L = (L5.set 5 (eF (5 : Int32) rr d)) := ⟨_, rfl⟩
  rw [← eL6] at A_b2
  have FL6 : Fill (fun q => eF (Int32.ofNat q) rr d) 6 L6 := by rw [eL6]; exact fillS FL5 (by decide) rfl
  refine C.dup (pc' := 59) od1_58 rfl rfl ?_
  refine C.bipush (v := 6) (pc' := 61) od1_59 rfl rfl ?_
  refine C.bipush (v := 6) (pc' := 63) od1_61 rfl rfl ?_
  refine C.iloadN (pc' := 64) od1_63 rfl rfl ?_
  refine C.iloadN (pc' := 65) od1_64 rfl rfl ?_
  refine C.calls (w := 3) (own_rm2 l Z a0 hw n0 h57 (6 : Int32) rr d) (ow9 hw) (ow10 hw) (ow6 hw) (ow11 hw) (pc' := 68) od1_65 rfl rfl rfl (by decide) pd__IIZ_I rfl (by decide) (Nat.le_of_eq rfl) (by decide) (by decide) (by decide) (kIe ?_)
  refine C.stAI (i := 6) A_b2 (by decide) (by rw [FL6.1]; decide) g_b2 (pc' := 69) od1_68 rfl (fun h68 X68 B68 => ?_)
  have A_b2 : AI Z h68 b2 (L6.set 6 (eF (6 : Int32) rr d)) := B68
  replace K := K.wr X68 (Or.inr sz_b2)
  obtain ⟨L7, eL7⟩ : ∃ L, L = (L6.set 6 (eF (6 : Int32) rr d)) := ⟨_, rfl⟩
  rw [← eL7] at A_b2
  have FL7 : Fill (fun q => eF (Int32.ofNat q) rr d) 7 L7 := by rw [eL7]; exact fillS FL6 (by decide) rfl
  refine C.dup (pc' := 70) od1_69 rfl rfl ?_
  refine C.bipush (v := 7) (pc' := 72) od1_70 rfl rfl ?_
  refine C.bipush (v := 7) (pc' := 74) od1_72 rfl rfl ?_
  refine C.iloadN (pc' := 75) od1_74 rfl rfl ?_
  refine C.iloadN (pc' := 76) od1_75 rfl rfl ?_
  refine C.calls (w := 3) (own_rm2 l Z a0 hw n0 h68 (7 : Int32) rr d) (ow9 hw) (ow10 hw) (ow6 hw) (ow11 hw) (pc' := 79) od1_76 rfl rfl rfl (by decide) pd__IIZ_I rfl (by decide) (Nat.le_of_eq rfl) (by decide) (by decide) (by decide) (kIe ?_)
  refine C.stAI (i := 7) A_b2 (by decide) (by rw [FL7.1]; decide) g_b2 (pc' := 80) od1_79 rfl (fun h79 X79 B79 => ?_)
  have A_b2 : AI Z h79 b2 (L7.set 7 (eF (7 : Int32) rr d)) := B79
  replace K := K.wr X79 (Or.inr sz_b2)
  obtain ⟨L8, eL8⟩ : ∃ L, L = (L7.set 7 (eF (7 : Int32) rr d)) := ⟨_, rfl⟩
  rw [← eL8] at A_b2
  have FL8 : Fill (fun q => eF (Int32.ofNat q) rr d) 8 L8 := by rw [eL8]; exact fillS FL7 (by decide) rfl
  refine C.dup (pc' := 81) od1_80 rfl rfl ?_
  refine C.bipush (v := 8) (pc' := 83) od1_81 rfl rfl ?_
  refine C.bipush (v := 8) (pc' := 85) od1_83 rfl rfl ?_
  refine C.iloadN (pc' := 86) od1_85 rfl rfl ?_
  refine C.iloadN (pc' := 87) od1_86 rfl rfl ?_
  refine C.calls (w := 3) (own_rm2 l Z a0 hw n0 h79 (8 : Int32) rr d) (ow9 hw) (ow10 hw) (ow6 hw) (ow11 hw) (pc' := 90) od1_87 rfl rfl rfl (by decide) pd__IIZ_I rfl (by decide) (Nat.le_of_eq rfl) (by decide) (by decide) (by decide) (kIe ?_)
  refine C.stAI (i := 8) A_b2 (by decide) (by rw [FL8.1]; decide) g_b2 (pc' := 91) od1_90 rfl (fun h90 X90 B90 => ?_)
  have A_b2 : AI Z h90 b2 (L8.set 8 (eF (8 : Int32) rr d)) := B90
  replace K := K.wr X90 (Or.inr sz_b2)
  obtain ⟨L9, eL9⟩ : ∃ L, L = (L8.set 8 (eF (8 : Int32) rr d)) := ⟨_, rfl⟩
  rw [← eL9] at A_b2
  have FL9 : Fill (fun q => eF (Int32.ofNat q) rr d) 9 L9 := by rw [eL9]; exact fillS FL8 (by decide) rfl
  refine C.dup (pc' := 92) od1_91 rfl rfl ?_
  refine C.bipush (v := 9) (pc' := 94) od1_92 rfl rfl ?_
  refine C.bipush (v := 9) (pc' := 96) od1_94 rfl rfl ?_
  refine C.iloadN (pc' := 97) od1_96 rfl rfl ?_
  refine C.iloadN (pc' := 98) od1_97 rfl rfl ?_
  refine C.calls (w := 3) (own_rm2 l Z a0 hw n0 h90 (9 : Int32) rr d) (ow9 hw) (ow10 hw) (ow6 hw) (ow11 hw) (pc' := 101) od1_98 rfl rfl rfl (by decide) pd__IIZ_I rfl (by decide) (Nat.le_of_eq rfl) (by decide) (by decide) (by decide) (kIe ?_)
  refine C.stAI (i := 9) A_b2 (by decide) (by rw [FL9.1]; decide) g_b2 (pc' := 102) od1_101 rfl (fun h101 X101 B101 => ?_)
  have A_b2 : AI Z h101 b2 (L9.set 9 (eF (9 : Int32) rr d)) := B101
  replace K := K.wr X101 (Or.inr sz_b2)
  obtain ⟨L10, eL10⟩ : ∃ L, L = (L9.set 9 (eF (9 : Int32) rr d)) := ⟨_, rfl⟩
  rw [← eL10] at A_b2
  have FL10 : Fill (fun q => eF (Int32.ofNat q) rr d) 10 L10 := by rw [eL10]; exact fillS FL9 (by decide) rfl
  refine C.dup (pc' := 103) od1_102 rfl rfl ?_
  refine C.bipush (v := 10) (pc' := 105) od1_103 rfl rfl ?_
  refine C.bipush (v := 10) (pc' := 107) od1_105 rfl rfl ?_
  refine C.iloadN (pc' := 108) od1_107 rfl rfl ?_
  refine C.iloadN (pc' := 109) od1_108 rfl rfl ?_
  refine C.calls (w := 3) (own_rm2 l Z a0 hw n0 h101 (10 : Int32) rr d) (ow9 hw) (ow10 hw) (ow6 hw) (ow11 hw) (pc' := 112) od1_109 rfl rfl rfl (by decide) pd__IIZ_I rfl (by decide) (Nat.le_of_eq rfl) (by decide) (by decide) (by decide) (kIe ?_)
  refine C.stAI (i := 10) A_b2 (by decide) (by rw [FL10.1]; decide) g_b2 (pc' := 113) od1_112 rfl (fun h112 X112 B112 => ?_)
  have A_b2 : AI Z h112 b2 (L10.set 10 (eF (10 : Int32) rr d)) := B112
  replace K := K.wr X112 (Or.inr sz_b2)
  obtain ⟨L11, eL11⟩ : ∃ L, L = (L10.set 10 (eF (10 : Int32) rr d)) := ⟨_, rfl⟩
  rw [← eL11] at A_b2
  have FL11 : Fill (fun q => eF (Int32.ofNat q) rr d) 11 L11 := by rw [eL11]; exact fillS FL10 (by decide) rfl
  refine C.dup (pc' := 114) od1_113 rfl rfl ?_
  refine C.bipush (v := 11) (pc' := 116) od1_114 rfl rfl ?_
  refine C.bipush (v := 11) (pc' := 118) od1_116 rfl rfl ?_
  refine C.iloadN (pc' := 119) od1_118 rfl rfl ?_
  refine C.iloadN (pc' := 120) od1_119 rfl rfl ?_
  refine C.calls (w := 3) (own_rm2 l Z a0 hw n0 h112 (11 : Int32) rr d) (ow9 hw) (ow10 hw) (ow6 hw) (ow11 hw) (pc' := 123) od1_120 rfl rfl rfl (by decide) pd__IIZ_I rfl (by decide) (Nat.le_of_eq rfl) (by decide) (by decide) (by decide) (kIe ?_)
  refine C.stAI (i := 11) A_b2 (by decide) (by rw [FL11.1]; decide) g_b2 (pc' := 124) od1_123 rfl (fun h123 X123 B123 => ?_)
  have A_b2 : AI Z h123 b2 (L11.set 11 (eF (11 : Int32) rr d)) := B123
  replace K := K.wr X123 (Or.inr sz_b2)
  obtain ⟨L12, eL12⟩ : ∃ L, L = (L11.set 11 (eF (11 : Int32) rr d)) := ⟨_, rfl⟩
  rw [← eL12] at A_b2
  have FL12 : Fill (fun q => eF (Int32.ofNat q) rr d) 12 L12 := by rw [eL12]; exact fillS FL11 (by decide) rfl
  refine C.dup (pc' := 125) od1_124 rfl rfl ?_
  refine C.bipush (v := 12) (pc' := 127) od1_125 rfl rfl ?_
  refine C.bipush (v := 12) (pc' := 129) od1_127 rfl rfl ?_
  refine C.iloadN (pc' := 130) od1_129 rfl rfl ?_
  refine C.iloadN (pc' := 131) od1_130 rfl rfl ?_
  refine C.calls (w := 3) (own_rm2 l Z a0 hw n0 h123 (12 : Int32) rr d) (ow9 hw) (ow10 hw) (ow6 hw) (ow11 hw) (pc' := 134) od1_131 rfl rfl rfl (by decide) pd__IIZ_I rfl (by decide) (Nat.le_of_eq rfl) (by decide) (by decide) (by decide) (kIe ?_)
  refine C.stAI (i := 12) A_b2 (by decide) (by rw [FL12.1]; decide) g_b2 (pc' := 135) od1_134 rfl (fun h134 X134 B134 => ?_)
  have A_b2 : AI Z h134 b2 (L12.set 12 (eF (12 : Int32) rr d)) := B134
  replace K := K.wr X134 (Or.inr sz_b2)
  obtain ⟨L13, eL13⟩ : ∃ L, L = (L12.set 12 (eF (12 : Int32) rr d)) := ⟨_, rfl⟩
  rw [← eL13] at A_b2
  have FL13 : Fill (fun q => eF (Int32.ofNat q) rr d) 13 L13 := by rw [eL13]; exact fillS FL12 (by decide) rfl
  refine C.dup (pc' := 136) od1_135 rfl rfl ?_
  refine C.bipush (v := 13) (pc' := 138) od1_136 rfl rfl ?_
  refine C.bipush (v := 13) (pc' := 140) od1_138 rfl rfl ?_
  refine C.iloadN (pc' := 141) od1_140 rfl rfl ?_
  refine C.iloadN (pc' := 142) od1_141 rfl rfl ?_
  refine C.calls (w := 3) (own_rm2 l Z a0 hw n0 h134 (13 : Int32) rr d) (ow9 hw) (ow10 hw) (ow6 hw) (ow11 hw) (pc' := 145) od1_142 rfl rfl rfl (by decide) pd__IIZ_I rfl (by decide) (Nat.le_of_eq rfl) (by decide) (by decide) (by decide) (kIe ?_)
  refine C.stAI (i := 13) A_b2 (by decide) (by rw [FL13.1]; decide) g_b2 (pc' := 146) od1_145 rfl (fun h145 X145 B145 => ?_)
  have A_b2 : AI Z h145 b2 (L13.set 13 (eF (13 : Int32) rr d)) := B145
  replace K := K.wr X145 (Or.inr sz_b2)
  obtain ⟨L14, eL14⟩ : ∃ L, L = (L13.set 13 (eF (13 : Int32) rr d)) := ⟨_, rfl⟩
  rw [← eL14] at A_b2
  have FL14 : Fill (fun q => eF (Int32.ofNat q) rr d) 14 L14 := by rw [eL14]; exact fillS FL13 (by decide) rfl
  refine C.dup (pc' := 147) od1_146 rfl rfl ?_
  refine C.bipush (v := 14) (pc' := 149) od1_147 rfl rfl ?_
  refine C.bipush (v := 14) (pc' := 151) od1_149 rfl rfl ?_
  refine C.iloadN (pc' := 152) od1_151 rfl rfl ?_
  refine C.iloadN (pc' := 153) od1_152 rfl rfl ?_
  refine C.calls (w := 3) (own_rm2 l Z a0 hw n0 h145 (14 : Int32) rr d) (ow9 hw) (ow10 hw) (ow6 hw) (ow11 hw) (pc' := 156) od1_153 rfl rfl rfl (by decide) pd__IIZ_I rfl (by decide) (Nat.le_of_eq rfl) (by decide) (by decide) (by decide) (kIe ?_)
  refine C.stAI (i := 14) A_b2 (by decide) (by rw [FL14.1]; decide) g_b2 (pc' := 157) od1_156 rfl (fun h156 X156 B156 => ?_)
  have A_b2 : AI Z h156 b2 (L14.set 14 (eF (14 : Int32) rr d)) := B156
  replace K := K.wr X156 (Or.inr sz_b2)
  obtain ⟨L15, eL15⟩ : ∃ L, L = (L14.set 14 (eF (14 : Int32) rr d)) := ⟨_, rfl⟩
  rw [← eL15] at A_b2
  have FL15 : Fill (fun q => eF (Int32.ofNat q) rr d) 15 L15 := by rw [eL15]; exact fillS FL14 (by decide) rfl
  refine C.dup (pc' := 158) od1_157 rfl rfl ?_
  refine C.bipush (v := 15) (pc' := 160) od1_158 rfl rfl ?_
  refine C.bipush (v := 15) (pc' := 162) od1_160 rfl rfl ?_
  refine C.iloadN (pc' := 163) od1_162 rfl rfl ?_
  refine C.iloadN (pc' := 164) od1_163 rfl rfl ?_
  refine C.calls (w := 3) (own_rm2 l Z a0 hw n0 h156 (15 : Int32) rr d) (ow9 hw) (ow10 hw) (ow6 hw) (ow11 hw) (pc' := 167) od1_164 rfl rfl rfl (by decide) pd__IIZ_I rfl (by decide) (Nat.le_of_eq rfl) (by decide) (by decide) (by decide) (kIe ?_)
  refine C.stAI (i := 15) A_b2 (by decide) (by rw [FL15.1]; decide) g_b2 (pc' := 168) od1_167 rfl (fun h167 X167 B167 => ?_)
  have A_b2 : AI Z h167 b2 (L15.set 15 (eF (15 : Int32) rr d)) := B167
  replace K := K.wr X167 (Or.inr sz_b2)
  obtain ⟨L16, eL16⟩ : ∃ L, L = (L15.set 15 (eF (15 : Int32) rr d)) := ⟨_, rfl⟩
  rw [← eL16] at A_b2
  have FL16 : Fill (fun q => eF (Int32.ofNat q) rr d) 16 L16 := by rw [eL16]; exact fillS FL15 (by decide) rfl
  refine C.dup (pc' := 169) od1_168 rfl rfl ?_
  refine C.bipush (v := 16) (pc' := 171) od1_169 rfl rfl ?_
  refine C.bipush (v := 16) (pc' := 173) od1_171 rfl rfl ?_
  refine C.iloadN (pc' := 174) od1_173 rfl rfl ?_
  refine C.iloadN (pc' := 175) od1_174 rfl rfl ?_
  refine C.calls (w := 3) (own_rm2 l Z a0 hw n0 h167 (16 : Int32) rr d) (ow9 hw) (ow10 hw) (ow6 hw) (ow11 hw) (pc' := 178) od1_175 rfl rfl rfl (by decide) pd__IIZ_I rfl (by decide) (Nat.le_of_eq rfl) (by decide) (by decide) (by decide) (kIe ?_)
  refine C.stAI (i := 16) A_b2 (by decide) (by rw [FL16.1]; decide) g_b2 (pc' := 179) od1_178 rfl (fun h178 X178 B178 => ?_)
  have A_b2 : AI Z h178 b2 (L16.set 16 (eF (16 : Int32) rr d)) := B178
  replace K := K.wr X178 (Or.inr sz_b2)
  obtain ⟨L17, eL17⟩ : ∃ L, L = (L16.set 16 (eF (16 : Int32) rr d)) := ⟨_, rfl⟩
  rw [← eL17] at A_b2
  have FL17 : Fill (fun q => eF (Int32.ofNat q) rr d) 17 L17 := by rw [eL17]; exact fillS FL16 (by decide) rfl
  refine C.dup (pc' := 180) od1_179 rfl rfl ?_
  refine C.bipush (v := 17) (pc' := 182) od1_180 rfl rfl ?_
  refine C.bipush (v := 17) (pc' := 184) od1_182 rfl rfl ?_
  refine C.iloadN (pc' := 185) od1_184 rfl rfl ?_
  refine C.iloadN (pc' := 186) od1_185 rfl rfl ?_
  refine C.calls (w := 3) (own_rm2 l Z a0 hw n0 h178 (17 : Int32) rr d) (ow9 hw) (ow10 hw) (ow6 hw) (ow11 hw) (pc' := 189) od1_186 rfl rfl rfl (by decide) pd__IIZ_I rfl (by decide) (Nat.le_of_eq rfl) (by decide) (by decide) (by decide) (kIe ?_)
  refine C.stAI (i := 17) A_b2 (by decide) (by rw [FL17.1]; decide) g_b2 (pc' := 190) od1_189 rfl (fun h189 X189 B189 => ?_)
  have A_b2 : AI Z h189 b2 (L17.set 17 (eF (17 : Int32) rr d)) := B189
  replace K := K.wr X189 (Or.inr sz_b2)
  obtain ⟨L18, eL18⟩ : ∃ L, L = (L17.set 17 (eF (17 : Int32) rr d)) := ⟨_, rfl⟩
  rw [← eL18] at A_b2
  have FL18 : Fill (fun q => eF (Int32.ofNat q) rr d) 18 L18 := by rw [eL18]; exact fillS FL17 (by decide) rfl
  refine C.dup (pc' := 191) od1_190 rfl rfl ?_
  refine C.bipush (v := 18) (pc' := 193) od1_191 rfl rfl ?_
  refine C.bipush (v := 18) (pc' := 195) od1_193 rfl rfl ?_
  refine C.iloadN (pc' := 196) od1_195 rfl rfl ?_
  refine C.iloadN (pc' := 197) od1_196 rfl rfl ?_
  refine C.calls (w := 3) (own_rm2 l Z a0 hw n0 h189 (18 : Int32) rr d) (ow9 hw) (ow10 hw) (ow6 hw) (ow11 hw) (pc' := 200) od1_197 rfl rfl rfl (by decide) pd__IIZ_I rfl (by decide) (Nat.le_of_eq rfl) (by decide) (by decide) (by decide) (kIe ?_)
  refine C.stAI (i := 18) A_b2 (by decide) (by rw [FL18.1]; decide) g_b2 (pc' := 201) od1_200 rfl (fun h200 X200 B200 => ?_)
  have A_b2 : AI Z h200 b2 (L18.set 18 (eF (18 : Int32) rr d)) := B200
  replace K := K.wr X200 (Or.inr sz_b2)
  obtain ⟨L19, eL19⟩ : ∃ L, L = (L18.set 18 (eF (18 : Int32) rr d)) := ⟨_, rfl⟩
  rw [← eL19] at A_b2
  have FL19 : Fill (fun q => eF (Int32.ofNat q) rr d) 19 L19 := by rw [eL19]; exact fillS FL18 (by decide) rfl
  refine C.dup (pc' := 202) od1_201 rfl rfl ?_
  refine C.bipush (v := 19) (pc' := 204) od1_202 rfl rfl ?_
  refine C.bipush (v := 19) (pc' := 206) od1_204 rfl rfl ?_
  refine C.iloadN (pc' := 207) od1_206 rfl rfl ?_
  refine C.iloadN (pc' := 208) od1_207 rfl rfl ?_
  refine C.calls (w := 3) (own_rm2 l Z a0 hw n0 h200 (19 : Int32) rr d) (ow9 hw) (ow10 hw) (ow6 hw) (ow11 hw) (pc' := 211) od1_208 rfl rfl rfl (by decide) pd__IIZ_I rfl (by decide) (Nat.le_of_eq rfl) (by decide) (by decide) (by decide) (kIe ?_)
  refine C.stAI (i := 19) A_b2 (by decide) (by rw [FL19.1]; decide) g_b2 (pc' := 212) od1_211 rfl (fun h211 X211 B211 => ?_)
  have A_b2 : AI Z h211 b2 (L19.set 19 (eF (19 : Int32) rr d)) := B211
  replace K := K.wr X211 (Or.inr sz_b2)
  obtain ⟨L20, eL20⟩ : ∃ L, L = (L19.set 19 (eF (19 : Int32) rr d)) := ⟨_, rfl⟩
  rw [← eL20] at A_b2
  have FL20 : Fill (fun q => eF (Int32.ofNat q) rr d) 20 L20 := by rw [eL20]; exact fillS FL19 (by decide) rfl
  refine C.dup (pc' := 213) od1_212 rfl rfl ?_
  refine C.bipush (v := 20) (pc' := 215) od1_213 rfl rfl ?_
  refine C.bipush (v := 20) (pc' := 217) od1_215 rfl rfl ?_
  refine C.iloadN (pc' := 218) od1_217 rfl rfl ?_
  refine C.iloadN (pc' := 219) od1_218 rfl rfl ?_
  refine C.calls (w := 3) (own_rm2 l Z a0 hw n0 h211 (20 : Int32) rr d) (ow9 hw) (ow10 hw) (ow6 hw) (ow11 hw) (pc' := 222) od1_219 rfl rfl rfl (by decide) pd__IIZ_I rfl (by decide) (Nat.le_of_eq rfl) (by decide) (by decide) (by decide) (kIe ?_)
  refine C.stAI (i := 20) A_b2 (by decide) (by rw [FL20.1]; decide) g_b2 (pc' := 223) od1_222 rfl (fun h222 X222 B222 => ?_)
  have A_b2 : AI Z h222 b2 (L20.set 20 (eF (20 : Int32) rr d)) := B222
  replace K := K.wr X222 (Or.inr sz_b2)
  obtain ⟨L21, eL21⟩ : ∃ L, L = (L20.set 20 (eF (20 : Int32) rr d)) := ⟨_, rfl⟩
  rw [← eL21] at A_b2
  have FL21 : Fill (fun q => eF (Int32.ofNat q) rr d) 21 L21 := by rw [eL21]; exact fillS FL20 (by decide) rfl
  refine C.dup (pc' := 224) od1_223 rfl rfl ?_
  refine C.bipush (v := 21) (pc' := 226) od1_224 rfl rfl ?_
  refine C.bipush (v := 21) (pc' := 228) od1_226 rfl rfl ?_
  refine C.iloadN (pc' := 229) od1_228 rfl rfl ?_
  refine C.iloadN (pc' := 230) od1_229 rfl rfl ?_
  refine C.calls (w := 3) (own_rm2 l Z a0 hw n0 h222 (21 : Int32) rr d) (ow9 hw) (ow10 hw) (ow6 hw) (ow11 hw) (pc' := 233) od1_230 rfl rfl rfl (by decide) pd__IIZ_I rfl (by decide) (Nat.le_of_eq rfl) (by decide) (by decide) (by decide) (kIe ?_)
  refine C.stAI (i := 21) A_b2 (by decide) (by rw [FL21.1]; decide) g_b2 (pc' := 234) od1_233 rfl (fun h233 X233 B233 => ?_)
  have A_b2 : AI Z h233 b2 (L21.set 21 (eF (21 : Int32) rr d)) := B233
  replace K := K.wr X233 (Or.inr sz_b2)
  obtain ⟨L22, eL22⟩ : ∃ L, L = (L21.set 21 (eF (21 : Int32) rr d)) := ⟨_, rfl⟩
  rw [← eL22] at A_b2
  have FL22 : Fill (fun q => eF (Int32.ofNat q) rr d) 22 L22 := by rw [eL22]; exact fillS FL21 (by decide) rfl
  refine C.dup (pc' := 235) od1_234 rfl rfl ?_
  refine C.bipush (v := 22) (pc' := 237) od1_235 rfl rfl ?_
  refine C.bipush (v := 22) (pc' := 239) od1_237 rfl rfl ?_
  refine C.iloadN (pc' := 240) od1_239 rfl rfl ?_
  refine C.iloadN (pc' := 241) od1_240 rfl rfl ?_
  refine C.calls (w := 3) (own_rm2 l Z a0 hw n0 h233 (22 : Int32) rr d) (ow9 hw) (ow10 hw) (ow6 hw) (ow11 hw) (pc' := 244) od1_241 rfl rfl rfl (by decide) pd__IIZ_I rfl (by decide) (Nat.le_of_eq rfl) (by decide) (by decide) (by decide) (kIe ?_)
  refine C.stAI (i := 22) A_b2 (by decide) (by rw [FL22.1]; decide) g_b2 (pc' := 245) od1_244 rfl (fun h244 X244 B244 => ?_)
  have A_b2 : AI Z h244 b2 (L22.set 22 (eF (22 : Int32) rr d)) := B244
  replace K := K.wr X244 (Or.inr sz_b2)
  obtain ⟨L23, eL23⟩ : ∃ L, L = (L22.set 22 (eF (22 : Int32) rr d)) := ⟨_, rfl⟩
  rw [← eL23] at A_b2
  have FL23 : Fill (fun q => eF (Int32.ofNat q) rr d) 23 L23 := by rw [eL23]; exact fillS FL22 (by decide) rfl
  refine C.dup (pc' := 246) od1_245 rfl rfl ?_
  refine C.bipush (v := 23) (pc' := 248) od1_246 rfl rfl ?_
  refine C.bipush (v := 23) (pc' := 250) od1_248 rfl rfl ?_
  refine C.iloadN (pc' := 251) od1_250 rfl rfl ?_
  refine C.iloadN (pc' := 252) od1_251 rfl rfl ?_
  refine C.calls (w := 3) (own_rm2 l Z a0 hw n0 h244 (23 : Int32) rr d) (ow9 hw) (ow10 hw) (ow6 hw) (ow11 hw) (pc' := 255) od1_252 rfl rfl rfl (by decide) pd__IIZ_I rfl (by decide) (Nat.le_of_eq rfl) (by decide) (by decide) (by decide) (kIe ?_)
  refine C.stAI (i := 23) A_b2 (by decide) (by rw [FL23.1]; decide) g_b2 (pc' := 256) od1_255 rfl (fun h255 X255 B255 => ?_)
  have A_b2 : AI Z h255 b2 (L23.set 23 (eF (23 : Int32) rr d)) := B255
  replace K := K.wr X255 (Or.inr sz_b2)
  obtain ⟨L24, eL24⟩ : ∃ L, L = (L23.set 23 (eF (23 : Int32) rr d)) := ⟨_, rfl⟩
  rw [← eL24] at A_b2
  have FL24 : Fill (fun q => eF (Int32.ofNat q) rr d) 24 L24 := by rw [eL24]; exact fillS FL23 (by decide) rfl
  refine C.dup (pc' := 257) od1_256 rfl rfl ?_
  refine C.bipush (v := 24) (pc' := 259) od1_257 rfl rfl ?_
  refine C.bipush (v := 24) (pc' := 261) od1_259 rfl rfl ?_
  refine C.iloadN (pc' := 262) od1_261 rfl rfl ?_
  refine C.iloadN (pc' := 263) od1_262 rfl rfl ?_
  refine C.calls (w := 3) (own_rm2 l Z a0 hw n0 h255 (24 : Int32) rr d) (ow9 hw) (ow10 hw) (ow6 hw) (ow11 hw) (pc' := 266) od1_263 rfl rfl rfl (by decide) pd__IIZ_I rfl (by decide) (Nat.le_of_eq rfl) (by decide) (by decide) (by decide) (kIe ?_)
  refine C.stAI (i := 24) A_b2 (by decide) (by rw [FL24.1]; decide) g_b2 (pc' := 267) od1_266 rfl (fun h266 X266 B266 => ?_)
  have A_b2 : AI Z h266 b2 (L24.set 24 (eF (24 : Int32) rr d)) := B266
  replace K := K.wr X266 (Or.inr sz_b2)
  obtain ⟨L25, eL25⟩ : ∃ L, L = (L24.set 24 (eF (24 : Int32) rr d)) := ⟨_, rfl⟩
  rw [← eL25] at A_b2
  have FL25 : Fill (fun q => eF (Int32.ofNat q) rr d) 25 L25 := by rw [eL25]; exact fillS FL24 (by decide) rfl
  refine C.dup (pc' := 268) od1_267 rfl rfl ?_
  refine C.bipush (v := 25) (pc' := 270) od1_268 rfl rfl ?_
  refine C.bipush (v := 25) (pc' := 272) od1_270 rfl rfl ?_
  refine C.iloadN (pc' := 273) od1_272 rfl rfl ?_
  refine C.iloadN (pc' := 274) od1_273 rfl rfl ?_
  refine C.calls (w := 3) (own_rm2 l Z a0 hw n0 h266 (25 : Int32) rr d) (ow9 hw) (ow10 hw) (ow6 hw) (ow11 hw) (pc' := 277) od1_274 rfl rfl rfl (by decide) pd__IIZ_I rfl (by decide) (Nat.le_of_eq rfl) (by decide) (by decide) (by decide) (kIe ?_)
  refine C.stAI (i := 25) A_b2 (by decide) (by rw [FL25.1]; decide) g_b2 (pc' := 278) od1_277 rfl (fun h277 X277 B277 => ?_)
  have A_b2 : AI Z h277 b2 (L25.set 25 (eF (25 : Int32) rr d)) := B277
  replace K := K.wr X277 (Or.inr sz_b2)
  obtain ⟨L26, eL26⟩ : ∃ L, L = (L25.set 25 (eF (25 : Int32) rr d)) := ⟨_, rfl⟩
  rw [← eL26] at A_b2
  have FL26 : Fill (fun q => eF (Int32.ofNat q) rr d) 26 L26 := by rw [eL26]; exact fillS FL25 (by decide) rfl
  refine C.dup (pc' := 279) od1_278 rfl rfl ?_
  refine C.bipush (v := 26) (pc' := 281) od1_279 rfl rfl ?_
  refine C.bipush (v := 26) (pc' := 283) od1_281 rfl rfl ?_
  refine C.iloadN (pc' := 284) od1_283 rfl rfl ?_
  refine C.iloadN (pc' := 285) od1_284 rfl rfl ?_
  refine C.calls (w := 3) (own_rm2 l Z a0 hw n0 h277 (26 : Int32) rr d) (ow9 hw) (ow10 hw) (ow6 hw) (ow11 hw) (pc' := 288) od1_285 rfl rfl rfl (by decide) pd__IIZ_I rfl (by decide) (Nat.le_of_eq rfl) (by decide) (by decide) (by decide) (kIe ?_)
  refine C.stAI (i := 26) A_b2 (by decide) (by rw [FL26.1]; decide) g_b2 (pc' := 289) od1_288 rfl (fun h288 X288 B288 => ?_)
  have A_b2 : AI Z h288 b2 (L26.set 26 (eF (26 : Int32) rr d)) := B288
  replace K := K.wr X288 (Or.inr sz_b2)
  obtain ⟨L27, eL27⟩ : ∃ L, L = (L26.set 26 (eF (26 : Int32) rr d)) := ⟨_, rfl⟩
  rw [← eL27] at A_b2
  have FL27 : Fill (fun q => eF (Int32.ofNat q) rr d) 27 L27 := by rw [eL27]; exact fillS FL26 (by decide) rfl
  refine C.dup (pc' := 290) od1_289 rfl rfl ?_
  refine C.bipush (v := 27) (pc' := 292) od1_290 rfl rfl ?_
  refine C.bipush (v := 27) (pc' := 294) od1_292 rfl rfl ?_
  refine C.iloadN (pc' := 295) od1_294 rfl rfl ?_
  refine C.iloadN (pc' := 296) od1_295 rfl rfl ?_
  refine C.calls (w := 3) (own_rm2 l Z a0 hw n0 h288 (27 : Int32) rr d) (ow9 hw) (ow10 hw) (ow6 hw) (ow11 hw) (pc' := 299) od1_296 rfl rfl rfl (by decide) pd__IIZ_I rfl (by decide) (Nat.le_of_eq rfl) (by decide) (by decide) (by decide) (kIe ?_)
  refine C.stAI (i := 27) A_b2 (by decide) (by rw [FL27.1]; decide) g_b2 (pc' := 300) od1_299 rfl (fun h299 X299 B299 => ?_)
  have A_b2 : AI Z h299 b2 (L27.set 27 (eF (27 : Int32) rr d)) := B299
  replace K := K.wr X299 (Or.inr sz_b2)
  obtain ⟨L28, eL28⟩ : ∃ L, L = (L27.set 27 (eF (27 : Int32) rr d)) := ⟨_, rfl⟩
  rw [← eL28] at A_b2
  have FL28 : Fill (fun q => eF (Int32.ofNat q) rr d) 28 L28 := by rw [eL28]; exact fillS FL27 (by decide) rfl
  refine C.dup (pc' := 301) od1_300 rfl rfl ?_
  refine C.bipush (v := 28) (pc' := 303) od1_301 rfl rfl ?_
  refine C.bipush (v := 28) (pc' := 305) od1_303 rfl rfl ?_
  refine C.iloadN (pc' := 306) od1_305 rfl rfl ?_
  refine C.iloadN (pc' := 307) od1_306 rfl rfl ?_
  refine C.calls (w := 3) (own_rm2 l Z a0 hw n0 h299 (28 : Int32) rr d) (ow9 hw) (ow10 hw) (ow6 hw) (ow11 hw) (pc' := 310) od1_307 rfl rfl rfl (by decide) pd__IIZ_I rfl (by decide) (Nat.le_of_eq rfl) (by decide) (by decide) (by decide) (kIe ?_)
  refine C.stAI (i := 28) A_b2 (by decide) (by rw [FL28.1]; decide) g_b2 (pc' := 311) od1_310 rfl (fun h310 X310 B310 => ?_)
  have A_b2 : AI Z h310 b2 (L28.set 28 (eF (28 : Int32) rr d)) := B310
  replace K := K.wr X310 (Or.inr sz_b2)
  obtain ⟨L29, eL29⟩ : ∃ L, L = (L28.set 28 (eF (28 : Int32) rr d)) := ⟨_, rfl⟩
  rw [← eL29] at A_b2
  have FL29 : Fill (fun q => eF (Int32.ofNat q) rr d) 29 L29 := by rw [eL29]; exact fillS FL28 (by decide) rfl
  refine C.dup (pc' := 312) od1_311 rfl rfl ?_
  refine C.bipush (v := 29) (pc' := 314) od1_312 rfl rfl ?_
  refine C.bipush (v := 29) (pc' := 316) od1_314 rfl rfl ?_
  refine C.iloadN (pc' := 317) od1_316 rfl rfl ?_
  refine C.iloadN (pc' := 318) od1_317 rfl rfl ?_
  refine C.calls (w := 3) (own_rm2 l Z a0 hw n0 h310 (29 : Int32) rr d) (ow9 hw) (ow10 hw) (ow6 hw) (ow11 hw) (pc' := 321) od1_318 rfl rfl rfl (by decide) pd__IIZ_I rfl (by decide) (Nat.le_of_eq rfl) (by decide) (by decide) (by decide) (kIe ?_)
  refine C.stAI (i := 29) A_b2 (by decide) (by rw [FL29.1]; decide) g_b2 (pc' := 322) od1_321 rfl (fun h321 X321 B321 => ?_)
  have A_b2 : AI Z h321 b2 (L29.set 29 (eF (29 : Int32) rr d)) := B321
  replace K := K.wr X321 (Or.inr sz_b2)
  obtain ⟨L30, eL30⟩ : ∃ L, L = (L29.set 29 (eF (29 : Int32) rr d)) := ⟨_, rfl⟩
  rw [← eL30] at A_b2
  have FL30 : Fill (fun q => eF (Int32.ofNat q) rr d) 30 L30 := by rw [eL30]; exact fillS FL29 (by decide) rfl
  refine C.dup (pc' := 323) od1_322 rfl rfl ?_
  refine C.bipush (v := 30) (pc' := 325) od1_323 rfl rfl ?_
  refine C.bipush (v := 30) (pc' := 327) od1_325 rfl rfl ?_
  refine C.iloadN (pc' := 328) od1_327 rfl rfl ?_
  refine C.iloadN (pc' := 329) od1_328 rfl rfl ?_
  refine C.calls (w := 3) (own_rm2 l Z a0 hw n0 h321 (30 : Int32) rr d) (ow9 hw) (ow10 hw) (ow6 hw) (ow11 hw) (pc' := 332) od1_329 rfl rfl rfl (by decide) pd__IIZ_I rfl (by decide) (Nat.le_of_eq rfl) (by decide) (by decide) (by decide) (kIe ?_)
  refine C.stAI (i := 30) A_b2 (by decide) (by rw [FL30.1]; decide) g_b2 (pc' := 333) od1_332 rfl (fun h332 X332 B332 => ?_)
  have A_b2 : AI Z h332 b2 (L30.set 30 (eF (30 : Int32) rr d)) := B332
  replace K := K.wr X332 (Or.inr sz_b2)
  obtain ⟨L31, eL31⟩ : ∃ L, L = (L30.set 30 (eF (30 : Int32) rr d)) := ⟨_, rfl⟩
  rw [← eL31] at A_b2
  have FL31 : Fill (fun q => eF (Int32.ofNat q) rr d) 31 L31 := by rw [eL31]; exact fillS FL30 (by decide) rfl
  refine C.dup (pc' := 334) od1_333 rfl rfl ?_
  refine C.bipush (v := 31) (pc' := 336) od1_334 rfl rfl ?_
  refine C.bipush (v := 31) (pc' := 338) od1_336 rfl rfl ?_
  refine C.iloadN (pc' := 339) od1_338 rfl rfl ?_
  refine C.iloadN (pc' := 340) od1_339 rfl rfl ?_
  refine C.calls (w := 3) (own_rm2 l Z a0 hw n0 h332 (31 : Int32) rr d) (ow9 hw) (ow10 hw) (ow6 hw) (ow11 hw) (pc' := 343) od1_340 rfl rfl rfl (by decide) pd__IIZ_I rfl (by decide) (Nat.le_of_eq rfl) (by decide) (by decide) (by decide) (kIe ?_)
  refine C.stAI (i := 31) A_b2 (by decide) (by rw [FL31.1]; decide) g_b2 (pc' := 344) od1_343 rfl (fun h343 X343 B343 => ?_)
  have A_b2 : AI Z h343 b2 (L31.set 31 (eF (31 : Int32) rr d)) := B343
  replace K := K.wr X343 (Or.inr sz_b2)
  obtain ⟨L32, eL32⟩ : ∃ L, L = (L31.set 31 (eF (31 : Int32) rr d)) := ⟨_, rfl⟩
  rw [← eL32] at A_b2
  have FL32 : Fill (fun q => eF (Int32.ofNat q) rr d) 32 L32 := by rw [eL32]; exact fillS FL31 (by decide) rfl
  refine C.dup (pc' := 345) od1_344 rfl rfl ?_
  refine C.bipush (v := 32) (pc' := 347) od1_345 rfl rfl ?_
  refine C.bipush (v := 32) (pc' := 349) od1_347 rfl rfl ?_
  refine C.iloadN (pc' := 350) od1_349 rfl rfl ?_
  refine C.iloadN (pc' := 351) od1_350 rfl rfl ?_
  refine C.calls (w := 3) (own_rm2 l Z a0 hw n0 h343 (32 : Int32) rr d) (ow9 hw) (ow10 hw) (ow6 hw) (ow11 hw) (pc' := 354) od1_351 rfl rfl rfl (by decide) pd__IIZ_I rfl (by decide) (Nat.le_of_eq rfl) (by decide) (by decide) (by decide) (kIe ?_)
  refine C.stAI (i := 32) A_b2 (by decide) (by rw [FL32.1]; decide) g_b2 (pc' := 355) od1_354 rfl (fun h354 X354 B354 => ?_)
  have A_b2 : AI Z h354 b2 (L32.set 32 (eF (32 : Int32) rr d)) := B354
  replace K := K.wr X354 (Or.inr sz_b2)
  obtain ⟨L33, eL33⟩ : ∃ L, L = (L32.set 32 (eF (32 : Int32) rr d)) := ⟨_, rfl⟩
  rw [← eL33] at A_b2
  have FL33 : Fill (fun q => eF (Int32.ofNat q) rr d) 33 L33 := by rw [eL33]; exact fillS FL32 (by decide) rfl
  refine C.dup (pc' := 356) od1_355 rfl rfl ?_
  refine C.bipush (v := 33) (pc' := 358) od1_356 rfl rfl ?_
  refine C.bipush (v := 33) (pc' := 360) od1_358 rfl rfl ?_
  refine C.iloadN (pc' := 361) od1_360 rfl rfl ?_
  refine C.iloadN (pc' := 362) od1_361 rfl rfl ?_
  refine C.calls (w := 3) (own_rm2 l Z a0 hw n0 h354 (33 : Int32) rr d) (ow9 hw) (ow10 hw) (ow6 hw) (ow11 hw) (pc' := 365) od1_362 rfl rfl rfl (by decide) pd__IIZ_I rfl (by decide) (Nat.le_of_eq rfl) (by decide) (by decide) (by decide) (kIe ?_)
  refine C.stAI (i := 33) A_b2 (by decide) (by rw [FL33.1]; decide) g_b2 (pc' := 366) od1_365 rfl (fun h365 X365 B365 => ?_)
  have A_b2 : AI Z h365 b2 (L33.set 33 (eF (33 : Int32) rr d)) := B365
  replace K := K.wr X365 (Or.inr sz_b2)
  obtain ⟨L34, eL34⟩ : ∃ L, L = (L33.set 33 (eF (33 : Int32) rr d)) := ⟨_, rfl⟩
  rw [← eL34] at A_b2
  have FL34 : Fill (fun q => eF (Int32.ofNat q) rr d) 34 L34 := by rw [eL34]; exact fillS FL33 (by decide) rfl
  refine C.dup (pc' := 367) od1_366 rfl rfl ?_
  refine C.bipush (v := 34) (pc' := 369) od1_367 rfl rfl ?_
  refine C.bipush (v := 34) (pc' := 371) od1_369 rfl rfl ?_
  refine C.iloadN (pc' := 372) od1_371 rfl rfl ?_
  refine C.iloadN (pc' := 373) od1_372 rfl rfl ?_
  refine C.calls (w := 3) (own_rm2 l Z a0 hw n0 h365 (34 : Int32) rr d) (ow9 hw) (ow10 hw) (ow6 hw) (ow11 hw) (pc' := 376) od1_373 rfl rfl rfl (by decide) pd__IIZ_I rfl (by decide) (Nat.le_of_eq rfl) (by decide) (by decide) (by decide) (kIe ?_)
  refine C.stAI (i := 34) A_b2 (by decide) (by rw [FL34.1]; decide) g_b2 (pc' := 377) od1_376 rfl (fun h376 X376 B376 => ?_)
  have A_b2 : AI Z h376 b2 (L34.set 34 (eF (34 : Int32) rr d)) := B376
  replace K := K.wr X376 (Or.inr sz_b2)
  obtain ⟨L35, eL35⟩ : ∃ L, L = (L34.set 34 (eF (34 : Int32) rr d)) := ⟨_, rfl⟩
  rw [← eL35] at A_b2
  have FL35 : Fill (fun q => eF (Int32.ofNat q) rr d) 35 L35 := by rw [eL35]; exact fillS FL34 (by decide) rfl
  refine C.dup (pc' := 378) od1_377 rfl rfl ?_
  refine C.bipush (v := 35) (pc' := 380) od1_378 rfl rfl ?_
  refine C.bipush (v := 35) (pc' := 382) od1_380 rfl rfl ?_
  refine C.iloadN (pc' := 383) od1_382 rfl rfl ?_
  refine C.iloadN (pc' := 384) od1_383 rfl rfl ?_
  refine C.calls (w := 3) (own_rm2 l Z a0 hw n0 h376 (35 : Int32) rr d) (ow9 hw) (ow10 hw) (ow6 hw) (ow11 hw) (pc' := 387) od1_384 rfl rfl rfl (by decide) pd__IIZ_I rfl (by decide) (Nat.le_of_eq rfl) (by decide) (by decide) (by decide) (kIe ?_)
  refine C.stAI (i := 35) A_b2 (by decide) (by rw [FL35.1]; decide) g_b2 (pc' := 388) od1_387 rfl (fun h387 X387 B387 => ?_)
  have A_b2 : AI Z h387 b2 (L35.set 35 (eF (35 : Int32) rr d)) := B387
  replace K := K.wr X387 (Or.inr sz_b2)
  obtain ⟨L36, eL36⟩ : ∃ L, L = (L35.set 35 (eF (35 : Int32) rr d)) := ⟨_, rfl⟩
  rw [← eL36] at A_b2
  have FL36 : Fill (fun q => eF (Int32.ofNat q) rr d) 36 L36 := by rw [eL36]; exact fillS FL35 (by decide) rfl
  refine C.dup (pc' := 389) od1_388 rfl rfl ?_
  refine C.bipush (v := 36) (pc' := 391) od1_389 rfl rfl ?_
  refine C.bipush (v := 36) (pc' := 393) od1_391 rfl rfl ?_
  refine C.iloadN (pc' := 394) od1_393 rfl rfl ?_
  refine C.iloadN (pc' := 395) od1_394 rfl rfl ?_
  refine C.calls (w := 3) (own_rm2 l Z a0 hw n0 h387 (36 : Int32) rr d) (ow9 hw) (ow10 hw) (ow6 hw) (ow11 hw) (pc' := 398) od1_395 rfl rfl rfl (by decide) pd__IIZ_I rfl (by decide) (Nat.le_of_eq rfl) (by decide) (by decide) (by decide) (kIe ?_)
  refine C.stAI (i := 36) A_b2 (by decide) (by rw [FL36.1]; decide) g_b2 (pc' := 399) od1_398 rfl (fun h398 X398 B398 => ?_)
  have A_b2 : AI Z h398 b2 (L36.set 36 (eF (36 : Int32) rr d)) := B398
  replace K := K.wr X398 (Or.inr sz_b2)
  obtain ⟨L37, eL37⟩ : ∃ L, L = (L36.set 36 (eF (36 : Int32) rr d)) := ⟨_, rfl⟩
  rw [← eL37] at A_b2
  have FL37 : Fill (fun q => eF (Int32.ofNat q) rr d) 37 L37 := by rw [eL37]; exact fillS FL36 (by decide) rfl
  refine C.dup (pc' := 400) od1_399 rfl rfl ?_
  refine C.bipush (v := 37) (pc' := 402) od1_400 rfl rfl ?_
  refine C.bipush (v := 37) (pc' := 404) od1_402 rfl rfl ?_
  refine C.iloadN (pc' := 405) od1_404 rfl rfl ?_
  refine C.iloadN (pc' := 406) od1_405 rfl rfl ?_
  refine C.calls (w := 3) (own_rm2 l Z a0 hw n0 h398 (37 : Int32) rr d) (ow9 hw) (ow10 hw) (ow6 hw) (ow11 hw) (pc' := 409) od1_406 rfl rfl rfl (by decide) pd__IIZ_I rfl (by decide) (Nat.le_of_eq rfl) (by decide) (by decide) (by decide) (kIe ?_)
  refine C.stAI (i := 37) A_b2 (by decide) (by rw [FL37.1]; decide) g_b2 (pc' := 410) od1_409 rfl (fun h409 X409 B409 => ?_)
  have A_b2 : AI Z h409 b2 (L37.set 37 (eF (37 : Int32) rr d)) := B409
  replace K := K.wr X409 (Or.inr sz_b2)
  obtain ⟨L38, eL38⟩ : ∃ L, L = (L37.set 37 (eF (37 : Int32) rr d)) := ⟨_, rfl⟩
  rw [← eL38] at A_b2
  have FL38 : Fill (fun q => eF (Int32.ofNat q) rr d) 38 L38 := by rw [eL38]; exact fillS FL37 (by decide) rfl
  refine C.dup (pc' := 411) od1_410 rfl rfl ?_
  refine C.bipush (v := 38) (pc' := 413) od1_411 rfl rfl ?_
  refine C.bipush (v := 38) (pc' := 415) od1_413 rfl rfl ?_
  refine C.iloadN (pc' := 416) od1_415 rfl rfl ?_
  refine C.iloadN (pc' := 417) od1_416 rfl rfl ?_
  refine C.calls (w := 3) (own_rm2 l Z a0 hw n0 h409 (38 : Int32) rr d) (ow9 hw) (ow10 hw) (ow6 hw) (ow11 hw) (pc' := 420) od1_417 rfl rfl rfl (by decide) pd__IIZ_I rfl (by decide) (Nat.le_of_eq rfl) (by decide) (by decide) (by decide) (kIe ?_)
  refine C.stAI (i := 38) A_b2 (by decide) (by rw [FL38.1]; decide) g_b2 (pc' := 421) od1_420 rfl (fun h420 X420 B420 => ?_)
  have A_b2 : AI Z h420 b2 (L38.set 38 (eF (38 : Int32) rr d)) := B420
  replace K := K.wr X420 (Or.inr sz_b2)
  obtain ⟨L39, eL39⟩ : ∃ L, L = (L38.set 38 (eF (38 : Int32) rr d)) := ⟨_, rfl⟩
  rw [← eL39] at A_b2
  have FL39 : Fill (fun q => eF (Int32.ofNat q) rr d) 39 L39 := by rw [eL39]; exact fillS FL38 (by decide) rfl
  refine C.dup (pc' := 422) od1_421 rfl rfl ?_
  refine C.bipush (v := 39) (pc' := 424) od1_422 rfl rfl ?_
  refine C.bipush (v := 39) (pc' := 426) od1_424 rfl rfl ?_
  refine C.iloadN (pc' := 427) od1_426 rfl rfl ?_
  refine C.iloadN (pc' := 428) od1_427 rfl rfl ?_
  refine C.calls (w := 3) (own_rm2 l Z a0 hw n0 h420 (39 : Int32) rr d) (ow9 hw) (ow10 hw) (ow6 hw) (ow11 hw) (pc' := 431) od1_428 rfl rfl rfl (by decide) pd__IIZ_I rfl (by decide) (Nat.le_of_eq rfl) (by decide) (by decide) (by decide) (kIe ?_)
  refine C.stAI (i := 39) A_b2 (by decide) (by rw [FL39.1]; decide) g_b2 (pc' := 432) od1_431 rfl (fun h431 X431 B431 => ?_)
  have A_b2 : AI Z h431 b2 (L39.set 39 (eF (39 : Int32) rr d)) := B431
  replace K := K.wr X431 (Or.inr sz_b2)
  obtain ⟨L40, eL40⟩ : ∃ L, L = (L39.set 39 (eF (39 : Int32) rr d)) := ⟨_, rfl⟩
  rw [← eL40] at A_b2
  have FL40 : Fill (fun q => eF (Int32.ofNat q) rr d) 40 L40 := by rw [eL40]; exact fillS FL39 (by decide) rfl
  refine C.dup (pc' := 433) od1_432 rfl rfl ?_
  refine C.bipush (v := 40) (pc' := 435) od1_433 rfl rfl ?_
  refine C.bipush (v := 40) (pc' := 437) od1_435 rfl rfl ?_
  refine C.iloadN (pc' := 438) od1_437 rfl rfl ?_
  refine C.iloadN (pc' := 439) od1_438 rfl rfl ?_
  refine C.calls (w := 3) (own_rm2 l Z a0 hw n0 h431 (40 : Int32) rr d) (ow9 hw) (ow10 hw) (ow6 hw) (ow11 hw) (pc' := 442) od1_439 rfl rfl rfl (by decide) pd__IIZ_I rfl (by decide) (Nat.le_of_eq rfl) (by decide) (by decide) (by decide) (kIe ?_)
  refine C.stAI (i := 40) A_b2 (by decide) (by rw [FL40.1]; decide) g_b2 (pc' := 443) od1_442 rfl (fun h442 X442 B442 => ?_)
  have A_b2 : AI Z h442 b2 (L40.set 40 (eF (40 : Int32) rr d)) := B442
  replace K := K.wr X442 (Or.inr sz_b2)
  obtain ⟨L41, eL41⟩ : ∃ L, L = (L40.set 40 (eF (40 : Int32) rr d)) := ⟨_, rfl⟩
  rw [← eL41] at A_b2
  have FL41 : Fill (fun q => eF (Int32.ofNat q) rr d) 41 L41 := by rw [eL41]; exact fillS FL40 (by decide) rfl
  refine C.dup (pc' := 444) od1_443 rfl rfl ?_
  refine C.bipush (v := 41) (pc' := 446) od1_444 rfl rfl ?_
  refine C.bipush (v := 41) (pc' := 448) od1_446 rfl rfl ?_
  refine C.iloadN (pc' := 449) od1_448 rfl rfl ?_
  refine C.iloadN (pc' := 450) od1_449 rfl rfl ?_
  refine C.calls (w := 3) (own_rm2 l Z a0 hw n0 h442 (41 : Int32) rr d) (ow9 hw) (ow10 hw) (ow6 hw) (ow11 hw) (pc' := 453) od1_450 rfl rfl rfl (by decide) pd__IIZ_I rfl (by decide) (Nat.le_of_eq rfl) (by decide) (by decide) (by decide) (kIe ?_)
  refine C.stAI (i := 41) A_b2 (by decide) (by rw [FL41.1]; decide) g_b2 (pc' := 454) od1_453 rfl (fun h453 X453 B453 => ?_)
  have A_b2 : AI Z h453 b2 (L41.set 41 (eF (41 : Int32) rr d)) := B453
  replace K := K.wr X453 (Or.inr sz_b2)
  obtain ⟨L42, eL42⟩ : ∃ L, L = (L41.set 41 (eF (41 : Int32) rr d)) := ⟨_, rfl⟩
  rw [← eL42] at A_b2
  have FL42 : Fill (fun q => eF (Int32.ofNat q) rr d) 42 L42 := by rw [eL42]; exact fillS FL41 (by decide) rfl
  refine C.dup (pc' := 455) od1_454 rfl rfl ?_
  refine C.bipush (v := 42) (pc' := 457) od1_455 rfl rfl ?_
  refine C.bipush (v := 42) (pc' := 459) od1_457 rfl rfl ?_
  refine C.iloadN (pc' := 460) od1_459 rfl rfl ?_
  refine C.iloadN (pc' := 461) od1_460 rfl rfl ?_
  refine C.calls (w := 3) (own_rm2 l Z a0 hw n0 h453 (42 : Int32) rr d) (ow9 hw) (ow10 hw) (ow6 hw) (ow11 hw) (pc' := 464) od1_461 rfl rfl rfl (by decide) pd__IIZ_I rfl (by decide) (Nat.le_of_eq rfl) (by decide) (by decide) (by decide) (kIe ?_)
  refine C.stAI (i := 42) A_b2 (by decide) (by rw [FL42.1]; decide) g_b2 (pc' := 465) od1_464 rfl (fun h464 X464 B464 => ?_)
  have A_b2 : AI Z h464 b2 (L42.set 42 (eF (42 : Int32) rr d)) := B464
  replace K := K.wr X464 (Or.inr sz_b2)
  obtain ⟨L43, eL43⟩ : ∃ L, L = (L42.set 42 (eF (42 : Int32) rr d)) := ⟨_, rfl⟩
  rw [← eL43] at A_b2
  have FL43 : Fill (fun q => eF (Int32.ofNat q) rr d) 43 L43 := by rw [eL43]; exact fillS FL42 (by decide) rfl
  refine C.dup (pc' := 466) od1_465 rfl rfl ?_
  refine C.bipush (v := 43) (pc' := 468) od1_466 rfl rfl ?_
  refine C.bipush (v := 43) (pc' := 470) od1_468 rfl rfl ?_
  refine C.iloadN (pc' := 471) od1_470 rfl rfl ?_
  refine C.iloadN (pc' := 472) od1_471 rfl rfl ?_
  refine C.calls (w := 3) (own_rm2 l Z a0 hw n0 h464 (43 : Int32) rr d) (ow9 hw) (ow10 hw) (ow6 hw) (ow11 hw) (pc' := 475) od1_472 rfl rfl rfl (by decide) pd__IIZ_I rfl (by decide) (Nat.le_of_eq rfl) (by decide) (by decide) (by decide) (kIe ?_)
  refine C.stAI (i := 43) A_b2 (by decide) (by rw [FL43.1]; decide) g_b2 (pc' := 476) od1_475 rfl (fun h475 X475 B475 => ?_)
  have A_b2 : AI Z h475 b2 (L43.set 43 (eF (43 : Int32) rr d)) := B475
  replace K := K.wr X475 (Or.inr sz_b2)
  obtain ⟨L44, eL44⟩ : ∃ L, L = (L43.set 43 (eF (43 : Int32) rr d)) := ⟨_, rfl⟩
  rw [← eL44] at A_b2
  have FL44 : Fill (fun q => eF (Int32.ofNat q) rr d) 44 L44 := by rw [eL44]; exact fillS FL43 (by decide) rfl
  refine C.dup (pc' := 477) od1_476 rfl rfl ?_
  refine C.bipush (v := 44) (pc' := 479) od1_477 rfl rfl ?_
  refine C.bipush (v := 44) (pc' := 481) od1_479 rfl rfl ?_
  refine C.iloadN (pc' := 482) od1_481 rfl rfl ?_
  refine C.iloadN (pc' := 483) od1_482 rfl rfl ?_
  refine C.calls (w := 3) (own_rm2 l Z a0 hw n0 h475 (44 : Int32) rr d) (ow9 hw) (ow10 hw) (ow6 hw) (ow11 hw) (pc' := 486) od1_483 rfl rfl rfl (by decide) pd__IIZ_I rfl (by decide) (Nat.le_of_eq rfl) (by decide) (by decide) (by decide) (kIe ?_)
  refine C.stAI (i := 44) A_b2 (by decide) (by rw [FL44.1]; decide) g_b2 (pc' := 487) od1_486 rfl (fun h486 X486 B486 => ?_)
  have A_b2 : AI Z h486 b2 (L44.set 44 (eF (44 : Int32) rr d)) := B486
  replace K := K.wr X486 (Or.inr sz_b2)
  obtain ⟨L45, eL45⟩ : ∃ L, L = (L44.set 44 (eF (44 : Int32) rr d)) := ⟨_, rfl⟩
  rw [← eL45] at A_b2
  have FL45 : Fill (fun q => eF (Int32.ofNat q) rr d) 45 L45 := by rw [eL45]; exact fillS FL44 (by decide) rfl
  refine C.dup (pc' := 488) od1_487 rfl rfl ?_
  refine C.bipush (v := 45) (pc' := 490) od1_488 rfl rfl ?_
  refine C.bipush (v := 45) (pc' := 492) od1_490 rfl rfl ?_
  refine C.iloadN (pc' := 493) od1_492 rfl rfl ?_
  refine C.iloadN (pc' := 494) od1_493 rfl rfl ?_
  refine C.calls (w := 3) (own_rm2 l Z a0 hw n0 h486 (45 : Int32) rr d) (ow9 hw) (ow10 hw) (ow6 hw) (ow11 hw) (pc' := 497) od1_494 rfl rfl rfl (by decide) pd__IIZ_I rfl (by decide) (Nat.le_of_eq rfl) (by decide) (by decide) (by decide) (kIe ?_)
  refine C.stAI (i := 45) A_b2 (by decide) (by rw [FL45.1]; decide) g_b2 (pc' := 498) od1_497 rfl (fun h497 X497 B497 => ?_)
  have A_b2 : AI Z h497 b2 (L45.set 45 (eF (45 : Int32) rr d)) := B497
  replace K := K.wr X497 (Or.inr sz_b2)
  obtain ⟨L46, eL46⟩ : ∃ L, L = (L45.set 45 (eF (45 : Int32) rr d)) := ⟨_, rfl⟩
  rw [← eL46] at A_b2
  have FL46 : Fill (fun q => eF (Int32.ofNat q) rr d) 46 L46 := by rw [eL46]; exact fillS FL45 (by decide) rfl
  refine C.dup (pc' := 499) od1_498 rfl rfl ?_
  refine C.bipush (v := 46) (pc' := 501) od1_499 rfl rfl ?_
  refine C.bipush (v := 46) (pc' := 503) od1_501 rfl rfl ?_
  refine C.iloadN (pc' := 504) od1_503 rfl rfl ?_
  refine C.iloadN (pc' := 505) od1_504 rfl rfl ?_
  refine C.calls (w := 3) (own_rm2 l Z a0 hw n0 h497 (46 : Int32) rr d) (ow9 hw) (ow10 hw) (ow6 hw) (ow11 hw) (pc' := 508) od1_505 rfl rfl rfl (by decide) pd__IIZ_I rfl (by decide) (Nat.le_of_eq rfl) (by decide) (by decide) (by decide) (kIe ?_)
  refine C.stAI (i := 46) A_b2 (by decide) (by rw [FL46.1]; decide) g_b2 (pc' := 509) od1_508 rfl (fun h508 X508 B508 => ?_)
  have A_b2 : AI Z h508 b2 (L46.set 46 (eF (46 : Int32) rr d)) := B508
  replace K := K.wr X508 (Or.inr sz_b2)
  obtain ⟨L47, eL47⟩ : ∃ L, L = (L46.set 46 (eF (46 : Int32) rr d)) := ⟨_, rfl⟩
  rw [← eL47] at A_b2
  have FL47 : Fill (fun q => eF (Int32.ofNat q) rr d) 47 L47 := by rw [eL47]; exact fillS FL46 (by decide) rfl
  refine C.dup (pc' := 510) od1_509 rfl rfl ?_
  refine C.bipush (v := 47) (pc' := 512) od1_510 rfl rfl ?_
  refine C.bipush (v := 47) (pc' := 514) od1_512 rfl rfl ?_
  refine C.iloadN (pc' := 515) od1_514 rfl rfl ?_
  refine C.iloadN (pc' := 516) od1_515 rfl rfl ?_
  refine C.calls (w := 3) (own_rm2 l Z a0 hw n0 h508 (47 : Int32) rr d) (ow9 hw) (ow10 hw) (ow6 hw) (ow11 hw) (pc' := 519) od1_516 rfl rfl rfl (by decide) pd__IIZ_I rfl (by decide) (Nat.le_of_eq rfl) (by decide) (by decide) (by decide) (kIe ?_)
  refine C.stAI (i := 47) A_b2 (by decide) (by rw [FL47.1]; decide) g_b2 (pc' := 520) od1_519 rfl (fun h519 X519 B519 => ?_)
  have A_b2 : AI Z h519 b2 (L47.set 47 (eF (47 : Int32) rr d)) := B519
  replace K := K.wr X519 (Or.inr sz_b2)
  obtain ⟨L48, eL48⟩ : ∃ L, L = (L47.set 47 (eF (47 : Int32) rr d)) := ⟨_, rfl⟩
  rw [← eL48] at A_b2
  have FL48 : Fill (fun q => eF (Int32.ofNat q) rr d) 48 L48 := by rw [eL48]; exact fillS FL47 (by decide) rfl
  refine C.dup (pc' := 521) od1_520 rfl rfl ?_
  refine C.bipush (v := 48) (pc' := 523) od1_521 rfl rfl ?_
  refine C.bipush (v := 48) (pc' := 525) od1_523 rfl rfl ?_
  refine C.iloadN (pc' := 526) od1_525 rfl rfl ?_
  refine C.iloadN (pc' := 527) od1_526 rfl rfl ?_
  refine C.calls (w := 3) (own_rm2 l Z a0 hw n0 h519 (48 : Int32) rr d) (ow9 hw) (ow10 hw) (ow6 hw) (ow11 hw) (pc' := 530) od1_527 rfl rfl rfl (by decide) pd__IIZ_I rfl (by decide) (Nat.le_of_eq rfl) (by decide) (by decide) (by decide) (kIe ?_)
  refine C.stAI (i := 48) A_b2 (by decide) (by rw [FL48.1]; decide) g_b2 (pc' := 531) od1_530 rfl (fun h530 X530 B530 => ?_)
  have A_b2 : AI Z h530 b2 (L48.set 48 (eF (48 : Int32) rr d)) := B530
  replace K := K.wr X530 (Or.inr sz_b2)
  obtain ⟨L49, eL49⟩ : ∃ L, L = (L48.set 48 (eF (48 : Int32) rr d)) := ⟨_, rfl⟩
  rw [← eL49] at A_b2
  have FL49 : Fill (fun q => eF (Int32.ofNat q) rr d) 49 L49 := by rw [eL49]; exact fillS FL48 (by decide) rfl
  refine C.dup (pc' := 532) od1_531 rfl rfl ?_
  refine C.bipush (v := 49) (pc' := 534) od1_532 rfl rfl ?_
  refine C.bipush (v := 49) (pc' := 536) od1_534 rfl rfl ?_
  refine C.iloadN (pc' := 537) od1_536 rfl rfl ?_
  refine C.iloadN (pc' := 538) od1_537 rfl rfl ?_
  refine C.calls (w := 3) (own_rm2 l Z a0 hw n0 h530 (49 : Int32) rr d) (ow9 hw) (ow10 hw) (ow6 hw) (ow11 hw) (pc' := 541) od1_538 rfl rfl rfl (by decide) pd__IIZ_I rfl (by decide) (Nat.le_of_eq rfl) (by decide) (by decide) (by decide) (kIe ?_)
  refine C.stAI (i := 49) A_b2 (by decide) (by rw [FL49.1]; decide) g_b2 (pc' := 542) od1_541 rfl (fun h541 X541 B541 => ?_)
  have A_b2 : AI Z h541 b2 (L49.set 49 (eF (49 : Int32) rr d)) := B541
  replace K := K.wr X541 (Or.inr sz_b2)
  obtain ⟨L50, eL50⟩ : ∃ L, L = (L49.set 49 (eF (49 : Int32) rr d)) := ⟨_, rfl⟩
  rw [← eL50] at A_b2
  have FL50 : Fill (fun q => eF (Int32.ofNat q) rr d) 50 L50 := by rw [eL50]; exact fillS FL49 (by decide) rfl
  refine C.dup (pc' := 543) od1_542 rfl rfl ?_
  refine C.bipush (v := 50) (pc' := 545) od1_543 rfl rfl ?_
  refine C.bipush (v := 50) (pc' := 547) od1_545 rfl rfl ?_
  refine C.iloadN (pc' := 548) od1_547 rfl rfl ?_
  refine C.iloadN (pc' := 549) od1_548 rfl rfl ?_
  refine C.calls (w := 3) (own_rm2 l Z a0 hw n0 h541 (50 : Int32) rr d) (ow9 hw) (ow10 hw) (ow6 hw) (ow11 hw) (pc' := 552) od1_549 rfl rfl rfl (by decide) pd__IIZ_I rfl (by decide) (Nat.le_of_eq rfl) (by decide) (by decide) (by decide) (kIe ?_)
  refine C.stAI (i := 50) A_b2 (by decide) (by rw [FL50.1]; decide) g_b2 (pc' := 553) od1_552 rfl (fun h552 X552 B552 => ?_)
  have A_b2 : AI Z h552 b2 (L50.set 50 (eF (50 : Int32) rr d)) := B552
  replace K := K.wr X552 (Or.inr sz_b2)
  obtain ⟨L51, eL51⟩ : ∃ L, L = (L50.set 50 (eF (50 : Int32) rr d)) := ⟨_, rfl⟩
  rw [← eL51] at A_b2
  have FL51 : Fill (fun q => eF (Int32.ofNat q) rr d) 51 L51 := by rw [eL51]; exact fillS FL50 (by decide) rfl
  refine C.dup (pc' := 554) od1_553 rfl rfl ?_
  refine C.bipush (v := 51) (pc' := 556) od1_554 rfl rfl ?_
  refine C.bipush (v := 51) (pc' := 558) od1_556 rfl rfl ?_
  refine C.iloadN (pc' := 559) od1_558 rfl rfl ?_
  refine C.iloadN (pc' := 560) od1_559 rfl rfl ?_
  refine C.calls (w := 3) (own_rm2 l Z a0 hw n0 h552 (51 : Int32) rr d) (ow9 hw) (ow10 hw) (ow6 hw) (ow11 hw) (pc' := 563) od1_560 rfl rfl rfl (by decide) pd__IIZ_I rfl (by decide) (Nat.le_of_eq rfl) (by decide) (by decide) (by decide) (kIe ?_)
  refine C.stAI (i := 51) A_b2 (by decide) (by rw [FL51.1]; decide) g_b2 (pc' := 564) od1_563 rfl (fun h563 X563 B563 => ?_)
  have A_b2 : AI Z h563 b2 (L51.set 51 (eF (51 : Int32) rr d)) := B563
  replace K := K.wr X563 (Or.inr sz_b2)
  obtain ⟨L52, eL52⟩ : ∃ L, L = (L51.set 51 (eF (51 : Int32) rr d)) := ⟨_, rfl⟩
  rw [← eL52] at A_b2
  have FL52 : Fill (fun q => eF (Int32.ofNat q) rr d) 52 L52 := by rw [eL52]; exact fillS FL51 (by decide) rfl
  refine C.dup (pc' := 565) od1_564 rfl rfl ?_
  refine C.bipush (v := 52) (pc' := 567) od1_565 rfl rfl ?_
  refine C.bipush (v := 52) (pc' := 569) od1_567 rfl rfl ?_
  refine C.iloadN (pc' := 570) od1_569 rfl rfl ?_
  refine C.iloadN (pc' := 571) od1_570 rfl rfl ?_
  refine C.calls (w := 3) (own_rm2 l Z a0 hw n0 h563 (52 : Int32) rr d) (ow9 hw) (ow10 hw) (ow6 hw) (ow11 hw) (pc' := 574) od1_571 rfl rfl rfl (by decide) pd__IIZ_I rfl (by decide) (Nat.le_of_eq rfl) (by decide) (by decide) (by decide) (kIe ?_)
  refine C.stAI (i := 52) A_b2 (by decide) (by rw [FL52.1]; decide) g_b2 (pc' := 575) od1_574 rfl (fun h574 X574 B574 => ?_)
  have A_b2 : AI Z h574 b2 (L52.set 52 (eF (52 : Int32) rr d)) := B574
  replace K := K.wr X574 (Or.inr sz_b2)
  obtain ⟨L53, eL53⟩ : ∃ L, L = (L52.set 52 (eF (52 : Int32) rr d)) := ⟨_, rfl⟩
  rw [← eL53] at A_b2
  have FL53 : Fill (fun q => eF (Int32.ofNat q) rr d) 53 L53 := by rw [eL53]; exact fillS FL52 (by decide) rfl
  refine C.dup (pc' := 576) od1_575 rfl rfl ?_
  refine C.bipush (v := 53) (pc' := 578) od1_576 rfl rfl ?_
  refine C.bipush (v := 53) (pc' := 580) od1_578 rfl rfl ?_
  refine C.iloadN (pc' := 581) od1_580 rfl rfl ?_
  refine C.iloadN (pc' := 582) od1_581 rfl rfl ?_
  refine C.calls (w := 3) (own_rm2 l Z a0 hw n0 h574 (53 : Int32) rr d) (ow9 hw) (ow10 hw) (ow6 hw) (ow11 hw) (pc' := 585) od1_582 rfl rfl rfl (by decide) pd__IIZ_I rfl (by decide) (Nat.le_of_eq rfl) (by decide) (by decide) (by decide) (kIe ?_)
  refine C.stAI (i := 53) A_b2 (by decide) (by rw [FL53.1]; decide) g_b2 (pc' := 586) od1_585 rfl (fun h585 X585 B585 => ?_)
  have A_b2 : AI Z h585 b2 (L53.set 53 (eF (53 : Int32) rr d)) := B585
  replace K := K.wr X585 (Or.inr sz_b2)
  obtain ⟨L54, eL54⟩ : ∃ L, L = (L53.set 53 (eF (53 : Int32) rr d)) := ⟨_, rfl⟩
  rw [← eL54] at A_b2
  have FL54 : Fill (fun q => eF (Int32.ofNat q) rr d) 54 L54 := by rw [eL54]; exact fillS FL53 (by decide) rfl
  refine C.dup (pc' := 587) od1_586 rfl rfl ?_
  refine C.bipush (v := 54) (pc' := 589) od1_587 rfl rfl ?_
  refine C.bipush (v := 54) (pc' := 591) od1_589 rfl rfl ?_
  refine C.iloadN (pc' := 592) od1_591 rfl rfl ?_
  refine C.iloadN (pc' := 593) od1_592 rfl rfl ?_
  refine C.calls (w := 3) (own_rm2 l Z a0 hw n0 h585 (54 : Int32) rr d) (ow9 hw) (ow10 hw) (ow6 hw) (ow11 hw) (pc' := 596) od1_593 rfl rfl rfl (by decide) pd__IIZ_I rfl (by decide) (Nat.le_of_eq rfl) (by decide) (by decide) (by decide) (kIe ?_)
  refine C.stAI (i := 54) A_b2 (by decide) (by rw [FL54.1]; decide) g_b2 (pc' := 597) od1_596 rfl (fun h596 X596 B596 => ?_)
  have A_b2 : AI Z h596 b2 (L54.set 54 (eF (54 : Int32) rr d)) := B596
  replace K := K.wr X596 (Or.inr sz_b2)
  obtain ⟨L55, eL55⟩ : ∃ L, L = (L54.set 54 (eF (54 : Int32) rr d)) := ⟨_, rfl⟩
  rw [← eL55] at A_b2
  have FL55 : Fill (fun q => eF (Int32.ofNat q) rr d) 55 L55 := by rw [eL55]; exact fillS FL54 (by decide) rfl
  refine C.dup (pc' := 598) od1_597 rfl rfl ?_
  refine C.bipush (v := 55) (pc' := 600) od1_598 rfl rfl ?_
  refine C.bipush (v := 55) (pc' := 602) od1_600 rfl rfl ?_
  refine C.iloadN (pc' := 603) od1_602 rfl rfl ?_
  refine C.iloadN (pc' := 604) od1_603 rfl rfl ?_
  refine C.calls (w := 3) (own_rm2 l Z a0 hw n0 h596 (55 : Int32) rr d) (ow9 hw) (ow10 hw) (ow6 hw) (ow11 hw) (pc' := 607) od1_604 rfl rfl rfl (by decide) pd__IIZ_I rfl (by decide) (Nat.le_of_eq rfl) (by decide) (by decide) (by decide) (kIe ?_)
  refine C.stAI (i := 55) A_b2 (by decide) (by rw [FL55.1]; decide) g_b2 (pc' := 608) od1_607 rfl (fun h607 X607 B607 => ?_)
  have A_b2 : AI Z h607 b2 (L55.set 55 (eF (55 : Int32) rr d)) := B607
  replace K := K.wr X607 (Or.inr sz_b2)
  obtain ⟨L56, eL56⟩ : ∃ L, L = (L55.set 55 (eF (55 : Int32) rr d)) := ⟨_, rfl⟩
  rw [← eL56] at A_b2
  have FL56 : Fill (fun q => eF (Int32.ofNat q) rr d) 56 L56 := by rw [eL56]; exact fillS FL55 (by decide) rfl
  refine C.dup (pc' := 609) od1_608 rfl rfl ?_
  refine C.bipush (v := 56) (pc' := 611) od1_609 rfl rfl ?_
  refine C.bipush (v := 56) (pc' := 613) od1_611 rfl rfl ?_
  refine C.iloadN (pc' := 614) od1_613 rfl rfl ?_
  refine C.iloadN (pc' := 615) od1_614 rfl rfl ?_
  refine C.calls (w := 3) (own_rm2 l Z a0 hw n0 h607 (56 : Int32) rr d) (ow9 hw) (ow10 hw) (ow6 hw) (ow11 hw) (pc' := 618) od1_615 rfl rfl rfl (by decide) pd__IIZ_I rfl (by decide) (Nat.le_of_eq rfl) (by decide) (by decide) (by decide) (kIe ?_)
  refine C.stAI (i := 56) A_b2 (by decide) (by rw [FL56.1]; decide) g_b2 (pc' := 619) od1_618 rfl (fun h618 X618 B618 => ?_)
  have A_b2 : AI Z h618 b2 (L56.set 56 (eF (56 : Int32) rr d)) := B618
  replace K := K.wr X618 (Or.inr sz_b2)
  obtain ⟨L57, eL57⟩ : ∃ L, L = (L56.set 56 (eF (56 : Int32) rr d)) := ⟨_, rfl⟩
  rw [← eL57] at A_b2
  have FL57 : Fill (fun q => eF (Int32.ofNat q) rr d) 57 L57 := by rw [eL57]; exact fillS FL56 (by decide) rfl
  refine C.dup (pc' := 620) od1_619 rfl rfl ?_
  refine C.bipush (v := 57) (pc' := 622) od1_620 rfl rfl ?_
  refine C.bipush (v := 57) (pc' := 624) od1_622 rfl rfl ?_
  refine C.iloadN (pc' := 625) od1_624 rfl rfl ?_
  refine C.iloadN (pc' := 626) od1_625 rfl rfl ?_
  refine C.calls (w := 3) (own_rm2 l Z a0 hw n0 h618 (57 : Int32) rr d) (ow9 hw) (ow10 hw) (ow6 hw) (ow11 hw) (pc' := 629) od1_626 rfl rfl rfl (by decide) pd__IIZ_I rfl (by decide) (Nat.le_of_eq rfl) (by decide) (by decide) (by decide) (kIe ?_)
  refine C.stAI (i := 57) A_b2 (by decide) (by rw [FL57.1]; decide) g_b2 (pc' := 630) od1_629 rfl (fun h629 X629 B629 => ?_)
  have A_b2 : AI Z h629 b2 (L57.set 57 (eF (57 : Int32) rr d)) := B629
  replace K := K.wr X629 (Or.inr sz_b2)
  obtain ⟨L58, eL58⟩ : ∃ L, L = (L57.set 57 (eF (57 : Int32) rr d)) := ⟨_, rfl⟩
  rw [← eL58] at A_b2
  have FL58 : Fill (fun q => eF (Int32.ofNat q) rr d) 58 L58 := by rw [eL58]; exact fillS FL57 (by decide) rfl
  refine C.dup (pc' := 631) od1_630 rfl rfl ?_
  refine C.bipush (v := 58) (pc' := 633) od1_631 rfl rfl ?_
  refine C.bipush (v := 58) (pc' := 635) od1_633 rfl rfl ?_
  refine C.iloadN (pc' := 636) od1_635 rfl rfl ?_
  refine C.iloadN (pc' := 637) od1_636 rfl rfl ?_
  refine C.calls (w := 3) (own_rm2 l Z a0 hw n0 h629 (58 : Int32) rr d) (ow9 hw) (ow10 hw) (ow6 hw) (ow11 hw) (pc' := 640) od1_637 rfl rfl rfl (by decide) pd__IIZ_I rfl (by decide) (Nat.le_of_eq rfl) (by decide) (by decide) (by decide) (kIe ?_)
  refine C.stAI (i := 58) A_b2 (by decide) (by rw [FL58.1]; decide) g_b2 (pc' := 641) od1_640 rfl (fun h640 X640 B640 => ?_)
  have A_b2 : AI Z h640 b2 (L58.set 58 (eF (58 : Int32) rr d)) := B640
  replace K := K.wr X640 (Or.inr sz_b2)
  obtain ⟨L59, eL59⟩ : ∃ L, L = (L58.set 58 (eF (58 : Int32) rr d)) := ⟨_, rfl⟩
  rw [← eL59] at A_b2
  have FL59 : Fill (fun q => eF (Int32.ofNat q) rr d) 59 L59 := by rw [eL59]; exact fillS FL58 (by decide) rfl
  refine C.dup (pc' := 642) od1_641 rfl rfl ?_
  refine C.bipush (v := 59) (pc' := 644) od1_642 rfl rfl ?_
  refine C.bipush (v := 59) (pc' := 646) od1_644 rfl rfl ?_
  refine C.iloadN (pc' := 647) od1_646 rfl rfl ?_
  refine C.iloadN (pc' := 648) od1_647 rfl rfl ?_
  refine C.calls (w := 3) (own_rm2 l Z a0 hw n0 h640 (59 : Int32) rr d) (ow9 hw) (ow10 hw) (ow6 hw) (ow11 hw) (pc' := 651) od1_648 rfl rfl rfl (by decide) pd__IIZ_I rfl (by decide) (Nat.le_of_eq rfl) (by decide) (by decide) (by decide) (kIe ?_)
  refine C.stAI (i := 59) A_b2 (by decide) (by rw [FL59.1]; decide) g_b2 (pc' := 652) od1_651 rfl (fun h651 X651 B651 => ?_)
  have A_b2 : AI Z h651 b2 (L59.set 59 (eF (59 : Int32) rr d)) := B651
  replace K := K.wr X651 (Or.inr sz_b2)
  obtain ⟨L60, eL60⟩ : ∃ L, L = (L59.set 59 (eF (59 : Int32) rr d)) := ⟨_, rfl⟩
  rw [← eL60] at A_b2
  have FL60 : Fill (fun q => eF (Int32.ofNat q) rr d) 60 L60 := by rw [eL60]; exact fillS FL59 (by decide) rfl
  refine C.dup (pc' := 653) od1_652 rfl rfl ?_
  refine C.bipush (v := 60) (pc' := 655) od1_653 rfl rfl ?_
  refine C.bipush (v := 60) (pc' := 657) od1_655 rfl rfl ?_
  refine C.iloadN (pc' := 658) od1_657 rfl rfl ?_
  refine C.iloadN (pc' := 659) od1_658 rfl rfl ?_
  refine C.calls (w := 3) (own_rm2 l Z a0 hw n0 h651 (60 : Int32) rr d) (ow9 hw) (ow10 hw) (ow6 hw) (ow11 hw) (pc' := 662) od1_659 rfl rfl rfl (by decide) pd__IIZ_I rfl (by decide) (Nat.le_of_eq rfl) (by decide) (by decide) (by decide) (kIe ?_)
  refine C.stAI (i := 60) A_b2 (by decide) (by rw [FL60.1]; decide) g_b2 (pc' := 663) od1_662 rfl (fun h662 X662 B662 => ?_)
  have A_b2 : AI Z h662 b2 (L60.set 60 (eF (60 : Int32) rr d)) := B662
  replace K := K.wr X662 (Or.inr sz_b2)
  obtain ⟨L61, eL61⟩ : ∃ L, L = (L60.set 60 (eF (60 : Int32) rr d)) := ⟨_, rfl⟩
  rw [← eL61] at A_b2
  have FL61 : Fill (fun q => eF (Int32.ofNat q) rr d) 61 L61 := by rw [eL61]; exact fillS FL60 (by decide) rfl
  refine C.dup (pc' := 664) od1_663 rfl rfl ?_
  refine C.bipush (v := 61) (pc' := 666) od1_664 rfl rfl ?_
  refine C.bipush (v := 61) (pc' := 668) od1_666 rfl rfl ?_
  refine C.iloadN (pc' := 669) od1_668 rfl rfl ?_
  refine C.iloadN (pc' := 670) od1_669 rfl rfl ?_
  refine C.calls (w := 3) (own_rm2 l Z a0 hw n0 h662 (61 : Int32) rr d) (ow9 hw) (ow10 hw) (ow6 hw) (ow11 hw) (pc' := 673) od1_670 rfl rfl rfl (by decide) pd__IIZ_I rfl (by decide) (Nat.le_of_eq rfl) (by decide) (by decide) (by decide) (kIe ?_)
  refine C.stAI (i := 61) A_b2 (by decide) (by rw [FL61.1]; decide) g_b2 (pc' := 674) od1_673 rfl (fun h673 X673 B673 => ?_)
  have A_b2 : AI Z h673 b2 (L61.set 61 (eF (61 : Int32) rr d)) := B673
  replace K := K.wr X673 (Or.inr sz_b2)
  obtain ⟨L62, eL62⟩ : ∃ L, L = (L61.set 61 (eF (61 : Int32) rr d)) := ⟨_, rfl⟩
  rw [← eL62] at A_b2
  have FL62 : Fill (fun q => eF (Int32.ofNat q) rr d) 62 L62 := by rw [eL62]; exact fillS FL61 (by decide) rfl
  refine C.dup (pc' := 675) od1_674 rfl rfl ?_
  refine C.bipush (v := 62) (pc' := 677) od1_675 rfl rfl ?_
  refine C.bipush (v := 62) (pc' := 679) od1_677 rfl rfl ?_
  refine C.iloadN (pc' := 680) od1_679 rfl rfl ?_
  refine C.iloadN (pc' := 681) od1_680 rfl rfl ?_
  refine C.calls (w := 3) (own_rm2 l Z a0 hw n0 h673 (62 : Int32) rr d) (ow9 hw) (ow10 hw) (ow6 hw) (ow11 hw) (pc' := 684) od1_681 rfl rfl rfl (by decide) pd__IIZ_I rfl (by decide) (Nat.le_of_eq rfl) (by decide) (by decide) (by decide) (kIe ?_)
  refine C.stAI (i := 62) A_b2 (by decide) (by rw [FL62.1]; decide) g_b2 (pc' := 685) od1_684 rfl (fun h684 X684 B684 => ?_)
  have A_b2 : AI Z h684 b2 (L62.set 62 (eF (62 : Int32) rr d)) := B684
  replace K := K.wr X684 (Or.inr sz_b2)
  obtain ⟨L63, eL63⟩ : ∃ L, L = (L62.set 62 (eF (62 : Int32) rr d)) := ⟨_, rfl⟩
  rw [← eL63] at A_b2
  have FL63 : Fill (fun q => eF (Int32.ofNat q) rr d) 63 L63 := by rw [eL63]; exact fillS FL62 (by decide) rfl
  refine C.dup (pc' := 686) od1_685 rfl rfl ?_
  refine C.bipush (v := 63) (pc' := 688) od1_686 rfl rfl ?_
  refine C.bipush (v := 63) (pc' := 690) od1_688 rfl rfl ?_
  refine C.iloadN (pc' := 691) od1_690 rfl rfl ?_
  refine C.iloadN (pc' := 692) od1_691 rfl rfl ?_
  refine C.calls (w := 3) (own_rm2 l Z a0 hw n0 h684 (63 : Int32) rr d) (ow9 hw) (ow10 hw) (ow6 hw) (ow11 hw) (pc' := 695) od1_692 rfl rfl rfl (by decide) pd__IIZ_I rfl (by decide) (Nat.le_of_eq rfl) (by decide) (by decide) (by decide) (kIe ?_)
  refine C.stAI (i := 63) A_b2 (by decide) (by rw [FL63.1]; decide) g_b2 (pc' := 696) od1_695 rfl (fun h695 X695 B695 => ?_)
  have A_b2 : AI Z h695 b2 (L63.set 63 (eF (63 : Int32) rr d)) := B695
  replace K := K.wr X695 (Or.inr sz_b2)
  obtain ⟨L64, eL64⟩ : ∃ L, L = (L63.set 63 (eF (63 : Int32) rr d)) := ⟨_, rfl⟩
  rw [← eL64] at A_b2
  have FL64 : Fill (fun q => eF (Int32.ofNat q) rr d) 64 L64 := by rw [eL64]; exact fillS FL63 (by decide) rfl
  refine C.retA rfl rfl od1_696 (by decide) (by decide) ⟨_, rfl, ?_⟩
  exact ⟨L64, FL64, K, sz_b2, A_b2⟩
theorem od3_0 : decode prog_25_method_1_code 0 = .ok (.aload_n 0, 1) := by decide +kernel
theorem od3_1 : decode prog_25_method_1_code 1 = .ok (.invokespecial 1, 3) := by decide +kernel
theorem ow15 {a0 : Array Value} {Z : State} (hw : ∀ d ∈ tables_1, d.before a0 Z = true) : (Jvm.Cond.methodLink "com/example/hyperplane/hyperplane/index/Table" (1 : Nat) ({ cls := "java/lang/Object", name := "<init>", desc := "()V" } : Jvm.MethodName)).before a0 Z = true := hw _ (List.mem_of_getElem? (i := 15) rfl)
theorem ow16 {a0 : Array Value} {Z : State} (hw : ∀ d ∈ tables_1, d.before a0 Z = true) : (Jvm.Cond.instanceMethod ({ cls := "java/lang/Object", name := "<init>", desc := "()V" } : Jvm.MethodName)).before a0 Z = true := hw _ (List.mem_of_getElem? (i := 16) rfl)
theorem ow17 {a0 : Array Value} {Z : State} (hw : ∀ d ∈ tables_1, d.before a0 Z = true) : (Jvm.Cond.code ({ cls := "java/lang/Object", name := "<init>", desc := "()V" } : Jvm.MethodName) object_method_1_code (1 : Nat) (Option.none : Option Jvm.ClassFile.FieldType)).before a0 Z = true := hw _ (List.mem_of_getElem? (i := 17) rfl)
theorem od3_4 : decode prog_25_method_1_code 4 = .ok (.lconst 0, 1) := by decide +kernel
theorem od3_5 : decode prog_25_method_1_code 5 = .ok (.lstore_n 3, 1) := by decide +kernel
theorem od3_6 : decode prog_25_method_1_code 6 = .ok (.iconst 0, 1) := by decide +kernel
theorem od3_7 : decode prog_25_method_1_code 7 = .ok (.istore 5, 2) := by decide +kernel
theorem od3_9 : decode prog_25_method_1_code 9 = .ok (.bipush 65, 2) := by decide +kernel
theorem od3_11 : decode prog_25_method_1_code 11 = .ok (.newarray .int, 2) := by decide +kernel
theorem od3_13 : decode prog_25_method_1_code 13 = .ok (.astore 6, 2) := by decide +kernel
theorem od3_15 : decode prog_25_method_1_code 15 = .ok (.iconst 0, 1) := by decide +kernel
theorem od3_16 : decode prog_25_method_1_code 16 = .ok (.istore 7, 2) := by decide +kernel
theorem od3_18 : decode prog_25_method_1_code 18 = .ok (.iload 7, 2) := by decide +kernel
theorem od3_20 : decode prog_25_method_1_code 20 = .ok (.bipush 64, 2) := by decide +kernel
theorem od3_22 : decode prog_25_method_1_code 22 = .ok (.if_icmp .ge 56, 3) := by decide +kernel
theorem od3_78 : decode prog_25_method_1_code 78 = .ok (.aload 6, 2) := by decide +kernel
theorem od3_80 : decode prog_25_method_1_code 80 = .ok (.iload 5, 2) := by decide +kernel
theorem od3_82 : decode prog_25_method_1_code 82 = .ok (.bipush 64, 2) := by decide +kernel
theorem od3_84 : decode prog_25_method_1_code 84 = .ok (.iastore, 1) := by decide +kernel
theorem od3_85 : decode prog_25_method_1_code 85 = .ok (.aload_n 0, 1) := by decide +kernel
theorem od3_86 : decode prog_25_method_1_code 86 = .ok (.iload_n 2, 1) := by decide +kernel
theorem ow20 {a0 : Array Value} {Z : State} (hw : ∀ d ∈ tables_1, d.before a0 Z = true) : (Jvm.Cond.laysFinal "com/example/hyperplane/hyperplane/index/Table" "com/example/hyperplane/hyperplane/index/Table" "prefixBits" "I").before a0 Z = true := hw _ (List.mem_of_getElem? (i := 20) rfl)
theorem ow19 {a0 : Array Value} {Z : State} (hw : ∀ d ∈ tables_1, d.before a0 Z = true) : (Jvm.Cond.fieldLink "com/example/hyperplane/hyperplane/index/Table" (13 : Nat) "com/example/hyperplane/hyperplane/index/Table" "prefixBits" "I").before a0 Z = true := hw _ (List.mem_of_getElem? (i := 19) rfl)
theorem ow2 {a0 : Array Value} {Z : State} (hw : ∀ d ∈ tables_1, d.before a0 Z = true) : (Jvm.Cond.instantiable "com/example/hyperplane/hyperplane/index/Table" (5 : Nat)).before a0 Z = true := hw _ (List.mem_of_getElem? (i := 2) rfl)
theorem pf_I : parseFieldDescriptor "I" = some .int := by decide
theorem od3_87 : decode prog_25_method_1_code 87 = .ok (.putfield 13, 3) := by decide +kernel
theorem ow22 {a0 : Array Value} {Z : State} (hw : ∀ d ∈ tables_1, d.before a0 Z = true) : (Jvm.Cond.laysFinal "com/example/hyperplane/hyperplane/index/Table" "com/example/hyperplane/hyperplane/index/Table" "prefixMask" "J").before a0 Z = true := hw _ (List.mem_of_getElem? (i := 22) rfl)
theorem pf_J : parseFieldDescriptor "J" = some .long := by decide
theorem sne_22_20 {a0 : Array Value} {Z : State} (hw : ∀ d ∈ tables_1, d.before a0 Z = true) : Jvm.RoadKit.slotOf Z "com/example/hyperplane/hyperplane/index/Table" "prefixMask" "J" ≠ Jvm.RoadKit.slotOf Z "com/example/hyperplane/hyperplane/index/Table" "prefixBits" "I" := slot_ne (C := "com/example/hyperplane/hyperplane/index/Table") (a0 := a0) (Or.inr (ow22 hw)) (Or.inr (ow20 hw)) (by decide) pf_J pf_I
theorem ow24 {a0 : Array Value} {Z : State} (hw : ∀ d ∈ tables_1, d.before a0 Z = true) : (Jvm.Cond.laysFinal "com/example/hyperplane/hyperplane/index/Table" "com/example/hyperplane/hyperplane/index/Table" "toTop" "[I").before a0 Z = true := hw _ (List.mem_of_getElem? (i := 24) rfl)
theorem pf__I : parseFieldDescriptor "[I" = some (.array .int) := by decide
theorem sne_24_20 {a0 : Array Value} {Z : State} (hw : ∀ d ∈ tables_1, d.before a0 Z = true) : Jvm.RoadKit.slotOf Z "com/example/hyperplane/hyperplane/index/Table" "toTop" "[I" ≠ Jvm.RoadKit.slotOf Z "com/example/hyperplane/hyperplane/index/Table" "prefixBits" "I" := slot_ne (C := "com/example/hyperplane/hyperplane/index/Table") (a0 := a0) (Or.inr (ow24 hw)) (Or.inr (ow20 hw)) (by decide) pf__I pf_I
theorem ow26 {a0 : Array Value} {Z : State} (hw : ∀ d ∈ tables_1, d.before a0 Z = true) : (Jvm.Cond.laysFinal "com/example/hyperplane/hyperplane/index/Table" "com/example/hyperplane/hyperplane/index/Table" "toBottom" "[I").before a0 Z = true := hw _ (List.mem_of_getElem? (i := 26) rfl)
theorem sne_26_20 {a0 : Array Value} {Z : State} (hw : ∀ d ∈ tables_1, d.before a0 Z = true) : Jvm.RoadKit.slotOf Z "com/example/hyperplane/hyperplane/index/Table" "toBottom" "[I" ≠ Jvm.RoadKit.slotOf Z "com/example/hyperplane/hyperplane/index/Table" "prefixBits" "I" := slot_ne (C := "com/example/hyperplane/hyperplane/index/Table") (a0 := a0) (Or.inr (ow26 hw)) (Or.inr (ow20 hw)) (by decide) pf__I pf_I
theorem ow28 {a0 : Array Value} {Z : State} (hw : ∀ d ∈ tables_1, d.before a0 Z = true) : (Jvm.Cond.laysFinal "com/example/hyperplane/hyperplane/index/Table" "com/example/hyperplane/hyperplane/index/Table" "toPlace" "[I").before a0 Z = true := hw _ (List.mem_of_getElem? (i := 28) rfl)
theorem sne_28_20 {a0 : Array Value} {Z : State} (hw : ∀ d ∈ tables_1, d.before a0 Z = true) : Jvm.RoadKit.slotOf Z "com/example/hyperplane/hyperplane/index/Table" "toPlace" "[I" ≠ Jvm.RoadKit.slotOf Z "com/example/hyperplane/hyperplane/index/Table" "prefixBits" "I" := slot_ne (C := "com/example/hyperplane/hyperplane/index/Table") (a0 := a0) (Or.inr (ow28 hw)) (Or.inr (ow20 hw)) (by decide) pf__I pf_I
theorem od3_90 : decode prog_25_method_1_code 90 = .ok (.aload_n 0, 1) := by decide +kernel
theorem od3_91 : decode prog_25_method_1_code 91 = .ok (.lload_n 3, 1) := by decide +kernel
theorem ow21 {a0 : Array Value} {Z : State} (hw : ∀ d ∈ tables_1, d.before a0 Z = true) : (Jvm.Cond.fieldLink "com/example/hyperplane/hyperplane/index/Table" (19 : Nat) "com/example/hyperplane/hyperplane/index/Table" "prefixMask" "J").before a0 Z = true := hw _ (List.mem_of_getElem? (i := 21) rfl)
theorem od3_92 : decode prog_25_method_1_code 92 = .ok (.putfield 19, 3) := by decide +kernel
theorem sne_24_22 {a0 : Array Value} {Z : State} (hw : ∀ d ∈ tables_1, d.before a0 Z = true) : Jvm.RoadKit.slotOf Z "com/example/hyperplane/hyperplane/index/Table" "toTop" "[I" ≠ Jvm.RoadKit.slotOf Z "com/example/hyperplane/hyperplane/index/Table" "prefixMask" "J" := slot_ne (C := "com/example/hyperplane/hyperplane/index/Table") (a0 := a0) (Or.inr (ow24 hw)) (Or.inr (ow22 hw)) (by decide) pf__I pf_J
theorem sne_26_22 {a0 : Array Value} {Z : State} (hw : ∀ d ∈ tables_1, d.before a0 Z = true) : Jvm.RoadKit.slotOf Z "com/example/hyperplane/hyperplane/index/Table" "toBottom" "[I" ≠ Jvm.RoadKit.slotOf Z "com/example/hyperplane/hyperplane/index/Table" "prefixMask" "J" := slot_ne (C := "com/example/hyperplane/hyperplane/index/Table") (a0 := a0) (Or.inr (ow26 hw)) (Or.inr (ow22 hw)) (by decide) pf__I pf_J
theorem sne_28_22 {a0 : Array Value} {Z : State} (hw : ∀ d ∈ tables_1, d.before a0 Z = true) : Jvm.RoadKit.slotOf Z "com/example/hyperplane/hyperplane/index/Table" "toPlace" "[I" ≠ Jvm.RoadKit.slotOf Z "com/example/hyperplane/hyperplane/index/Table" "prefixMask" "J" := slot_ne (C := "com/example/hyperplane/hyperplane/index/Table") (a0 := a0) (Or.inr (ow28 hw)) (Or.inr (ow22 hw)) (by decide) pf__I pf_J
theorem sne_20_22 {a0 : Array Value} {Z : State} (hw : ∀ d ∈ tables_1, d.before a0 Z = true) : Jvm.RoadKit.slotOf Z "com/example/hyperplane/hyperplane/index/Table" "prefixBits" "I" ≠ Jvm.RoadKit.slotOf Z "com/example/hyperplane/hyperplane/index/Table" "prefixMask" "J" := slot_ne (C := "com/example/hyperplane/hyperplane/index/Table") (a0 := a0) (Or.inr (ow20 hw)) (Or.inr (ow22 hw)) (by decide) pf_I pf_J
theorem od3_95 : decode prog_25_method_1_code 95 = .ok (.aload_n 0, 1) := by decide +kernel
theorem od3_96 : decode prog_25_method_1_code 96 = .ok (.iload 5, 2) := by decide +kernel
theorem od3_98 : decode prog_25_method_1_code 98 = .ok (.newarray .int, 2) := by decide +kernel
theorem ow23 {a0 : Array Value} {Z : State} (hw : ∀ d ∈ tables_1, d.before a0 Z = true) : (Jvm.Cond.fieldLink "com/example/hyperplane/hyperplane/index/Table" (23 : Nat) "com/example/hyperplane/hyperplane/index/Table" "toTop" "[I").before a0 Z = true := hw _ (List.mem_of_getElem? (i := 23) rfl)
theorem od3_100 : decode prog_25_method_1_code 100 = .ok (.putfield 23, 3) := by decide +kernel
theorem sne_26_24 {a0 : Array Value} {Z : State} (hw : ∀ d ∈ tables_1, d.before a0 Z = true) : Jvm.RoadKit.slotOf Z "com/example/hyperplane/hyperplane/index/Table" "toBottom" "[I" ≠ Jvm.RoadKit.slotOf Z "com/example/hyperplane/hyperplane/index/Table" "toTop" "[I" := slot_ne (C := "com/example/hyperplane/hyperplane/index/Table") (a0 := a0) (Or.inr (ow26 hw)) (Or.inr (ow24 hw)) (by decide) pf__I pf__I
theorem sne_28_24 {a0 : Array Value} {Z : State} (hw : ∀ d ∈ tables_1, d.before a0 Z = true) : Jvm.RoadKit.slotOf Z "com/example/hyperplane/hyperplane/index/Table" "toPlace" "[I" ≠ Jvm.RoadKit.slotOf Z "com/example/hyperplane/hyperplane/index/Table" "toTop" "[I" := slot_ne (C := "com/example/hyperplane/hyperplane/index/Table") (a0 := a0) (Or.inr (ow28 hw)) (Or.inr (ow24 hw)) (by decide) pf__I pf__I
theorem sne_20_24 {a0 : Array Value} {Z : State} (hw : ∀ d ∈ tables_1, d.before a0 Z = true) : Jvm.RoadKit.slotOf Z "com/example/hyperplane/hyperplane/index/Table" "prefixBits" "I" ≠ Jvm.RoadKit.slotOf Z "com/example/hyperplane/hyperplane/index/Table" "toTop" "[I" := slot_ne (C := "com/example/hyperplane/hyperplane/index/Table") (a0 := a0) (Or.inr (ow20 hw)) (Or.inr (ow24 hw)) (by decide) pf_I pf__I
theorem sne_22_24 {a0 : Array Value} {Z : State} (hw : ∀ d ∈ tables_1, d.before a0 Z = true) : Jvm.RoadKit.slotOf Z "com/example/hyperplane/hyperplane/index/Table" "prefixMask" "J" ≠ Jvm.RoadKit.slotOf Z "com/example/hyperplane/hyperplane/index/Table" "toTop" "[I" := slot_ne (C := "com/example/hyperplane/hyperplane/index/Table") (a0 := a0) (Or.inr (ow22 hw)) (Or.inr (ow24 hw)) (by decide) pf_J pf__I
theorem od3_103 : decode prog_25_method_1_code 103 = .ok (.aload_n 0, 1) := by decide +kernel
theorem od3_104 : decode prog_25_method_1_code 104 = .ok (.iload 5, 2) := by decide +kernel
theorem od3_106 : decode prog_25_method_1_code 106 = .ok (.newarray .int, 2) := by decide +kernel
theorem ow25 {a0 : Array Value} {Z : State} (hw : ∀ d ∈ tables_1, d.before a0 Z = true) : (Jvm.Cond.fieldLink "com/example/hyperplane/hyperplane/index/Table" (27 : Nat) "com/example/hyperplane/hyperplane/index/Table" "toBottom" "[I").before a0 Z = true := hw _ (List.mem_of_getElem? (i := 25) rfl)
theorem od3_108 : decode prog_25_method_1_code 108 = .ok (.putfield 27, 3) := by decide +kernel
theorem sne_28_26 {a0 : Array Value} {Z : State} (hw : ∀ d ∈ tables_1, d.before a0 Z = true) : Jvm.RoadKit.slotOf Z "com/example/hyperplane/hyperplane/index/Table" "toPlace" "[I" ≠ Jvm.RoadKit.slotOf Z "com/example/hyperplane/hyperplane/index/Table" "toBottom" "[I" := slot_ne (C := "com/example/hyperplane/hyperplane/index/Table") (a0 := a0) (Or.inr (ow28 hw)) (Or.inr (ow26 hw)) (by decide) pf__I pf__I
theorem sne_20_26 {a0 : Array Value} {Z : State} (hw : ∀ d ∈ tables_1, d.before a0 Z = true) : Jvm.RoadKit.slotOf Z "com/example/hyperplane/hyperplane/index/Table" "prefixBits" "I" ≠ Jvm.RoadKit.slotOf Z "com/example/hyperplane/hyperplane/index/Table" "toBottom" "[I" := slot_ne (C := "com/example/hyperplane/hyperplane/index/Table") (a0 := a0) (Or.inr (ow20 hw)) (Or.inr (ow26 hw)) (by decide) pf_I pf__I
theorem sne_22_26 {a0 : Array Value} {Z : State} (hw : ∀ d ∈ tables_1, d.before a0 Z = true) : Jvm.RoadKit.slotOf Z "com/example/hyperplane/hyperplane/index/Table" "prefixMask" "J" ≠ Jvm.RoadKit.slotOf Z "com/example/hyperplane/hyperplane/index/Table" "toBottom" "[I" := slot_ne (C := "com/example/hyperplane/hyperplane/index/Table") (a0 := a0) (Or.inr (ow22 hw)) (Or.inr (ow26 hw)) (by decide) pf_J pf__I
theorem sne_24_26 {a0 : Array Value} {Z : State} (hw : ∀ d ∈ tables_1, d.before a0 Z = true) : Jvm.RoadKit.slotOf Z "com/example/hyperplane/hyperplane/index/Table" "toTop" "[I" ≠ Jvm.RoadKit.slotOf Z "com/example/hyperplane/hyperplane/index/Table" "toBottom" "[I" := slot_ne (C := "com/example/hyperplane/hyperplane/index/Table") (a0 := a0) (Or.inr (ow24 hw)) (Or.inr (ow26 hw)) (by decide) pf__I pf__I
theorem od3_111 : decode prog_25_method_1_code 111 = .ok (.aload_n 0, 1) := by decide +kernel
theorem od3_112 : decode prog_25_method_1_code 112 = .ok (.iload 5, 2) := by decide +kernel
theorem od3_114 : decode prog_25_method_1_code 114 = .ok (.newarray .int, 2) := by decide +kernel
theorem ow27 {a0 : Array Value} {Z : State} (hw : ∀ d ∈ tables_1, d.before a0 Z = true) : (Jvm.Cond.fieldLink "com/example/hyperplane/hyperplane/index/Table" (30 : Nat) "com/example/hyperplane/hyperplane/index/Table" "toPlace" "[I").before a0 Z = true := hw _ (List.mem_of_getElem? (i := 27) rfl)
theorem od3_116 : decode prog_25_method_1_code 116 = .ok (.putfield 30, 3) := by decide +kernel
theorem sne_20_28 {a0 : Array Value} {Z : State} (hw : ∀ d ∈ tables_1, d.before a0 Z = true) : Jvm.RoadKit.slotOf Z "com/example/hyperplane/hyperplane/index/Table" "prefixBits" "I" ≠ Jvm.RoadKit.slotOf Z "com/example/hyperplane/hyperplane/index/Table" "toPlace" "[I" := slot_ne (C := "com/example/hyperplane/hyperplane/index/Table") (a0 := a0) (Or.inr (ow20 hw)) (Or.inr (ow28 hw)) (by decide) pf_I pf__I
theorem sne_22_28 {a0 : Array Value} {Z : State} (hw : ∀ d ∈ tables_1, d.before a0 Z = true) : Jvm.RoadKit.slotOf Z "com/example/hyperplane/hyperplane/index/Table" "prefixMask" "J" ≠ Jvm.RoadKit.slotOf Z "com/example/hyperplane/hyperplane/index/Table" "toPlace" "[I" := slot_ne (C := "com/example/hyperplane/hyperplane/index/Table") (a0 := a0) (Or.inr (ow22 hw)) (Or.inr (ow28 hw)) (by decide) pf_J pf__I
theorem sne_24_28 {a0 : Array Value} {Z : State} (hw : ∀ d ∈ tables_1, d.before a0 Z = true) : Jvm.RoadKit.slotOf Z "com/example/hyperplane/hyperplane/index/Table" "toTop" "[I" ≠ Jvm.RoadKit.slotOf Z "com/example/hyperplane/hyperplane/index/Table" "toPlace" "[I" := slot_ne (C := "com/example/hyperplane/hyperplane/index/Table") (a0 := a0) (Or.inr (ow24 hw)) (Or.inr (ow28 hw)) (by decide) pf__I pf__I
theorem sne_26_28 {a0 : Array Value} {Z : State} (hw : ∀ d ∈ tables_1, d.before a0 Z = true) : Jvm.RoadKit.slotOf Z "com/example/hyperplane/hyperplane/index/Table" "toBottom" "[I" ≠ Jvm.RoadKit.slotOf Z "com/example/hyperplane/hyperplane/index/Table" "toPlace" "[I" := slot_ne (C := "com/example/hyperplane/hyperplane/index/Table") (a0 := a0) (Or.inr (ow26 hw)) (Or.inr (ow28 hw)) (by decide) pf__I pf__I
theorem od3_119 : decode prog_25_method_1_code 119 = .ok (.iconst 0, 1) := by decide +kernel
theorem od3_120 : decode prog_25_method_1_code 120 = .ok (.istore 7, 2) := by decide +kernel
theorem od3_122 : decode prog_25_method_1_code 122 = .ok (.iload 7, 2) := by decide +kernel
theorem od3_124 : decode prog_25_method_1_code 124 = .ok (.iload 5, 2) := by decide +kernel
theorem od3_126 : decode prog_25_method_1_code 126 = .ok (.if_icmp .ge 68, 3) := by decide +kernel
theorem od3_194 : decode prog_25_method_1_code 194 = .ok (.return_, 1) := by decide +kernel
theorem od3_129 : decode prog_25_method_1_code 129 = .ok (.aload 6, 2) := by decide +kernel
theorem od3_131 : decode prog_25_method_1_code 131 = .ok (.iload 7, 2) := by decide +kernel
theorem od3_133 : decode prog_25_method_1_code 133 = .ok (.iconst 1, 1) := by decide +kernel
theorem od3_134 : decode prog_25_method_1_code 134 = .ok (.iadd, 1) := by decide +kernel
theorem od3_135 : decode prog_25_method_1_code 135 = .ok (.iaload, 1) := by decide +kernel
theorem od3_136 : decode prog_25_method_1_code 136 = .ok (.aload 6, 2) := by decide +kernel
theorem od3_138 : decode prog_25_method_1_code 138 = .ok (.iload 7, 2) := by decide +kernel
theorem od3_140 : decode prog_25_method_1_code 140 = .ok (.iaload, 1) := by decide +kernel
theorem od3_141 : decode prog_25_method_1_code 141 = .ok (.isub, 1) := by decide +kernel
theorem od3_142 : decode prog_25_method_1_code 142 = .ok (.istore 8, 2) := by decide +kernel
theorem od3_144 : decode prog_25_method_1_code 144 = .ok (.aload_n 0, 1) := by decide +kernel
theorem od3_145 : decode prog_25_method_1_code 145 = .ok (.getfield 23, 3) := by decide +kernel
theorem od3_148 : decode prog_25_method_1_code 148 = .ok (.iload 7, 2) := by decide +kernel
theorem od3_150 : decode prog_25_method_1_code 150 = .ok (.aload_n 1, 1) := by decide +kernel
theorem od3_151 : decode prog_25_method_1_code 151 = .ok (.aload 6, 2) := by decide +kernel
theorem od3_153 : decode prog_25_method_1_code 153 = .ok (.iload 7, 2) := by decide +kernel
theorem od3_155 : decode prog_25_method_1_code 155 = .ok (.iaload, 1) := by decide +kernel
theorem od3_156 : decode prog_25_method_1_code 156 = .ok (.iaload, 1) := by decide +kernel
theorem od3_157 : decode prog_25_method_1_code 157 = .ok (.iastore, 1) := by decide +kernel
theorem od3_158 : decode prog_25_method_1_code 158 = .ok (.aload_n 0, 1) := by decide +kernel
theorem od3_159 : decode prog_25_method_1_code 159 = .ok (.getfield 27, 3) := by decide +kernel
theorem od3_162 : decode prog_25_method_1_code 162 = .ok (.iload 7, 2) := by decide +kernel
theorem od3_164 : decode prog_25_method_1_code 164 = .ok (.bipush 64, 2) := by decide +kernel
theorem od3_166 : decode prog_25_method_1_code 166 = .ok (.iload 8, 2) := by decide +kernel
theorem od3_168 : decode prog_25_method_1_code 168 = .ok (.isub, 1) := by decide +kernel
theorem od3_169 : decode prog_25_method_1_code 169 = .ok (.iastore, 1) := by decide +kernel
theorem od3_170 : decode prog_25_method_1_code 170 = .ok (.aload_n 0, 1) := by decide +kernel
theorem od3_171 : decode prog_25_method_1_code 171 = .ok (.getfield 30, 3) := by decide +kernel
theorem od3_174 : decode prog_25_method_1_code 174 = .ok (.iload 7, 2) := by decide +kernel
theorem od3_176 : decode prog_25_method_1_code 176 = .ok (.bipush 64, 2) := by decide +kernel
theorem od3_178 : decode prog_25_method_1_code 178 = .ok (.aload 6, 2) := by decide +kernel
theorem od3_180 : decode prog_25_method_1_code 180 = .ok (.iload 7, 2) := by decide +kernel
theorem od3_182 : decode prog_25_method_1_code 182 = .ok (.iaload, 1) := by decide +kernel
theorem od3_183 : decode prog_25_method_1_code 183 = .ok (.isub, 1) := by decide +kernel
theorem od3_184 : decode prog_25_method_1_code 184 = .ok (.iload 8, 2) := by decide +kernel
theorem od3_186 : decode prog_25_method_1_code 186 = .ok (.isub, 1) := by decide +kernel
theorem od3_187 : decode prog_25_method_1_code 187 = .ok (.iastore, 1) := by decide +kernel
theorem od3_188 : decode prog_25_method_1_code 188 = .ok (.iinc 7 1, 3) := by decide +kernel
theorem od3_191 : decode prog_25_method_1_code 191 = .ok (.goto (-69), 3) := by decide +kernel
theorem od3_25 : decode prog_25_method_1_code 25 = .ok (.iload 7, 2) := by decide +kernel
theorem od3_27 : decode prog_25_method_1_code 27 = .ok (.iload_n 2, 1) := by decide +kernel
theorem od3_28 : decode prog_25_method_1_code 28 = .ok (.if_icmp .ge 14, 3) := by decide +kernel
theorem od3_42 : decode prog_25_method_1_code 42 = .ok (.iload 7, 2) := by decide +kernel
theorem od3_44 : decode prog_25_method_1_code 44 = .ok (.ifCond .eq 18, 3) := by decide +kernel
theorem od3_62 : decode prog_25_method_1_code 62 = .ok (.aload 6, 2) := by decide +kernel
theorem od3_64 : decode prog_25_method_1_code 64 = .ok (.iload 5, 2) := by decide +kernel
theorem od3_66 : decode prog_25_method_1_code 66 = .ok (.iload 7, 2) := by decide +kernel
theorem od3_68 : decode prog_25_method_1_code 68 = .ok (.iastore, 1) := by decide +kernel
theorem od3_69 : decode prog_25_method_1_code 69 = .ok (.iinc 5 1, 3) := by decide +kernel
theorem od3_72 : decode prog_25_method_1_code 72 = .ok (.iinc 7 1, 3) := by decide +kernel
theorem od3_75 : decode prog_25_method_1_code 75 = .ok (.goto (-57), 3) := by decide +kernel
theorem od3_47 : decode prog_25_method_1_code 47 = .ok (.aload_n 1, 1) := by decide +kernel
theorem od3_48 : decode prog_25_method_1_code 48 = .ok (.iload 7, 2) := by decide +kernel
theorem od3_50 : decode prog_25_method_1_code 50 = .ok (.iaload, 1) := by decide +kernel
theorem od3_51 : decode prog_25_method_1_code 51 = .ok (.aload_n 1, 1) := by decide +kernel
theorem od3_52 : decode prog_25_method_1_code 52 = .ok (.iload 7, 2) := by decide +kernel
theorem od3_54 : decode prog_25_method_1_code 54 = .ok (.iconst 1, 1) := by decide +kernel
theorem od3_55 : decode prog_25_method_1_code 55 = .ok (.isub, 1) := by decide +kernel
theorem od3_56 : decode prog_25_method_1_code 56 = .ok (.iaload, 1) := by decide +kernel
theorem od3_57 : decode prog_25_method_1_code 57 = .ok (.iconst 1, 1) := by decide +kernel
theorem od3_58 : decode prog_25_method_1_code 58 = .ok (.iadd, 1) := by decide +kernel
theorem od3_59 : decode prog_25_method_1_code 59 = .ok (.if_icmp .eq 13, 3) := by decide +kernel
theorem od3_31 : decode prog_25_method_1_code 31 = .ok (.lload_n 3, 1) := by decide +kernel
theorem ow18 {a0 : Array Value} {Z : State} (hw : ∀ d ∈ tables_1, d.before a0 Z = true) : (Jvm.Cond.constantLong "com/example/hyperplane/hyperplane/index/Table" (11 : Nat) (-9223372036854775808 : Int64)).before a0 Z = true := hw _ (List.mem_of_getElem? (i := 18) rfl)
theorem od3_32 : decode prog_25_method_1_code 32 = .ok (.ldc2_w 11, 3) := by decide +kernel
theorem od3_35 : decode prog_25_method_1_code 35 = .ok (.aload_n 1, 1) := by decide +kernel
theorem od3_36 : decode prog_25_method_1_code 36 = .ok (.iload 7, 2) := by decide +kernel
theorem od3_38 : decode prog_25_method_1_code 38 = .ok (.iaload, 1) := by decide +kernel
theorem od3_39 : decode prog_25_method_1_code 39 = .ok (.lushr, 1) := by decide +kernel
theorem od3_40 : decode prog_25_method_1_code 40 = .ok (.lor, 1) := by decide +kernel
theorem od3_41 : decode prog_25_method_1_code 41 = .ok (.lstore_n 3, 1) := by decide +kernel
theorem ef_own_rm3 (m : MethodId) (x0 : Addr) (x1 : Addr) (x2 : Int32) : entryFrame m #[(.ref x0), (.ref x1), (.int x2)] 9 = mkF m 0 #[.val (.ref x0), .val (.ref x1), .val (.int x2), .unset, .unset, .unset, .unset, .unset, .unset] [] := by first | (simp [entryFrame, mkF, argsToLocals, Value.category]; done) | rfl
theorem pn_com_example_hyperplane_hyperplane_index_Table__init____II_V : plainFor (⟨"com/example/hyperplane/hyperplane/index/Table", "<init>", "([II)V"⟩ : MethodName) = true := plainFor_of_name (by first | (simp [plainName, overriddenIn]; done) | decide +kernel)
set_option maxRecDepth 65536 in
set_option maxHeartbeats 40000000 in
theorem own_rm3 (l : Launch) (Z : State) (a0 : Array Value) (hw : ∀ d ∈ tables_1, d.before a0 Z = true) (n0 : Nat) (hO : Heap) (a : Addr) (b : Addr) (p : Int32) (O : List Int32) (Pn : Nat) (Z0 : n0 ≤ hO.size) (E_a : Exa Z hO a "com/example/hyperplane/hyperplane/index/Table") (F_a_prefixBits : Fld Z hO a "com/example/hyperplane/hyperplane/index/Table" "prefixBits" "I" (.int (0 : Int32))) (F_a_prefixMask : Fld Z hO a "com/example/hyperplane/hyperplane/index/Table" "prefixMask" "J" (.long (0 : Int64))) (F_a_toTop : Fld Z hO a "com/example/hyperplane/hyperplane/index/Table" "toTop" "[I" .null) (F_a_toBottom : Fld Z hO a "com/example/hyperplane/hyperplane/index/Table" "toBottom" "[I" .null) (F_a_toPlace : Fld Z hO a "com/example/hyperplane/hyperplane/index/Table" "toPlace" "[I" .null) (A_b : AI Z hO b O) (g_a : n0 ≤ a) (ne_a_b : a ≠ b) (hok : OKL O) (hp : p.toInt = (Pn : Int)) (hP : Pn ≤ 64) :
    MeetsW l Z n0 (⟨"com/example/hyperplane/hyperplane/index/Table", "<init>", "([II)V"⟩ : MethodName) prog_25_method_1_code 9 none ({ frames := 1, cells := 4, slots := 257, locals := 12 } : Room) #[(.ref a), (.ref b), (.int p)] hO (RV fun h => ∃ tt : Addr, ∃ tb : Addr, ∃ tq : Addr, ∃ T : List Int32, ∃ B : List Int32, ∃ Q : List Int32, Tab O T B Q ∧ Keep hO h [a] ∧ hO.size ≤ tt ∧ hO.size ≤ tb ∧ hO.size ≤ tq ∧ Fld Z h a "com/example/hyperplane/hyperplane/index/Table" "prefixMask" "J" (.long (maskL O Pn)) ∧ Fld Z h a "com/example/hyperplane/hyperplane/index/Table" "toTop" "[I" (.ref tt) ∧ Fld Z h a "com/example/hyperplane/hyperplane/index/Table" "toBottom" "[I" (.ref tb) ∧ Fld Z h a "com/example/hyperplane/hyperplane/index/Table" "toPlace" "[I" (.ref tq) ∧ AI Z h tt T ∧ AI Z h tb B ∧ AI Z h tq Q) := by
  refine MeetsW.intro pn_com_example_hyperplane_hyperplane_index_Table__init____II_V (fun m => ef_own_rm3 m a b p) ?_
  intro W C
  replace C : Ru l Z "com/example/hyperplane/hyperplane/index/Table" prog_25_method_1_code 9 none "<init>" ({ frames := 1, cells := 4, slots := 257, locals := 12 } : Room) n0 (RV fun h => ∃ tt : Addr, ∃ tb : Addr, ∃ tq : Addr, ∃ T : List Int32, ∃ B : List Int32, ∃ Q : List Int32, Tab O T B Q ∧ Keep hO h [a] ∧ hO.size ≤ tt ∧ hO.size ≤ tb ∧ hO.size ≤ tq ∧ Fld Z h a "com/example/hyperplane/hyperplane/index/Table" "prefixMask" "J" (.long (maskL O Pn)) ∧ Fld Z h a "com/example/hyperplane/hyperplane/index/Table" "toTop" "[I" (.ref tt) ∧ Fld Z h a "com/example/hyperplane/hyperplane/index/Table" "toBottom" "[I" (.ref tb) ∧ Fld Z h a "com/example/hyperplane/hyperplane/index/Table" "toPlace" "[I" (.ref tq) ∧ AI Z h tt T ∧ AI Z h tb B ∧ AI Z h tq Q) W := C
  have K : Keep hO hO [a] := Keep.refl _ _
  refine C.aloadN (pc' := 1) od3_0 rfl rfl rfl ?_
  refine C.initObj (w := 0) (ow15 hw) (ow16 hw) (ow17 hw) (pc' := 4) od3_1 rfl rfl (by decide) (Nat.le_of_eq rfl) (by decide) ?_
  refine C.lconst (v := 0) (pc' := 5) od3_4 rfl rfl ?_
  refine C.lstoreNX (l' := #[.val (.ref a), .val (.ref b), .val (.int p), .val (.long (0 : Int64)), .second, .unset, .unset, .unset, .unset]) (pc' := 6) od3_5 rfl rfl ?_
  refine C.iconst (v := 0) (pc' := 7) od3_6 rfl rfl ?_
  refine C.istoreX (l' := #[.val (.ref a), .val (.ref b), .val (.int p), .val (.long (0 : Int64)), .second, .val (.int (0 : Int32)), .unset, .unset, .unset]) (pc' := 9) od3_7 rfl rfl ?_
  refine C.bipush (v := 65) (pc' := 11) od3_9 rfl rfl ?_
  refine C.newAI (N := 65) (cap := 65) (ow8 hw) (pc' := 13) od3_11 rfl (by decide) (by decide) (by decide) (by decide) (by decide) (fun h11 b11 hb11 X11 A_b11 => ?_)
  have ne_a_b11 : a ≠ b11 := by rw [hb11]; exact Nat.ne_of_lt (exaLt E_a)
  have ne_b_b11 : b ≠ b11 := by rw [hb11]; exact Nat.ne_of_lt A_b.lt
  have sz_b11 : hO.size ≤ b11 := by rw [hb11]; exact K.1
  have g_b11 : n0 ≤ b11 := Nat.le_trans Z0 sz_b11
  replace E_a := E_a.ext X11
  replace F_a_prefixBits := F_a_prefixBits.ext X11
  replace F_a_prefixMask := F_a_prefixMask.ext X11
  replace F_a_toTop := F_a_toTop.ext X11
  replace F_a_toBottom := F_a_toBottom.ext X11
  replace F_a_toPlace := F_a_toPlace.ext X11
  replace A_b := A_b.ext X11
  replace K := K.ext X11
  refine C.astore (l' := #[.val (.ref a), .val (.ref b), .val (.int p), .val (.long (0 : Int64)), .second, .val (.int (0 : Int32)), .val (.ref b11), .unset, .unset]) (pc' := 15) od3_13 rfl rfl rfl ?_
  refine C.iconst (v := 0) (pc' := 16) od3_15 rfl rfl ?_
  refine C.istoreX (l' := #[.val (.ref a), .val (.ref b), .val (.int p), .val (.long (0 : Int64)), .second, .val (.int (0 : Int32)), .val (.ref b11), .val (.int (0 : Int32)), .unset]) (pc' := 18) od3_16 rfl rfl ?_
  have lp18 : ∀ (fu : Nat) (hL : Heap) (i : Nat) (r : Nat) (iv : Int32) (rv : Int32) (mk : Int64) (S : List Int32), (i + fu = 64) → (iv.toInt = (i : Int)) → (rv.toInt = (r : Int)) → (mk = maskL O (min i Pn)) → (Inv1 O S r i) → (Keep hO hL [a]) → (Exa Z hL a "com/example/hyperplane/hyperplane/index/Table") → (Fld Z hL a "com/example/hyperplane/hyperplane/index/Table" "prefixBits" "I" (.int (0 : Int32))) → (Fld Z hL a "com/example/hyperplane/hyperplane/index/Table" "prefixMask" "J" (.long (0 : Int64))) → (Fld Z hL a "com/example/hyperplane/hyperplane/index/Table" "toTop" "[I" .null) → (Fld Z hL a "com/example/hyperplane/hyperplane/index/Table" "toBottom" "[I" .null) → (Fld Z hL a "com/example/hyperplane/hyperplane/index/Table" "toPlace" "[I" .null) → (AI Z hL b O) → (AI Z hL b11 S) → W hL 1 65 18 #[.val (.ref a), .val (.ref b), .val (.int p), .val (.long mk), .second, .val (.int rv), .val (.ref b11), .val (.int iv), .unset] [] := by
    intro fu
    induction fu using Nat.strongRecOn with
    | _ fu ih =>
      intro hL i r iv rv mk S hf hi hr hm inv K E_a F_a_prefixBits F_a_prefixMask F_a_toTop F_a_toBottom F_a_toPlace A_b A_b11
      refine C.iload (pc' := 20) od3_18 rfl rfl ?_
      refine C.bipush (v := 64) (pc' := 22) od3_20 rfl rfl ?_
      refine C.icmp_ge (pc' := 25) (pt := 78) od3_22 rfl rfl (fun c22 => ?_) (fun c22 => ?_)
      · skip
        refine C.aload (pc' := 80) od3_78 rfl rfl rfl ?_
        refine C.iload (pc' := 82) od3_80 rfl rfl ?_
        refine C.bipush (v := 64) (pc' := 84) od3_82 rfl rfl ?_
        refine C.stAI (i := r) A_b11 hr (by have := mt (Jvm.OwnP.lt_iff hi (show (64 : Int32).toInt = ((64 : Nat) : Int) from by decide)).mpr c22; have := inv.2.1; rw [inv.1]; omega) g_b11 (pc' := 85) od3_84 rfl (fun h84 X84 B84 => ?_)
        replace E_a := E_a.wr X84
        replace F_a_prefixBits := F_a_prefixBits.other X84 (Or.inl ne_a_b11)
        replace F_a_prefixMask := F_a_prefixMask.other X84 (Or.inl ne_a_b11)
        replace F_a_toTop := F_a_toTop.other X84 (Or.inl ne_a_b11)
        replace F_a_toBottom := F_a_toBottom.other X84 (Or.inl ne_a_b11)
        replace F_a_toPlace := F_a_toPlace.other X84 (Or.inl ne_a_b11)
        replace A_b := A_b.other X84 ne_b_b11
        have A_b11 : AI Z h84 b11 (S.set r (64 : Int32)) := B84
        replace K := K.wr X84 (Or.inr sz_b11)
        have h64 : i = 64 := by have := mt (Jvm.OwnP.lt_iff hi (show (64 : Int32).toInt = ((64 : Nat) : Int) from by decide)).mpr c22; omega
        subst h64
        obtain ⟨S2, hS2⟩ : ∃ S2, S2 = S.set r 64 := ⟨_, rfl⟩
        rw [← hS2] at A_b11
        have inv2 : Inv2 O S2 r := by rw [hS2]; exact inv2_of inv
        have hm2 : mk = maskL O Pn := by rw [hm, Nat.min_eq_right hP]
        subst hm2
        refine C.aloadN (pc' := 86) od3_85 rfl rfl rfl ?_
        refine C.iloadN (pc' := 87) od3_86 rfl rfl ?_
        refine C.putf (ow19 hw) Via.refl F_a_prefixBits E_a (Or.inr ⟨(ow20 hw), rfl, rfl⟩) (ow2 hw) pf_I rfl rfl g_a (pc' := 90) od3_87 rfl (fun h87 X87 => ?_)
        replace F_a_prefixBits := F_a_prefixBits.same X87
        replace E_a := E_a.wr X87
        replace F_a_prefixMask := F_a_prefixMask.other X87 (Or.inr (sne_22_20 hw))
        replace F_a_toTop := F_a_toTop.other X87 (Or.inr (sne_24_20 hw))
        replace F_a_toBottom := F_a_toBottom.other X87 (Or.inr (sne_26_20 hw))
        replace F_a_toPlace := F_a_toPlace.other X87 (Or.inr (sne_28_20 hw))
        replace A_b := A_b.other X87 (Ne.symm ne_a_b)
        replace A_b11 := A_b11.other X87 (Ne.symm ne_a_b11)
        replace K := K.wr X87 (Or.inl (List.mem_of_getElem? (i := 0) rfl))
        refine C.aloadN (pc' := 91) od3_90 rfl rfl rfl ?_
        refine C.lloadN (pc' := 92) od3_91 rfl rfl ?_
        refine C.putf (ow21 hw) Via.refl F_a_prefixMask E_a (Or.inr ⟨(ow22 hw), rfl, rfl⟩) (ow2 hw) pf_J rfl rfl g_a (pc' := 95) od3_92 rfl (fun h92 X92 => ?_)
        replace F_a_prefixMask := F_a_prefixMask.same X92
        replace E_a := E_a.wr X92
        replace F_a_toTop := F_a_toTop.other X92 (Or.inr (sne_24_22 hw))
        replace F_a_toBottom := F_a_toBottom.other X92 (Or.inr (sne_26_22 hw))
        replace F_a_toPlace := F_a_toPlace.other X92 (Or.inr (sne_28_22 hw))
        replace A_b := A_b.other X92 (Ne.symm ne_a_b)
        replace A_b11 := A_b11.other X92 (Ne.symm ne_a_b11)
        replace F_a_prefixBits := F_a_prefixBits.other X92 (Or.inr (sne_20_22 hw))
        replace K := K.wr X92 (Or.inl (List.mem_of_getElem? (i := 0) rfl))
        refine C.aloadN (pc' := 96) od3_95 rfl rfl rfl ?_
        refine C.iload (pc' := 98) od3_96 rfl rfl ?_
        refine C.newAI (N := r) (cap := 64) (ow8 hw) (pc' := 100) od3_98 rfl hr inv2.2.2.1 (by decide) (by decide) (by decide) (fun h98 b98 hb98 X98 A_b98 => ?_)
        have ne_a_b98 : a ≠ b98 := by rw [hb98]; exact Nat.ne_of_lt (exaLt E_a)
        have ne_b_b98 : b ≠ b98 := by rw [hb98]; exact Nat.ne_of_lt A_b.lt
        have ne_b11_b98 : b11 ≠ b98 := by rw [hb98]; exact Nat.ne_of_lt A_b11.lt
        have sz_b98 : hO.size ≤ b98 := by rw [hb98]; exact K.1
        have g_b98 : n0 ≤ b98 := Nat.le_trans Z0 sz_b98
        replace E_a := E_a.ext X98
        replace F_a_toTop := F_a_toTop.ext X98
        replace F_a_toBottom := F_a_toBottom.ext X98
        replace F_a_toPlace := F_a_toPlace.ext X98
        replace A_b := A_b.ext X98
        replace A_b11 := A_b11.ext X98
        replace F_a_prefixBits := F_a_prefixBits.ext X98
        replace F_a_prefixMask := F_a_prefixMask.ext X98
        replace K := K.ext X98
        refine C.putf (ow23 hw) Via.refl F_a_toTop E_a (Or.inr ⟨(ow24 hw), rfl, rfl⟩) (ow2 hw) pf__I rfl rfl g_a (pc' := 103) od3_100 rfl (fun h100 X100 => ?_)
        replace F_a_toTop := F_a_toTop.same X100
        replace E_a := E_a.wr X100
        replace F_a_toBottom := F_a_toBottom.other X100 (Or.inr (sne_26_24 hw))
        replace F_a_toPlace := F_a_toPlace.other X100 (Or.inr (sne_28_24 hw))
        replace A_b := A_b.other X100 (Ne.symm ne_a_b)
        replace A_b11 := A_b11.other X100 (Ne.symm ne_a_b11)
        replace F_a_prefixBits := F_a_prefixBits.other X100 (Or.inr (sne_20_24 hw))
        replace F_a_prefixMask := F_a_prefixMask.other X100 (Or.inr (sne_22_24 hw))
        replace A_b98 := A_b98.other X100 (Ne.symm ne_a_b98)
        replace K := K.wr X100 (Or.inl (List.mem_of_getElem? (i := 0) rfl))
        refine C.aloadN (pc' := 104) od3_103 rfl rfl rfl ?_
        refine C.iload (pc' := 106) od3_104 rfl rfl ?_
        refine C.newAI (N := r) (cap := 64) (ow8 hw) (pc' := 108) od3_106 rfl hr inv2.2.2.1 (by decide) (by decide) (by decide) (fun h106 b106 hb106 X106 A_b106 => ?_)
        have ne_a_b106 : a ≠ b106 := by rw [hb106]; exact Nat.ne_of_lt (exaLt E_a)
        have ne_b_b106 : b ≠ b106 := by rw [hb106]; exact Nat.ne_of_lt A_b.lt
        have ne_b11_b106 : b11 ≠ b106 := by rw [hb106]; exact Nat.ne_of_lt A_b11.lt
        have ne_b98_b106 : b98 ≠ b106 := by rw [hb106]; exact Nat.ne_of_lt A_b98.lt
        have sz_b106 : hO.size ≤ b106 := by rw [hb106]; exact K.1
        have g_b106 : n0 ≤ b106 := Nat.le_trans Z0 sz_b106
        replace E_a := E_a.ext X106
        replace F_a_toBottom := F_a_toBottom.ext X106
        replace F_a_toPlace := F_a_toPlace.ext X106
        replace A_b := A_b.ext X106
        replace A_b11 := A_b11.ext X106
        replace F_a_prefixBits := F_a_prefixBits.ext X106
        replace F_a_prefixMask := F_a_prefixMask.ext X106
        replace A_b98 := A_b98.ext X106
        replace F_a_toTop := F_a_toTop.ext X106
        replace K := K.ext X106
        refine C.putf (ow25 hw) Via.refl F_a_toBottom E_a (Or.inr ⟨(ow26 hw), rfl, rfl⟩) (ow2 hw) pf__I rfl rfl g_a (pc' := 111) od3_108 rfl (fun h108 X108 => ?_)
        replace F_a_toBottom := F_a_toBottom.same X108
        replace E_a := E_a.wr X108
        replace F_a_toPlace := F_a_toPlace.other X108 (Or.inr (sne_28_26 hw))
        replace A_b := A_b.other X108 (Ne.symm ne_a_b)
        replace A_b11 := A_b11.other X108 (Ne.symm ne_a_b11)
        replace F_a_prefixBits := F_a_prefixBits.other X108 (Or.inr (sne_20_26 hw))
        replace F_a_prefixMask := F_a_prefixMask.other X108 (Or.inr (sne_22_26 hw))
        replace A_b98 := A_b98.other X108 (Ne.symm ne_a_b98)
        replace F_a_toTop := F_a_toTop.other X108 (Or.inr (sne_24_26 hw))
        replace A_b106 := A_b106.other X108 (Ne.symm ne_a_b106)
        replace K := K.wr X108 (Or.inl (List.mem_of_getElem? (i := 0) rfl))
        refine C.aloadN (pc' := 112) od3_111 rfl rfl rfl ?_
        refine C.iload (pc' := 114) od3_112 rfl rfl ?_
        refine C.newAI (N := r) (cap := 64) (ow8 hw) (pc' := 116) od3_114 rfl hr inv2.2.2.1 (by decide) (by decide) (by decide) (fun h114 b114 hb114 X114 A_b114 => ?_)
        have ne_a_b114 : a ≠ b114 := by rw [hb114]; exact Nat.ne_of_lt (exaLt E_a)
        have ne_b_b114 : b ≠ b114 := by rw [hb114]; exact Nat.ne_of_lt A_b.lt
        have ne_b11_b114 : b11 ≠ b114 := by rw [hb114]; exact Nat.ne_of_lt A_b11.lt
        have ne_b98_b114 : b98 ≠ b114 := by rw [hb114]; exact Nat.ne_of_lt A_b98.lt
        have ne_b106_b114 : b106 ≠ b114 := by rw [hb114]; exact Nat.ne_of_lt A_b106.lt
        have sz_b114 : hO.size ≤ b114 := by rw [hb114]; exact K.1
        have g_b114 : n0 ≤ b114 := Nat.le_trans Z0 sz_b114
        replace E_a := E_a.ext X114
        replace F_a_toPlace := F_a_toPlace.ext X114
        replace A_b := A_b.ext X114
        replace A_b11 := A_b11.ext X114
        replace F_a_prefixBits := F_a_prefixBits.ext X114
        replace F_a_prefixMask := F_a_prefixMask.ext X114
        replace A_b98 := A_b98.ext X114
        replace F_a_toTop := F_a_toTop.ext X114
        replace A_b106 := A_b106.ext X114
        replace F_a_toBottom := F_a_toBottom.ext X114
        replace K := K.ext X114
        refine C.putf (ow27 hw) Via.refl F_a_toPlace E_a (Or.inr ⟨(ow28 hw), rfl, rfl⟩) (ow2 hw) pf__I rfl rfl g_a (pc' := 119) od3_116 rfl (fun h116 X116 => ?_)
        replace F_a_toPlace := F_a_toPlace.same X116
        replace E_a := E_a.wr X116
        replace A_b := A_b.other X116 (Ne.symm ne_a_b)
        replace A_b11 := A_b11.other X116 (Ne.symm ne_a_b11)
        replace F_a_prefixBits := F_a_prefixBits.other X116 (Or.inr (sne_20_28 hw))
        replace F_a_prefixMask := F_a_prefixMask.other X116 (Or.inr (sne_22_28 hw))
        replace A_b98 := A_b98.other X116 (Ne.symm ne_a_b98)
        replace F_a_toTop := F_a_toTop.other X116 (Or.inr (sne_24_28 hw))
        replace A_b106 := A_b106.other X116 (Ne.symm ne_a_b106)
        replace F_a_toBottom := F_a_toBottom.other X116 (Or.inr (sne_26_28 hw))
        replace A_b114 := A_b114.other X116 (Ne.symm ne_a_b114)
        replace K := K.wr X116 (Or.inl (List.mem_of_getElem? (i := 0) rfl))
        refine C.iconst (v := 0) (pc' := 120) od3_119 rfl rfl ?_
        refine C.istoreX (l' := #[.val (.ref a), .val (.ref b), .val (.int p), .val (.long (maskL O Pn)), .second, .val (.int rv), .val (.ref b11), .val (.int (0 : Int32)), .unset]) (pc' := 122) od3_120 rfl rfl ?_
        have lp122 : ∀ (fu : Nat) (hM : Heap) (j : Nat) (jv : Int32) (zz : Slot) (T : List Int32) (B : List Int32) (Q : List Int32), (j + fu = r) → (jv.toInt = (j : Int)) → (TabTo O S2 T B Q r j) → (zz = .unset ∨ ∃ v, zz = .val (.int v)) → (Keep hO hM [a]) → (Exa Z hM a "com/example/hyperplane/hyperplane/index/Table") → (AI Z hM b O) → (AI Z hM b11 S2) → (Fld Z hM a "com/example/hyperplane/hyperplane/index/Table" "prefixBits" "I" (.int p)) → (Fld Z hM a "com/example/hyperplane/hyperplane/index/Table" "prefixMask" "J" (.long (maskL O Pn))) → (AI Z hM b98 T) → (Fld Z hM a "com/example/hyperplane/hyperplane/index/Table" "toTop" "[I" (.ref b98)) → (AI Z hM b106 B) → (Fld Z hM a "com/example/hyperplane/hyperplane/index/Table" "toBottom" "[I" (.ref b106)) → (AI Z hM b114 Q) → (Fld Z hM a "com/example/hyperplane/hyperplane/index/Table" "toPlace" "[I" (.ref b114)) → W hM 4 257 122 #[.val (.ref a), .val (.ref b), .val (.int p), .val (.long (maskL O Pn)), .second, .val (.int rv), .val (.ref b11), .val (.int jv), zz] [] := by
          intro fu
          induction fu using Nat.strongRecOn with
          | _ fu ih =>
            intro hM j jv zz T B Q gf hj tab hz K E_a A_b A_b11 F_a_prefixBits F_a_prefixMask A_b98 F_a_toTop A_b106 F_a_toBottom A_b114 F_a_toPlace
            rcases hz with rfl | ⟨z8, rfl⟩
            · skip
              refine C.iload (pc' := 124) od3_122 rfl rfl ?_
              refine C.iload (pc' := 126) od3_124 rfl rfl ?_
              refine C.icmp_ge (pc' := 129) (pt := 194) od3_126 rfl rfl (fun c126 => ?_) (fun c126 => ?_)
              · skip
                refine C.retV rfl od3_194 (by decide) (by decide) ⟨rfl, ?_⟩
                exact ⟨b98, b106, b114, T, B, Q, ⟨S2, r, inv2, own_full tab (mt (Jvm.OwnP.lt_iff hj hr).mpr c126) gf⟩, K, sz_b98, sz_b106, sz_b114, F_a_prefixMask, F_a_toTop, F_a_toBottom, F_a_toPlace, A_b98, A_b106, A_b114⟩
              · skip
                refine C.aload (pc' := 131) od3_129 rfl rfl rfl ?_
                refine C.iload (pc' := 133) od3_131 rfl rfl ?_
                refine C.iconst (v := 1) (pc' := 134) od3_133 rfl rfl ?_
                refine C.iadd (pc' := 135) od3_134 rfl ?_
                refine C.ldAI (i := (j + 1)) (v := (S2.getD (j + 1) 0)) A_b11 (Jvm.OwnP.inc_toInt hj (by have := ((Jvm.OwnP.lt_iff hj hr).mp c126); have := inv2.2.2.1; omega) rfl) (Jvm.OwnP.getD_some (by have := ((Jvm.OwnP.lt_iff hj hr).mp c126); have := inv2.2.2.1; rw [inv2.1]; omega)) (pc' := 136) od3_135 rfl ?_
                refine C.aload (pc' := 138) od3_136 rfl rfl rfl ?_
                refine C.iload (pc' := 140) od3_138 rfl rfl ?_
                refine C.ldAI (i := j) (v := (S2.getD j 0)) A_b11 hj (Jvm.OwnP.getD_some (by have := ((Jvm.OwnP.lt_iff hj hr).mp c126); have := inv2.2.2.1; rw [inv2.1]; omega)) (pc' := 141) od3_140 rfl ?_
                refine C.isub (pc' := 142) od3_141 rfl ?_
                refine C.istore (f := fun v_ => #[.val (.ref a), .val (.ref b), .val (.int p), .val (.long (maskL O Pn)), .second, .val (.int rv), .val (.ref b11), .val (.int jv), .val (.int v_)]) (pc' := 144) od3_142 rfl (fun _ => rfl) (fun v142 e142 => ?_)
                refine C.aloadN (pc' := 145) od3_144 rfl rfl rfl ?_
                refine C.getf (ow23 hw) Via.refl F_a_toTop (pc' := 148) od3_145 rfl ?_
                refine C.iload (pc' := 150) od3_148 rfl rfl ?_
                refine C.aloadN (pc' := 151) od3_150 rfl rfl rfl ?_
                refine C.aload (pc' := 153) od3_151 rfl rfl rfl ?_
                refine C.iload (pc' := 155) od3_153 rfl rfl ?_
                refine C.ldAI (i := j) (v := (S2.getD j 0)) A_b11 hj (Jvm.OwnP.getD_some (by have := ((Jvm.OwnP.lt_iff hj hr).mp c126); have := inv2.2.2.1; rw [inv2.1]; omega)) (pc' := 156) od3_155 rfl ?_
                refine C.ldAI (i := (sv S2 j)) (v := (O.getD (sv S2 j) 0)) A_b (inv2.2.2.2.2.1 j (Nat.le_of_lt ((Jvm.OwnP.lt_iff hj hr).mp c126))) (Jvm.OwnP.getD_some (by rw [hok.1]; exact inv2.2.2.2.2.2.1 j ((Jvm.OwnP.lt_iff hj hr).mp c126))) (pc' := 157) od3_156 rfl ?_
                refine C.stAI (i := j) A_b98 hj (by rw [tab.1]; exact ((Jvm.OwnP.lt_iff hj hr).mp c126)) g_b98 (pc' := 158) od3_157 rfl (fun h157 X157 B157 => ?_)
                replace E_a := E_a.wr X157
                replace A_b := A_b.other X157 ne_b_b98
                replace A_b11 := A_b11.other X157 ne_b11_b98
                replace F_a_prefixBits := F_a_prefixBits.other X157 (Or.inl ne_a_b98)
                replace F_a_prefixMask := F_a_prefixMask.other X157 (Or.inl ne_a_b98)
                replace F_a_toTop := F_a_toTop.other X157 (Or.inl ne_a_b98)
                replace A_b106 := A_b106.other X157 (Ne.symm ne_b98_b106)
                replace F_a_toBottom := F_a_toBottom.other X157 (Or.inl ne_a_b98)
                replace A_b114 := A_b114.other X157 (Ne.symm ne_b98_b114)
                replace F_a_toPlace := F_a_toPlace.other X157 (Or.inl ne_a_b98)
                have A_b98 : AI Z h157 b98 (T.set j (O.getD (sv S2 j) 0)) := B157
                replace K := K.wr X157 (Or.inr sz_b98)
                refine C.aloadN (pc' := 159) od3_158 rfl rfl rfl ?_
                refine C.getf (ow25 hw) Via.refl F_a_toBottom (pc' := 162) od3_159 rfl ?_
                refine C.iload (pc' := 164) od3_162 rfl rfl ?_
                refine C.bipush (v := 64) (pc' := 166) od3_164 rfl rfl ?_
                refine C.iload (pc' := 168) od3_166 rfl rfl ?_
                refine C.isub (pc' := 169) od3_168 rfl ?_
                refine C.stAI (i := j) A_b106 hj (by rw [tab.2.1]; exact ((Jvm.OwnP.lt_iff hj hr).mp c126)) g_b106 (pc' := 170) od3_169 rfl (fun h169 X169 B169 => ?_)
                replace E_a := E_a.wr X169
                replace A_b := A_b.other X169 ne_b_b106
                replace A_b11 := A_b11.other X169 ne_b11_b106
                replace F_a_prefixBits := F_a_prefixBits.other X169 (Or.inl ne_a_b106)
                replace F_a_prefixMask := F_a_prefixMask.other X169 (Or.inl ne_a_b106)
                replace F_a_toTop := F_a_toTop.other X169 (Or.inl ne_a_b106)
                replace F_a_toBottom := F_a_toBottom.other X169 (Or.inl ne_a_b106)
                replace A_b114 := A_b114.other X169 (Ne.symm ne_b106_b114)
                replace F_a_toPlace := F_a_toPlace.other X169 (Or.inl ne_a_b106)
                replace A_b98 := A_b98.other X169 ne_b98_b106
                have A_b106 : AI Z h169 b106 (B.set j ((64 : Int32) - v142)) := B169
                replace K := K.wr X169 (Or.inr sz_b106)
                refine C.aloadN (pc' := 171) od3_170 rfl rfl rfl ?_
                refine C.getf (ow27 hw) Via.refl F_a_toPlace (pc' := 174) od3_171 rfl ?_
                refine C.iload (pc' := 176) od3_174 rfl rfl ?_
                refine C.bipush (v := 64) (pc' := 178) od3_176 rfl rfl ?_
                refine C.aload (pc' := 180) od3_178 rfl rfl rfl ?_
                refine C.iload (pc' := 182) od3_180 rfl rfl ?_
                refine C.ldAI (i := j) (v := (S2.getD j 0)) A_b11 hj (Jvm.OwnP.getD_some (by have := ((Jvm.OwnP.lt_iff hj hr).mp c126); have := inv2.2.2.1; rw [inv2.1]; omega)) (pc' := 183) od3_182 rfl ?_
                refine C.isub (pc' := 184) od3_183 rfl ?_
                refine C.iload (pc' := 186) od3_184 rfl rfl ?_
                refine C.isub (pc' := 187) od3_186 rfl ?_
                refine C.stAI (i := j) A_b114 hj (by rw [tab.2.2.1]; exact ((Jvm.OwnP.lt_iff hj hr).mp c126)) g_b114 (pc' := 188) od3_187 rfl (fun h187 X187 B187 => ?_)
                replace E_a := E_a.wr X187
                replace A_b := A_b.other X187 ne_b_b114
                replace A_b11 := A_b11.other X187 ne_b11_b114
                replace F_a_prefixBits := F_a_prefixBits.other X187 (Or.inl ne_a_b114)
                replace F_a_prefixMask := F_a_prefixMask.other X187 (Or.inl ne_a_b114)
                replace F_a_toTop := F_a_toTop.other X187 (Or.inl ne_a_b114)
                replace F_a_toBottom := F_a_toBottom.other X187 (Or.inl ne_a_b114)
                replace F_a_toPlace := F_a_toPlace.other X187 (Or.inl ne_a_b114)
                replace A_b98 := A_b98.other X187 ne_b98_b114
                replace A_b106 := A_b106.other X187 ne_b106_b114
                have A_b114 : AI Z h187 b114 (Q.set j (((64 : Int32) - (S2.getD j 0)) - v142)) := B187
                replace K := K.wr X187 (Or.inr sz_b114)
                refine C.iinc (d := 1) (f := fun v_ => #[.val (.ref a), .val (.ref b), .val (.int p), .val (.long (maskL O Pn)), .second, .val (.int rv), .val (.ref b11), .val (.int v_), .val (.int v142)]) (pc' := 191) od3_188 rfl rfl rfl (fun _ => rfl) (fun v188 e188 => ?_)
                refine C.goto (pc' := 122) od3_191 rfl ?_
                exact ih (fu - 1) (by have := ((Jvm.OwnP.lt_iff hj hr).mp c126); omega) _ (j + 1) _ _ _ _ _ (by have := ((Jvm.OwnP.lt_iff hj hr).mp c126); omega) (Jvm.OwnP.inc_toInt hj (by have := ((Jvm.OwnP.lt_iff hj hr).mp c126); have := inv2.2.2.1; omega) e188) (tab_step hok inv2 ((Jvm.OwnP.lt_iff hj hr).mp c126) tab e142) (Or.inr ⟨_, rfl⟩) K E_a A_b A_b11 F_a_prefixBits F_a_prefixMask A_b98 F_a_toTop A_b106 F_a_toBottom A_b114 F_a_toPlace
            · skip
              refine C.iload (pc' := 124) od3_122 rfl rfl ?_
              refine C.iload (pc' := 126) od3_124 rfl rfl ?_
              refine C.icmp_ge (pc' := 129) (pt := 194) od3_126 rfl rfl (fun c126 => ?_) (fun c126 => ?_)
              · skip
                refine C.retV rfl od3_194 (by decide) (by decide) ⟨rfl, ?_⟩
                exact ⟨b98, b106, b114, T, B, Q, ⟨S2, r, inv2, own_full tab (mt (Jvm.OwnP.lt_iff hj hr).mpr c126) gf⟩, K, sz_b98, sz_b106, sz_b114, F_a_prefixMask, F_a_toTop, F_a_toBottom, F_a_toPlace, A_b98, A_b106, A_b114⟩
              · skip
                refine C.aload (pc' := 131) od3_129 rfl rfl rfl ?_
                refine C.iload (pc' := 133) od3_131 rfl rfl ?_
                refine C.iconst (v := 1) (pc' := 134) od3_133 rfl rfl ?_
                refine C.iadd (pc' := 135) od3_134 rfl ?_
                refine C.ldAI (i := (j + 1)) (v := (S2.getD (j + 1) 0)) A_b11 (Jvm.OwnP.inc_toInt hj (by have := ((Jvm.OwnP.lt_iff hj hr).mp c126); have := inv2.2.2.1; omega) rfl) (Jvm.OwnP.getD_some (by have := ((Jvm.OwnP.lt_iff hj hr).mp c126); have := inv2.2.2.1; rw [inv2.1]; omega)) (pc' := 136) od3_135 rfl ?_
                refine C.aload (pc' := 138) od3_136 rfl rfl rfl ?_
                refine C.iload (pc' := 140) od3_138 rfl rfl ?_
                refine C.ldAI (i := j) (v := (S2.getD j 0)) A_b11 hj (Jvm.OwnP.getD_some (by have := ((Jvm.OwnP.lt_iff hj hr).mp c126); have := inv2.2.2.1; rw [inv2.1]; omega)) (pc' := 141) od3_140 rfl ?_
                refine C.isub (pc' := 142) od3_141 rfl ?_
                refine C.istore (f := fun v_ => #[.val (.ref a), .val (.ref b), .val (.int p), .val (.long (maskL O Pn)), .second, .val (.int rv), .val (.ref b11), .val (.int jv), .val (.int v_)]) (pc' := 144) od3_142 rfl (fun _ => rfl) (fun v142 e142 => ?_)
                refine C.aloadN (pc' := 145) od3_144 rfl rfl rfl ?_
                refine C.getf (ow23 hw) Via.refl F_a_toTop (pc' := 148) od3_145 rfl ?_
                refine C.iload (pc' := 150) od3_148 rfl rfl ?_
                refine C.aloadN (pc' := 151) od3_150 rfl rfl rfl ?_
                refine C.aload (pc' := 153) od3_151 rfl rfl rfl ?_
                refine C.iload (pc' := 155) od3_153 rfl rfl ?_
                refine C.ldAI (i := j) (v := (S2.getD j 0)) A_b11 hj (Jvm.OwnP.getD_some (by have := ((Jvm.OwnP.lt_iff hj hr).mp c126); have := inv2.2.2.1; rw [inv2.1]; omega)) (pc' := 156) od3_155 rfl ?_
                refine C.ldAI (i := (sv S2 j)) (v := (O.getD (sv S2 j) 0)) A_b (inv2.2.2.2.2.1 j (Nat.le_of_lt ((Jvm.OwnP.lt_iff hj hr).mp c126))) (Jvm.OwnP.getD_some (by rw [hok.1]; exact inv2.2.2.2.2.2.1 j ((Jvm.OwnP.lt_iff hj hr).mp c126))) (pc' := 157) od3_156 rfl ?_
                refine C.stAI (i := j) A_b98 hj (by rw [tab.1]; exact ((Jvm.OwnP.lt_iff hj hr).mp c126)) g_b98 (pc' := 158) od3_157 rfl (fun h157 X157 B157 => ?_)
                replace E_a := E_a.wr X157
                replace A_b := A_b.other X157 ne_b_b98
                replace A_b11 := A_b11.other X157 ne_b11_b98
                replace F_a_prefixBits := F_a_prefixBits.other X157 (Or.inl ne_a_b98)
                replace F_a_prefixMask := F_a_prefixMask.other X157 (Or.inl ne_a_b98)
                replace F_a_toTop := F_a_toTop.other X157 (Or.inl ne_a_b98)
                replace A_b106 := A_b106.other X157 (Ne.symm ne_b98_b106)
                replace F_a_toBottom := F_a_toBottom.other X157 (Or.inl ne_a_b98)
                replace A_b114 := A_b114.other X157 (Ne.symm ne_b98_b114)
                replace F_a_toPlace := F_a_toPlace.other X157 (Or.inl ne_a_b98)
                have A_b98 : AI Z h157 b98 (T.set j (O.getD (sv S2 j) 0)) := B157
                replace K := K.wr X157 (Or.inr sz_b98)
                refine C.aloadN (pc' := 159) od3_158 rfl rfl rfl ?_
                refine C.getf (ow25 hw) Via.refl F_a_toBottom (pc' := 162) od3_159 rfl ?_
                refine C.iload (pc' := 164) od3_162 rfl rfl ?_
                refine C.bipush (v := 64) (pc' := 166) od3_164 rfl rfl ?_
                refine C.iload (pc' := 168) od3_166 rfl rfl ?_
                refine C.isub (pc' := 169) od3_168 rfl ?_
                refine C.stAI (i := j) A_b106 hj (by rw [tab.2.1]; exact ((Jvm.OwnP.lt_iff hj hr).mp c126)) g_b106 (pc' := 170) od3_169 rfl (fun h169 X169 B169 => ?_)
                replace E_a := E_a.wr X169
                replace A_b := A_b.other X169 ne_b_b106
                replace A_b11 := A_b11.other X169 ne_b11_b106
                replace F_a_prefixBits := F_a_prefixBits.other X169 (Or.inl ne_a_b106)
                replace F_a_prefixMask := F_a_prefixMask.other X169 (Or.inl ne_a_b106)
                replace F_a_toTop := F_a_toTop.other X169 (Or.inl ne_a_b106)
                replace F_a_toBottom := F_a_toBottom.other X169 (Or.inl ne_a_b106)
                replace A_b114 := A_b114.other X169 (Ne.symm ne_b106_b114)
                replace F_a_toPlace := F_a_toPlace.other X169 (Or.inl ne_a_b106)
                replace A_b98 := A_b98.other X169 ne_b98_b106
                have A_b106 : AI Z h169 b106 (B.set j ((64 : Int32) - v142)) := B169
                replace K := K.wr X169 (Or.inr sz_b106)
                refine C.aloadN (pc' := 171) od3_170 rfl rfl rfl ?_
                refine C.getf (ow27 hw) Via.refl F_a_toPlace (pc' := 174) od3_171 rfl ?_
                refine C.iload (pc' := 176) od3_174 rfl rfl ?_
                refine C.bipush (v := 64) (pc' := 178) od3_176 rfl rfl ?_
                refine C.aload (pc' := 180) od3_178 rfl rfl rfl ?_
                refine C.iload (pc' := 182) od3_180 rfl rfl ?_
                refine C.ldAI (i := j) (v := (S2.getD j 0)) A_b11 hj (Jvm.OwnP.getD_some (by have := ((Jvm.OwnP.lt_iff hj hr).mp c126); have := inv2.2.2.1; rw [inv2.1]; omega)) (pc' := 183) od3_182 rfl ?_
                refine C.isub (pc' := 184) od3_183 rfl ?_
                refine C.iload (pc' := 186) od3_184 rfl rfl ?_
                refine C.isub (pc' := 187) od3_186 rfl ?_
                refine C.stAI (i := j) A_b114 hj (by rw [tab.2.2.1]; exact ((Jvm.OwnP.lt_iff hj hr).mp c126)) g_b114 (pc' := 188) od3_187 rfl (fun h187 X187 B187 => ?_)
                replace E_a := E_a.wr X187
                replace A_b := A_b.other X187 ne_b_b114
                replace A_b11 := A_b11.other X187 ne_b11_b114
                replace F_a_prefixBits := F_a_prefixBits.other X187 (Or.inl ne_a_b114)
                replace F_a_prefixMask := F_a_prefixMask.other X187 (Or.inl ne_a_b114)
                replace F_a_toTop := F_a_toTop.other X187 (Or.inl ne_a_b114)
                replace F_a_toBottom := F_a_toBottom.other X187 (Or.inl ne_a_b114)
                replace F_a_toPlace := F_a_toPlace.other X187 (Or.inl ne_a_b114)
                replace A_b98 := A_b98.other X187 ne_b98_b114
                replace A_b106 := A_b106.other X187 ne_b106_b114
                have A_b114 : AI Z h187 b114 (Q.set j (((64 : Int32) - (S2.getD j 0)) - v142)) := B187
                replace K := K.wr X187 (Or.inr sz_b114)
                refine C.iinc (d := 1) (f := fun v_ => #[.val (.ref a), .val (.ref b), .val (.int p), .val (.long (maskL O Pn)), .second, .val (.int rv), .val (.ref b11), .val (.int v_), .val (.int v142)]) (pc' := 191) od3_188 rfl rfl rfl (fun _ => rfl) (fun v188 e188 => ?_)
                refine C.goto (pc' := 122) od3_191 rfl ?_
                exact ih (fu - 1) (by have := ((Jvm.OwnP.lt_iff hj hr).mp c126); omega) _ (j + 1) _ _ _ _ _ (by have := ((Jvm.OwnP.lt_iff hj hr).mp c126); omega) (Jvm.OwnP.inc_toInt hj (by have := ((Jvm.OwnP.lt_iff hj hr).mp c126); have := inv2.2.2.1; omega) e188) (tab_step hok inv2 ((Jvm.OwnP.lt_iff hj hr).mp c126) tab e142) (Or.inr ⟨_, rfl⟩) K E_a A_b A_b11 F_a_prefixBits F_a_prefixMask A_b98 F_a_toTop A_b106 F_a_toBottom A_b114 F_a_toPlace
        exact lp122 r _ 0 _ _ _ _ _ (by omega) rfl tab_zero (Or.inl rfl) K E_a A_b A_b11 F_a_prefixBits F_a_prefixMask A_b98 F_a_toTop A_b106 F_a_toBottom A_b114 F_a_toPlace
      · skip
        refine C.iload (pc' := 27) od3_25 rfl rfl ?_
        refine C.iloadN (pc' := 28) od3_27 rfl rfl ?_
        refine C.icmp_ge (pc' := 31) (pt := 42) od3_28 rfl rfl (fun c28 => ?_) (fun c28 => ?_)
        · skip
          refine C.iload (pc' := 44) od3_42 rfl rfl ?_
          refine C.if_eq (pc' := 47) (pt := 62) od3_44 rfl rfl (fun c44 => ?_) (fun c44 => ?_)
          · skip
            refine C.aload (pc' := 64) od3_62 rfl rfl rfl ?_
            refine C.iload (pc' := 66) od3_64 rfl rfl ?_
            refine C.iload (pc' := 68) od3_66 rfl rfl ?_
            refine C.stAI (i := r) A_b11 hr (by have := ((Jvm.OwnP.lt_iff hi (show (64 : Int32).toInt = ((64 : Nat) : Int) from by decide)).mp c22); have := inv.2.1; rw [inv.1]; omega) g_b11 (pc' := 69) od3_68 rfl (fun h68 X68 B68 => ?_)
            replace E_a := E_a.wr X68
            replace F_a_prefixBits := F_a_prefixBits.other X68 (Or.inl ne_a_b11)
            replace F_a_prefixMask := F_a_prefixMask.other X68 (Or.inl ne_a_b11)
            replace F_a_toTop := F_a_toTop.other X68 (Or.inl ne_a_b11)
            replace F_a_toBottom := F_a_toBottom.other X68 (Or.inl ne_a_b11)
            replace F_a_toPlace := F_a_toPlace.other X68 (Or.inl ne_a_b11)
            replace A_b := A_b.other X68 ne_b_b11
            have A_b11 : AI Z h68 b11 (S.set r iv) := B68
            replace K := K.wr X68 (Or.inr sz_b11)
            refine C.iinc (d := 1) (f := fun v_ => #[.val (.ref a), .val (.ref b), .val (.int p), .val (.long mk), .second, .val (.int v_), .val (.ref b11), .val (.int iv), .unset]) (pc' := 72) od3_69 rfl rfl rfl (fun _ => rfl) (fun v69 e69 => ?_)
            refine C.iinc (d := 1) (f := fun v_ => #[.val (.ref a), .val (.ref b), .val (.int p), .val (.long mk), .second, .val (.int v69), .val (.ref b11), .val (.int v_), .unset]) (pc' := 75) od3_72 rfl rfl rfl (fun _ => rfl) (fun v72 e72 => ?_)
            refine C.goto (pc' := 18) od3_75 rfl ?_
            exact ih (fu - 1) (by have := ((Jvm.OwnP.lt_iff hi (show (64 : Int32).toInt = ((64 : Nat) : Int) from by decide)).mp c22); omega) _ (i + 1) (r + 1) _ _ _ _ (by have := ((Jvm.OwnP.lt_iff hi (show (64 : Int32).toInt = ((64 : Nat) : Int) from by decide)).mp c22); omega) (Jvm.OwnP.inc_toInt hi (by have := ((Jvm.OwnP.lt_iff hi (show (64 : Int32).toInt = ((64 : Nat) : Int) from by decide)).mp c22); omega) e72) (Jvm.OwnP.inc_toInt hr (by have := inv.2.1; have := ((Jvm.OwnP.lt_iff hi (show (64 : Int32).toInt = ((64 : Nat) : Int) from by decide)).mp c22); omega) e69) (own_mk0 hm (fun q => c28 ((Jvm.OwnP.lt_iff hi hp).mpr q))) (inv1_add hi ((Jvm.OwnP.lt_iff hi (show (64 : Int32).toInt = ((64 : Nat) : Int) from by decide)).mp c22) inv) K E_a F_a_prefixBits F_a_prefixMask F_a_toTop F_a_toBottom F_a_toPlace A_b A_b11
          · skip
            refine C.aloadN (pc' := 48) od3_47 rfl rfl rfl ?_
            refine C.iload (pc' := 50) od3_48 rfl rfl ?_
            refine C.ldAI (i := i) (v := (O.getD i 0)) A_b hi (Jvm.OwnP.getD_some (by rw [hok.1]; exact ((Jvm.OwnP.lt_iff hi (show (64 : Int32).toInt = ((64 : Nat) : Int) from by decide)).mp c22))) (pc' := 51) od3_50 rfl ?_
            refine C.aloadN (pc' := 52) od3_51 rfl rfl rfl ?_
            refine C.iload (pc' := 54) od3_52 rfl rfl ?_
            refine C.iconst (v := 1) (pc' := 55) od3_54 rfl rfl ?_
            refine C.isub (pc' := 56) od3_55 rfl ?_
            refine C.ldAI (i := (i - 1)) (v := (O.getD (i - 1) 0)) A_b (own_dec hi (own_i0 hi c44)) (Jvm.OwnP.getD_some (by have := ((Jvm.OwnP.lt_iff hi (show (64 : Int32).toInt = ((64 : Nat) : Int) from by decide)).mp c22); rw [hok.1]; omega)) (pc' := 57) od3_56 rfl ?_
            refine C.iconst (v := 1) (pc' := 58) od3_57 rfl rfl ?_
            refine C.iadd (pc' := 59) od3_58 rfl ?_
            refine C.icmp_eq (pc' := 62) (pt := 72) od3_59 rfl rfl (fun c59 => ?_) (fun c59 => ?_)
            · skip
              refine C.iinc (d := 1) (f := fun v_ => #[.val (.ref a), .val (.ref b), .val (.int p), .val (.long mk), .second, .val (.int rv), .val (.ref b11), .val (.int v_), .unset]) (pc' := 75) od3_72 rfl rfl rfl (fun _ => rfl) (fun v72 e72 => ?_)
              refine C.goto (pc' := 18) od3_75 rfl ?_
              exact ih (fu - 1) (by have := ((Jvm.OwnP.lt_iff hi (show (64 : Int32).toInt = ((64 : Nat) : Int) from by decide)).mp c22); omega) _ (i + 1) r _ _ _ _ (by have := ((Jvm.OwnP.lt_iff hi (show (64 : Int32).toInt = ((64 : Nat) : Int) from by decide)).mp c22); omega) (Jvm.OwnP.inc_toInt hi (by have := ((Jvm.OwnP.lt_iff hi (show (64 : Int32).toInt = ((64 : Nat) : Int) from by decide)).mp c22); omega) e72) hr (own_mk0 hm (fun q => c28 ((Jvm.OwnP.lt_iff hi hp).mpr q))) (inv1_run hok ((Jvm.OwnP.lt_iff hi (show (64 : Int32).toInt = ((64 : Nat) : Int) from by decide)).mp c22) (own_i0 hi c44) (own_prev hi hok ((Jvm.OwnP.lt_iff hi (show (64 : Int32).toInt = ((64 : Nat) : Int) from by decide)).mp c22) (own_i0 hi c44) c59) inv) K E_a F_a_prefixBits F_a_prefixMask F_a_toTop F_a_toBottom F_a_toPlace A_b A_b11
            · skip
              refine C.aload (pc' := 64) od3_62 rfl rfl rfl ?_
              refine C.iload (pc' := 66) od3_64 rfl rfl ?_
              refine C.iload (pc' := 68) od3_66 rfl rfl ?_
              refine C.stAI (i := r) A_b11 hr (by have := ((Jvm.OwnP.lt_iff hi (show (64 : Int32).toInt = ((64 : Nat) : Int) from by decide)).mp c22); have := inv.2.1; rw [inv.1]; omega) g_b11 (pc' := 69) od3_68 rfl (fun h68 X68 B68 => ?_)
              replace E_a := E_a.wr X68
              replace F_a_prefixBits := F_a_prefixBits.other X68 (Or.inl ne_a_b11)
              replace F_a_prefixMask := F_a_prefixMask.other X68 (Or.inl ne_a_b11)
              replace F_a_toTop := F_a_toTop.other X68 (Or.inl ne_a_b11)
              replace F_a_toBottom := F_a_toBottom.other X68 (Or.inl ne_a_b11)
              replace F_a_toPlace := F_a_toPlace.other X68 (Or.inl ne_a_b11)
              replace A_b := A_b.other X68 ne_b_b11
              have A_b11 : AI Z h68 b11 (S.set r iv) := B68
              replace K := K.wr X68 (Or.inr sz_b11)
              refine C.iinc (d := 1) (f := fun v_ => #[.val (.ref a), .val (.ref b), .val (.int p), .val (.long mk), .second, .val (.int v_), .val (.ref b11), .val (.int iv), .unset]) (pc' := 72) od3_69 rfl rfl rfl (fun _ => rfl) (fun v69 e69 => ?_)
              refine C.iinc (d := 1) (f := fun v_ => #[.val (.ref a), .val (.ref b), .val (.int p), .val (.long mk), .second, .val (.int v69), .val (.ref b11), .val (.int v_), .unset]) (pc' := 75) od3_72 rfl rfl rfl (fun _ => rfl) (fun v72 e72 => ?_)
              refine C.goto (pc' := 18) od3_75 rfl ?_
              exact ih (fu - 1) (by have := ((Jvm.OwnP.lt_iff hi (show (64 : Int32).toInt = ((64 : Nat) : Int) from by decide)).mp c22); omega) _ (i + 1) (r + 1) _ _ _ _ (by have := ((Jvm.OwnP.lt_iff hi (show (64 : Int32).toInt = ((64 : Nat) : Int) from by decide)).mp c22); omega) (Jvm.OwnP.inc_toInt hi (by have := ((Jvm.OwnP.lt_iff hi (show (64 : Int32).toInt = ((64 : Nat) : Int) from by decide)).mp c22); omega) e72) (Jvm.OwnP.inc_toInt hr (by have := inv.2.1; have := ((Jvm.OwnP.lt_iff hi (show (64 : Int32).toInt = ((64 : Nat) : Int) from by decide)).mp c22); omega) e69) (own_mk0 hm (fun q => c28 ((Jvm.OwnP.lt_iff hi hp).mpr q))) (inv1_add hi ((Jvm.OwnP.lt_iff hi (show (64 : Int32).toInt = ((64 : Nat) : Int) from by decide)).mp c22) inv) K E_a F_a_prefixBits F_a_prefixMask F_a_toTop F_a_toBottom F_a_toPlace A_b A_b11
        · skip
          refine C.lloadN (pc' := 32) od3_31 rfl rfl ?_
          refine C.ldcJ (ow18 hw) (pc' := 35) od3_32 rfl ?_
          refine C.aloadN (pc' := 36) od3_35 rfl rfl rfl ?_
          refine C.iload (pc' := 38) od3_36 rfl rfl ?_
          refine C.ldAI (i := i) (v := (O.getD i 0)) A_b hi (Jvm.OwnP.getD_some (by rw [hok.1]; exact ((Jvm.OwnP.lt_iff hi (show (64 : Int32).toInt = ((64 : Nat) : Int) from by decide)).mp c22))) (pc' := 39) od3_38 rfl ?_
          refine C.lushr (pc' := 40) od3_39 rfl rfl ?_
          refine C.lor (pc' := 41) od3_40 rfl ?_
          refine C.lstoreN (f := fun v_ => #[.val (.ref a), .val (.ref b), .val (.int p), .val (.long v_), .second, .val (.int rv), .val (.ref b11), .val (.int iv), .unset]) (pc' := 42) od3_41 rfl (fun _ => rfl) (fun v41 e41 => ?_)
          refine C.iload (pc' := 44) od3_42 rfl rfl ?_
          refine C.if_eq (pc' := 47) (pt := 62) od3_44 rfl rfl (fun c44 => ?_) (fun c44 => ?_)
          · skip
            refine C.aload (pc' := 64) od3_62 rfl rfl rfl ?_
            refine C.iload (pc' := 66) od3_64 rfl rfl ?_
            refine C.iload (pc' := 68) od3_66 rfl rfl ?_
            refine C.stAI (i := r) A_b11 hr (by have := ((Jvm.OwnP.lt_iff hi (show (64 : Int32).toInt = ((64 : Nat) : Int) from by decide)).mp c22); have := inv.2.1; rw [inv.1]; omega) g_b11 (pc' := 69) od3_68 rfl (fun h68 X68 B68 => ?_)
            replace E_a := E_a.wr X68
            replace F_a_prefixBits := F_a_prefixBits.other X68 (Or.inl ne_a_b11)
            replace F_a_prefixMask := F_a_prefixMask.other X68 (Or.inl ne_a_b11)
            replace F_a_toTop := F_a_toTop.other X68 (Or.inl ne_a_b11)
            replace F_a_toBottom := F_a_toBottom.other X68 (Or.inl ne_a_b11)
            replace F_a_toPlace := F_a_toPlace.other X68 (Or.inl ne_a_b11)
            replace A_b := A_b.other X68 ne_b_b11
            have A_b11 : AI Z h68 b11 (S.set r iv) := B68
            replace K := K.wr X68 (Or.inr sz_b11)
            refine C.iinc (d := 1) (f := fun v_ => #[.val (.ref a), .val (.ref b), .val (.int p), .val (.long v41), .second, .val (.int v_), .val (.ref b11), .val (.int iv), .unset]) (pc' := 72) od3_69 rfl rfl rfl (fun _ => rfl) (fun v69 e69 => ?_)
            refine C.iinc (d := 1) (f := fun v_ => #[.val (.ref a), .val (.ref b), .val (.int p), .val (.long v41), .second, .val (.int v69), .val (.ref b11), .val (.int v_), .unset]) (pc' := 75) od3_72 rfl rfl rfl (fun _ => rfl) (fun v72 e72 => ?_)
            refine C.goto (pc' := 18) od3_75 rfl ?_
            exact ih (fu - 1) (by have := ((Jvm.OwnP.lt_iff hi (show (64 : Int32).toInt = ((64 : Nat) : Int) from by decide)).mp c22); omega) _ (i + 1) (r + 1) _ _ _ _ (by have := ((Jvm.OwnP.lt_iff hi (show (64 : Int32).toInt = ((64 : Nat) : Int) from by decide)).mp c22); omega) (Jvm.OwnP.inc_toInt hi (by have := ((Jvm.OwnP.lt_iff hi (show (64 : Int32).toInt = ((64 : Nat) : Int) from by decide)).mp c22); omega) e72) (Jvm.OwnP.inc_toInt hr (by have := inv.2.1; have := ((Jvm.OwnP.lt_iff hi (show (64 : Int32).toInt = ((64 : Nat) : Int) from by decide)).mp c22); omega) e69) (own_mk1 hm ((Jvm.OwnP.lt_iff hi hp).mp c28) e41) (inv1_add hi ((Jvm.OwnP.lt_iff hi (show (64 : Int32).toInt = ((64 : Nat) : Int) from by decide)).mp c22) inv) K E_a F_a_prefixBits F_a_prefixMask F_a_toTop F_a_toBottom F_a_toPlace A_b A_b11
          · skip
            refine C.aloadN (pc' := 48) od3_47 rfl rfl rfl ?_
            refine C.iload (pc' := 50) od3_48 rfl rfl ?_
            refine C.ldAI (i := i) (v := (O.getD i 0)) A_b hi (Jvm.OwnP.getD_some (by rw [hok.1]; exact ((Jvm.OwnP.lt_iff hi (show (64 : Int32).toInt = ((64 : Nat) : Int) from by decide)).mp c22))) (pc' := 51) od3_50 rfl ?_
            refine C.aloadN (pc' := 52) od3_51 rfl rfl rfl ?_
            refine C.iload (pc' := 54) od3_52 rfl rfl ?_
            refine C.iconst (v := 1) (pc' := 55) od3_54 rfl rfl ?_
            refine C.isub (pc' := 56) od3_55 rfl ?_
            refine C.ldAI (i := (i - 1)) (v := (O.getD (i - 1) 0)) A_b (own_dec hi (own_i0 hi c44)) (Jvm.OwnP.getD_some (by have := ((Jvm.OwnP.lt_iff hi (show (64 : Int32).toInt = ((64 : Nat) : Int) from by decide)).mp c22); rw [hok.1]; omega)) (pc' := 57) od3_56 rfl ?_
            refine C.iconst (v := 1) (pc' := 58) od3_57 rfl rfl ?_
            refine C.iadd (pc' := 59) od3_58 rfl ?_
            refine C.icmp_eq (pc' := 62) (pt := 72) od3_59 rfl rfl (fun c59 => ?_) (fun c59 => ?_)
            · skip
              refine C.iinc (d := 1) (f := fun v_ => #[.val (.ref a), .val (.ref b), .val (.int p), .val (.long v41), .second, .val (.int rv), .val (.ref b11), .val (.int v_), .unset]) (pc' := 75) od3_72 rfl rfl rfl (fun _ => rfl) (fun v72 e72 => ?_)
              refine C.goto (pc' := 18) od3_75 rfl ?_
              exact ih (fu - 1) (by have := ((Jvm.OwnP.lt_iff hi (show (64 : Int32).toInt = ((64 : Nat) : Int) from by decide)).mp c22); omega) _ (i + 1) r _ _ _ _ (by have := ((Jvm.OwnP.lt_iff hi (show (64 : Int32).toInt = ((64 : Nat) : Int) from by decide)).mp c22); omega) (Jvm.OwnP.inc_toInt hi (by have := ((Jvm.OwnP.lt_iff hi (show (64 : Int32).toInt = ((64 : Nat) : Int) from by decide)).mp c22); omega) e72) hr (own_mk1 hm ((Jvm.OwnP.lt_iff hi hp).mp c28) e41) (inv1_run hok ((Jvm.OwnP.lt_iff hi (show (64 : Int32).toInt = ((64 : Nat) : Int) from by decide)).mp c22) (own_i0 hi c44) (own_prev hi hok ((Jvm.OwnP.lt_iff hi (show (64 : Int32).toInt = ((64 : Nat) : Int) from by decide)).mp c22) (own_i0 hi c44) c59) inv) K E_a F_a_prefixBits F_a_prefixMask F_a_toTop F_a_toBottom F_a_toPlace A_b A_b11
            · skip
              refine C.aload (pc' := 64) od3_62 rfl rfl rfl ?_
              refine C.iload (pc' := 66) od3_64 rfl rfl ?_
              refine C.iload (pc' := 68) od3_66 rfl rfl ?_
              refine C.stAI (i := r) A_b11 hr (by have := ((Jvm.OwnP.lt_iff hi (show (64 : Int32).toInt = ((64 : Nat) : Int) from by decide)).mp c22); have := inv.2.1; rw [inv.1]; omega) g_b11 (pc' := 69) od3_68 rfl (fun h68 X68 B68 => ?_)
              replace E_a := E_a.wr X68
              replace F_a_prefixBits := F_a_prefixBits.other X68 (Or.inl ne_a_b11)
              replace F_a_prefixMask := F_a_prefixMask.other X68 (Or.inl ne_a_b11)
              replace F_a_toTop := F_a_toTop.other X68 (Or.inl ne_a_b11)
              replace F_a_toBottom := F_a_toBottom.other X68 (Or.inl ne_a_b11)
              replace F_a_toPlace := F_a_toPlace.other X68 (Or.inl ne_a_b11)
              replace A_b := A_b.other X68 ne_b_b11
              have A_b11 : AI Z h68 b11 (S.set r iv) := B68
              replace K := K.wr X68 (Or.inr sz_b11)
              refine C.iinc (d := 1) (f := fun v_ => #[.val (.ref a), .val (.ref b), .val (.int p), .val (.long v41), .second, .val (.int v_), .val (.ref b11), .val (.int iv), .unset]) (pc' := 72) od3_69 rfl rfl rfl (fun _ => rfl) (fun v69 e69 => ?_)
              refine C.iinc (d := 1) (f := fun v_ => #[.val (.ref a), .val (.ref b), .val (.int p), .val (.long v41), .second, .val (.int v69), .val (.ref b11), .val (.int v_), .unset]) (pc' := 75) od3_72 rfl rfl rfl (fun _ => rfl) (fun v72 e72 => ?_)
              refine C.goto (pc' := 18) od3_75 rfl ?_
              exact ih (fu - 1) (by have := ((Jvm.OwnP.lt_iff hi (show (64 : Int32).toInt = ((64 : Nat) : Int) from by decide)).mp c22); omega) _ (i + 1) (r + 1) _ _ _ _ (by have := ((Jvm.OwnP.lt_iff hi (show (64 : Int32).toInt = ((64 : Nat) : Int) from by decide)).mp c22); omega) (Jvm.OwnP.inc_toInt hi (by have := ((Jvm.OwnP.lt_iff hi (show (64 : Int32).toInt = ((64 : Nat) : Int) from by decide)).mp c22); omega) e72) (Jvm.OwnP.inc_toInt hr (by have := inv.2.1; have := ((Jvm.OwnP.lt_iff hi (show (64 : Int32).toInt = ((64 : Nat) : Int) from by decide)).mp c22); omega) e69) (own_mk1 hm ((Jvm.OwnP.lt_iff hi hp).mp c28) e41) (inv1_add hi ((Jvm.OwnP.lt_iff hi (show (64 : Int32).toInt = ((64 : Nat) : Int) from by decide)).mp c22) inv) K E_a F_a_prefixBits F_a_prefixMask F_a_toTop F_a_toBottom F_a_toPlace A_b A_b11
  exact lp18 64 _ 0 0 _ _ _ _ rfl rfl rfl (by rw [Nat.zero_min]; rfl) (inv1_zero O) K E_a F_a_prefixBits F_a_prefixMask F_a_toTop F_a_toBottom F_a_toPlace A_b A_b11
theorem od5_0 : decode prog_25_method_5_code 0 = .ok (.lload_n 1, 1) := by decide +kernel
theorem od5_1 : decode prog_25_method_5_code 1 = .ok (.aload_n 0, 1) := by decide +kernel
theorem od5_2 : decode prog_25_method_5_code 2 = .ok (.getfield 19, 3) := by decide +kernel
theorem od5_5 : decode prog_25_method_5_code 5 = .ok (.land, 1) := by decide +kernel
theorem od5_6 : decode prog_25_method_5_code 6 = .ok (.lconst 0, 1) := by decide +kernel
theorem od5_7 : decode prog_25_method_5_code 7 = .ok (.lcmp, 1) := by decide +kernel
theorem od5_8 : decode prog_25_method_5_code 8 = .ok (.ifCond .ne 7, 3) := by decide +kernel
theorem od5_15 : decode prog_25_method_5_code 15 = .ok (.iconst 0, 1) := by decide +kernel
theorem od5_16 : decode prog_25_method_5_code 16 = .ok (.ireturn, 1) := by decide +kernel
theorem od5_11 : decode prog_25_method_5_code 11 = .ok (.iconst 1, 1) := by decide +kernel
theorem od5_12 : decode prog_25_method_5_code 12 = .ok (.goto 4, 3) := by decide +kernel
theorem ef_own_rm5 (m : MethodId) (x0 : Addr) (x1 : Int64) : entryFrame m #[(.ref x0), (.long x1)] 3 = mkF m 0 #[.val (.ref x0), .val (.long x1), .second] [] := by first | (simp [entryFrame, mkF, argsToLocals, Value.category]; done) | rfl
theorem pn_com_example_hyperplane_hyperplane_index_Table_agrees__J_Z : plainFor (⟨"com/example/hyperplane/hyperplane/index/Table", "agrees", "(J)Z"⟩ : MethodName) = true := plainFor_of_name (by first | (simp [plainName, overriddenIn]; done) | decide +kernel)
set_option maxRecDepth 65536 in
set_option maxHeartbeats 40000000 in
theorem own_rm5 (l : Launch) (Z : State) (a0 : Array Value) (hw : ∀ d ∈ tables_1, d.before a0 Z = true) (n0 : Nat) (hO : Heap) (a : Addr) (d : Int64) (mk : Int64) (F_a_prefixMask : Fld Z hO a "com/example/hyperplane/hyperplane/index/Table" "prefixMask" "J" (.long mk)) :
    MeetsW l Z n0 (⟨"com/example/hyperplane/hyperplane/index/Table", "agrees", "(J)Z"⟩ : MethodName) prog_25_method_5_code 3 (some .boolean) ({ frames := 0, cells := 0, slots := 0, locals := 0 } : Room) #[(.ref a), (.long d)] hO (RI fun r h => r = (if d &&& mk = 0 then (1 : Int32) else 0) ∧ h = hO) := by
  refine MeetsW.intro pn_com_example_hyperplane_hyperplane_index_Table_agrees__J_Z (fun m => ef_own_rm5 m a d) ?_
  intro W C
  replace C : Ru l Z "com/example/hyperplane/hyperplane/index/Table" prog_25_method_5_code 3 (some .boolean) "agrees" ({ frames := 0, cells := 0, slots := 0, locals := 0 } : Room) n0 (RI fun r h => r = (if d &&& mk = 0 then (1 : Int32) else 0) ∧ h = hO) W := C
  refine C.lloadN (pc' := 1) od5_0 rfl rfl ?_
  refine C.aloadN (pc' := 2) od5_1 rfl rfl rfl ?_
  refine C.getf (ow21 hw) Via.refl F_a_prefixMask (pc' := 5) od5_2 rfl ?_
  refine C.land (pc' := 6) od5_5 rfl ?_
  refine C.lconst (v := 0) (pc' := 7) od5_6 rfl rfl ?_
  refine C.lif_ne (pc' := 11) (pt := 15) od5_7 rfl od5_8 rfl rfl (fun c7 => ?_) (fun c7 => ?_)
  · skip
    refine C.iconst (v := 0) (pc' := 16) od5_15 rfl rfl ?_
    refine C.retZ rfl (by decide) od5_16 (by decide) (by decide) ⟨_, rfl, ?_⟩
    exact ⟨by rw [if_neg c7], rfl⟩
  · skip
    refine C.iconst (v := 1) (pc' := 12) od5_11 rfl rfl ?_
    refine C.goto (pc' := 16) od5_12 rfl ?_
    refine C.retZ rfl (by decide) od5_16 (by decide) (by decide) ⟨_, rfl, ?_⟩
    exact ⟨by rw [if_pos c7], rfl⟩
theorem ow0 {a0 : Array Value} {Z : State} (hw : ∀ d ∈ tables_1, d.before a0 Z = true) : (Jvm.Cond.constantLong "com/example/hyperplane/hyperplane/index/TableAgreesPinLaw" (13 : Nat) (-1 : Int64)).before a0 Z = true := hw _ (List.mem_of_getElem? (i := 0) rfl)
theorem ow34 {a0 : Array Value} {Z : State} (hw : ∀ d ∈ tables_1, d.before a0 Z = true) : (Jvm.Cond.constantLong "com/example/hyperplane/hyperplane/index/TableAgreesPinLaw" (17 : Nat) (-9223372036854775808 : Int64)).before a0 Z = true := hw _ (List.mem_of_getElem? (i := 34) rfl)
theorem ow1 {a0 : Array Value} {Z : State} (hw : ∀ d ∈ tables_1, d.before a0 Z = true) : (Jvm.Cond.classLink "com/example/hyperplane/hyperplane/index/TableAgreesPinLaw" (19 : Nat) "com/example/hyperplane/hyperplane/index/Table").before a0 Z = true := hw _ (List.mem_of_getElem? (i := 1) rfl)
theorem ow3 {a0 : Array Value} {Z : State} (hw : ∀ d ∈ tables_1, d.before a0 Z = true) : (Jvm.Cond.initialized "com/example/hyperplane/hyperplane/index/Table").before a0 Z = true := hw _ (List.mem_of_getElem? (i := 3) rfl)
theorem pd__IZ__I : parseMethodDescriptor "(IZ)[I" = some ⟨[.int, .boolean], some (.array .int)⟩ := by decide +kernel
theorem ow7 {a0 : Array Value} {Z : State} (hw : ∀ d ∈ tables_1, d.before a0 Z = true) : (Jvm.Cond.code ({ cls := "com/example/hyperplane/hyperplane/index/TableAgreesPinLaw", name := "order", desc := "(IZ)[I" } : Jvm.MethodName) method_3_code (2 : Nat) (Option.some (Jvm.ClassFile.FieldType.array Jvm.ClassFile.FieldType.int))).before a0 Z = true := hw _ (List.mem_of_getElem? (i := 7) rfl)
theorem ow4 {a0 : Array Value} {Z : State} (hw : ∀ d ∈ tables_1, d.before a0 Z = true) : (Jvm.Cond.methodLink "com/example/hyperplane/hyperplane/index/TableAgreesPinLaw" (21 : Nat) ({ cls := "com/example/hyperplane/hyperplane/index/TableAgreesPinLaw", name := "order", desc := "(IZ)[I" } : Jvm.MethodName)).before a0 Z = true := hw _ (List.mem_of_getElem? (i := 4) rfl)
theorem ow5 {a0 : Array Value} {Z : State} (hw : ∀ d ∈ tables_1, d.before a0 Z = true) : (Jvm.Cond.static ({ cls := "com/example/hyperplane/hyperplane/index/TableAgreesPinLaw", name := "order", desc := "(IZ)[I" } : Jvm.MethodName)).before a0 Z = true := hw _ (List.mem_of_getElem? (i := 5) rfl)
theorem pd___II_V : parseMethodDescriptor "([II)V" = some ⟨[(.array .int), .int], none⟩ := by decide +kernel
theorem ow14 {a0 : Array Value} {Z : State} (hw : ∀ d ∈ tables_1, d.before a0 Z = true) : (Jvm.Cond.code ({ cls := "com/example/hyperplane/hyperplane/index/Table", name := "<init>", desc := "([II)V" } : Jvm.MethodName) prog_25_method_1_code (9 : Nat) (Option.none : Option Jvm.ClassFile.FieldType)).before a0 Z = true := hw _ (List.mem_of_getElem? (i := 14) rfl)
theorem ow12 {a0 : Array Value} {Z : State} (hw : ∀ d ∈ tables_1, d.before a0 Z = true) : (Jvm.Cond.methodLink "com/example/hyperplane/hyperplane/index/TableAgreesPinLaw" (25 : Nat) ({ cls := "com/example/hyperplane/hyperplane/index/Table", name := "<init>", desc := "([II)V" } : Jvm.MethodName)).before a0 Z = true := hw _ (List.mem_of_getElem? (i := 12) rfl)
theorem ow13 {a0 : Array Value} {Z : State} (hw : ∀ d ∈ tables_1, d.before a0 Z = true) : (Jvm.Cond.instanceMethod ({ cls := "com/example/hyperplane/hyperplane/index/Table", name := "<init>", desc := "([II)V" } : Jvm.MethodName)).before a0 Z = true := hw _ (List.mem_of_getElem? (i := 13) rfl)
theorem pd__J_Z : parseMethodDescriptor "(J)Z" = some ⟨[.long], some .boolean⟩ := by decide +kernel
theorem ow33 {a0 : Array Value} {Z : State} (hw : ∀ d ∈ tables_1, d.before a0 Z = true) : (Jvm.Cond.code ({ cls := "com/example/hyperplane/hyperplane/index/Table", name := "agrees", desc := "(J)Z" } : Jvm.MethodName) prog_25_method_5_code (3 : Nat) (Option.some Jvm.ClassFile.FieldType.boolean)).before a0 Z = true := hw _ (List.mem_of_getElem? (i := 33) rfl)
theorem ow29 {a0 : Array Value} {Z : State} (hw : ∀ d ∈ tables_1, d.before a0 Z = true) : (Jvm.Cond.methodLink "com/example/hyperplane/hyperplane/index/TableAgreesPinLaw" (28 : Nat) ({ cls := "com/example/hyperplane/hyperplane/index/Table", name := "agrees", desc := "(J)Z" } : Jvm.MethodName)).before a0 Z = true := hw _ (List.mem_of_getElem? (i := 29) rfl)
theorem ow30 {a0 : Array Value} {Z : State} (hw : ∀ d ∈ tables_1, d.before a0 Z = true) : (Jvm.Cond.declares ({ cls := "com/example/hyperplane/hyperplane/index/Table", name := "agrees", desc := "(J)Z" } : Jvm.MethodName)).before a0 Z = true := hw _ (List.mem_of_getElem? (i := 30) rfl)
theorem ow32 {a0 : Array Value} {Z : State} (hw : ∀ d ∈ tables_1, d.before a0 Z = true) : (Jvm.Cond.selects "com/example/hyperplane/hyperplane/index/Table" ({ cls := "com/example/hyperplane/hyperplane/index/Table", name := "agrees", desc := "(J)Z" } : Jvm.MethodName) ({ cls := "com/example/hyperplane/hyperplane/index/Table", name := "agrees", desc := "(J)Z" } : Jvm.MethodName)).before a0 Z = true := hw _ (List.mem_of_getElem? (i := 32) rfl)
theorem ow31 {a0 : Array Value} {Z : State} (hw : ∀ d ∈ tables_1, d.before a0 Z = true) : (Jvm.Cond.instanceMethod ({ cls := "com/example/hyperplane/hyperplane/index/Table", name := "agrees", desc := "(J)Z" } : Jvm.MethodName)).before a0 Z = true := hw _ (List.mem_of_getElem? (i := 31) rfl)
theorem ef_own_rm0 (m : MethodId) (x0 : Int32) (x1 : Int32) (x2 : Int32) (x3 : Int64) (x4 : Int32) : entryFrame m #[(.int x0), (.int x1), (.int x2), (.long x3), (.int x4)] maxLocals = mkF m 0 #[.val (.int x0), .val (.int x1), .val (.int x2), .val (.long x3), .second, .val (.int x4), .unset, .unset, .unset, .unset, .unset, .unset, .unset, .unset, .unset, .unset, .unset, .unset, .unset] [] := by first | (simp [entryFrame, mkF, argsToLocals, Value.category, maxLocals]; done) | rfl
theorem pn_com_example_hyperplane_hyperplane_index_TableAgreesPinLaw_law__IIIJI_Z : plainFor (⟨"com/example/hyperplane/hyperplane/index/TableAgreesPinLaw", "law", "(IIIJI)Z"⟩ : MethodName) = true := plainFor_of_name (by first | (simp [plainName, overriddenIn]; done) | decide +kernel)
set_option maxRecDepth 65536 in
set_option maxHeartbeats 40000000 in
theorem own_rm0 (l : Launch) (Z : State) (a0 : Array Value) (hw : ∀ d ∈ tables_1, d.before a0 Z = true) (n0 : Nat) (hO : Heap) (p1 : Int32) (p2 : Int32) (p3 : Int32) (p4 : Int64) (p5 : Int32) (Z0 : n0 ≤ hO.size) :
    MeetsW l Z n0 x code maxLocals ret room_1 #[(.int p1), (.int p2), (.int p3), (.long p4), (.int p5)] hO (RI fun r h => r = 1) := by
  refine MeetsW.intro (show plainFor x = true from pn_com_example_hyperplane_hyperplane_index_TableAgreesPinLaw_law__IIIJI_Z) (fun m => ef_own_rm0 m p1 p2 p3 p4 p5) ?_
  intro W C
  replace C : Ru l Z "com/example/hyperplane/hyperplane/index/TableAgreesPinLaw" code maxLocals ret "law" room_1 n0 (RI fun r h => r = 1) W := C
  have K : Keep hO hO [] := Keep.refl _ _
  refine C.iloadN (pc' := 1) at_0 rfl rfl ?_
  refine C.iconst (v := 1) (pc' := 2) at_1 rfl rfl ?_
  refine C.iand (pc' := 3) at_2 rfl ?_
  have j11 : ∀ (s11_0 : Int32), (((p3 &&& (1 : Int32)) = (0 : Int32) ∧ s11_0 = (0 : Int32)) ∨ (¬ ((p3 &&& (1 : Int32)) = (0 : Int32)) ∧ s11_0 = (1 : Int32))) → W hO 0 0 11 #[.val (.int p1), .val (.int p2), .val (.int p3), .val (.long p4), .second, .val (.int p5), .unset, .unset, .unset, .unset, .unset, .unset, .unset, .unset, .unset, .unset, .unset, .unset, .unset] [(.int s11_0)] := by
    intro s11_0 x11
    refine C.istoreX (l' := #[.val (.int p1), .val (.int p2), .val (.int p3), .val (.long p4), .second, .val (.int p5), .val (.int s11_0), .unset, .unset, .unset, .unset, .unset, .unset, .unset, .unset, .unset, .unset, .unset, .unset]) (pc' := 13) at_11 rfl rfl ?_
    refine C.iloadN (pc' := 14) at_13 rfl rfl ?_
    refine C.bipush (v := 63) (pc' := 16) at_14 rfl rfl ?_
    refine C.iand (pc' := 17) at_16 rfl ?_
    refine C.iconst (v := 1) (pc' := 18) at_17 rfl rfl ?_
    refine C.iadd (pc' := 19) at_18 rfl ?_
    refine C.istore (f := fun v_ => #[.val (.int p1), .val (.int p2), .val (.int p3), .val (.long p4), .second, .val (.int p5), .val (.int s11_0), .val (.int v_), .unset, .unset, .unset, .unset, .unset, .unset, .unset, .unset, .unset, .unset, .unset]) (pc' := 21) at_19 rfl (fun _ => rfl) (fun v19 e19 => ?_)
    refine C.iload (pc' := 23) at_21 rfl rfl ?_
    have j42 : ∀ (s42_0 : Int32), ((s11_0 = (0 : Int32) ∧ s42_0 = (p1 &&& (63 : Int32))) ∨ (¬ (s11_0 = (0 : Int32)) ∧ s42_0 = (((p1 - v19) + (1 : Int32)) &&& (63 : Int32)))) → W hO 0 0 42 #[.val (.int p1), .val (.int p2), .val (.int p3), .val (.long p4), .second, .val (.int p5), .val (.int s11_0), .val (.int v19), .unset, .unset, .unset, .unset, .unset, .unset, .unset, .unset, .unset, .unset, .unset] [(.int s42_0)] := by
      intro s42_0 x42
      refine C.istoreX (l' := #[.val (.int p1), .val (.int p2), .val (.int p3), .val (.long p4), .second, .val (.int p5), .val (.int s11_0), .val (.int v19), .val (.int s42_0), .unset, .unset, .unset, .unset, .unset, .unset, .unset, .unset, .unset, .unset]) (pc' := 44) at_42 rfl rfl ?_
      refine C.iload (pc' := 46) at_44 rfl rfl ?_
      refine C.bipush (v := 64) (pc' := 48) at_46 rfl rfl ?_
      have j67 : ∀ (s67_0 : Int64), ((¬ (v19 = (64 : Int32)) ∧ s67_0 = ((shrL (-1 : Int64) (sh6 v19)) ^^^ (-1 : Int64))) ∨ (v19 = (64 : Int32) ∧ s67_0 = (-1 : Int64))) → W hO 0 0 67 #[.val (.int p1), .val (.int p2), .val (.int p3), .val (.long p4), .second, .val (.int p5), .val (.int s11_0), .val (.int v19), .val (.int s42_0), .unset, .unset, .unset, .unset, .unset, .unset, .unset, .unset, .unset, .unset] [(.long s67_0)] := by
        intro s67_0 x67
        refine C.lstoreX (l' := #[.val (.int p1), .val (.int p2), .val (.int p3), .val (.long p4), .second, .val (.int p5), .val (.int s11_0), .val (.int v19), .val (.int s42_0), .val (.long s67_0), .second, .unset, .unset, .unset, .unset, .unset, .unset, .unset, .unset]) (pc' := 69) at_67 rfl rfl ?_
        refine C.lload (pc' := 71) at_69 rfl rfl ?_
        refine C.iload (pc' := 73) at_71 rfl rfl ?_
        refine C.lushr (pc' := 74) at_73 rfl rfl ?_
        refine C.lload (pc' := 76) at_74 rfl rfl ?_
        refine C.bipush (v := 64) (pc' := 78) at_76 rfl rfl ?_
        refine C.iload (pc' := 80) at_78 rfl rfl ?_
        refine C.isub (pc' := 81) at_80 rfl ?_
        refine C.bipush (v := 63) (pc' := 83) at_81 rfl rfl ?_
        refine C.iand (pc' := 84) at_83 rfl ?_
        refine C.lshl (pc' := 85) at_84 rfl rfl ?_
        refine C.lor (pc' := 86) at_85 rfl ?_
        refine C.lstore (f := fun v_ => #[.val (.int p1), .val (.int p2), .val (.int p3), .val (.long p4), .second, .val (.int p5), .val (.int s11_0), .val (.int v19), .val (.int s42_0), .val (.long s67_0), .second, .val (.long v_), .second, .unset, .unset, .unset, .unset, .unset, .unset]) (pc' := 88) at_86 rfl (fun _ => rfl) (fun v86 e86 => ?_)
        refine C.lloadN (pc' := 89) at_88 rfl rfl ?_
        refine C.lstoreX (l' := #[.val (.int p1), .val (.int p2), .val (.int p3), .val (.long p4), .second, .val (.int p5), .val (.int s11_0), .val (.int v19), .val (.int s42_0), .val (.long s67_0), .second, .val (.long v86), .second, .val (.long p4), .second, .unset, .unset, .unset, .unset]) (pc' := 91) at_89 rfl rfl ?_
        refine C.iloadN (pc' := 92) at_91 rfl rfl ?_
        refine C.iconst (v := 2) (pc' := 93) at_92 rfl rfl ?_
        refine C.iand (pc' := 94) at_93 rfl ?_
        have j107 : ∀ (u107_13 : Int64), (((p3 &&& (2 : Int32)) = (0 : Int32) ∧ u107_13 = p4) ∨ (¬ ((p3 &&& (2 : Int32)) = (0 : Int32)) ∧ u107_13 = (p4 &&& (v86 ^^^ (-1 : Int64))))) → W hO 0 0 107 #[.val (.int p1), .val (.int p2), .val (.int p3), .val (.long p4), .second, .val (.int p5), .val (.int s11_0), .val (.int v19), .val (.int s42_0), .val (.long s67_0), .second, .val (.long v86), .second, .val (.long u107_13), .second, .unset, .unset, .unset, .unset] [] := by
          intro u107_13 x107
          refine C.iloadN (pc' := 108) at_107 rfl rfl ?_
          refine C.iconst (v := 4) (pc' := 109) at_108 rfl rfl ?_
          refine C.iand (pc' := 110) at_109 rfl ?_
          have j127 : ∀ (u127_13 : Int64), (((p3 &&& (4 : Int32)) = (0 : Int32) ∧ u127_13 = u107_13) ∨ (¬ ((p3 &&& (4 : Int32)) = (0 : Int32)) ∧ u127_13 = (u107_13 ||| (shrL (-9223372036854775808 : Int64) (sh6 (p5 &&& (63 : Int32))))))) → W hO 0 0 127 #[.val (.int p1), .val (.int p2), .val (.int p3), .val (.long p4), .second, .val (.int p5), .val (.int s11_0), .val (.int v19), .val (.int s42_0), .val (.long s67_0), .second, .val (.long v86), .second, .val (.long u127_13), .second, .unset, .unset, .unset, .unset] [] := by
            intro u127_13 x127
            refine C.lload (pc' := 129) at_127 rfl rfl ?_
            refine C.iload (pc' := 131) at_129 rfl rfl ?_
            refine C.lshl (pc' := 132) at_131 rfl rfl ?_
            refine C.lload (pc' := 134) at_132 rfl rfl ?_
            refine C.bipush (v := 64) (pc' := 136) at_134 rfl rfl ?_
            refine C.iload (pc' := 138) at_136 rfl rfl ?_
            refine C.isub (pc' := 139) at_138 rfl ?_
            refine C.bipush (v := 63) (pc' := 141) at_139 rfl rfl ?_
            refine C.iand (pc' := 142) at_141 rfl ?_
            refine C.lushr (pc' := 143) at_142 rfl rfl ?_
            refine C.lor (pc' := 144) at_143 rfl ?_
            refine C.lstore (f := fun v_ => #[.val (.int p1), .val (.int p2), .val (.int p3), .val (.long p4), .second, .val (.int p5), .val (.int s11_0), .val (.int v19), .val (.int s42_0), .val (.long s67_0), .second, .val (.long v86), .second, .val (.long u127_13), .second, .val (.long v_), .second, .unset, .unset]) (pc' := 146) at_144 rfl (fun _ => rfl) (fun v144 e144 => ?_)
            refine C.iload (pc' := 148) at_146 rfl rfl ?_
            refine C.bipush (v := 64) (pc' := 150) at_148 rfl rfl ?_
            have j186 : ∀ (s186_0 : Int32), ((¬ (v19 = (64 : Int32)) ∧ ¬ ((shrL v144 (sh6 ((64 : Int32) - v19))) = (0 : Int64)) ∧ s186_0 = (0 : Int32)) ∨ (¬ (v19 = (64 : Int32)) ∧ (shrL v144 (sh6 ((64 : Int32) - v19))) = (0 : Int64) ∧ s186_0 = (1 : Int32)) ∨ (v19 = (64 : Int32) ∧ ¬ (u127_13 = (0 : Int64)) ∧ s186_0 = (0 : Int32)) ∨ (v19 = (64 : Int32) ∧ u127_13 = (0 : Int64) ∧ s186_0 = (1 : Int32))) → W hO 0 0 186 #[.val (.int p1), .val (.int p2), .val (.int p3), .val (.long p4), .second, .val (.int p5), .val (.int s11_0), .val (.int v19), .val (.int s42_0), .val (.long s67_0), .second, .val (.long v86), .second, .val (.long u127_13), .second, .val (.long v144), .second, .unset, .unset] [(.int s186_0)] := by
              intro s186_0 x186
              refine C.istoreX (l' := #[.val (.int p1), .val (.int p2), .val (.int p3), .val (.long p4), .second, .val (.int p5), .val (.int s11_0), .val (.int v19), .val (.int s42_0), .val (.long s67_0), .second, .val (.long v86), .second, .val (.long u127_13), .second, .val (.long v144), .second, .val (.int s186_0), .unset]) (pc' := 188) at_186 rfl rfl ?_
              obtain ⟨Pn, hp, hP1, hP⟩ := own_p e19
              refine C.new (ow1 hw) (ow2 hw) (ow3 hw) (pc' := 191) at_188 rfl (by decide) (by decide) (fun h188 b188 hb188 X188 E_b188 D188 => ?_)
              have sz_b188 : hO.size ≤ b188 := by rw [hb188]; exact K.1
              have g_b188 : n0 ≤ b188 := Nat.le_trans Z0 sz_b188
              replace K := K.ext X188
              have F_b188_prefixBits : Fld Z h188 b188 "com/example/hyperplane/hyperplane/index/Table" "prefixBits" "I" (.int (0 : Int32)) := D188 (Or.inr (ow20 hw)) pf_I
              have F_b188_prefixMask : Fld Z h188 b188 "com/example/hyperplane/hyperplane/index/Table" "prefixMask" "J" (.long (0 : Int64)) := D188 (Or.inr (ow22 hw)) pf_J
              have F_b188_toTop : Fld Z h188 b188 "com/example/hyperplane/hyperplane/index/Table" "toTop" "[I" .null := D188 (Or.inr (ow24 hw)) pf__I
              have F_b188_toBottom : Fld Z h188 b188 "com/example/hyperplane/hyperplane/index/Table" "toBottom" "[I" .null := D188 (Or.inr (ow26 hw)) pf__I
              have F_b188_toPlace : Fld Z h188 b188 "com/example/hyperplane/hyperplane/index/Table" "toPlace" "[I" .null := D188 (Or.inr (ow28 hw)) pf__I
              refine C.dup (pc' := 192) at_191 rfl rfl ?_
              refine C.iloadN (pc' := 193) at_192 rfl rfl ?_
              refine C.iload (pc' := 195) at_193 rfl rfl ?_
              refine C.calls (w := 2) (own_rm1 l Z a0 hw n0 h188 p1 s11_0 (Nat.le_trans Z0 K.1)) (ow4 hw) (ow5 hw) (ow6 hw) (ow7 hw) (pc' := 198) at_195 rfl rfl rfl (by decide) pd__IZ__I rfl (by decide) (Nat.le_of_eq rfl) (by decide) (by decide) (by decide) (kA fun r195 h195 q195 => ?_)
              obtain ⟨O195, p195_0, K195, z195_r195, N195_0⟩ := q195
              have ne_b188_r195 : b188 ≠ r195 := Nat.ne_of_lt (Nat.lt_of_lt_of_le (exaLt E_b188) z195_r195)
              have sz_r195 : hO.size ≤ r195 := Nat.le_trans K.1 z195_r195
              have g_r195 : n0 ≤ r195 := Nat.le_trans Z0 sz_r195
              replace E_b188 := E_b188.keep K195
              replace F_b188_prefixBits := F_b188_prefixBits.keep K195 nin0
              replace F_b188_prefixMask := F_b188_prefixMask.keep K195 nin0
              replace F_b188_toTop := F_b188_toTop.keep K195 nin0
              replace F_b188_toBottom := F_b188_toBottom.keep K195 nin0
              replace F_b188_toPlace := F_b188_toPlace.keep K195 nin0
              have A_r195 : AI Z h195 r195 O195 := N195_0
              replace K := K.trans K195 all0
              refine C.iload (pc' := 200) at_198 rfl rfl ?_
              refine C.callc (w := 1) (own_rm3 l Z a0 hw n0 h195 b188 r195 v19 O195 Pn (Nat.le_trans Z0 K.1) E_b188 F_b188_prefixBits F_b188_prefixMask F_b188_toTop F_b188_toBottom F_b188_toPlace A_r195 g_b188 ne_b188_r195 (fill_ok p195_0 (own_rng _ _)) hp hP) rfl (ow12 hw) (ow13 hw) (ow3 hw) (ow14 hw) (pc' := 203) at_200 rfl rfl rfl (by decide) pd___II_V rfl (by decide) (Nat.le_of_eq rfl) (by decide) (by decide) (by decide) (kV fun h200 q200 => ?_)
              obtain ⟨tt200, tb200, tq200, T200, B200, Q200, p200_0, K200, z200_tt200, z200_tb200, z200_tq200, N200_0, N200_1, N200_2, N200_3, N200_4, N200_5, N200_6⟩ := q200
              have ne_b188_tt200 : b188 ≠ tt200 := Nat.ne_of_lt (Nat.lt_of_lt_of_le (exaLt E_b188) z200_tt200)
              have ne_r195_tt200 : r195 ≠ tt200 := Nat.ne_of_lt (Nat.lt_of_lt_of_le A_r195.lt z200_tt200)
              have sz_tt200 : hO.size ≤ tt200 := Nat.le_trans K.1 z200_tt200
              have g_tt200 : n0 ≤ tt200 := Nat.le_trans Z0 sz_tt200
              have ne_b188_tb200 : b188 ≠ tb200 := Nat.ne_of_lt (Nat.lt_of_lt_of_le (exaLt E_b188) z200_tb200)
              have ne_r195_tb200 : r195 ≠ tb200 := Nat.ne_of_lt (Nat.lt_of_lt_of_le A_r195.lt z200_tb200)
              have sz_tb200 : hO.size ≤ tb200 := Nat.le_trans K.1 z200_tb200
              have g_tb200 : n0 ≤ tb200 := Nat.le_trans Z0 sz_tb200
              have ne_b188_tq200 : b188 ≠ tq200 := Nat.ne_of_lt (Nat.lt_of_lt_of_le (exaLt E_b188) z200_tq200)
              have ne_r195_tq200 : r195 ≠ tq200 := Nat.ne_of_lt (Nat.lt_of_lt_of_le A_r195.lt z200_tq200)
              have sz_tq200 : hO.size ≤ tq200 := Nat.le_trans K.1 z200_tq200
              have g_tq200 : n0 ≤ tq200 := Nat.le_trans Z0 sz_tq200
              replace E_b188 := E_b188.keep K200
              replace A_r195 := A_r195.keep K200 (ninS (Ne.symm ne_b188_r195) nin0)
              have F_b188_prefixMask : Fld Z h200 b188 "com/example/hyperplane/hyperplane/index/Table" "prefixMask" "J" (.long (maskL O195 Pn)) := N200_0
              have F_b188_toTop : Fld Z h200 b188 "com/example/hyperplane/hyperplane/index/Table" "toTop" "[I" (.ref tt200) := N200_1
              have F_b188_toBottom : Fld Z h200 b188 "com/example/hyperplane/hyperplane/index/Table" "toBottom" "[I" (.ref tb200) := N200_2
              have F_b188_toPlace : Fld Z h200 b188 "com/example/hyperplane/hyperplane/index/Table" "toPlace" "[I" (.ref tq200) := N200_3
              have A_tt200 : AI Z h200 tt200 T200 := N200_4
              have A_tb200 : AI Z h200 tb200 B200 := N200_5
              have A_tq200 : AI Z h200 tq200 Q200 := N200_6
              replace K := K.trans K200 (allS (Or.inr sz_b188) all0)
              refine C.astore (l' := #[.val (.int p1), .val (.int p2), .val (.int p3), .val (.long p4), .second, .val (.int p5), .val (.int s11_0), .val (.int v19), .val (.int s42_0), .val (.long s67_0), .second, .val (.long v86), .second, .val (.long u127_13), .second, .val (.long v144), .second, .val (.int s186_0), .val (.ref b188)]) (pc' := 205) at_203 rfl rfl rfl ?_
              refine C.aload (pc' := 207) at_205 rfl rfl rfl ?_
              refine C.lload (pc' := 209) at_207 rfl rfl ?_
              refine C.callv (w := 0) (own_rm5 l Z a0 hw n0 h200 b188 u127_13 (maskL O195 Pn) F_b188_prefixMask) E_b188 (ow29 hw) (ow30 hw) (ow32 hw) (ow31 hw) (ow3 hw) (ow33 hw) (pc' := 212) at_209 rfl rfl rfl (by decide) pd__J_Z rfl (by decide) (Nat.le_of_eq rfl) (by decide) (by decide) (by decide) (kIe ?_)
              refine C.iload (pc' := 214) at_212 rfl rfl ?_
              refine C.icmp_ne (pc' := 217) (pt := 221) at_214 rfl rfl (fun c214 => absurd (own_law p195_0 (fill_ok p195_0 (own_rng _ _)) hp hP1 hP x42 e144 x186) c214) (fun c214 => ?_)
              refine C.iconst (v := 1) (pc' := 218) at_217 rfl rfl ?_
              refine C.goto (pc' := 222) at_218 rfl ?_
              refine C.retZ (show ret = some .boolean from rfl) (by decide) at_222 (by decide) (by decide) ⟨_, rfl, rfl⟩
            refine C.icmp_ne (pc' := 153) (pt := 168) at_150 rfl rfl (fun c150 => ?_) (fun c150 => ?_)
            · skip
              refine C.lload (pc' := 170) at_168 rfl rfl ?_
              refine C.bipush (v := 64) (pc' := 172) at_170 rfl rfl ?_
              refine C.iload (pc' := 174) at_172 rfl rfl ?_
              refine C.isub (pc' := 175) at_174 rfl ?_
              refine C.lushr (pc' := 176) at_175 rfl rfl ?_
              refine C.lconst (v := 0) (pc' := 177) at_176 rfl rfl ?_
              refine C.lif_ne (pc' := 181) (pt := 185) at_177 rfl at_178 rfl rfl (fun c177 => ?_) (fun c177 => ?_)
              · skip
                refine C.iconst (v := 0) (pc' := 186) at_185 rfl rfl ?_
                exact C.mono (by decide) (by decide) (j186 _ (Or.inl ⟨c150, c177, rfl⟩))
              · skip
                refine C.iconst (v := 1) (pc' := 182) at_181 rfl rfl ?_
                refine C.goto (pc' := 186) at_182 rfl ?_
                exact C.mono (by decide) (by decide) (j186 _ (Or.inr (Or.inl ⟨c150, c177, rfl⟩)))
            · skip
              refine C.lload (pc' := 155) at_153 rfl rfl ?_
              refine C.lconst (v := 0) (pc' := 156) at_155 rfl rfl ?_
              refine C.lif_ne (pc' := 160) (pt := 164) at_156 rfl at_157 rfl rfl (fun c156 => ?_) (fun c156 => ?_)
              · skip
                refine C.iconst (v := 0) (pc' := 165) at_164 rfl rfl ?_
                refine C.goto (pc' := 186) at_165 rfl ?_
                exact C.mono (by decide) (by decide) (j186 _ (Or.inr (Or.inr (Or.inl ⟨c150, c156, rfl⟩))))
              · skip
                refine C.iconst (v := 1) (pc' := 161) at_160 rfl rfl ?_
                refine C.goto (pc' := 186) at_161 rfl ?_
                exact C.mono (by decide) (by decide) (j186 _ (Or.inr (Or.inr (Or.inr ⟨c150, c156, rfl⟩))))
          refine C.if_eq (pc' := 113) (pt := 127) at_110 rfl rfl (fun c110 => ?_) (fun c110 => ?_)
          · skip
            exact C.mono (by decide) (by decide) (j127 _ (Or.inl ⟨c110, rfl⟩))
          · skip
            refine C.lload (pc' := 115) at_113 rfl rfl ?_
            refine C.ldcJ (ow34 hw) (pc' := 118) at_115 rfl ?_
            refine C.iload (pc' := 120) at_118 rfl rfl ?_
            refine C.bipush (v := 63) (pc' := 122) at_120 rfl rfl ?_
            refine C.iand (pc' := 123) at_122 rfl ?_
            refine C.lushr (pc' := 124) at_123 rfl rfl ?_
            refine C.lor (pc' := 125) at_124 rfl ?_
            refine C.lstoreX (l' := #[.val (.int p1), .val (.int p2), .val (.int p3), .val (.long p4), .second, .val (.int p5), .val (.int s11_0), .val (.int v19), .val (.int s42_0), .val (.long s67_0), .second, .val (.long v86), .second, .val (.long (u107_13 ||| (shrL (-9223372036854775808 : Int64) (sh6 (p5 &&& (63 : Int32)))))), .second, .unset, .unset, .unset, .unset]) (pc' := 127) at_125 rfl rfl ?_
            exact C.mono (by decide) (by decide) (j127 _ (Or.inr ⟨c110, rfl⟩))
        refine C.if_eq (pc' := 97) (pt := 107) at_94 rfl rfl (fun c94 => ?_) (fun c94 => ?_)
        · skip
          exact C.mono (by decide) (by decide) (j107 _ (Or.inl ⟨c94, rfl⟩))
        · skip
          refine C.lloadN (pc' := 98) at_97 rfl rfl ?_
          refine C.lload (pc' := 100) at_98 rfl rfl ?_
          refine C.ldcJ (ow0 hw) (pc' := 103) at_100 rfl ?_
          refine C.lxor (pc' := 104) at_103 rfl ?_
          refine C.land (pc' := 105) at_104 rfl ?_
          refine C.lstoreX (l' := #[.val (.int p1), .val (.int p2), .val (.int p3), .val (.long p4), .second, .val (.int p5), .val (.int s11_0), .val (.int v19), .val (.int s42_0), .val (.long s67_0), .second, .val (.long v86), .second, .val (.long (p4 &&& (v86 ^^^ (-1 : Int64)))), .second, .unset, .unset, .unset, .unset]) (pc' := 107) at_105 rfl rfl ?_
          exact C.mono (by decide) (by decide) (j107 _ (Or.inr ⟨c94, rfl⟩))
      refine C.icmp_ne (pc' := 51) (pt := 57) at_48 rfl rfl (fun c48 => ?_) (fun c48 => ?_)
      · skip
        refine C.ldcJ (ow0 hw) (pc' := 60) at_57 rfl ?_
        refine C.iload (pc' := 62) at_60 rfl rfl ?_
        refine C.lushr (pc' := 63) at_62 rfl rfl ?_
        refine C.ldcJ (ow0 hw) (pc' := 66) at_63 rfl ?_
        refine C.lxor (pc' := 67) at_66 rfl ?_
        exact C.mono (by decide) (by decide) (j67 _ (Or.inl ⟨c48, rfl⟩))
      · skip
        refine C.ldcJ (ow0 hw) (pc' := 54) at_51 rfl ?_
        refine C.goto (pc' := 67) at_54 rfl ?_
        exact C.mono (by decide) (by decide) (j67 _ (Or.inr ⟨c48, rfl⟩))
    refine C.if_eq (pc' := 26) (pt := 38) at_23 rfl rfl (fun c23 => ?_) (fun c23 => ?_)
    · skip
      refine C.iloadN (pc' := 39) at_38 rfl rfl ?_
      refine C.bipush (v := 63) (pc' := 41) at_39 rfl rfl ?_
      refine C.iand (pc' := 42) at_41 rfl ?_
      exact C.mono (by decide) (by decide) (j42 _ (Or.inl ⟨c23, rfl⟩))
    · skip
      refine C.iloadN (pc' := 27) at_26 rfl rfl ?_
      refine C.iload (pc' := 29) at_27 rfl rfl ?_
      refine C.isub (pc' := 30) at_29 rfl ?_
      refine C.iconst (v := 1) (pc' := 31) at_30 rfl rfl ?_
      refine C.iadd (pc' := 32) at_31 rfl ?_
      refine C.bipush (v := 63) (pc' := 34) at_32 rfl rfl ?_
      refine C.iand (pc' := 35) at_34 rfl ?_
      refine C.goto (pc' := 42) at_35 rfl ?_
      exact C.mono (by decide) (by decide) (j42 _ (Or.inr ⟨c23, rfl⟩))
  refine C.if_eq (pc' := 6) (pt := 10) at_3 rfl rfl (fun c3 => ?_) (fun c3 => ?_)
  · skip
    refine C.iconst (v := 0) (pc' := 11) at_10 rfl rfl ?_
    exact C.mono (by decide) (by decide) (j11 _ (Or.inl ⟨c3, rfl⟩))
  · skip
    refine C.iconst (v := 1) (pc' := 7) at_6 rfl rfl ?_
    refine C.goto (pc' := 11) at_7 rfl ?_
    exact C.mono (by decide) (by decide) (j11 _ (Or.inr ⟨c3, rfl⟩))
set_option maxRecDepth 65536 in
set_option maxHeartbeats 40000000 in
theorem comes_1 {Post : Tables → Env → Array Value → State → Outcome → State → Prop} (hpost : ∀ tb e args s v u, (limb_1_1.after args s (.returned v) u = true ∧ limb_1_2.after args s (.returned v) u = true ∧ True) → FrameEnd s (.returned v) u (Jvm.fieldLocs frame_1_writes args s ++ Jvm.arrayLocs frame_1_arrays args s ++ Jvm.staticLocs frame_1_statics s) 24 768 → Post tb e args s (.returned v) u) :
    ArmFor flags0 classFile x code maxLocals ret World_1 tables_1 room_1 Calls_1 rest_1 Pre_1 Post := by
  intro l hfl _ _ p e ha hc hk s m args below hf hA hF happ hP
  obtain ⟨hcalls, hrest, hpre⟩ := hP
  obtain ⟨-, -, -, hnamed, -, -, -, hat⟩ := (Spec.applies_iff hf).mp happ
  obtain ⟨hg, hn⟩ := and_e (Cond.before_iff.mp (show (Jvm.Cond.and given_1 narrow_1).before args s = true from hpre))
  obtain ⟨g0, t0⟩ := and_e hg
  obtain ⟨k0, t1⟩ := and_e t0
  obtain ⟨k1, t2⟩ := and_e t1
  obtain ⟨k2, t3⟩ := and_e t2
  obtain ⟨k3, t4⟩ := and_e t3
  obtain ⟨w0_, w1_, w2_, w3_, w4_, rfl⟩ : ∃ w0_ w1_ w2_ w3_ w4_ : Value, args = #[w0_, w1_, w2_, w3_, w4_] := by
    have hs : args.size = 5 := by simpa [Cond.value, given_1] using g0
    obtain ⟨L⟩ := args
    match L, hs with
    | [w0_, w1_, w2_, w3_, w4_], _ => exact ⟨w0_, w1_, w2_, w3_, w4_, rfl⟩
  have hw := fun d (hd : d ∈ tables_1) => atoms_spec (ws := Jvm.Cond.code x code maxLocals ret :: tables_1) hat d (List.mem_cons_of_mem _ hd)
  obtain ⟨i0_, e0_⟩ := is_v k0
  obtain rfl : w0_ = (.int i0_) := Option.some.inj e0_
  obtain ⟨i1_, e1_⟩ := is_v k1
  obtain rfl : w1_ = (.int i1_) := Option.some.inj e1_
  obtain ⟨i2_, e2_⟩ := is_v k2
  obtain rfl : w2_ = (.int i2_) := Option.some.inj e2_
  obtain ⟨i3_, e3_⟩ := isL_v k3
  obtain rfl : w3_ = (.long i3_) := Option.some.inj e3_
  obtain ⟨i4_, e4_⟩ := is_v t4
  obtain rfl : w4_ = (.int i4_) := Option.some.inj e4_
  obtain ⟨n, o, h1, h2, h3, _, L, rfl, ⟨N, _, rfl, rfl⟩, hq⟩ := own_rm0 l s _ hw s.heap.size s.heap i0_ i1_ i2_ i3_ i4_  (Nat.le_refl _)  tables_1 p e ha hc hk s m _ below hf ((Spec.applies_iff_loose hf).mp happ).1 ⟨rfl, State.Warmed39.refl s, rfl⟩ trivial
  refine ⟨n, _, h1, h2, h3, hpost _ _ _ _ _ _ ⟨Cond.after_iff.mpr rfl, Cond.after_iff.mpr (eq_i res_at (Term.int_eval (1)) rfl), trivial⟩ ⟨hq.1, hq.2.1, (hq.2.2.sift fun y hy => Or.inr (N y hy)).mono (by decide) (by decide)⟩⟩
theorem main_1_1 : Claimed_1_1 := comes_1 fun _ _ _ _ _ _ h hF => ⟨h.1, hF⟩
theorem main_1_2 : Claimed_1_2 := comes_1 fun _ _ _ _ _ _ h hF => ⟨h.2.1, hF⟩
end Jvm.Pilot.@@N@@
namespace Jvm.Pilot.@@N@@
open Jvm Jvm.ClassFile Sem Op Lib Jvm.Free Jvm.Stand Jvm.Pilot.@@N@@.Jvm.D
/-! MADE BY PROGRAM (witnessworld.py) out of the Statement's table words and the real class files: 9 classes; the members and pool entries that the words name. The judged class is class 1, her method 3. -/
namespace start1
open Jvm.ClassFile
def u (s : String) : CpInfo := .utf8 (stringToUtf16 s)
/-- a pool by its gaps: so many unusable entries, then the entry; so many at the end -/
def gap : Nat → List CpInfo → List CpInfo
  | 0, r => r
  | n + 1, r => .unusable :: gap n r
def poolList (es : List (Nat × CpInfo)) (last : Nat) : List CpInfo := es.foldr (fun e r => gap e.1 (e.2 :: r)) (gap last [])
def pool (es : List (Nat × CpInfo)) (last : Nat) : Array CpInfo := ⟨poolList es last⟩
def fileOf (pool : Array CpInfo) (this : Nat) (attrs : Array Attribute := #[]) (ms : Array MethodInfo := #[]) (fl : Nat := 33) (sup : Nat := 0) (ifs : Array Nat := #[]) (fds : Array FieldInfo := #[]) : ClassFile where
  minorVersion := 0
  majorVersion := 65
  constantPool := pool
  accessFlags := fl
  thisClass := this
  superClass := sup
  interfaces := ifs
  fields := fds
  methods := ms
  attributes := attrs
def plain (name : String) (sup : Option ClassId) : Class where
  name := name
  kind := .ordinary
  loader := none
  accessFlags := 33
  super := sup
  interfaces := #[]
  cf := none
  fields := #[]
  methods := #[]
  instanceTypes := #[]
  staticTypes := #[]
  resolved := #[]
  callSites := []
  init := .initialized
  statics := none
  mirror := none

def pool0 : Array CpInfo := pool [(5, u "<init>"), (0, u "()V"), (1, .class_ 10), (1, u "java/lang/Object")] 113

def k0c0 : Code := { maxStack := 0, maxLocals := 1, code := object_method_1_code, exceptionTable := #[], attributes := #[] }
def k0m0 : Method := { name := "<init>", desc := "()V", sig := { parameters := [], returnType := none }, accessFlags := 1, code := some k0c0 }
/-- java/lang/Object -/
def k0 : Class := { plain "java/lang/Object" none with
  accessFlags := 33
  interfaces := #[]
  cf := some (fileOf pool0 8 #[] #[{ accessFlags := 1, nameIndex := 5, descriptorIndex := 6, attributes := #[] }] 33 0 #[] #[])
  fields := #[]
  methods := #[k0m0]
  instanceTypes := #[]
  staticTypes := #[]
  resolved := Array.replicate 124 none
  statics := none }

def pool1 : Array CpInfo := pool [(2, .class_ 4), (1, u "java/lang/Object"), (0, u "<init>"), (0, u "()V"), (0, .methodref 8 9), (0, .class_ 10), (0, .nameAndType 11 12), (0, u "com/example/hyperplane/hyperplane/index/TableAgreesPinLaw"), (0, u "e"), (0, u "(IIZ)I"), (0, .long 18446744073709551615), (3, .long 9223372036854775808), (1, .class_ 20), (0, u "com/example/hyperplane/hyperplane/index/Table"), (0, .methodref 8 22), (0, .nameAndType 23 24), (0, u "order"), (0, u "(IZ)[I"), (0, .methodref 19 26), (0, .nameAndType 5 27), (0, u "([II)V"), (0, .methodref 19 29), (0, .nameAndType 30 31), (0, u "agrees"), (0, u "(J)Z"), (3, u "law"), (0, u "(IIIJI)Z")] 2

def k1m0 : Method := { name := "<init>", desc := "()V", sig := { parameters := [], returnType := none }, accessFlags := 2, code := none }
def k1c1 : Code := { maxStack := 2, maxLocals := 3, code := method_2_code, exceptionTable := #[], attributes := #[] }
def k1m1 : Method := { name := "e", desc := "(IIZ)I", sig := { parameters := [.int, .int, .boolean], returnType := some .int }, accessFlags := 10, code := some k1c1 }
def k1c2 : Code := { maxStack := 6, maxLocals := 2, code := method_3_code, exceptionTable := #[], attributes := #[] }
def k1m2 : Method := { name := "order", desc := "(IZ)[I", sig := { parameters := [.int, .boolean], returnType := some (.array .int) }, accessFlags := 10, code := some k1c2 }
def k1c3 : Code := { maxStack := 6, maxLocals := 19, code := code, exceptionTable := #[], attributes := #[] }
def k1m3 : Method := { name := "law", desc := "(IIIJI)Z", sig := { parameters := [.int, .int, .int, .long, .int], returnType := some .boolean }, accessFlags := 9, code := some k1c3 }
/-- com/example/hyperplane/hyperplane/index/TableAgreesPinLaw -/
def k1 : Class := { plain "com/example/hyperplane/hyperplane/index/TableAgreesPinLaw" (some 0) with
  accessFlags := 49
  interfaces := #[]
  cf := some (fileOf pool1 8 #[] #[{ accessFlags := 2, nameIndex := 5, descriptorIndex := 6, attributes := #[] }, { accessFlags := 10, nameIndex := 11, descriptorIndex := 12, attributes := #[] }, { accessFlags := 10, nameIndex := 23, descriptorIndex := 24, attributes := #[] }, { accessFlags := 9, nameIndex := 35, descriptorIndex := 36, attributes := #[] }] 49 2 #[] #[])
  fields := #[]
  methods := #[k1m0, k1m1, k1m2, k1m3]
  instanceTypes := #[]
  staticTypes := #[]
  resolved := Array.replicate 39 none
  statics := none }

def pool2 : Array CpInfo := pool [(1, .methodref 2 3), (0, .class_ 4), (0, .nameAndType 5 6), (0, u "java/lang/Object"), (0, u "<init>"), (0, u "()V"), (4, .long 9223372036854775808), (1, .fieldref 14 15), (0, .class_ 16), (0, .nameAndType 17 18), (0, u "com/example/hyperplane/hyperplane/index/Table"), (0, u "prefixBits"), (0, u "I"), (0, .fieldref 14 20), (0, .nameAndType 21 22), (0, u "prefixMask"), (0, u "J"), (0, .fieldref 14 24), (0, .nameAndType 25 26), (0, u "toTop"), (0, u "[I"), (0, .fieldref 14 28), (0, .nameAndType 29 26), (0, u "toBottom"), (0, .fieldref 14 31), (0, .nameAndType 32 26), (0, u "toPlace"), (22, u "([II)V"), (6, u "agrees"), (0, u "(J)Z")] 2

def k2c0 : Code := { maxStack := 6, maxLocals := 9, code := prog_25_method_1_code, exceptionTable := #[], attributes := #[] }
def k2m0 : Method := { name := "<init>", desc := "([II)V", sig := { parameters := [(.array .int), .int], returnType := none }, accessFlags := 0, code := some k2c0 }
def k2c1 : Code := { maxStack := 4, maxLocals := 3, code := prog_25_method_5_code, exceptionTable := #[], attributes := #[] }
def k2m1 : Method := { name := "agrees", desc := "(J)Z", sig := { parameters := [.long], returnType := some .boolean }, accessFlags := 0, code := some k2c1 }
/-- com/example/hyperplane/hyperplane/index/Table -/
def k2 : Class := { plain "com/example/hyperplane/hyperplane/index/Table" (some 0) with
  accessFlags := 32
  interfaces := #[]
  cf := some (fileOf pool2 14 #[] #[{ accessFlags := 0, nameIndex := 5, descriptorIndex := 55, attributes := #[] }, { accessFlags := 0, nameIndex := 62, descriptorIndex := 63, attributes := #[] }] 32 2 #[] #[{ accessFlags := 18, nameIndex := 17, descriptorIndex := 18, attributes := #[] }, { accessFlags := 18, nameIndex := 21, descriptorIndex := 22, attributes := #[] }, { accessFlags := 18, nameIndex := 25, descriptorIndex := 26, attributes := #[] }, { accessFlags := 18, nameIndex := 29, descriptorIndex := 26, attributes := #[] }, { accessFlags := 18, nameIndex := 32, descriptorIndex := 26, attributes := #[] }])
  fields := #[{ name := "prefixBits", type := .int, accessFlags := 18, slot := 0, constantValue := 0 }, { name := "prefixMask", type := .long, accessFlags := 18, slot := 1, constantValue := 0 }, { name := "toTop", type := (.array .int), accessFlags := 18, slot := 2, constantValue := 0 }, { name := "toBottom", type := (.array .int), accessFlags := 18, slot := 3, constantValue := 0 }, { name := "toPlace", type := (.array .int), accessFlags := 18, slot := 4, constantValue := 0 }]
  methods := #[k2m0, k2m1]
  instanceTypes := #[.int, .long, (.array .int), (.array .int), (.array .int)]
  staticTypes := #[]
  resolved := Array.replicate 66 none
  statics := none }

def pool3 : Array CpInfo := pool [(1, u "java/lang/Cloneable"), (0, .class_ 1), (0, u "java/lang/Object"), (0, .class_ 3)] 3

/-- java/lang/Cloneable -/
def k3 : Class := { plain "java/lang/Cloneable" (some 0) with
  accessFlags := 1537
  interfaces := #[]
  cf := some (fileOf pool3 2 #[] #[] 1537 4 #[] #[])
  fields := #[]
  methods := #[]
  instanceTypes := #[]
  staticTypes := #[]
  resolved := Array.replicate 8 none
  statics := none }

def pool4 : Array CpInfo := pool [(1, u "java/io/Serializable"), (0, .class_ 1), (0, u "java/lang/Object"), (0, .class_ 3)] 3

/-- java/io/Serializable -/
def k4 : Class := { plain "java/io/Serializable" (some 0) with
  accessFlags := 1537
  interfaces := #[]
  cf := some (fileOf pool4 2 #[] #[] 1537 4 #[] #[])
  fields := #[]
  methods := #[]
  instanceTypes := #[]
  staticTypes := #[]
  resolved := Array.replicate 8 none
  statics := none }

/-- the primitive byte -/
def k5 : Class := { plain "byte" none with kind := .primitive 'B', accessFlags := 0x411 }
/-- [B -/
def k6 : Class := { plain "[B" (some 0) with kind := .array 5 .byte, interfaces := #[3, 4], accessFlags := 1041 }

/-- the primitive int -/
def k7 : Class := { plain "int" none with kind := .primitive 'I', accessFlags := 0x411 }
/-- [I -/
def k8 : Class := { plain "[I" (some 0) with kind := .array 7 .int, interfaces := #[3, 4], accessFlags := 1041 }

def heap : Heap := #[]
def classes : Array Class := #[k0, k1, k2, k3, k4, k5, k6, k7, k8]
def interned : List (Array UInt16 × Addr) := []
def slotsUsed : Nat := 0
def theMethod : MethodId := ⟨1, 3⟩
def args0 : Array Value := #[.int 5, .int 5, .int 3, .long 7, .int 9]
def aboutOver (below : List Frame) : State where
  vm := { classes := classes, interned := interned.toArray }
  heap := heap
  slotsUsed := slotsUsed
  threads := #[{ frames := .invoking theMethod args0 :: below }]
def below0 : List Frame := [.native { method := ⟨0, 0⟩, args := #[] }]
def about1 : State := aboutOver below0
def p0 : Program := .bare "" "" ""
def e0 : Env := launch0.env 0 0 0
theorem w_frames : about1.frames = Frame.invoking theMethod args0 :: below0 := rfl
set_option maxRecDepth 65536 in
theorem w_args : argsFit about1.vm theMethod args0 = true := by decide +kernel
set_option maxRecDepth 65536 in
theorem w_heap : heapFits about1 = true := by decide +kernel
set_option maxRecDepth 65536 in
theorem w_runnable : about1.curStatus? = some .runnable := by decide +kernel
set_option maxRecDepth 65536 in
theorem w_alone : about1.alone = true := by decide +kernel
set_option maxRecDepth 65536 in
theorem w_named : about1.methodNamed? x = some theMethod := by decide +kernel
set_option maxRecDepth 65536 in
theorem w_hears : about1.hears theMethod below0 = true := by decide +kernel
set_option maxRecDepth 65536 in
theorem w_ripe : about1.ripe theMethod args0 below0 = true := by decide +kernel
theorem w_running : about1.status = .running := rfl
set_option maxRecDepth 65536 in
theorem w_room : about1.hasRoom e0.platform room_1 = true :=
  launch0.hasRoom_least _ room_1 (by decide +kernel) (by decide +kernel) (by decide +kernel) (by decide +kernel) (by decide +kernel) (by decide +kernel)
theorem allAtoms_all (ts : List Jvm.Cond) (a : Array Jvm.Value) (st : Jvm.State) : (allAtoms ts).before a st = ts.all (fun c => c.before a st) := by
  induction ts with
  | nil => rfl
  | cons c t ih =>
    show (Jvm.Cond.and c (allAtoms t)).before a st = _
    rw [Jvm.Cond.before_and, ih, List.all_cons]
def words1 : List Jvm.Cond := Jvm.Cond.code x code maxLocals ret :: tables_1
/-- a 'code' word, met by the world's own term for the bytes: nothing is compared byte by byte -/
theorem code_word {y : MethodName} {bytes : ByteArray} {mx : Nat} {rt : Option FieldType} {a : Array Value} {s : State} {m : MethodId} {meth : Method} {c : Code} (h1 : s.methodNamed? y = some m) (h2 : s.vm.method? m = some meth) (h3 : meth.code = some c) (h4 : c.code = bytes)
    (h5 : (c.maxLocals == mx && c.exceptionTable.isEmpty && decide (c.maxStack ≤ mostOperands) && decide (meth.sig.returnType = rt) && !meth.locks && decide (parseMethodDescriptor y.desc = some meth.sig)) = true) : (Jvm.Cond.code y bytes mx rt).before a s = true := by
  simp only [Bool.and_eq_true, beq_iff_eq, Bool.not_eq_true', decide_eq_true_eq] at h5
  obtain ⟨⟨⟨⟨⟨g1, g2⟩, g3⟩, g4⟩, g5⟩, g6⟩ := h5
  simp [Cond.before, Cond.holds, Cond.value, h1, h2, h3, h4, g1, g2, g3, g4, g5, g6]
def isCode : Jvm.Cond → Bool
  | .code _ _ _ _ => true
  | _ => false
theorem all_split {L : List Jvm.Cond} {P : Jvm.Cond → Bool} (h1 : L.all (fun c => isCode c || P c) = true) (h2 : ∀ c ∈ L.filter isCode, P c = true) : L.all P = true := by
  refine List.all_eq_true.mpr fun c hc => ?_
  have h := List.all_eq_true.mp h1 c hc
  rcases Bool.eq_false_or_eq_true (isCode c) with hi | hi
  · exact h2 c (List.mem_filter.mpr ⟨hc, hi⟩)
  · simpa [hi] using h
set_option maxRecDepth 65536 in
theorem w_c0 : (Jvm.Cond.code x code maxLocals ret).before args0 about1 = true := code_word (m := ⟨1, 3⟩) (meth := k1m3) (c := k1c3) (by decide +kernel) rfl rfl rfl (by decide +kernel)
set_option maxRecDepth 65536 in
theorem w_c1 : (Jvm.Cond.code ({ cls := "com/example/hyperplane/hyperplane/index/TableAgreesPinLaw", name := "order", desc := "(IZ)[I" } : Jvm.MethodName) method_3_code (2 : Nat) (Option.some (Jvm.ClassFile.FieldType.array Jvm.ClassFile.FieldType.int))).before args0 about1 = true := code_word (m := ⟨1, 2⟩) (meth := k1m2) (c := k1c2) (by decide +kernel) rfl rfl rfl (by decide +kernel)
set_option maxRecDepth 65536 in
theorem w_c2 : (Jvm.Cond.code ({ cls := "com/example/hyperplane/hyperplane/index/TableAgreesPinLaw", name := "e", desc := "(IIZ)I" } : Jvm.MethodName) method_2_code (3 : Nat) (Option.some Jvm.ClassFile.FieldType.int)).before args0 about1 = true := code_word (m := ⟨1, 1⟩) (meth := k1m1) (c := k1c1) (by decide +kernel) rfl rfl rfl (by decide +kernel)
set_option maxRecDepth 65536 in
theorem w_c3 : (Jvm.Cond.code ({ cls := "com/example/hyperplane/hyperplane/index/Table", name := "<init>", desc := "([II)V" } : Jvm.MethodName) prog_25_method_1_code (9 : Nat) (Option.none : Option Jvm.ClassFile.FieldType)).before args0 about1 = true := code_word (m := ⟨2, 0⟩) (meth := k2m0) (c := k2c0) (by decide +kernel) rfl rfl rfl (by decide +kernel)
set_option maxRecDepth 65536 in
theorem w_c4 : (Jvm.Cond.code ({ cls := "java/lang/Object", name := "<init>", desc := "()V" } : Jvm.MethodName) object_method_1_code (1 : Nat) (Option.none : Option Jvm.ClassFile.FieldType)).before args0 about1 = true := code_word (m := ⟨0, 0⟩) (meth := k0m0) (c := k0c0) (by decide +kernel) rfl rfl rfl (by decide +kernel)
set_option maxRecDepth 65536 in
theorem w_c5 : (Jvm.Cond.code ({ cls := "com/example/hyperplane/hyperplane/index/Table", name := "agrees", desc := "(J)Z" } : Jvm.MethodName) prog_25_method_5_code (3 : Nat) (Option.some Jvm.ClassFile.FieldType.boolean)).before args0 about1 = true := code_word (m := ⟨2, 1⟩) (meth := k2m1) (c := k2c1) (by decide +kernel) rfl rfl rfl (by decide +kernel)
def codes1 : List Jvm.Cond := [Jvm.Cond.code x code maxLocals ret, Jvm.Cond.code ({ cls := "com/example/hyperplane/hyperplane/index/TableAgreesPinLaw", name := "order", desc := "(IZ)[I" } : Jvm.MethodName) method_3_code (2 : Nat) (Option.some (Jvm.ClassFile.FieldType.array Jvm.ClassFile.FieldType.int)), Jvm.Cond.code ({ cls := "com/example/hyperplane/hyperplane/index/TableAgreesPinLaw", name := "e", desc := "(IIZ)I" } : Jvm.MethodName) method_2_code (3 : Nat) (Option.some Jvm.ClassFile.FieldType.int), Jvm.Cond.code ({ cls := "com/example/hyperplane/hyperplane/index/Table", name := "<init>", desc := "([II)V" } : Jvm.MethodName) prog_25_method_1_code (9 : Nat) (Option.none : Option Jvm.ClassFile.FieldType), Jvm.Cond.code ({ cls := "java/lang/Object", name := "<init>", desc := "()V" } : Jvm.MethodName) object_method_1_code (1 : Nat) (Option.none : Option Jvm.ClassFile.FieldType), Jvm.Cond.code ({ cls := "com/example/hyperplane/hyperplane/index/Table", name := "agrees", desc := "(J)Z" } : Jvm.MethodName) prog_25_method_5_code (3 : Nat) (Option.some Jvm.ClassFile.FieldType.boolean)]
set_option maxRecDepth 65536 in
theorem codes_eq : words1.filter isCode = codes1 := rfl
theorem w_codes : ∀ c ∈ words1.filter isCode, c.before args0 about1 = true := by
  rw [codes_eq]
  intro c hc
  simp only [codes1, List.mem_cons, List.not_mem_nil, or_false] at hc
  rcases hc with rfl | rfl | rfl | rfl | rfl | rfl
  · exact w_c0
  · exact w_c1
  · exact w_c2
  · exact w_c3
  · exact w_c4
  · exact w_c5
set_option maxRecDepth 65536 in
theorem w_t1 : (words1.take 24).all (fun c => isCode c || c.before args0 about1) = true := by decide +kernel
set_option maxRecDepth 65536 in
theorem w_t2 : (words1.drop 24).all (fun c => isCode c || c.before args0 about1) = true := by decide +kernel
theorem w_tables : (allAtoms (Jvm.Cond.code x code maxLocals ret :: tables_1)).before args0 about1 = true := by
  rw [allAtoms_all]
  show words1.all (fun c => c.before args0 about1) = true
  refine all_split ?_ w_codes
  rw [← List.take_append_drop 24 words1, List.all_append, w_t1, w_t2]
  rfl
set_option maxRecDepth 65536 in
theorem w_case : (Jvm.Cond.and given_1 narrow_1).before args0 about1 = true := by decide +kernel
theorem w_applies : (headSpec (Jvm.Cond.code x code maxLocals ret :: tables_1) room_1).applies x e0.platform about1 = true :=
  (Spec.applies_iff w_frames).mpr ⟨w_running, w_runnable, w_alone, w_named, w_hears, w_ripe, w_room, w_tables⟩
theorem atStart : AtStart classFile x code maxLocals ret World_1 tables_1 room_1 Calls_1 rest_1 Pre_1 launch0 p0 e0 about1 theMethod args0 below0 :=
  ⟨lists_1, trivial, launch0.admits_env _ _ _, launch0.least_env, fairChoices_fair.cas, fairChoices_fair.clock, w_frames, w_args, w_heap, w_applies, trivial, trivial, w_case⟩
end start1
theorem witness_1 : WitnessClaimed_1 := ⟨start1.p0, start1.e0, start1.about1, start1.theMethod, start1.args0, start1.below0, start1.atStart⟩
end Jvm.Pilot.@@N@@
