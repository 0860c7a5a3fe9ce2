import JvmDerived
import JvmDerived.Pilot.@@N@@Statement
import JvmDerived.Pilot.@@N@@Code
set_option linter.unusedVariables false
set_option linter.unusedSimpArgs false
namespace Jvm.Pilot.@@N@@
open Jvm Jvm.ClassFile Sem Op Lib Jvm.Free Jvm.Stand Jvm.LawKit Jvm.RoadKit Bundle Jvm.Pilot.@@N@@.Jvm.D

/-! ## own_: from here the walk goes on; said backwards -/
abbrev Ctx := Program × Launch × Env × State × MethodId × Array Value × List Frame × Method × Code
abbrev kP (K : Ctx) : Program := K.1
abbrev kL (K : Ctx) : Launch := K.2.1
abbrev kE (K : Ctx) : Env := K.2.2.1
abbrev kS (K : Ctx) : State := K.2.2.2.1
abbrev kM (K : Ctx) : MethodId := K.2.2.2.2.1
abbrev kA (K : Ctx) : Array Value := K.2.2.2.2.2.1
abbrev kB (K : Ctx) : List Frame := K.2.2.2.2.2.2.1
abbrev kI (K : Ctx) : Method := K.2.2.2.2.2.2.2.1
abbrev kC (K : Ctx) : Code := K.2.2.2.2.2.2.2.2
/-- from pc, with these locals and this stack, over the heap h: the body ends, and Q says what it returns and leaves; only cells from n0 on are written -/
def Go (K : Ctx) (R : Room) (n0 : Nat) (B : State → List Loc → Prop) (Q : Option Value → Heap → Prop) (h : Heap) (cells slots pc : Nat) (Ls : List Slot) (st : List Value) : Prop :=
  ∀ (T : State) (locs : List Loc), Stand (kP K) (kL K) (kE K) R (kS K) (kM K) (kA K) (kB K) (kI K) (kC K) T locs cells slots → Fr n0 locs → T.heap = h →
    ∃ (s₂ : State) (v : Option Value) (L : List Loc), Steps (kP K).tables (kE K) (kB K) (T.setTop (mkF (kM K) pc ⟨Ls⟩ st)) s₂ ∧ s₂.status = .running ∧ Ended s₂ (kB K) (.returned v) ∧ Q v s₂.heap ∧ Fr n0 L ∧ B s₂ L
/-- the frame of an end -/
abbrev nB (s : State) (R : Room) (s₂ : State) (L : List Loc) : Prop := s.WarmedH s₂.vm ∧ s.sameButNew ({ s₂ with vm := s.vm } : State) L R.cells R.slots
def Cx (K : Ctx) (Z : State) (own : String) (bs : ByteArray) (mx : Nat) (rt : Option FieldType) (nm : String) : Prop :=
  (kP K).tables.exec = Jvm.exec ∧ (kC K).code = bs ∧ (kC K).maxLocals = mx ∧ (kS K).vm.findClass own = some (kM K).cls ∧ (kI K).name = nm ∧ (kI K).sig.returnType = rt ∧ (kI K).locks = false ∧ Z.Warmed39 (kS K).vm
/-- a method's contract, at these arguments and this heap -/
def Con (l : Launch) (y : MethodName) (bs : ByteArray) (mx : Nat) (rt : Option FieldType) (ws : List Jvm.Cond) (rm : Room) (Z : State) (n0 : Nat) (as : Array Value) (h : Heap) (Q : Option Value → Heap → Prop) : Prop :=
  MetFree l y (head1 (Jvm.Cond.code y bs mx rt :: ws) rm) (fun a U => a = as ∧ Z.Warmed39 U.vm ∧ U.heap = h) (fun _ _ _ _ _ => True)
    (fun _ U o U' => ∃ v L, o = .returned v ∧ (Q v U'.heap ∧ Fr n0 L ∧ h.size ≤ U'.heap.size) ∧ FrameEnd U o U' L rm.cells rm.slots)
def qI (P : Int32 → Heap → Prop) : Option Value → Heap → Prop := fun v h => ∃ z, v = some (.int z) ∧ P z h
def qJ (P : Int64 → Heap → Prop) : Option Value → Heap → Prop := fun v h => ∃ z, v = some (.long z) ∧ P z h
def qA (P : Addr → Heap → Prop) : Option Value → Heap → Prop := fun v h => ∃ z, v = some (.ref z) ∧ P z h
def qV (P : Heap → Prop) : Option Value → Heap → Prop := fun v h => v = none ∧ P h
theorem con_of_go {l : Launch} {Z : State} {y : MethodName} {bs : ByteArray} {mx : Nat} {rt : Option FieldType} {ws : List Jvm.Cond} {rm : Room} {as : Array Value} {h : Heap} {n0 : Nat} {Q : Option Value → Heap → Prop} {Ls : List Slot}
    (hp : plainFor y = true) (hLs : ∀ m, entryFrame m as mx = mkF m 0 ⟨Ls⟩ []) (G : ∀ K : Ctx, kL K = l → Cx K Z y.cls bs mx rt y.name → Go K rm n0 (nB (kS K) rm) Q h 0 0 0 Ls []) : Con l y bs mx rt ws rm Z n0 as h Q := by
  refine MetFree.of_bodySF hp hisR ?_
  intro p e s m args below meth c s₁ Bd hml hP hK
  obtain ⟨rfl, hZ, hh⟩ := hP
  obtain ⟨s₂, v, L, h1, h2, h3, h4, h5, h6, h7⟩ := G (p, l, e, s, m, args, below, meth, c) rfl ⟨Bd.exec, Bd.bytes, hml, findClass_of_methodNamed Bd.named, (name_of_methodNamed Bd.named Bd.method).1, Bd.returns, Bd.notSynchronized, hZ⟩ s₁ [] (Stand.of_body Bd) (Fr.nil n0) (by rw [← hh, Bd.state]; rfl)
  exact ⟨s₂, .returned v, castTop (hLs m) h1, h2, h3, v, L, rfl, ⟨h4, h5, by rw [← hh]; exact h7.2.1⟩, ⟨v, rfl⟩, h6, h7⟩
theorem Con.mono {l : Launch} {Z : State} {y : MethodName} {bs : ByteArray} {mx : Nat} {rt : Option FieldType} {ws : List Jvm.Cond} {rm : Room} {as : Array Value} {h : Heap} {n0 : Nat} {Q Q' : Option Value → Heap → Prop}
    (C : Con l y bs mx rt ws rm Z n0 as h Q) (q : ∀ v h, Q v h → Q' v h) : Con l y bs mx rt ws rm Z n0 as h Q' := by
  intro p e ha hc hk s m args below hf happ hP hK
  obtain ⟨n, o, h1, h2, h3, v, L, h4, ⟨h5, h6⟩, h7⟩ := C p e ha hc hk s m args below hf happ hP hK
  exact ⟨n, o, h1, h2, h3, v, L, h4, ⟨q _ _ h5, h6⟩, h7⟩
section
variable {K : Ctx} {R : Room} {n0 : Nat} {B : State → List Loc → Prop} {Q : Option Value → Heap → Prop} {h : Heap} {cells slots pc pc' : Nat} {Ls Ls' : List Slot} {st st' rest : List Value} {Z : State} {own : String} {bs : ByteArray} {mx : Nat} {rt : Option FieldType} {nm : String} {a0 : Array Value}
theorem Go.grow {cells' slots' : Nat} (G : Go K R n0 B Q h cells' slots' pc Ls st) (h1 : cells ≤ cells') (h2 : slots ≤ slots') : Go K R n0 B Q h cells slots pc Ls st :=
  fun T locs X N eT => G T locs { X with same := X.same.mono h1 h2 } N eT
theorem Go.step (H : ∀ T : State, At T (kM K) (kC K) (kB K) → ∀ target, Steps (kP K).tables (kE K) (kB K) (T.setTop (mkF (kM K) pc' ⟨Ls'⟩ st')) target → Steps (kP K).tables (kE K) (kB K) (T.setTop (mkF (kM K) pc ⟨Ls⟩ st)) target) (G : Go K R n0 B Q h cells slots pc' Ls' st') : Go K R n0 B Q h cells slots pc Ls st := by
  intro T locs X N eT
  obtain ⟨s₂, v, L, h1, r⟩ := G T locs X N eT
  exact ⟨s₂, v, L, H T X.here _ h1, r⟩
theorem Go.stepX (H : ∀ (T : State) (locs : List Loc), Stand (kP K) (kL K) (kE K) R (kS K) (kM K) (kA K) (kB K) (kI K) (kC K) T locs cells slots → T.heap = h → ∀ target, Steps (kP K).tables (kE K) (kB K) (T.setTop (mkF (kM K) pc' ⟨Ls'⟩ st')) target → Steps (kP K).tables (kE K) (kB K) (T.setTop (mkF (kM K) pc ⟨Ls⟩ st)) target) (G : Go K R n0 B Q h cells slots pc' Ls' st') : Go K R n0 B Q h cells slots pc Ls st := by
  intro T locs X N eT
  obtain ⟨s₂, v, L, h1, r⟩ := G T locs X N eT
  exact ⟨s₂, v, L, H T locs X eT _ h1, r⟩
theorem g_iloadN (hK : Cx K Z own bs mx rt nm) {k : Fin 4} {v : Int32} (hd : decode bs pc = .ok (.iload_n k, 1)) (hl : Ls[k.val]? = some (.val (.int v))) (G : Go K R n0 B Q h cells slots (pc + 1) Ls (.int v :: st)) : Go K R n0 B Q h cells slots pc Ls st :=
  G.step fun T A t S => XS.iloadN A hK.1 rfl (hb hK.2.1 hd) (by simpa using hl) S
theorem g_iload (hK : Cx K Z own bs mx rt nm) {k : Nat} {v : Int32} (hd : decode bs pc = .ok (.iload k, 2)) (hl : Ls[k]? = some (.val (.int v))) (G : Go K R n0 B Q h cells slots (pc + 2) Ls (.int v :: st)) : Go K R n0 B Q h cells slots pc Ls st :=
  G.step fun T A t S => XS.iload A hK.1 rfl (hb hK.2.1 hd) (by simpa using hl) S
theorem g_lloadN (hK : Cx K Z own bs mx rt nm) {k : Fin 4} {v : Int64} (hd : decode bs pc = .ok (.lload_n k, 1)) (hl : Ls[k.val]? = some (.val (.long v))) (G : Go K R n0 B Q h cells slots (pc + 1) Ls (.long v :: st)) : Go K R n0 B Q h cells slots pc Ls st :=
  G.step fun T A t S => XS.lloadN A hK.1 rfl (hb hK.2.1 hd) (by simpa using hl) S
theorem g_lload (hK : Cx K Z own bs mx rt nm) {k : Nat} {v : Int64} (hd : decode bs pc = .ok (.lload k, 2)) (hl : Ls[k]? = some (.val (.long v))) (G : Go K R n0 B Q h cells slots (pc + 2) Ls (.long v :: st)) : Go K R n0 B Q h cells slots pc Ls st :=
  G.step fun T A t S => XS.lload A hK.1 rfl (hb hK.2.1 hd) (by simpa using hl) S
theorem g_aloadN (hK : Cx K Z own bs mx rt nm) {k : Fin 4} {v : Addr} (hd : decode bs pc = .ok (.aload_n k, 1)) (hl : Ls[k.val]? = some (.val (.ref v))) (G : Go K R n0 B Q h cells slots (pc + 1) Ls (.ref v :: st)) : Go K R n0 B Q h cells slots pc Ls st :=
  G.step fun T A t S => XS.aloadN A hK.1 rfl (hb hK.2.1 hd) (by simpa using hl) rfl S
theorem g_aload (hK : Cx K Z own bs mx rt nm) {k : Nat} {v : Addr} (hd : decode bs pc = .ok (.aload k, 2)) (hl : Ls[k]? = some (.val (.ref v))) (G : Go K R n0 B Q h cells slots (pc + 2) Ls (.ref v :: st)) : Go K R n0 B Q h cells slots pc Ls st :=
  G.step fun T A t S => XS.aload A hK.1 rfl (hb hK.2.1 hd) (by simpa using hl) rfl S
theorem g_iconst (hK : Cx K Z own bs mx rt nm) {i : Int} {z : Int32} (hd : decode bs pc = .ok (.iconst i, 1)) (hz : (Int32.ofInt i) = z) (G : Go K R n0 B Q h cells slots (pc + 1) Ls (.int z :: st)) : Go K R n0 B Q h cells slots pc Ls st :=
  G.step fun T A t S => XS.iconst A hK.1 rfl (hb hK.2.1 hd) (by subst hz; exact S)
theorem g_bipush (hK : Cx K Z own bs mx rt nm) {i : Int} {z : Int32} (hd : decode bs pc = .ok (.bipush i, 2)) (hz : (Int8.ofInt i).toInt32 = z) (G : Go K R n0 B Q h cells slots (pc + 2) Ls (.int z :: st)) : Go K R n0 B Q h cells slots pc Ls st :=
  G.step fun T A t S => XS.bipush A hK.1 rfl (hb hK.2.1 hd) (by subst hz; exact S)
theorem g_sipush (hK : Cx K Z own bs mx rt nm) {i : Int} {z : Int32} (hd : decode bs pc = .ok (.sipush i, 3)) (hz : (Int16.ofInt i).toInt32 = z) (G : Go K R n0 B Q h cells slots (pc + 3) Ls (.int z :: st)) : Go K R n0 B Q h cells slots pc Ls st :=
  G.step fun T A t S => XS.sipush A hK.1 rfl (hb hK.2.1 hd) (by subst hz; exact S)
theorem g_lconst (hK : Cx K Z own bs mx rt nm) {k : Fin 2} {z : Int64} (hd : decode bs pc = .ok (.lconst k, 1)) (hz : (Int64.ofNat k) = z) (G : Go K R n0 B Q h cells slots (pc + 1) Ls (.long z :: st)) : Go K R n0 B Q h cells slots pc Ls st :=
  G.step fun T A t S => XS.lconst A hK.1 rfl (hb hK.2.1 hd) (by subst hz; exact S)
theorem g_aconst_null (hK : Cx K Z own bs mx rt nm) (hd : decode bs pc = .ok (.aconst_null, 1)) (G : Go K R n0 B Q h cells slots (pc + 1) Ls (.null :: st)) : Go K R n0 B Q h cells slots pc Ls st :=
  G.step fun T A t S => XS.aconstNull A hK.1 rfl (hb hK.2.1 hd) S
theorem g_iadd (hK : Cx K Z own bs mx rt nm) {x y : Int32} (hd : decode bs pc = .ok (.iadd, 1)) (G : Go K R n0 B Q h cells slots (pc + 1) Ls (.int (x + y) :: rest)) : Go K R n0 B Q h cells slots pc Ls (.int y :: .int x :: rest) :=
  G.step fun T A t S => XS.iadd A hK.1 rfl (hb hK.2.1 hd) rfl S
theorem g_isub (hK : Cx K Z own bs mx rt nm) {x y : Int32} (hd : decode bs pc = .ok (.isub, 1)) (G : Go K R n0 B Q h cells slots (pc + 1) Ls (.int (x - y) :: rest)) : Go K R n0 B Q h cells slots pc Ls (.int y :: .int x :: rest) :=
  G.step fun T A t S => XS.isub A hK.1 rfl (hb hK.2.1 hd) rfl S
theorem g_imul (hK : Cx K Z own bs mx rt nm) {x y : Int32} (hd : decode bs pc = .ok (.imul, 1)) (G : Go K R n0 B Q h cells slots (pc + 1) Ls (.int (x * y) :: rest)) : Go K R n0 B Q h cells slots pc Ls (.int y :: .int x :: rest) :=
  G.step fun T A t S => XS.imul A hK.1 rfl (hb hK.2.1 hd) rfl S
theorem g_iand (hK : Cx K Z own bs mx rt nm) {x y : Int32} (hd : decode bs pc = .ok (.iand, 1)) (G : Go K R n0 B Q h cells slots (pc + 1) Ls (.int (x &&& y) :: rest)) : Go K R n0 B Q h cells slots pc Ls (.int y :: .int x :: rest) :=
  G.step fun T A t S => XS.iand A hK.1 rfl (hb hK.2.1 hd) rfl S
theorem g_ior (hK : Cx K Z own bs mx rt nm) {x y : Int32} (hd : decode bs pc = .ok (.ior, 1)) (G : Go K R n0 B Q h cells slots (pc + 1) Ls (.int (x ||| y) :: rest)) : Go K R n0 B Q h cells slots pc Ls (.int y :: .int x :: rest) :=
  G.step fun T A t S => XS.ior A hK.1 rfl (hb hK.2.1 hd) rfl S
theorem g_ixor (hK : Cx K Z own bs mx rt nm) {x y : Int32} (hd : decode bs pc = .ok (.ixor, 1)) (G : Go K R n0 B Q h cells slots (pc + 1) Ls (.int (x ^^^ y) :: rest)) : Go K R n0 B Q h cells slots pc Ls (.int y :: .int x :: rest) :=
  G.step fun T A t S => XS.ixor A hK.1 rfl (hb hK.2.1 hd) rfl S
theorem g_ishl (hK : Cx K Z own bs mx rt nm) {x y : Int32} (hd : decode bs pc = .ok (.ishl, 1)) (G : Go K R n0 B Q h cells slots (pc + 1) Ls (.int (x <<< (y &&& 31)) :: rest)) : Go K R n0 B Q h cells slots pc Ls (.int y :: .int x :: rest) :=
  G.step fun T A t S => XS.ishl A hK.1 rfl (hb hK.2.1 hd) rfl S
theorem g_ishr (hK : Cx K Z own bs mx rt nm) {x y : Int32} (hd : decode bs pc = .ok (.ishr, 1)) (G : Go K R n0 B Q h cells slots (pc + 1) Ls (.int (x >>> (y &&& 31)) :: rest)) : Go K R n0 B Q h cells slots pc Ls (.int y :: .int x :: rest) :=
  G.step fun T A t S => XS.ishr A hK.1 rfl (hb hK.2.1 hd) rfl S
theorem g_iushr (hK : Cx K Z own bs mx rt nm) {x y : Int32} (hd : decode bs pc = .ok (.iushr, 1)) (G : Go K R n0 B Q h cells slots (pc + 1) Ls (.int ((x.toUInt32 >>> (y &&& 31).toUInt32).toInt32) :: rest)) : Go K R n0 B Q h cells slots pc Ls (.int y :: .int x :: rest) :=
  G.step fun T A t S => XS.iushr A hK.1 rfl (hb hK.2.1 hd) rfl S
theorem irem_mod (x y : Int32) : x - (x / y) * y = x % y := by
  apply Int32.toInt_inj.mp
  have h1 := Int32.le_toInt (x % y)
  have h2 := Int32.toInt_lt (x % y)
  rw [Int32.toInt_sub, Int32.toInt_mul, Int32.toInt_div, Int.bmod_mul_bmod, Int.sub_bmod_bmod, Int.mul_comm (x.toInt.tdiv y.toInt), ← Int.tmod_def, ← Int32.toInt_mod]
  exact Int.bmod_eq_of_le_mul_two (by omega) (by omega)
theorem g_idiv (hK : Cx K Z own bs mx rt nm) {x y : Int32} (hd : decode bs pc = .ok (.idiv, 1)) (hy : y ≠ 0) (G : Go K R n0 B Q h cells slots (pc + 1) Ls (.int (x / y) :: rest)) : Go K R n0 B Q h cells slots pc Ls (.int y :: .int x :: rest) :=
  G.step fun T A t S => XS.idiv A hK.1 rfl (hb hK.2.1 hd) rfl hy S
theorem g_irem (hK : Cx K Z own bs mx rt nm) {x y : Int32} (hd : decode bs pc = .ok (.irem, 1)) (hy : y ≠ 0) (G : Go K R n0 B Q h cells slots (pc + 1) Ls (.int (x % y) :: rest)) : Go K R n0 B Q h cells slots pc Ls (.int y :: .int x :: rest) :=
  G.step fun T A t S => XS.irem A hK.1 rfl (hb hK.2.1 hd) rfl hy (by rw [irem_mod]; exact S)
theorem g_ineg (hK : Cx K Z own bs mx rt nm) {x : Int32} (hd : decode bs pc = .ok (.ineg, 1)) (G : Go K R n0 B Q h cells slots (pc + 1) Ls (.int (-x) :: rest)) : Go K R n0 B Q h cells slots pc Ls (.int x :: rest) :=
  G.step fun T A t S => XS.ineg A hK.1 rfl (hb hK.2.1 hd) rfl S
theorem g_ladd (hK : Cx K Z own bs mx rt nm) {x y : Int64} (hd : decode bs pc = .ok (.ladd, 1)) (G : Go K R n0 B Q h cells slots (pc + 1) Ls (.long (x + y) :: rest)) : Go K R n0 B Q h cells slots pc Ls (.long y :: .long x :: rest) :=
  G.step fun T A t S => XS.ladd A hK.1 rfl (hb hK.2.1 hd) rfl S
theorem g_lsub (hK : Cx K Z own bs mx rt nm) {x y : Int64} (hd : decode bs pc = .ok (.lsub, 1)) (G : Go K R n0 B Q h cells slots (pc + 1) Ls (.long (x - y) :: rest)) : Go K R n0 B Q h cells slots pc Ls (.long y :: .long x :: rest) :=
  G.step fun T A t S => XS.lsub A hK.1 rfl (hb hK.2.1 hd) rfl S
theorem g_lmul (hK : Cx K Z own bs mx rt nm) {x y : Int64} (hd : decode bs pc = .ok (.lmul, 1)) (G : Go K R n0 B Q h cells slots (pc + 1) Ls (.long (x * y) :: rest)) : Go K R n0 B Q h cells slots pc Ls (.long y :: .long x :: rest) :=
  G.step fun T A t S => XS.lmul A hK.1 rfl (hb hK.2.1 hd) rfl S
theorem g_land (hK : Cx K Z own bs mx rt nm) {x y : Int64} (hd : decode bs pc = .ok (.land, 1)) (G : Go K R n0 B Q h cells slots (pc + 1) Ls (.long (x &&& y) :: rest)) : Go K R n0 B Q h cells slots pc Ls (.long y :: .long x :: rest) :=
  G.step fun T A t S => XS.land A hK.1 rfl (hb hK.2.1 hd) rfl S
theorem g_lor (hK : Cx K Z own bs mx rt nm) {x y : Int64} (hd : decode bs pc = .ok (.lor, 1)) (G : Go K R n0 B Q h cells slots (pc + 1) Ls (.long (x ||| y) :: rest)) : Go K R n0 B Q h cells slots pc Ls (.long y :: .long x :: rest) :=
  G.step fun T A t S => XS.lor A hK.1 rfl (hb hK.2.1 hd) rfl S
theorem g_lxor (hK : Cx K Z own bs mx rt nm) {x y : Int64} (hd : decode bs pc = .ok (.lxor, 1)) (G : Go K R n0 B Q h cells slots (pc + 1) Ls (.long (x ^^^ y) :: rest)) : Go K R n0 B Q h cells slots pc Ls (.long y :: .long x :: rest) :=
  G.step fun T A t S => XS.lxor A hK.1 rfl (hb hK.2.1 hd) rfl S
theorem g_ldiv (hK : Cx K Z own bs mx rt nm) {x y : Int64} (hd : decode bs pc = .ok (.ldiv, 1)) (hy : y ≠ 0) (G : Go K R n0 B Q h cells slots (pc + 1) Ls (.long (x / y) :: rest)) : Go K R n0 B Q h cells slots pc Ls (.long y :: .long x :: rest) :=
  G.step fun T A t S => XS.ldiv A hK.1 rfl (hb hK.2.1 hd) rfl hy S
theorem g_lshl (hK : Cx K Z own bs mx rt nm) {x : Int64} {y : Int32} (hd : decode bs pc = .ok (.lshl, 1)) (G : Go K R n0 B Q h cells slots (pc + 1) Ls (.long (x <<< (y &&& 0x3f).toInt64) :: rest)) : Go K R n0 B Q h cells slots pc Ls (.int y :: .long x :: rest) :=
  G.step fun T A t S => XS.lshl A hK.1 rfl (hb hK.2.1 hd) rfl S
theorem g_lshr (hK : Cx K Z own bs mx rt nm) {x : Int64} {y : Int32} (hd : decode bs pc = .ok (.lshr, 1)) (G : Go K R n0 B Q h cells slots (pc + 1) Ls (.long (x >>> (y &&& 0x3f).toInt64) :: rest)) : Go K R n0 B Q h cells slots pc Ls (.int y :: .long x :: rest) :=
  G.step fun T A t S => XS.lshr A hK.1 rfl (hb hK.2.1 hd) rfl S
theorem g_lushr (hK : Cx K Z own bs mx rt nm) {x : Int64} {y : Int32} (hd : decode bs pc = .ok (.lushr, 1)) (G : Go K R n0 B Q h cells slots (pc + 1) Ls (.long ((x.toUInt64 >>> (y &&& 0x3f).toInt64.toUInt64).toInt64) :: rest)) : Go K R n0 B Q h cells slots pc Ls (.int y :: .long x :: rest) :=
  G.step fun T A t S => XS.lushr A hK.1 rfl (hb hK.2.1 hd) rfl S
theorem g_i2l (hK : Cx K Z own bs mx rt nm) {x : Int32} (hd : decode bs pc = .ok (.i2l, 1)) (G : Go K R n0 B Q h cells slots (pc + 1) Ls (.long x.toInt64 :: rest)) : Go K R n0 B Q h cells slots pc Ls (.int x :: rest) :=
  G.step fun T A t S => XS.i2l A hK.1 rfl (hb hK.2.1 hd) rfl S
theorem g_l2i (hK : Cx K Z own bs mx rt nm) {x : Int64} (hd : decode bs pc = .ok (.l2i, 1)) (G : Go K R n0 B Q h cells slots (pc + 1) Ls (.int x.toInt32 :: rest)) : Go K R n0 B Q h cells slots pc Ls (.long x :: rest) :=
  G.step fun T A t S => XS.l2i A hK.1 rfl (hb hK.2.1 hd) rfl S
theorem g_i2b (hK : Cx K Z own bs mx rt nm) {x : Int32} (hd : decode bs pc = .ok (.i2b, 1)) (G : Go K R n0 B Q h cells slots (pc + 1) Ls (.int x.toInt8.toInt32 :: rest)) : Go K R n0 B Q h cells slots pc Ls (.int x :: rest) :=
  G.step fun T A t S => XS.i2b A hK.1 rfl (hb hK.2.1 hd) rfl S
theorem g_dup (hK : Cx K Z own bs mx rt nm) {x : Value} (hd : decode bs pc = .ok (.dup, 1)) (hc : x.category = 1) (G : Go K R n0 B Q h cells slots (pc + 1) Ls (x :: x :: rest)) : Go K R n0 B Q h cells slots pc Ls (x :: rest) :=
  G.step fun T A t S => XS.dup A hK.1 rfl (hb hK.2.1 hd) rfl hc S
theorem g_pop (hK : Cx K Z own bs mx rt nm) {x : Value} (hd : decode bs pc = .ok (.pop, 1)) (hc : x.category = 1) (G : Go K R n0 B Q h cells slots (pc + 1) Ls rest) : Go K R n0 B Q h cells slots pc Ls (x :: rest) :=
  G.step fun T A t S => XS.pop A hK.1 rfl (hb hK.2.1 hd) rfl hc S
theorem g_dup_x1 (hK : Cx K Z own bs mx rt nm) {x y : Value} (hd : decode bs pc = .ok (.dup_x1, 1)) (hc : x.category = 1) (hc2 : y.category = 1) (G : Go K R n0 B Q h cells slots (pc + 1) Ls (x :: y :: x :: rest)) : Go K R n0 B Q h cells slots pc Ls (x :: y :: rest) :=
  G.step fun T A t S => XS.dupX1 A hK.1 rfl (hb hK.2.1 hd) rfl hc hc2 S
theorem g_dup2 (hK : Cx K Z own bs mx rt nm) {x y : Value} (hd : decode bs pc = .ok (.dup2, 1)) (hc : x.category = 1) (hc2 : y.category = 1) (G : Go K R n0 B Q h cells slots (pc + 1) Ls (x :: y :: x :: y :: rest)) : Go K R n0 B Q h cells slots pc Ls (x :: y :: rest) :=
  G.step fun T A t S => XT.dup2 A hK.1 rfl (hb hK.2.1 hd) rfl hc hc2 S
theorem g_goto (hK : Cx K Z own bs mx rt nm) {o : Int} (hd : decode bs pc = .ok (.goto o, 3)) (ho : 0 ≤ (pc : Int) + o ∧ ((pc : Int) + o).toNat = pc') (G : Go K R n0 B Q h cells slots pc' Ls st) : Go K R n0 B Q h cells slots pc Ls st :=
  G.step fun T A t S => XS.goto A hK.1 rfl rfl (hb hK.2.1 hd) ho.1 ho.2 S
theorem ih_eq (x y : Int32) : if_icmp.holds .eq x y = decide (x = y) := by by_cases q : x = y <;> simp [if_icmp.holds, q]
theorem ih_ne (x y : Int32) : if_icmp.holds .ne x y = decide (x ≠ y) := by by_cases q : x = y <;> simp [if_icmp.holds, q]
theorem ih_lt (x y : Int32) : if_icmp.holds .lt x y = decide (x.toInt < y.toInt) := by by_cases q : x.toInt < y.toInt <;> simp [if_icmp.holds, Int32.lt_iff_toInt_lt, Int32.le_iff_toInt_le, q]
theorem ih_ge (x y : Int32) : if_icmp.holds .ge x y = decide (y.toInt ≤ x.toInt) := by by_cases q : y.toInt ≤ x.toInt <;> simp [if_icmp.holds, Int32.lt_iff_toInt_lt, Int32.le_iff_toInt_le, q]
theorem ih_gt (x y : Int32) : if_icmp.holds .gt x y = decide (y.toInt < x.toInt) := by by_cases q : y.toInt < x.toInt <;> simp [if_icmp.holds, Int32.lt_iff_toInt_lt, Int32.le_iff_toInt_le, q]
theorem ih_le (x y : Int32) : if_icmp.holds .le x y = decide (x.toInt ≤ y.toInt) := by by_cases q : x.toInt ≤ y.toInt <;> simp [if_icmp.holds, Int32.lt_iff_toInt_lt, Int32.le_iff_toInt_le, q]
theorem gY_icmp_eq (hK : Cx K Z own bs mx rt nm) {o : Int} {x y : Int32} (hd : decode bs pc = .ok (.if_icmp .eq o, 3)) (ho : 0 ≤ (pc : Int) + o ∧ ((pc : Int) + o).toNat = pc') (q : x = y) (G : Go K R n0 B Q h cells slots pc' Ls rest) : Go K R n0 B Q h cells slots pc Ls (.int y :: .int x :: rest) :=
  G.step fun T A t S => XS.icmpYes A hK.1 rfl rfl (hb hK.2.1 hd) rfl (by rw [ih_eq]; exact decide_eq_true q) ho.1 ho.2 S
theorem gN_icmp_eq (hK : Cx K Z own bs mx rt nm) {o : Int} {x y : Int32} (hd : decode bs pc = .ok (.if_icmp .eq o, 3)) (q : x ≠ y) (G : Go K R n0 B Q h cells slots (pc + 3) Ls rest) : Go K R n0 B Q h cells slots pc Ls (.int y :: .int x :: rest) :=
  G.step fun T A t S => XS.icmpNo A hK.1 rfl (hb hK.2.1 hd) rfl (by rw [ih_eq]; exact decide_eq_false (q)) S
theorem g_icmp_eq (hK : Cx K Z own bs mx rt nm) {o : Int} {x y : Int32} (hd : decode bs pc = .ok (.if_icmp .eq o, 3)) (ho : 0 ≤ (pc : Int) + o ∧ ((pc : Int) + o).toNat = pc') (G1 : x = y → Go K R n0 B Q h cells slots pc' Ls rest) (G2 : x ≠ y → Go K R n0 B Q h cells slots (pc + 3) Ls rest) : Go K R n0 B Q h cells slots pc Ls (.int y :: .int x :: rest) :=
  (Decidable.em (x = y)).elim (fun z => gY_icmp_eq hK hd ho z (G1 z)) (fun z => gN_icmp_eq hK hd (z) ((fun z => G2 z) z))
theorem gY_icmp_ne (hK : Cx K Z own bs mx rt nm) {o : Int} {x y : Int32} (hd : decode bs pc = .ok (.if_icmp .ne o, 3)) (ho : 0 ≤ (pc : Int) + o ∧ ((pc : Int) + o).toNat = pc') (q : x ≠ y) (G : Go K R n0 B Q h cells slots pc' Ls rest) : Go K R n0 B Q h cells slots pc Ls (.int y :: .int x :: rest) :=
  G.step fun T A t S => XS.icmpYes A hK.1 rfl rfl (hb hK.2.1 hd) rfl (by rw [ih_ne]; exact decide_eq_true q) ho.1 ho.2 S
theorem gN_icmp_ne (hK : Cx K Z own bs mx rt nm) {o : Int} {x y : Int32} (hd : decode bs pc = .ok (.if_icmp .ne o, 3)) (q : x = y) (G : Go K R n0 B Q h cells slots (pc + 3) Ls rest) : Go K R n0 B Q h cells slots pc Ls (.int y :: .int x :: rest) :=
  G.step fun T A t S => XS.icmpNo A hK.1 rfl (hb hK.2.1 hd) rfl (by rw [ih_ne]; exact decide_eq_false (fun z => z q)) S
theorem g_icmp_ne (hK : Cx K Z own bs mx rt nm) {o : Int} {x y : Int32} (hd : decode bs pc = .ok (.if_icmp .ne o, 3)) (ho : 0 ≤ (pc : Int) + o ∧ ((pc : Int) + o).toNat = pc') (G1 : x ≠ y → Go K R n0 B Q h cells slots pc' Ls rest) (G2 : x = y → Go K R n0 B Q h cells slots (pc + 3) Ls rest) : Go K R n0 B Q h cells slots pc Ls (.int y :: .int x :: rest) :=
  (Decidable.em (x ≠ y)).elim (fun z => gY_icmp_ne hK hd ho z (G1 z)) (fun z => gN_icmp_ne hK hd (Decidable.not_not.mp z) ((fun z => G2 (Decidable.not_not.mp z)) z))
theorem gY_icmp_lt (hK : Cx K Z own bs mx rt nm) {o : Int} {x y : Int32} (hd : decode bs pc = .ok (.if_icmp .lt o, 3)) (ho : 0 ≤ (pc : Int) + o ∧ ((pc : Int) + o).toNat = pc') (q : x.toInt < y.toInt) (G : Go K R n0 B Q h cells slots pc' Ls rest) : Go K R n0 B Q h cells slots pc Ls (.int y :: .int x :: rest) :=
  G.step fun T A t S => XS.icmpYes A hK.1 rfl rfl (hb hK.2.1 hd) rfl (by rw [ih_lt]; exact decide_eq_true q) ho.1 ho.2 S
theorem gN_icmp_lt (hK : Cx K Z own bs mx rt nm) {o : Int} {x y : Int32} (hd : decode bs pc = .ok (.if_icmp .lt o, 3)) (q : y.toInt ≤ x.toInt) (G : Go K R n0 B Q h cells slots (pc + 3) Ls rest) : Go K R n0 B Q h cells slots pc Ls (.int y :: .int x :: rest) :=
  G.step fun T A t S => XS.icmpNo A hK.1 rfl (hb hK.2.1 hd) rfl (by rw [ih_lt]; exact decide_eq_false (Int.not_lt.mpr q)) S
theorem g_icmp_lt (hK : Cx K Z own bs mx rt nm) {o : Int} {x y : Int32} (hd : decode bs pc = .ok (.if_icmp .lt o, 3)) (ho : 0 ≤ (pc : Int) + o ∧ ((pc : Int) + o).toNat = pc') (G1 : x.toInt < y.toInt → Go K R n0 B Q h cells slots pc' Ls rest) (G2 : y.toInt ≤ x.toInt → Go K R n0 B Q h cells slots (pc + 3) Ls rest) : Go K R n0 B Q h cells slots pc Ls (.int y :: .int x :: rest) :=
  (Decidable.em (x.toInt < y.toInt)).elim (fun z => gY_icmp_lt hK hd ho z (G1 z)) (fun z => gN_icmp_lt hK hd (Int.not_lt.mp z) ((fun z => G2 (Int.not_lt.mp z)) z))
theorem gY_icmp_ge (hK : Cx K Z own bs mx rt nm) {o : Int} {x y : Int32} (hd : decode bs pc = .ok (.if_icmp .ge o, 3)) (ho : 0 ≤ (pc : Int) + o ∧ ((pc : Int) + o).toNat = pc') (q : y.toInt ≤ x.toInt) (G : Go K R n0 B Q h cells slots pc' Ls rest) : Go K R n0 B Q h cells slots pc Ls (.int y :: .int x :: rest) :=
  G.step fun T A t S => XS.icmpYes A hK.1 rfl rfl (hb hK.2.1 hd) rfl (by rw [ih_ge]; exact decide_eq_true q) ho.1 ho.2 S
theorem gN_icmp_ge (hK : Cx K Z own bs mx rt nm) {o : Int} {x y : Int32} (hd : decode bs pc = .ok (.if_icmp .ge o, 3)) (q : x.toInt < y.toInt) (G : Go K R n0 B Q h cells slots (pc + 3) Ls rest) : Go K R n0 B Q h cells slots pc Ls (.int y :: .int x :: rest) :=
  G.step fun T A t S => XS.icmpNo A hK.1 rfl (hb hK.2.1 hd) rfl (by rw [ih_ge]; exact decide_eq_false (Int.not_le.mpr q)) S
theorem g_icmp_ge (hK : Cx K Z own bs mx rt nm) {o : Int} {x y : Int32} (hd : decode bs pc = .ok (.if_icmp .ge o, 3)) (ho : 0 ≤ (pc : Int) + o ∧ ((pc : Int) + o).toNat = pc') (G1 : y.toInt ≤ x.toInt → Go K R n0 B Q h cells slots pc' Ls rest) (G2 : x.toInt < y.toInt → Go K R n0 B Q h cells slots (pc + 3) Ls rest) : Go K R n0 B Q h cells slots pc Ls (.int y :: .int x :: rest) :=
  (Decidable.em (y.toInt ≤ x.toInt)).elim (fun z => gY_icmp_ge hK hd ho z (G1 z)) (fun z => gN_icmp_ge hK hd (Int.not_le.mp z) ((fun z => G2 (Int.not_le.mp z)) z))
theorem gY_icmp_gt (hK : Cx K Z own bs mx rt nm) {o : Int} {x y : Int32} (hd : decode bs pc = .ok (.if_icmp .gt o, 3)) (ho : 0 ≤ (pc : Int) + o ∧ ((pc : Int) + o).toNat = pc') (q : y.toInt < x.toInt) (G : Go K R n0 B Q h cells slots pc' Ls rest) : Go K R n0 B Q h cells slots pc Ls (.int y :: .int x :: rest) :=
  G.step fun T A t S => XS.icmpYes A hK.1 rfl rfl (hb hK.2.1 hd) rfl (by rw [ih_gt]; exact decide_eq_true q) ho.1 ho.2 S
theorem gN_icmp_gt (hK : Cx K Z own bs mx rt nm) {o : Int} {x y : Int32} (hd : decode bs pc = .ok (.if_icmp .gt o, 3)) (q : x.toInt ≤ y.toInt) (G : Go K R n0 B Q h cells slots (pc + 3) Ls rest) : Go K R n0 B Q h cells slots pc Ls (.int y :: .int x :: rest) :=
  G.step fun T A t S => XS.icmpNo A hK.1 rfl (hb hK.2.1 hd) rfl (by rw [ih_gt]; exact decide_eq_false (Int.not_lt.mpr q)) S
theorem g_icmp_gt (hK : Cx K Z own bs mx rt nm) {o : Int} {x y : Int32} (hd : decode bs pc = .ok (.if_icmp .gt o, 3)) (ho : 0 ≤ (pc : Int) + o ∧ ((pc : Int) + o).toNat = pc') (G1 : y.toInt < x.toInt → Go K R n0 B Q h cells slots pc' Ls rest) (G2 : x.toInt ≤ y.toInt → Go K R n0 B Q h cells slots (pc + 3) Ls rest) : Go K R n0 B Q h cells slots pc Ls (.int y :: .int x :: rest) :=
  (Decidable.em (y.toInt < x.toInt)).elim (fun z => gY_icmp_gt hK hd ho z (G1 z)) (fun z => gN_icmp_gt hK hd (Int.not_lt.mp z) ((fun z => G2 (Int.not_lt.mp z)) z))
theorem gY_icmp_le (hK : Cx K Z own bs mx rt nm) {o : Int} {x y : Int32} (hd : decode bs pc = .ok (.if_icmp .le o, 3)) (ho : 0 ≤ (pc : Int) + o ∧ ((pc : Int) + o).toNat = pc') (q : x.toInt ≤ y.toInt) (G : Go K R n0 B Q h cells slots pc' Ls rest) : Go K R n0 B Q h cells slots pc Ls (.int y :: .int x :: rest) :=
  G.step fun T A t S => XS.icmpYes A hK.1 rfl rfl (hb hK.2.1 hd) rfl (by rw [ih_le]; exact decide_eq_true q) ho.1 ho.2 S
theorem gN_icmp_le (hK : Cx K Z own bs mx rt nm) {o : Int} {x y : Int32} (hd : decode bs pc = .ok (.if_icmp .le o, 3)) (q : y.toInt < x.toInt) (G : Go K R n0 B Q h cells slots (pc + 3) Ls rest) : Go K R n0 B Q h cells slots pc Ls (.int y :: .int x :: rest) :=
  G.step fun T A t S => XS.icmpNo A hK.1 rfl (hb hK.2.1 hd) rfl (by rw [ih_le]; exact decide_eq_false (Int.not_le.mpr q)) S
theorem g_icmp_le (hK : Cx K Z own bs mx rt nm) {o : Int} {x y : Int32} (hd : decode bs pc = .ok (.if_icmp .le o, 3)) (ho : 0 ≤ (pc : Int) + o ∧ ((pc : Int) + o).toNat = pc') (G1 : x.toInt ≤ y.toInt → Go K R n0 B Q h cells slots pc' Ls rest) (G2 : y.toInt < x.toInt → Go K R n0 B Q h cells slots (pc + 3) Ls rest) : Go K R n0 B Q h cells slots pc Ls (.int y :: .int x :: rest) :=
  (Decidable.em (x.toInt ≤ y.toInt)).elim (fun z => gY_icmp_le hK hd ho z (G1 z)) (fun z => gN_icmp_le hK hd (Int.not_le.mp z) ((fun z => G2 (Int.not_le.mp z)) z))
theorem gY_if_eq (hK : Cx K Z own bs mx rt nm) {o : Int} {x : Int32} (hd : decode bs pc = .ok (.ifCond .eq o, 3)) (ho : 0 ≤ (pc : Int) + o ∧ ((pc : Int) + o).toNat = pc') (q : x = 0) (G : Go K R n0 B Q h cells slots pc' Ls rest) : Go K R n0 B Q h cells slots pc Ls (.int x :: rest) :=
  G.step fun T A t S => XS.ifYes A hK.1 rfl rfl (hb hK.2.1 hd) rfl (by rw [if0, ih_eq]; exact decide_eq_true q) ho.1 ho.2 S
theorem gN_if_eq (hK : Cx K Z own bs mx rt nm) {o : Int} {x : Int32} (hd : decode bs pc = .ok (.ifCond .eq o, 3)) (q : x ≠ 0) (G : Go K R n0 B Q h cells slots (pc + 3) Ls rest) : Go K R n0 B Q h cells slots pc Ls (.int x :: rest) :=
  G.step fun T A t S => XS.ifNo A hK.1 rfl (hb hK.2.1 hd) rfl (by rw [if0, ih_eq]; exact decide_eq_false (q)) S
theorem g_if_eq (hK : Cx K Z own bs mx rt nm) {o : Int} {x : Int32} (hd : decode bs pc = .ok (.ifCond .eq o, 3)) (ho : 0 ≤ (pc : Int) + o ∧ ((pc : Int) + o).toNat = pc') (G1 : x = 0 → Go K R n0 B Q h cells slots pc' Ls rest) (G2 : x ≠ 0 → Go K R n0 B Q h cells slots (pc + 3) Ls rest) : Go K R n0 B Q h cells slots pc Ls (.int x :: rest) :=
  (Decidable.em (x = 0)).elim (fun z => gY_if_eq hK hd ho z (G1 z)) (fun z => gN_if_eq hK hd (z) (G2 (z)))
theorem gY_if_ne (hK : Cx K Z own bs mx rt nm) {o : Int} {x : Int32} (hd : decode bs pc = .ok (.ifCond .ne o, 3)) (ho : 0 ≤ (pc : Int) + o ∧ ((pc : Int) + o).toNat = pc') (q : x ≠ 0) (G : Go K R n0 B Q h cells slots pc' Ls rest) : Go K R n0 B Q h cells slots pc Ls (.int x :: rest) :=
  G.step fun T A t S => XS.ifYes A hK.1 rfl rfl (hb hK.2.1 hd) rfl (by rw [if0, ih_ne]; exact decide_eq_true q) ho.1 ho.2 S
theorem gN_if_ne (hK : Cx K Z own bs mx rt nm) {o : Int} {x : Int32} (hd : decode bs pc = .ok (.ifCond .ne o, 3)) (q : x = 0) (G : Go K R n0 B Q h cells slots (pc + 3) Ls rest) : Go K R n0 B Q h cells slots pc Ls (.int x :: rest) :=
  G.step fun T A t S => XS.ifNo A hK.1 rfl (hb hK.2.1 hd) rfl (by rw [if0, ih_ne]; exact decide_eq_false (fun z => z q)) S
theorem g_if_ne (hK : Cx K Z own bs mx rt nm) {o : Int} {x : Int32} (hd : decode bs pc = .ok (.ifCond .ne o, 3)) (ho : 0 ≤ (pc : Int) + o ∧ ((pc : Int) + o).toNat = pc') (G1 : x ≠ 0 → Go K R n0 B Q h cells slots pc' Ls rest) (G2 : x = 0 → Go K R n0 B Q h cells slots (pc + 3) Ls rest) : Go K R n0 B Q h cells slots pc Ls (.int x :: rest) :=
  (Decidable.em (x ≠ 0)).elim (fun z => gY_if_ne hK hd ho z (G1 z)) (fun z => gN_if_ne hK hd (Decidable.not_not.mp z) (G2 (Decidable.not_not.mp z)))
theorem gY_if_lt (hK : Cx K Z own bs mx rt nm) {o : Int} {x : Int32} (hd : decode bs pc = .ok (.ifCond .lt o, 3)) (ho : 0 ≤ (pc : Int) + o ∧ ((pc : Int) + o).toNat = pc') (q : x.toInt < 0) (G : Go K R n0 B Q h cells slots pc' Ls rest) : Go K R n0 B Q h cells slots pc Ls (.int x :: rest) :=
  G.step fun T A t S => XS.ifYes A hK.1 rfl rfl (hb hK.2.1 hd) rfl (by rw [if0, ih_lt]; exact decide_eq_true q) ho.1 ho.2 S
theorem gN_if_lt (hK : Cx K Z own bs mx rt nm) {o : Int} {x : Int32} (hd : decode bs pc = .ok (.ifCond .lt o, 3)) (q : 0 ≤ x.toInt) (G : Go K R n0 B Q h cells slots (pc + 3) Ls rest) : Go K R n0 B Q h cells slots pc Ls (.int x :: rest) :=
  G.step fun T A t S => XS.ifNo A hK.1 rfl (hb hK.2.1 hd) rfl (by rw [if0, ih_lt]; exact decide_eq_false (Int.not_lt.mpr q)) S
theorem g_if_lt (hK : Cx K Z own bs mx rt nm) {o : Int} {x : Int32} (hd : decode bs pc = .ok (.ifCond .lt o, 3)) (ho : 0 ≤ (pc : Int) + o ∧ ((pc : Int) + o).toNat = pc') (G1 : x.toInt < 0 → Go K R n0 B Q h cells slots pc' Ls rest) (G2 : 0 ≤ x.toInt → Go K R n0 B Q h cells slots (pc + 3) Ls rest) : Go K R n0 B Q h cells slots pc Ls (.int x :: rest) :=
  (Decidable.em (x.toInt < 0)).elim (fun z => gY_if_lt hK hd ho z (G1 z)) (fun z => gN_if_lt hK hd (Int.not_lt.mp z) (G2 (Int.not_lt.mp z)))
theorem gY_if_ge (hK : Cx K Z own bs mx rt nm) {o : Int} {x : Int32} (hd : decode bs pc = .ok (.ifCond .ge o, 3)) (ho : 0 ≤ (pc : Int) + o ∧ ((pc : Int) + o).toNat = pc') (q : 0 ≤ x.toInt) (G : Go K R n0 B Q h cells slots pc' Ls rest) : Go K R n0 B Q h cells slots pc Ls (.int x :: rest) :=
  G.step fun T A t S => XS.ifYes A hK.1 rfl rfl (hb hK.2.1 hd) rfl (by rw [if0, ih_ge]; exact decide_eq_true q) ho.1 ho.2 S
theorem gN_if_ge (hK : Cx K Z own bs mx rt nm) {o : Int} {x : Int32} (hd : decode bs pc = .ok (.ifCond .ge o, 3)) (q : x.toInt < 0) (G : Go K R n0 B Q h cells slots (pc + 3) Ls rest) : Go K R n0 B Q h cells slots pc Ls (.int x :: rest) :=
  G.step fun T A t S => XS.ifNo A hK.1 rfl (hb hK.2.1 hd) rfl (by rw [if0, ih_ge]; exact decide_eq_false (Int.not_le.mpr q)) S
theorem g_if_ge (hK : Cx K Z own bs mx rt nm) {o : Int} {x : Int32} (hd : decode bs pc = .ok (.ifCond .ge o, 3)) (ho : 0 ≤ (pc : Int) + o ∧ ((pc : Int) + o).toNat = pc') (G1 : 0 ≤ x.toInt → Go K R n0 B Q h cells slots pc' Ls rest) (G2 : x.toInt < 0 → Go K R n0 B Q h cells slots (pc + 3) Ls rest) : Go K R n0 B Q h cells slots pc Ls (.int x :: rest) :=
  (Decidable.em (0 ≤ x.toInt)).elim (fun z => gY_if_ge hK hd ho z (G1 z)) (fun z => gN_if_ge hK hd (Int.not_le.mp z) (G2 (Int.not_le.mp z)))
theorem gY_if_gt (hK : Cx K Z own bs mx rt nm) {o : Int} {x : Int32} (hd : decode bs pc = .ok (.ifCond .gt o, 3)) (ho : 0 ≤ (pc : Int) + o ∧ ((pc : Int) + o).toNat = pc') (q : 0 < x.toInt) (G : Go K R n0 B Q h cells slots pc' Ls rest) : Go K R n0 B Q h cells slots pc Ls (.int x :: rest) :=
  G.step fun T A t S => XS.ifYes A hK.1 rfl rfl (hb hK.2.1 hd) rfl (by rw [if0, ih_gt]; exact decide_eq_true q) ho.1 ho.2 S
theorem gN_if_gt (hK : Cx K Z own bs mx rt nm) {o : Int} {x : Int32} (hd : decode bs pc = .ok (.ifCond .gt o, 3)) (q : x.toInt ≤ 0) (G : Go K R n0 B Q h cells slots (pc + 3) Ls rest) : Go K R n0 B Q h cells slots pc Ls (.int x :: rest) :=
  G.step fun T A t S => XS.ifNo A hK.1 rfl (hb hK.2.1 hd) rfl (by rw [if0, ih_gt]; exact decide_eq_false (Int.not_lt.mpr q)) S
theorem g_if_gt (hK : Cx K Z own bs mx rt nm) {o : Int} {x : Int32} (hd : decode bs pc = .ok (.ifCond .gt o, 3)) (ho : 0 ≤ (pc : Int) + o ∧ ((pc : Int) + o).toNat = pc') (G1 : 0 < x.toInt → Go K R n0 B Q h cells slots pc' Ls rest) (G2 : x.toInt ≤ 0 → Go K R n0 B Q h cells slots (pc + 3) Ls rest) : Go K R n0 B Q h cells slots pc Ls (.int x :: rest) :=
  (Decidable.em (0 < x.toInt)).elim (fun z => gY_if_gt hK hd ho z (G1 z)) (fun z => gN_if_gt hK hd (Int.not_lt.mp z) (G2 (Int.not_lt.mp z)))
theorem gY_if_le (hK : Cx K Z own bs mx rt nm) {o : Int} {x : Int32} (hd : decode bs pc = .ok (.ifCond .le o, 3)) (ho : 0 ≤ (pc : Int) + o ∧ ((pc : Int) + o).toNat = pc') (q : x.toInt ≤ 0) (G : Go K R n0 B Q h cells slots pc' Ls rest) : Go K R n0 B Q h cells slots pc Ls (.int x :: rest) :=
  G.step fun T A t S => XS.ifYes A hK.1 rfl rfl (hb hK.2.1 hd) rfl (by rw [if0, ih_le]; exact decide_eq_true q) ho.1 ho.2 S
theorem gN_if_le (hK : Cx K Z own bs mx rt nm) {o : Int} {x : Int32} (hd : decode bs pc = .ok (.ifCond .le o, 3)) (q : 0 < x.toInt) (G : Go K R n0 B Q h cells slots (pc + 3) Ls rest) : Go K R n0 B Q h cells slots pc Ls (.int x :: rest) :=
  G.step fun T A t S => XS.ifNo A hK.1 rfl (hb hK.2.1 hd) rfl (by rw [if0, ih_le]; exact decide_eq_false (Int.not_le.mpr q)) S
theorem g_if_le (hK : Cx K Z own bs mx rt nm) {o : Int} {x : Int32} (hd : decode bs pc = .ok (.ifCond .le o, 3)) (ho : 0 ≤ (pc : Int) + o ∧ ((pc : Int) + o).toNat = pc') (G1 : x.toInt ≤ 0 → Go K R n0 B Q h cells slots pc' Ls rest) (G2 : 0 < x.toInt → Go K R n0 B Q h cells slots (pc + 3) Ls rest) : Go K R n0 B Q h cells slots pc Ls (.int x :: rest) :=
  (Decidable.em (x.toInt ≤ 0)).elim (fun z => gY_if_le hK hd ho z (G1 z)) (fun z => gN_if_le hK hd (Int.not_le.mp z) (G2 (Int.not_le.mp z)))
theorem gY_lif_eq (hK : Cx K Z own bs mx rt nm) {o : Int} {x y : Int64} (hd0 : decode bs pc = .ok (.lcmp, 1)) (hd : decode bs (pc + 1) = .ok (.ifCond .eq o, 3)) (ho : 0 ≤ ((pc + 1 : Nat) : Int) + o ∧ (((pc + 1 : Nat) : Int) + o).toNat = pc') (q : x = y) (G : Go K R n0 B Q h cells slots pc' Ls rest) : Go K R n0 B Q h cells slots pc Ls (.long y :: .long x :: rest) :=
  Go.step (fun T A t S => XS.lcmp A hK.1 rfl (hb hK.2.1 hd0) rfl S) (gY_if_eq (x := lcmpW x y) hK hd ho ((lw_eq x y).mpr q) G)
theorem gN_lif_eq (hK : Cx K Z own bs mx rt nm) {o : Int} {x y : Int64} (hd0 : decode bs pc = .ok (.lcmp, 1)) (hd : decode bs (pc + 1) = .ok (.ifCond .eq o, 3)) (q : x ≠ y) (G : Go K R n0 B Q h cells slots (pc + 4) Ls rest) : Go K R n0 B Q h cells slots pc Ls (.long y :: .long x :: rest) :=
  Go.step (fun T A t S => XS.lcmp A hK.1 rfl (hb hK.2.1 hd0) rfl S) (gN_if_eq (x := lcmpW x y) hK hd (fun z => q ((lw_eq x y).mp z)) G)
theorem g_lif_eq (hK : Cx K Z own bs mx rt nm) {o : Int} {x y : Int64} (hd0 : decode bs pc = .ok (.lcmp, 1)) (hd : decode bs (pc + 1) = .ok (.ifCond .eq o, 3)) (ho : 0 ≤ ((pc + 1 : Nat) : Int) + o ∧ (((pc + 1 : Nat) : Int) + o).toNat = pc') (G1 : x = y → Go K R n0 B Q h cells slots pc' Ls rest) (G2 : x ≠ y → Go K R n0 B Q h cells slots (pc + 4) Ls rest) : Go K R n0 B Q h cells slots pc Ls (.long y :: .long x :: rest) :=
  (Decidable.em (x = y)).elim (fun z => gY_lif_eq hK hd0 hd ho z (G1 z)) (fun z => gN_lif_eq hK hd0 hd (z) (G2 (z)))
theorem gY_lif_ne (hK : Cx K Z own bs mx rt nm) {o : Int} {x y : Int64} (hd0 : decode bs pc = .ok (.lcmp, 1)) (hd : decode bs (pc + 1) = .ok (.ifCond .ne o, 3)) (ho : 0 ≤ ((pc + 1 : Nat) : Int) + o ∧ (((pc + 1 : Nat) : Int) + o).toNat = pc') (q : x ≠ y) (G : Go K R n0 B Q h cells slots pc' Ls rest) : Go K R n0 B Q h cells slots pc Ls (.long y :: .long x :: rest) :=
  Go.step (fun T A t S => XS.lcmp A hK.1 rfl (hb hK.2.1 hd0) rfl S) (gY_if_ne (x := lcmpW x y) hK hd ho (fun z => q ((lw_eq x y).mp z)) G)
theorem gN_lif_ne (hK : Cx K Z own bs mx rt nm) {o : Int} {x y : Int64} (hd0 : decode bs pc = .ok (.lcmp, 1)) (hd : decode bs (pc + 1) = .ok (.ifCond .ne o, 3)) (q : x = y) (G : Go K R n0 B Q h cells slots (pc + 4) Ls rest) : Go K R n0 B Q h cells slots pc Ls (.long y :: .long x :: rest) :=
  Go.step (fun T A t S => XS.lcmp A hK.1 rfl (hb hK.2.1 hd0) rfl S) (gN_if_ne (x := lcmpW x y) hK hd ((lw_eq x y).mpr q) G)
theorem g_lif_ne (hK : Cx K Z own bs mx rt nm) {o : Int} {x y : Int64} (hd0 : decode bs pc = .ok (.lcmp, 1)) (hd : decode bs (pc + 1) = .ok (.ifCond .ne o, 3)) (ho : 0 ≤ ((pc + 1 : Nat) : Int) + o ∧ (((pc + 1 : Nat) : Int) + o).toNat = pc') (G1 : x ≠ y → Go K R n0 B Q h cells slots pc' Ls rest) (G2 : x = y → Go K R n0 B Q h cells slots (pc + 4) Ls rest) : Go K R n0 B Q h cells slots pc Ls (.long y :: .long x :: rest) :=
  (Decidable.em (x ≠ y)).elim (fun z => gY_lif_ne hK hd0 hd ho z (G1 z)) (fun z => gN_lif_ne hK hd0 hd (Decidable.not_not.mp z) (G2 (Decidable.not_not.mp z)))
theorem gY_lif_lt (hK : Cx K Z own bs mx rt nm) {o : Int} {x y : Int64} (hd0 : decode bs pc = .ok (.lcmp, 1)) (hd : decode bs (pc + 1) = .ok (.ifCond .lt o, 3)) (ho : 0 ≤ ((pc + 1 : Nat) : Int) + o ∧ (((pc + 1 : Nat) : Int) + o).toNat = pc') (q : x.toInt < y.toInt) (G : Go K R n0 B Q h cells slots pc' Ls rest) : Go K R n0 B Q h cells slots pc Ls (.long y :: .long x :: rest) :=
  Go.step (fun T A t S => XS.lcmp A hK.1 rfl (hb hK.2.1 hd0) rfl S) (gY_if_lt (x := lcmpW x y) hK hd ho (by have c1 := (c_lcmp x y).1; have c2 := (c_lcmp x y).2.1; have c3 := (c_lcmp x y).2.2; omega) G)
theorem gN_lif_lt (hK : Cx K Z own bs mx rt nm) {o : Int} {x y : Int64} (hd0 : decode bs pc = .ok (.lcmp, 1)) (hd : decode bs (pc + 1) = .ok (.ifCond .lt o, 3)) (q : y.toInt ≤ x.toInt) (G : Go K R n0 B Q h cells slots (pc + 4) Ls rest) : Go K R n0 B Q h cells slots pc Ls (.long y :: .long x :: rest) :=
  Go.step (fun T A t S => XS.lcmp A hK.1 rfl (hb hK.2.1 hd0) rfl S) (gN_if_lt (x := lcmpW x y) hK hd (by have c1 := (c_lcmp x y).1; have c2 := (c_lcmp x y).2.1; have c3 := (c_lcmp x y).2.2; omega) G)
theorem g_lif_lt (hK : Cx K Z own bs mx rt nm) {o : Int} {x y : Int64} (hd0 : decode bs pc = .ok (.lcmp, 1)) (hd : decode bs (pc + 1) = .ok (.ifCond .lt o, 3)) (ho : 0 ≤ ((pc + 1 : Nat) : Int) + o ∧ (((pc + 1 : Nat) : Int) + o).toNat = pc') (G1 : x.toInt < y.toInt → Go K R n0 B Q h cells slots pc' Ls rest) (G2 : y.toInt ≤ x.toInt → Go K R n0 B Q h cells slots (pc + 4) Ls rest) : Go K R n0 B Q h cells slots pc Ls (.long y :: .long x :: rest) :=
  (Decidable.em (x.toInt < y.toInt)).elim (fun z => gY_lif_lt hK hd0 hd ho z (G1 z)) (fun z => gN_lif_lt hK hd0 hd (Int.not_lt.mp z) (G2 (Int.not_lt.mp z)))
theorem gY_lif_ge (hK : Cx K Z own bs mx rt nm) {o : Int} {x y : Int64} (hd0 : decode bs pc = .ok (.lcmp, 1)) (hd : decode bs (pc + 1) = .ok (.ifCond .ge o, 3)) (ho : 0 ≤ ((pc + 1 : Nat) : Int) + o ∧ (((pc + 1 : Nat) : Int) + o).toNat = pc') (q : y.toInt ≤ x.toInt) (G : Go K R n0 B Q h cells slots pc' Ls rest) : Go K R n0 B Q h cells slots pc Ls (.long y :: .long x :: rest) :=
  Go.step (fun T A t S => XS.lcmp A hK.1 rfl (hb hK.2.1 hd0) rfl S) (gY_if_ge (x := lcmpW x y) hK hd ho (by have c1 := (c_lcmp x y).1; have c2 := (c_lcmp x y).2.1; have c3 := (c_lcmp x y).2.2; omega) G)
theorem gN_lif_ge (hK : Cx K Z own bs mx rt nm) {o : Int} {x y : Int64} (hd0 : decode bs pc = .ok (.lcmp, 1)) (hd : decode bs (pc + 1) = .ok (.ifCond .ge o, 3)) (q : x.toInt < y.toInt) (G : Go K R n0 B Q h cells slots (pc + 4) Ls rest) : Go K R n0 B Q h cells slots pc Ls (.long y :: .long x :: rest) :=
  Go.step (fun T A t S => XS.lcmp A hK.1 rfl (hb hK.2.1 hd0) rfl S) (gN_if_ge (x := lcmpW x y) hK hd (by have c1 := (c_lcmp x y).1; have c2 := (c_lcmp x y).2.1; have c3 := (c_lcmp x y).2.2; omega) G)
theorem g_lif_ge (hK : Cx K Z own bs mx rt nm) {o : Int} {x y : Int64} (hd0 : decode bs pc = .ok (.lcmp, 1)) (hd : decode bs (pc + 1) = .ok (.ifCond .ge o, 3)) (ho : 0 ≤ ((pc + 1 : Nat) : Int) + o ∧ (((pc + 1 : Nat) : Int) + o).toNat = pc') (G1 : y.toInt ≤ x.toInt → Go K R n0 B Q h cells slots pc' Ls rest) (G2 : x.toInt < y.toInt → Go K R n0 B Q h cells slots (pc + 4) Ls rest) : Go K R n0 B Q h cells slots pc Ls (.long y :: .long x :: rest) :=
  (Decidable.em (y.toInt ≤ x.toInt)).elim (fun z => gY_lif_ge hK hd0 hd ho z (G1 z)) (fun z => gN_lif_ge hK hd0 hd (Int.not_le.mp z) (G2 (Int.not_le.mp z)))
theorem gY_lif_gt (hK : Cx K Z own bs mx rt nm) {o : Int} {x y : Int64} (hd0 : decode bs pc = .ok (.lcmp, 1)) (hd : decode bs (pc + 1) = .ok (.ifCond .gt o, 3)) (ho : 0 ≤ ((pc + 1 : Nat) : Int) + o ∧ (((pc + 1 : Nat) : Int) + o).toNat = pc') (q : y.toInt < x.toInt) (G : Go K R n0 B Q h cells slots pc' Ls rest) : Go K R n0 B Q h cells slots pc Ls (.long y :: .long x :: rest) :=
  Go.step (fun T A t S => XS.lcmp A hK.1 rfl (hb hK.2.1 hd0) rfl S) (gY_if_gt (x := lcmpW x y) hK hd ho (by have c1 := (c_lcmp x y).1; have c2 := (c_lcmp x y).2.1; have c3 := (c_lcmp x y).2.2; omega) G)
theorem gN_lif_gt (hK : Cx K Z own bs mx rt nm) {o : Int} {x y : Int64} (hd0 : decode bs pc = .ok (.lcmp, 1)) (hd : decode bs (pc + 1) = .ok (.ifCond .gt o, 3)) (q : x.toInt ≤ y.toInt) (G : Go K R n0 B Q h cells slots (pc + 4) Ls rest) : Go K R n0 B Q h cells slots pc Ls (.long y :: .long x :: rest) :=
  Go.step (fun T A t S => XS.lcmp A hK.1 rfl (hb hK.2.1 hd0) rfl S) (gN_if_gt (x := lcmpW x y) hK hd (by have c1 := (c_lcmp x y).1; have c2 := (c_lcmp x y).2.1; have c3 := (c_lcmp x y).2.2; omega) G)
theorem g_lif_gt (hK : Cx K Z own bs mx rt nm) {o : Int} {x y : Int64} (hd0 : decode bs pc = .ok (.lcmp, 1)) (hd : decode bs (pc + 1) = .ok (.ifCond .gt o, 3)) (ho : 0 ≤ ((pc + 1 : Nat) : Int) + o ∧ (((pc + 1 : Nat) : Int) + o).toNat = pc') (G1 : y.toInt < x.toInt → Go K R n0 B Q h cells slots pc' Ls rest) (G2 : x.toInt ≤ y.toInt → Go K R n0 B Q h cells slots (pc + 4) Ls rest) : Go K R n0 B Q h cells slots pc Ls (.long y :: .long x :: rest) :=
  (Decidable.em (y.toInt < x.toInt)).elim (fun z => gY_lif_gt hK hd0 hd ho z (G1 z)) (fun z => gN_lif_gt hK hd0 hd (Int.not_lt.mp z) (G2 (Int.not_lt.mp z)))
theorem gY_lif_le (hK : Cx K Z own bs mx rt nm) {o : Int} {x y : Int64} (hd0 : decode bs pc = .ok (.lcmp, 1)) (hd : decode bs (pc + 1) = .ok (.ifCond .le o, 3)) (ho : 0 ≤ ((pc + 1 : Nat) : Int) + o ∧ (((pc + 1 : Nat) : Int) + o).toNat = pc') (q : x.toInt ≤ y.toInt) (G : Go K R n0 B Q h cells slots pc' Ls rest) : Go K R n0 B Q h cells slots pc Ls (.long y :: .long x :: rest) :=
  Go.step (fun T A t S => XS.lcmp A hK.1 rfl (hb hK.2.1 hd0) rfl S) (gY_if_le (x := lcmpW x y) hK hd ho (by have c1 := (c_lcmp x y).1; have c2 := (c_lcmp x y).2.1; have c3 := (c_lcmp x y).2.2; omega) G)
theorem gN_lif_le (hK : Cx K Z own bs mx rt nm) {o : Int} {x y : Int64} (hd0 : decode bs pc = .ok (.lcmp, 1)) (hd : decode bs (pc + 1) = .ok (.ifCond .le o, 3)) (q : y.toInt < x.toInt) (G : Go K R n0 B Q h cells slots (pc + 4) Ls rest) : Go K R n0 B Q h cells slots pc Ls (.long y :: .long x :: rest) :=
  Go.step (fun T A t S => XS.lcmp A hK.1 rfl (hb hK.2.1 hd0) rfl S) (gN_if_le (x := lcmpW x y) hK hd (by have c1 := (c_lcmp x y).1; have c2 := (c_lcmp x y).2.1; have c3 := (c_lcmp x y).2.2; omega) G)
theorem g_lif_le (hK : Cx K Z own bs mx rt nm) {o : Int} {x y : Int64} (hd0 : decode bs pc = .ok (.lcmp, 1)) (hd : decode bs (pc + 1) = .ok (.ifCond .le o, 3)) (ho : 0 ≤ ((pc + 1 : Nat) : Int) + o ∧ (((pc + 1 : Nat) : Int) + o).toNat = pc') (G1 : x.toInt ≤ y.toInt → Go K R n0 B Q h cells slots pc' Ls rest) (G2 : y.toInt < x.toInt → Go K R n0 B Q h cells slots (pc + 4) Ls rest) : Go K R n0 B Q h cells slots pc Ls (.long y :: .long x :: rest) :=
  (Decidable.em (x.toInt ≤ y.toInt)).elim (fun z => gY_lif_le hK hd0 hd ho z (G1 z)) (fun z => gN_lif_le hK hd0 hd (Int.not_le.mp z) (G2 (Int.not_le.mp z)))
/-! the constants of the pool -/
theorem g_ldc (hK : Cx K Z own bs mx rt nm) {i : Nat} {v : Int32} (w : (Jvm.Cond.constant own i v).before a0 Z = true) (hd : decode bs pc = .ok (.ldc i, 2)) (G : Go K R n0 B Q h cells slots (pc + 2) Ls (.int v :: st)) : Go K R n0 B Q h cells slots pc Ls st :=
  G.stepX fun T locs X e t S => X.ldcInt hK.1 hK.2.2.2.1 (mvT hK.2.2.2.2.2.2.2 w) (g := mkF (kM K) pc ⟨Ls⟩ st) rfl (hb hK.2.1 hd) t S
theorem g_ldc_w (hK : Cx K Z own bs mx rt nm) {i : Nat} {v : Int32} (w : (Jvm.Cond.constant own i v).before a0 Z = true) (hd : decode bs pc = .ok (.ldc_w i, 3)) (G : Go K R n0 B Q h cells slots (pc + 3) Ls (.int v :: st)) : Go K R n0 B Q h cells slots pc Ls st :=
  G.stepX fun T locs X e t S => X.ldcwInt hK.1 hK.2.2.2.1 (mvT hK.2.2.2.2.2.2.2 w) (g := mkF (kM K) pc ⟨Ls⟩ st) rfl (hb hK.2.1 hd) t S
theorem g_ldc2 (hK : Cx K Z own bs mx rt nm) {i : Nat} {v : Int64} (w : (Jvm.Cond.constantLong own i v).before a0 Z = true) (hd : decode bs pc = .ok (.ldc2_w i, 3)) (G : Go K R n0 B Q h cells slots (pc + 3) Ls (.long v :: st)) : Go K R n0 B Q h cells slots pc Ls st :=
  G.stepX fun T locs X e t S => X.ldc2Long hK.1 hK.2.2.2.1 (mvT hK.2.2.2.2.2.2.2 w) (g := mkF (kM K) pc ⟨Ls⟩ st) rfl (hb hK.2.1 hd) t S
/-! fields, objects, arrays -/
theorem g_get (hK : Cx K Z own bs mx rt nm) {C n d : String} {i : Nat} {a : Addr} {v : Value} (w : (Jvm.Cond.fieldLink own i C n d).before a0 Z = true) (hd : decode bs pc = .ok (.getfield i, 3)) (F : Fld Z h a C n d v) (G : Go K R n0 B Q h cells slots (pc + 3) Ls (v :: st)) : Go K R n0 B Q h cells slots pc Ls (.ref a :: st) := by
  intro T locs X N eT
  obtain ⟨T', X', e', S⟩ := getF X hK.1 hK.2.2.2.2.2.2.2 hK.2.2.2.1 (host := "") (Or.inl w) Via.refl eT F (g := mkF (kM K) pc ⟨Ls⟩ (.ref a :: st)) rfl rfl (hb hK.2.1 hd)
  obtain ⟨s₂, v, L, h1, r⟩ := G T' locs X' N e'
  exact ⟨s₂, v, L, S _ h1, r⟩
theorem g_put (hK : Cx K Z own bs mx rt nm) {C n d : String} {i kk : Nat} {ty : FieldType} {a : Addr} {v old : Value} (w : (Jvm.Cond.fieldLink own i C n d).before a0 Z = true) (wl : (Jvm.Cond.lays C C n d).before a0 Z = true ∨ ((Jvm.Cond.laysFinal C C n d).before a0 Z = true ∧ own = C ∧ nm = "<init>")) (wi : (Jvm.Cond.instantiable C kk).before a0 Z = true) (hd : decode bs pc = .ok (.putfield i, 3))
    (F : Fld Z h a C n d old) (E : Exa Z h a C) (hn : n0 ≤ a) (hty : parseFieldDescriptor d = some ty) (h1 : narrow ty v = v) (h2 : fits ty v = true) (G : ∀ h', Wr h h' a (Jvm.RoadKit.slotOf Z C n d) v → Go K R n0 B Q h' cells slots (pc + 3) Ls rest) : Go K R n0 B Q h cells slots pc Ls (v :: .ref a :: rest) := by
  intro T locs X N eT
  obtain ⟨T', h', X', e', W, S⟩ := putF X hK.1 hK.2.2.2.2.2.2.2 hK.2.2.2.1 (host := "") (Or.inl w) Via.refl eT F E (wl.imp id fun q => ⟨q.1, q.2.1, hK.2.2.2.2.1.trans q.2.2⟩) wi hty h1 h2 (g := mkF (kM K) pc ⟨Ls⟩ (v :: .ref a :: rest)) rfl rfl (hb hK.2.1 hd)
  obtain ⟨s₂, v, L, h1, r⟩ := G h' W T' _ X' (Fr.snoc X' N hn) e'
  exact ⟨s₂, v, L, S _ h1, r⟩
theorem g_new (hK : Cx K Z own bs mx rt nm) {C : String} {i n : Nat} (w : (Jvm.Cond.classLink own i C).before a0 Z = true) (wi : (Jvm.Cond.instantiable C n).before a0 Z = true) (wz : (Jvm.Cond.initialized C).before a0 Z = true) (hd : decode bs pc = .ok (.new i, 3)) (hr : (Nat.ble (cells + 1) R.cells && Nat.ble (slots + n) R.slots) = true)
    (G : ∀ h' a, a = h.size → Ext h h' → Exa Z h' a C → (∀ {O nm d : String} {ty : FieldType}, Laid Z a0 C O nm d → parseFieldDescriptor d = some ty → Fld Z h' a O nm d (defaultValue ty)) → Go K R n0 B Q h' (cells + 1) (slots + n) (pc + 3) Ls (.ref a :: st)) : Go K R n0 B Q h cells slots pc Ls st := by
  intro T locs X N eT
  simp only [Bool.and_eq_true] at hr
  obtain ⟨T', h', X', e', E, A, D, -, S⟩ := newO X hK.1 hK.2.2.2.2.2.2.2 hK.2.2.2.1 w wi wz eT (g := mkF (kM K) pc ⟨Ls⟩ st) rfl (hb hK.2.1 hd) (Nat.le_of_ble_eq_true hr.1) (Nat.le_of_ble_eq_true hr.2)
  obtain ⟨s₂, v, L, h1, r⟩ := G h' h.size rfl E A D T' _ X' N e'
  exact ⟨s₂, v, L, S _ h1, r⟩
theorem g_newarray (hK : Cx K Z own bs mx rt nm) {aty : ArrayType} {n : Int32} (cap : Nat) (w : (Jvm.Cond.arrayClass (newarray.typeOf aty)).before a0 Z = true) (hd : decode bs pc = .ok (.newarray aty, 2)) (hn : ¬ n < 0) (hcap : n.toNatClampNeg ≤ cap) (hr : (Nat.ble (cap * 8) 536870912 && Nat.ble (cells + 1) R.cells && Nat.ble (slots + cap) R.slots) = true)
    (G : ∀ h' a cA, a = h.size → Ext h h' → Arr Z h' a (newA cA (newarray.typeOf aty) n) (newarray.typeOf aty) → Go K R n0 B Q h' (cells + 1) (slots + cap) (pc + 2) Ls (.ref a :: rest)) : Go K R n0 B Q h cells slots pc Ls (.int n :: rest) := by
  intro T locs X N eT
  simp only [Bool.and_eq_true] at hr
  obtain ⟨T', h', cA, X', e', E, A, S⟩ := newP X hK.1 hK.2.2.2.2.2.2.2 w eT (g := mkF (kM K) pc ⟨Ls⟩ (.int n :: rest)) rfl (hb hK.2.1 hd) rfl hn hcap (Nat.le_of_ble_eq_true hr.1.1) (Nat.le_of_ble_eq_true hr.1.2) (Nat.le_of_ble_eq_true hr.2)
  obtain ⟨s₂, v, L, h1, r⟩ := G h' h.size cA rfl E A T' _ X' N e'
  exact ⟨s₂, v, L, S _ h1, r⟩
theorem g_arraylength (hK : Cx K Z own bs mx rt nm) {a : Addr} {cl : Cell} {ty : FieldType} {z : Int32} (A : Arr Z h a cl ty) (hz : cl.slots.size.toInt32 = z) (hd : decode bs pc = .ok (.arraylength, 1)) (G : Go K R n0 B Q h cells slots (pc + 1) Ls (.int z :: rest)) : Go K R n0 B Q h cells slots pc Ls (.ref a :: rest) :=
  G.stepX fun T locs X e t S => X.arraylength hK.1 (by rw [e]; exact A.1) (State.isArrayOf_alike hK.2.2.2.2.2.2.2.alike A.2.1) (g := mkF (kM K) pc ⟨Ls⟩ (.ref a :: rest)) rfl rfl (hb hK.2.1 hd) t (by subst hz; exact S)
theorem g_iaload (hK : Cx K Z own bs mx rt nm) {a : Addr} {cl : Cell} {j v : Int32} (A : Arr Z h a cl .int) (hj : ¬ (j < 0 ∨ cl.slots.size ≤ j.toNatClampNeg)) (hv : cl.slots[j.toNatClampNeg]? = some (.int v)) (hd : decode bs pc = .ok (.iaload, 1)) (G : Go K R n0 B Q h cells slots (pc + 1) Ls (.int v :: rest)) : Go K R n0 B Q h cells slots pc Ls (.int j :: .ref a :: rest) :=
  G.stepX fun T locs X e t S => X.iaload hK.1 (by rw [e]; exact A.1) (State.isArrayOf_alike hK.2.2.2.2.2.2.2.alike A.2.1) A.2.2 hj hv (g := mkF (kM K) pc ⟨Ls⟩ (.int j :: .ref a :: rest)) rfl rfl (hb hK.2.1 hd) t S
theorem g_laload (hK : Cx K Z own bs mx rt nm) {a : Addr} {cl : Cell} {j : Int32} {v : Int64} (A : Arr Z h a cl .long) (hj : ¬ (j < 0 ∨ cl.slots.size ≤ j.toNatClampNeg)) (hv : cl.slots[j.toNatClampNeg]? = some (.long v)) (hd : decode bs pc = .ok (.laload, 1)) (G : Go K R n0 B Q h cells slots (pc + 1) Ls (.long v :: rest)) : Go K R n0 B Q h cells slots pc Ls (.int j :: .ref a :: rest) :=
  G.stepX fun T locs X e t S => X.laload hK.1 (by rw [e]; exact A.1) (State.isArrayOf_alike hK.2.2.2.2.2.2.2.alike A.2.1) A.2.2 hj hv (g := mkF (kM K) pc ⟨Ls⟩ (.int j :: .ref a :: rest)) rfl rfl (hb hK.2.1 hd) t S
theorem g_iastore (hK : Cx K Z own bs mx rt nm) {a : Addr} {cl : Cell} {j x : Int32} (A : Arr Z h a cl .int) (hj : ¬ (j < 0 ∨ cl.slots.size ≤ j.toNatClampNeg)) (hn : n0 ≤ a) (hd : decode bs pc = .ok (.iastore, 1)) (G : ∀ h', Wr h h' a j.toNatClampNeg (.int x) → Go K R n0 B Q h' cells slots (pc + 1) Ls rest) : Go K R n0 B Q h cells slots pc Ls (.int x :: .int j :: .ref a :: rest) := by
  intro T locs X N eT
  obtain ⟨T', h', X', e', W, S⟩ := stI X hK.1 hK.2.2.2.2.2.2.2 eT A hj (g := mkF (kM K) pc ⟨Ls⟩ (.int x :: .int j :: .ref a :: rest)) rfl rfl (hb hK.2.1 hd)
  obtain ⟨s₂, v, L, h1, r⟩ := G h' W T' _ X' (Fr.snoc X' N hn) e'
  exact ⟨s₂, v, L, S _ h1, r⟩
theorem g_lastore (hK : Cx K Z own bs mx rt nm) {a : Addr} {cl : Cell} {j : Int32} {x : Int64} (A : Arr Z h a cl .long) (hj : ¬ (j < 0 ∨ cl.slots.size ≤ j.toNatClampNeg)) (hn : n0 ≤ a) (hd : decode bs pc = .ok (.lastore, 1)) (G : ∀ h', Wr h h' a j.toNatClampNeg (.long x) → Go K R n0 B Q h' cells slots (pc + 1) Ls rest) : Go K R n0 B Q h cells slots pc Ls (.long x :: .int j :: .ref a :: rest) := by
  intro T locs X N eT
  obtain ⟨T', h', X', e', W, S⟩ := stJ X hK.1 hK.2.2.2.2.2.2.2 eT A hj (g := mkF (kM K) pc ⟨Ls⟩ (.long x :: .int j :: .ref a :: rest)) rfl rfl (hb hK.2.1 hd)
  obtain ⟨s₂, v, L, h1, r⟩ := G h' W T' _ X' (Fr.snoc X' N hn) e'
  exact ⟨s₂, v, L, S _ h1, r⟩
/-! Object.<init> -/
theorem g_objinit (hK : Cx K Z own bs mx rt nm) {i : Nat} {a : Addr} (W : Nat) (w1 : (Jvm.Cond.methodLink own i Lib.objectInit).before a0 Z = true) (w2 : (Jvm.Cond.instanceMethod Lib.objectInit).before a0 Z = true) (w3 : (Jvm.Cond.code Lib.objectInit ⟨#[0xb1]⟩ 1 none).before a0 Z = true) (hd : decode bs pc = .ok (.invokespecial i, 3)) (hsz : Ls.length = mx)
    (hr : (Nat.ble 1 R.frames && Nat.ble (rest.map fun v => v.category).sum W && Nat.ble (W + 12) R.locals) = true) (G : Go K R n0 B Q h cells slots (pc + 3) Ls rest) : Go K R n0 B Q h cells slots pc Ls (.ref a :: rest) := by
  intro T locs X N eT
  simp only [Bool.and_eq_true] at hr
  obtain ⟨T', X', e', S⟩ := initO X hK.1 hK.2.2.2.2.2.2.2 hK.2.2.2.1 w1 w2 w3 eT (g := mkF (kM K) pc ⟨Ls⟩ (.ref a :: rest)) rfl (by rw [hK.2.2.1]; exact hsz) rfl (hb hK.2.1 hd) (Nat.le_of_ble_eq_true hr.1.1) (W := W) (by show 2 * 0 + _ ≤ _; rw [Nat.mul_zero, Nat.zero_add]; exact Nat.le_of_ble_eq_true hr.1.2) (Nat.le_of_ble_eq_true hr.2)
  obtain ⟨s₂, v, L, h1, r⟩ := G T' locs X' N e'
  exact ⟨s₂, v, L, S _ h1, r⟩
/-! the returns -/
theorem g_ret {w : Value} {t : FieldType} {ins : Instr} (hK : Cx K Z own bs mx (some t) nm) (hn : narrow t w = w) (hi : (ins = .ireturn ∧ (t = .int ∨ t = .boolean ∨ t = .byte ∨ t = .char ∨ t = .short) ∧ ∃ z, w = .int z) ∨ (ins = .lreturn ∧ t = .long ∧ ∃ z, w = .long z) ∨ (ins = .dreturn ∧ t = .double ∧ ∃ z, w = .double z) ∨ (ins = .freturn ∧ t = .float ∧ ∃ z, w = .float z) ∨ (ins = .areturn ∧ t.isReference = true ∧ w.isRef = true))
    (hd : decode bs pc = .ok (ins, 1)) (hr : (Nat.ble cells R.cells && Nat.ble slots R.slots) = true) (q : Q (some w) h) : Go K R n0 (nB (kS K) R) Q h cells slots pc Ls (w :: rest) := by
  intro T locs X N eT
  simp only [Bool.and_eq_true] at hr
  have hlk := hK.2.2.2.2.2.2.1
  obtain ⟨fs, hl, hrun, hended, hW, hsame⟩ := X.leave (v := some w) (fun e => by rw [hK.2.2.2.2.2.1] at e; cases e) hlk
  refine ⟨_, some w, locs, retOut X hK.1 hK.2.2.2.2.2.1 hn hi (hb hK.2.1 hd) hl, hrun, hended, ?_, N, hW, hsame.mono (Nat.le_of_ble_eq_true hr.1) (Nat.le_of_ble_eq_true hr.2)⟩
  show Q (some w) T.heap
  rw [eT]; exact q
theorem g_ireturn {z : Int32} {P : Int32 → Heap → Prop} (hK : Cx K Z own bs mx (some .int) nm) (hd : decode bs pc = .ok (.ireturn, 1)) (hr : (Nat.ble cells R.cells && Nat.ble slots R.slots) = true) (q : P z h) : Go K R n0 (nB (kS K) R) (qI P) h cells slots pc Ls (.int z :: rest) :=
  g_ret hK rfl (Or.inl ⟨rfl, Or.inl rfl, z, rfl⟩) hd hr ⟨z, rfl, q⟩
theorem g_zreturn {z : Int32} {P : Int32 → Heap → Prop} (hK : Cx K Z own bs mx (some .boolean) nm) (hd : decode bs pc = .ok (.ireturn, 1)) (hn : narrow .boolean (.int z) = .int z) (hr : (Nat.ble cells R.cells && Nat.ble slots R.slots) = true) (q : P z h) : Go K R n0 (nB (kS K) R) (qI P) h cells slots pc Ls (.int z :: rest) :=
  g_ret hK hn (Or.inl ⟨rfl, Or.inr (Or.inl rfl), z, rfl⟩) hd hr ⟨z, rfl, q⟩
theorem g_lreturn {z : Int64} {P : Int64 → Heap → Prop} (hK : Cx K Z own bs mx (some .long) nm) (hd : decode bs pc = .ok (.lreturn, 1)) (hr : (Nat.ble cells R.cells && Nat.ble slots R.slots) = true) (q : P z h) : Go K R n0 (nB (kS K) R) (qJ P) h cells slots pc Ls (.long z :: rest) :=
  g_ret hK rfl (Or.inr (Or.inl ⟨rfl, rfl, z, rfl⟩)) hd hr ⟨z, rfl, q⟩
theorem g_areturn {z : Addr} {t : FieldType} {P : Addr → Heap → Prop} (hK : Cx K Z own bs mx (some t) nm) (ht : t.isReference = true) (hn : narrow t (.ref z) = .ref z) (hd : decode bs pc = .ok (.areturn, 1)) (hr : (Nat.ble cells R.cells && Nat.ble slots R.slots) = true) (q : P z h) : Go K R n0 (nB (kS K) R) (qA P) h cells slots pc Ls (.ref z :: rest) :=
  g_ret hK hn (Or.inr (Or.inr (Or.inr (Or.inr ⟨rfl, ht, rfl⟩)))) hd hr ⟨z, rfl, q⟩
theorem g_return {P : Heap → Prop} (hK : Cx K Z own bs mx none nm) (hd : decode bs pc = .ok (.return_, 1)) (hr : (Nat.ble cells R.cells && Nat.ble slots R.slots) = true) (q : P h) : Go K R n0 (nB (kS K) R) (qV P) h cells slots pc Ls [] := by
  intro T locs X N eT
  simp only [Bool.and_eq_true] at hr
  have hlk := hK.2.2.2.2.2.2.1
  obtain ⟨fs, hl, hrun, hended, hW, hsame⟩ := X.leave (v := none) (fun _ => rfl) hlk
  refine ⟨_, none, locs, X.returnOut hK.1 hK.2.2.2.2.2.1 (hb hK.2.1 hd) hl, hrun, hended, ⟨rfl, ?_⟩, N, hW, hsame.mono (Nat.le_of_ble_eq_true hr.1) (Nat.le_of_ble_eq_true hr.2)⟩
  show P T.heap
  rw [eT]; exact q
/-! stores -/
def isOne : Slot → Bool
  | .unset => true
  | .val w => w.category == 1
  | .second => false
theorem isOne_one {o : Slot} (q : isOne o = true) : o = .unset ∨ ∃ w, o = .val w ∧ w.category = 1 := by
  cases o with
  | unset => exact Or.inl rfl
  | second => cases q
  | val w => exact Or.inr ⟨w, rfl, by simpa [isOne] using q⟩
theorem stL1 {pre post : List Slot} {o : Slot} {v : Value} (ho : isOne o = true) (hv : v.category = 1) : storeLocals ⟨pre ++ o :: post⟩ pre.length v = some ⟨pre ++ .val v :: post⟩ := by
  rw [XS.store1 (o := o) (by simp) (isOne_one ho) hv]; simp
theorem g_istoreG (hK : Cx K Z own bs mx rt nm) {pre post : List Slot} {o : Slot} {x : Int32} {k : Nat} (hk : pre.length = k) (hd : decode bs pc = .ok (.istore k, 2)) (ho : isOne o = true) (G : Go K R n0 B Q h cells slots (pc + 2) (pre ++ .val (.int x) :: post) rest) : Go K R n0 B Q h cells slots pc (pre ++ o :: post) (.int x :: rest) :=
  G.step fun T A t S => XS.istore A hK.1 rfl (hb hK.2.1 hd) rfl (by subst hk; exact stL1 ho rfl) S
theorem g_istoreNG (hK : Cx K Z own bs mx rt nm) {pre post : List Slot} {o : Slot} {x : Int32} {k : Fin 4} (hk : pre.length = k.val) (hd : decode bs pc = .ok (.istore_n k, 1)) (ho : isOne o = true) (G : Go K R n0 B Q h cells slots (pc + 1) (pre ++ .val (.int x) :: post) rest) : Go K R n0 B Q h cells slots pc (pre ++ o :: post) (.int x :: rest) :=
  G.step fun T A t S => XS.istoreN A hK.1 rfl (hb hK.2.1 hd) rfl (by rw [← hk]; exact stL1 ho rfl) S
theorem g_astoreG (hK : Cx K Z own bs mx rt nm) {pre post : List Slot} {o : Slot} {x : Addr} {k : Nat} (hk : pre.length = k) (hd : decode bs pc = .ok (.astore k, 2)) (ho : isOne o = true) (G : Go K R n0 B Q h cells slots (pc + 2) (pre ++ .val (.ref x) :: post) rest) : Go K R n0 B Q h cells slots pc (pre ++ o :: post) (.ref x :: rest) :=
  G.step fun T A t S => XS.astore A hK.1 rfl (hb hK.2.1 hd) rfl rfl (by subst hk; exact stL1 ho rfl) S
theorem g_astoreNG (hK : Cx K Z own bs mx rt nm) {pre post : List Slot} {o : Slot} {x : Addr} {k : Fin 4} (hk : pre.length = k.val) (hd : decode bs pc = .ok (.astore_n k, 1)) (ho : isOne o = true) (G : Go K R n0 B Q h cells slots (pc + 1) (pre ++ .val (.ref x) :: post) rest) : Go K R n0 B Q h cells slots pc (pre ++ o :: post) (.ref x :: rest) :=
  G.step fun T A t S => XS.astoreN A hK.1 rfl (hb hK.2.1 hd) rfl rfl (by rw [← hk]; exact stL1 ho rfl) S
theorem g_iincG (hK : Cx K Z own bs mx rt nm) {pre post : List Slot} {x : Int32} {k : Nat} {cst : Int} (hk : pre.length = k) (hd : decode bs pc = .ok (.iinc k cst, 3)) (G : Go K R n0 B Q h cells slots (pc + 3) (pre ++ .val (.int (x + Int32.ofInt cst)) :: post) st) : Go K R n0 B Q h cells slots pc (pre ++ .val (.int x) :: post) st :=
  G.step fun T A t S => XS.iinc A hK.1 rfl (hb hK.2.1 hd) (x := x) (by subst hk; simp) (by subst hk; exact stL1 rfl rfl) S
def isTwo : Slot → Slot → Bool
  | .unset, .unset => true
  | .val (.long _), .second => true
  | _, _ => false
theorem stL2 {pre post : List Slot} {o q : Slot} {x : Int64} (ho : isTwo o q = true) : storeLocals ⟨pre ++ o :: q :: post⟩ pre.length (.long x) = some ⟨pre ++ .val (.long x) :: .second :: post⟩ := by
  have e1 : ∀ (a b : Slot), (⟨pre ++ a :: b :: post⟩ : Array Slot)[pre.length]? = some a := fun a b => by simp
  have e2 : ∀ (a b : Slot), (⟨pre ++ a :: b :: post⟩ : Array Slot)[pre.length + 1]? = some b := fun a b => by
    simp [List.getElem?_append_right]
  have s1 : ∀ (a b c : Slot), setAt ⟨pre ++ a :: b :: post⟩ pre.length c = some ⟨pre ++ c :: b :: post⟩ := fun a b c => by
    simp [setAt]
  have s2 : ∀ (a b c : Slot), setAt ⟨pre ++ a :: b :: post⟩ (pre.length + 1) c = some ⟨pre ++ a :: c :: post⟩ := fun a b c => by
    simp [setAt, List.set_append_right]
  have key : ∀ (a b : Slot), (∀ w, b = .val w → w.category ≠ 2) → storeSelf ⟨pre ++ a :: b :: post⟩ pre.length (.long x) = some ⟨pre ++ .val (.long x) :: .second :: post⟩ := fun a b hb' => by
    have c2 : (Value.long x).category = 2 := rfl
    simp only [storeSelf, s1, Option.bind_eq_bind, Option.bind_some, c2, if_true, e2, s2]
    cases b with
    | unset => rfl
    | second => rfl
    | val w => simp only [if_neg (hb' w rfl)]
  rw [storeLocals, e1]
  cases o with
  | unset =>
    cases q with
    | unset => exact key _ _ (fun w e => by cases e)
    | second => cases ho
    | val w => cases ho
  | second => cases ho
  | val w =>
    cases w <;> first | (cases ho; done) | skip
    cases q <;> first | (cases ho; done) | skip
    simp only [Option.bind_eq_bind, Option.bind_some, Value.category, if_true, s2]
    exact key _ _ (fun w e => by cases e)
theorem g_lstoreG (hK : Cx K Z own bs mx rt nm) {pre post : List Slot} {o q : Slot} {x : Int64} {k : Nat} (hk : pre.length = k) (hd : decode bs pc = .ok (.lstore k, 2)) (ho : isTwo o q = true) (G : Go K R n0 B Q h cells slots (pc + 2) (pre ++ .val (.long x) :: .second :: post) rest) : Go K R n0 B Q h cells slots pc (pre ++ o :: q :: post) (.long x :: rest) :=
  G.step fun T A t S => XS.lstore A hK.1 rfl (hb hK.2.1 hd) rfl (by subst hk; exact stL2 ho) S
theorem g_lstoreNG (hK : Cx K Z own bs mx rt nm) {pre post : List Slot} {o q : Slot} {x : Int64} {k : Fin 4} (hk : pre.length = k.val) (hd : decode bs pc = .ok (.lstore_n k, 1)) (ho : isTwo o q = true) (G : Go K R n0 B Q h cells slots (pc + 1) (pre ++ .val (.long x) :: .second :: post) rest) : Go K R n0 B Q h cells slots pc (pre ++ o :: q :: post) (.long x :: rest) :=
  G.step fun T A t S => XS.lstoreN A hK.1 rfl (hb hK.2.1 hd) rfl (by rw [← hk]; exact stL2 ho) S
/-! the calls -/
theorem g_static (hK : Cx K Z own bs mx rt nm) {y : MethodName} {bs' : ByteArray} {mx' i : Nat} {rt' : Option FieldType} {rm : Room} {argsL : List Value} {Q' : Option Value → Heap → Prop} {ps : List FieldType} {r : Option FieldType} (W : Nat) (C : Con (kL K) y bs' mx' rt' [] rm Z n0 argsL.toArray h Q')
    (w1 : (Jvm.Cond.methodLink own i y).before a0 Z = true) (w2 : (Jvm.Cond.static y).before a0 Z = true) (w3 : (Jvm.Cond.initialized y.cls).before a0 Z = true) (w4 : (Jvm.Cond.code y bs' mx' rt').before a0 Z = true) (hy : y.cls ≠ "java/lang/invoke/MethodHandle" ∧ y.cls ≠ "java/lang/invoke/VarHandle")
    (pd : parseMethodDescriptor y.desc = some ⟨ps, r⟩) (hlen : argsL.length = ps.length) (hd : decode bs pc = .ok (.invokestatic i, 3)) (hsz : Ls.length = mx)
    (hr : (Nat.ble (rm.frames + 1) R.frames && Nat.ble (W + (mx' + 11) + rm.locals) R.locals && Nat.ble (rest.map fun v => v.category).sum W && Nat.ble (cells + rm.cells) R.cells && Nat.ble (slots + rm.slots) R.slots) = true)
    (G : ∀ v h', Q' v h' → h.size ≤ h'.size → Go K R n0 B Q h' (cells + rm.cells) (slots + rm.slots) (pc + 3) Ls (v.toList ++ rest)) : Go K R n0 B Q h cells slots pc Ls (argsL.reverse ++ rest) := by
  intro T locs X N eT
  simp only [Bool.and_eq_true] at hr
  obtain ⟨v, _, ⟨T', L', k', n'⟩, -, X', ⟨Lc, ⟨hQ, hF, hgr⟩, e1, e2, e3⟩, S⟩ := Jvm.LawKit.callS X hK.1 (y := y) hK.2.2.2.1 (mvT hK.2.2.2.2.2.2.2 w1) (mvT hK.2.2.2.2.2.2.2 w2) (mvT hK.2.2.2.2.2.2.2 w3) (mvT hK.2.2.2.2.2.2.2 w4) hy
    (backOf (W := W) (Q := fun v h' L => Q' v h' ∧ Fr n0 L ∧ h.size ≤ h'.size) C hK.2.2.2.2.2.2.2 w4 w3 (Nat.le_of_ble_eq_true hr.1.1.1.1) (Nat.le_of_ble_eq_true hr.1.1.1.2)) (g := mkF (kM K) pc ⟨Ls⟩ (argsL.reverse ++ rest)) rfl (by rw [hK.2.2.1]; exact hsz) (argsL := argsL) (rest := rest) (lenOf pd hlen) rfl (by show 2 * 0 + _ ≤ _; rw [Nat.mul_zero, Nat.zero_add]; exact Nat.le_of_ble_eq_true hr.1.1.2) (hb hK.2.1 hd)
    (fun _ _ => ⟨rfl, eT, Nat.le_of_ble_eq_true hr.1.2, Nat.le_of_ble_eq_true hr.2⟩)
  dsimp only [Pt.U, Pt.locs, Pt.cells, Pt.slots] at X' e1 e2 e3 S hQ hgr
  subst e1 e2 e3
  obtain ⟨s₂, v', L, h1, rr⟩ := G v T'.heap hQ hgr T' _ X' (Fr.app N hF) rfl
  exact ⟨s₂, v', L, S _ h1, rr⟩
theorem g_special (hK : Cx K Z own bs mx rt nm) {y : MethodName} {bs' : ByteArray} {mx' i : Nat} {rm : Room} {a : Addr} {argsL : List Value} {Q' : Option Value → Heap → Prop} {ps : List FieldType} {r : Option FieldType} (W : Nat) (C : Con (kL K) y bs' mx' none [] rm Z n0 (.ref a :: argsL).toArray h Q') (hy1 : y.name = "<init>")
    (w1 : (Jvm.Cond.methodLink own i y).before a0 Z = true) (w2 : (Jvm.Cond.instanceMethod y).before a0 Z = true) (w3 : (Jvm.Cond.initialized y.cls).before a0 Z = true) (w4 : (Jvm.Cond.code y bs' mx' none).before a0 Z = true) (hy : y.cls ≠ "java/lang/invoke/MethodHandle" ∧ y.cls ≠ "java/lang/invoke/VarHandle")
    (pd : parseMethodDescriptor y.desc = some ⟨ps, r⟩) (hlen : argsL.length = ps.length) (hd : decode bs pc = .ok (.invokespecial i, 3)) (hsz : Ls.length = mx)
    (hr : (Nat.ble (rm.frames + 1) R.frames && Nat.ble (W + (mx' + 11) + rm.locals) R.locals && Nat.ble (rest.map fun v => v.category).sum W && Nat.ble (cells + rm.cells) R.cells && Nat.ble (slots + rm.slots) R.slots) = true)
    (G : ∀ v h', Q' v h' → h.size ≤ h'.size → Go K R n0 B Q h' (cells + rm.cells) (slots + rm.slots) (pc + 3) Ls (v.toList ++ rest)) : Go K R n0 B Q h cells slots pc Ls (argsL.reverse ++ .ref a :: rest) := by
  intro T locs X N eT
  simp only [Bool.and_eq_true] at hr
  obtain ⟨v, _, ⟨T', L', k', n'⟩, -, X', ⟨Lc, ⟨hQ, hF, hgr⟩, e1, e2, e3⟩, S⟩ := X.specialBack hK.1 (y := y) hy1 hK.2.2.2.1 (mvT hK.2.2.2.2.2.2.2 w1) (mvT hK.2.2.2.2.2.2.2 w2) (mvT hK.2.2.2.2.2.2.2 w4) hy
    (backOf (W := W) (Q := fun v h' L => Q' v h' ∧ Fr n0 L ∧ h.size ≤ h'.size) C hK.2.2.2.2.2.2.2 w4 w3 (Nat.le_of_ble_eq_true hr.1.1.1.1) (Nat.le_of_ble_eq_true hr.1.1.1.2)) (g := mkF (kM K) pc ⟨Ls⟩ (argsL.reverse ++ .ref a :: rest)) rfl (by rw [hK.2.2.1]; exact hsz) (Steps.refl _) (a := a) (argsL := argsL) (rest := rest) (lenOf pd hlen) rfl (by show 2 * 0 + _ ≤ _; rw [Nat.mul_zero, Nat.zero_add]; exact Nat.le_of_ble_eq_true hr.1.1.2) (hb hK.2.1 hd)
    (fun _ _ => ⟨rfl, eT, Nat.le_of_ble_eq_true hr.1.2, Nat.le_of_ble_eq_true hr.2⟩)
  dsimp only [Pt.U, Pt.locs, Pt.cells, Pt.slots] at X' e1 e2 e3 S hQ hgr
  subst e1 e2 e3
  obtain ⟨s₂, v', L, h1, rr⟩ := G v T'.heap hQ hgr T' _ X' (Fr.app N hF) rfl
  exact ⟨s₂, v', L, S.trans h1, rr⟩
theorem g_virtual (hK : Cx K Z own bs mx rt nm) {y : MethodName} {bs' : ByteArray} {mx' i : Nat} {rt' : Option FieldType} {rm : Room} {a : Addr} {argsL : List Value} {Q' : Option Value → Heap → Prop} {ps : List FieldType} {r : Option FieldType} (W : Nat) (C : Con (kL K) y bs' mx' rt' [] rm Z n0 (.ref a :: argsL).toArray h Q') (E : Exa Z h a y.cls)
    (w1 : (Jvm.Cond.methodLink own i y).before a0 Z = true) (w2 : (Jvm.Cond.declares y).before a0 Z = true) (w3 : (Jvm.Cond.selects y.cls y y).before a0 Z = true) (w4 : (Jvm.Cond.instanceMethod y).before a0 Z = true) (w5 : (Jvm.Cond.initialized y.cls).before a0 Z = true) (w6 : (Jvm.Cond.code y bs' mx' rt').before a0 Z = true) (hy : y.cls ≠ "java/lang/invoke/MethodHandle" ∧ y.cls ≠ "java/lang/invoke/VarHandle")
    (pd : parseMethodDescriptor y.desc = some ⟨ps, r⟩) (hlen : argsL.length = ps.length) (hd : decode bs pc = .ok (.invokevirtual i, 3)) (hsz : Ls.length = mx)
    (hr : (Nat.ble (rm.frames + 1) R.frames && Nat.ble (W + (mx' + 11) + rm.locals) R.locals && Nat.ble (rest.map fun v => v.category).sum W && Nat.ble (cells + rm.cells) R.cells && Nat.ble (slots + rm.slots) R.slots) = true)
    (G : ∀ v h', Q' v h' → h.size ≤ h'.size → Go K R n0 B Q h' (cells + rm.cells) (slots + rm.slots) (pc + 3) Ls (v.toList ++ rest)) : Go K R n0 B Q h cells slots pc Ls (argsL.reverse ++ .ref a :: rest) := by
  intro T locs X N eT
  simp only [Bool.and_eq_true] at hr
  obtain ⟨cq, kq, q1, q2, q3⟩ := isOf hK.2.2.2.2.2.2.2 eT E
  obtain ⟨v, _, ⟨T', L', k', n'⟩, -, X', ⟨Lc, ⟨hQ, hF, hgr⟩, e1, e2, e3⟩, S⟩ := X.virtualBack hK.1 (y := y) (z := y) hK.2.2.2.1 (mvT hK.2.2.2.2.2.2.2 w1) (mvT hK.2.2.2.2.2.2.2 w2) (notFace_of_selects (args := #[]) (mvT hK.2.2.2.2.2.2.2 w3)) (mvT hK.2.2.2.2.2.2.2 w3) (mvT hK.2.2.2.2.2.2.2 w4) hy
    (backOf (W := W) (Q := fun v h' L => Q' v h' ∧ Fr n0 L ∧ h.size ≤ h'.size) C hK.2.2.2.2.2.2.2 w6 w5 (Nat.le_of_ble_eq_true hr.1.1.1.1) (Nat.le_of_ble_eq_true hr.1.1.1.2)) q1 q3 (g := mkF (kM K) pc ⟨Ls⟩ (argsL.reverse ++ .ref a :: rest)) rfl (by rw [hK.2.2.1]; exact hsz) (Steps.refl _) (argsL := argsL) (rest := rest) (lenOf pd hlen) rfl (by show 2 * 0 + _ ≤ _; rw [Nat.mul_zero, Nat.zero_add]; exact Nat.le_of_ble_eq_true hr.1.1.2) (hb hK.2.1 hd)
    (fun _ _ => ⟨rfl, eT, Nat.le_of_ble_eq_true hr.1.2, Nat.le_of_ble_eq_true hr.2⟩)
  dsimp only [Pt.U, Pt.locs, Pt.cells, Pt.slots] at X' e1 e2 e3 S hQ hgr
  subst e1 e2 e3
  obtain ⟨s₂, v', L, h1, rr⟩ := G v T'.heap hQ hgr T' _ X' (Fr.app N hF) rfl
  exact ⟨s₂, v', L, S.trans h1, rr⟩
end
section
variable {K : Ctx} {R : Room} {n0 : Nat} {B : State → List Loc → Prop} {Q : Option Value → Heap → Prop} {h : Heap} {cells slots pc : Nat} {st rest post : List Slot} {rs : List Value} {Z : State} {own : String} {bs : ByteArray} {mx : Nat} {rt : Option FieldType} {nm : String}
theorem g_astore_2 (hK : Cx K Z own bs mx rt nm) {s0 s1 : Slot} {o : Slot} {x : Addr} (hd : decode bs pc = .ok (.astore_n 2, 1)) (ho : isOne o = true) (G : Go K R n0 B Q h cells slots (pc + 1) (s0 :: s1 :: .val (.ref x) :: post) rs) : Go K R n0 B Q h cells slots pc (s0 :: s1 :: o :: post) (.ref x :: rs) :=
  g_astoreNG (pre := [s0, s1]) hK rfl hd ho G
theorem g_astore_12 (hK : Cx K Z own bs mx rt nm) {s0 s1 s2 s3 s4 s5 s6 s7 s8 s9 s10 s11 : Slot} {o : Slot} {x : Addr} (hd : decode bs pc = .ok (.astore 12, 2)) (ho : isOne o = true) (G : Go K R n0 B Q h cells slots (pc + 2) (s0 :: s1 :: s2 :: s3 :: s4 :: s5 :: s6 :: s7 :: s8 :: s9 :: s10 :: s11 :: .val (.ref x) :: post) rs) : Go K R n0 B Q h cells slots pc (s0 :: s1 :: s2 :: s3 :: s4 :: s5 :: s6 :: s7 :: s8 :: s9 :: s10 :: s11 :: o :: post) (.ref x :: rs) :=
  g_astoreG (pre := [s0, s1, s2, s3, s4, s5, s6, s7, s8, s9, s10, s11]) hK rfl hd ho G
theorem g_astore_13 (hK : Cx K Z own bs mx rt nm) {s0 s1 s2 s3 s4 s5 s6 s7 s8 s9 s10 s11 s12 : Slot} {o : Slot} {x : Addr} (hd : decode bs pc = .ok (.astore 13, 2)) (ho : isOne o = true) (G : Go K R n0 B Q h cells slots (pc + 2) (s0 :: s1 :: s2 :: s3 :: s4 :: s5 :: s6 :: s7 :: s8 :: s9 :: s10 :: s11 :: s12 :: .val (.ref x) :: post) rs) : Go K R n0 B Q h cells slots pc (s0 :: s1 :: s2 :: s3 :: s4 :: s5 :: s6 :: s7 :: s8 :: s9 :: s10 :: s11 :: s12 :: o :: post) (.ref x :: rs) :=
  g_astoreG (pre := [s0, s1, s2, s3, s4, s5, s6, s7, s8, s9, s10, s11, s12]) hK rfl hd ho G
theorem g_iinc_2 (hK : Cx K Z own bs mx rt nm) {s0 s1 : Slot} {x z : Int32} {cst : Int} (hd : decode bs pc = .ok (.iinc 2 cst, 3)) (hz : Int32.ofInt cst = z) (G : Go K R n0 B Q h cells slots (pc + 3) (s0 :: s1 :: .val (.int (x + z)) :: post) rs) : Go K R n0 B Q h cells slots pc (s0 :: s1 :: .val (.int x) :: post) rs :=
  g_iincG (pre := [s0, s1]) hK rfl hd (by subst hz; exact G)
theorem g_istore_1 (hK : Cx K Z own bs mx rt nm) {s0 : Slot} {o : Slot} {x : Int32} (hd : decode bs pc = .ok (.istore_n 1, 1)) (ho : isOne o = true) (G : Go K R n0 B Q h cells slots (pc + 1) (s0 :: .val (.int x) :: post) rs) : Go K R n0 B Q h cells slots pc (s0 :: o :: post) (.int x :: rs) :=
  g_istoreNG (pre := [s0]) hK rfl hd ho G
theorem g_istore_2 (hK : Cx K Z own bs mx rt nm) {s0 s1 : Slot} {o : Slot} {x : Int32} (hd : decode bs pc = .ok (.istore_n 2, 1)) (ho : isOne o = true) (G : Go K R n0 B Q h cells slots (pc + 1) (s0 :: s1 :: .val (.int x) :: post) rs) : Go K R n0 B Q h cells slots pc (s0 :: s1 :: o :: post) (.int x :: rs) :=
  g_istoreNG (pre := [s0, s1]) hK rfl hd ho G
theorem g_istore_3 (hK : Cx K Z own bs mx rt nm) {s0 s1 s2 : Slot} {o : Slot} {x : Int32} (hd : decode bs pc = .ok (.istore_n 3, 1)) (ho : isOne o = true) (G : Go K R n0 B Q h cells slots (pc + 1) (s0 :: s1 :: s2 :: .val (.int x) :: post) rs) : Go K R n0 B Q h cells slots pc (s0 :: s1 :: s2 :: o :: post) (.int x :: rs) :=
  g_istoreNG (pre := [s0, s1, s2]) hK rfl hd ho G
theorem g_istore_6 (hK : Cx K Z own bs mx rt nm) {s0 s1 s2 s3 s4 s5 : Slot} {o : Slot} {x : Int32} (hd : decode bs pc = .ok (.istore 6, 2)) (ho : isOne o = true) (G : Go K R n0 B Q h cells slots (pc + 2) (s0 :: s1 :: s2 :: s3 :: s4 :: s5 :: .val (.int x) :: post) rs) : Go K R n0 B Q h cells slots pc (s0 :: s1 :: s2 :: s3 :: s4 :: s5 :: o :: post) (.int x :: rs) :=
  g_istoreG (pre := [s0, s1, s2, s3, s4, s5]) hK rfl hd ho G
theorem g_istore_7 (hK : Cx K Z own bs mx rt nm) {s0 s1 s2 s3 s4 s5 s6 : Slot} {o : Slot} {x : Int32} (hd : decode bs pc = .ok (.istore 7, 2)) (ho : isOne o = true) (G : Go K R n0 B Q h cells slots (pc + 2) (s0 :: s1 :: s2 :: s3 :: s4 :: s5 :: s6 :: .val (.int x) :: post) rs) : Go K R n0 B Q h cells slots pc (s0 :: s1 :: s2 :: s3 :: s4 :: s5 :: s6 :: o :: post) (.int x :: rs) :=
  g_istoreG (pre := [s0, s1, s2, s3, s4, s5, s6]) hK rfl hd ho G
theorem g_istore_8 (hK : Cx K Z own bs mx rt nm) {s0 s1 s2 s3 s4 s5 s6 s7 : Slot} {o : Slot} {x : Int32} (hd : decode bs pc = .ok (.istore 8, 2)) (ho : isOne o = true) (G : Go K R n0 B Q h cells slots (pc + 2) (s0 :: s1 :: s2 :: s3 :: s4 :: s5 :: s6 :: s7 :: .val (.int x) :: post) rs) : Go K R n0 B Q h cells slots pc (s0 :: s1 :: s2 :: s3 :: s4 :: s5 :: s6 :: s7 :: o :: post) (.int x :: rs) :=
  g_istoreG (pre := [s0, s1, s2, s3, s4, s5, s6, s7]) hK rfl hd ho G
theorem g_istore_9 (hK : Cx K Z own bs mx rt nm) {s0 s1 s2 s3 s4 s5 s6 s7 s8 : Slot} {o : Slot} {x : Int32} (hd : decode bs pc = .ok (.istore 9, 2)) (ho : isOne o = true) (G : Go K R n0 B Q h cells slots (pc + 2) (s0 :: s1 :: s2 :: s3 :: s4 :: s5 :: s6 :: s7 :: s8 :: .val (.int x) :: post) rs) : Go K R n0 B Q h cells slots pc (s0 :: s1 :: s2 :: s3 :: s4 :: s5 :: s6 :: s7 :: s8 :: o :: post) (.int x :: rs) :=
  g_istoreG (pre := [s0, s1, s2, s3, s4, s5, s6, s7, s8]) hK rfl hd ho G
theorem g_istore_10 (hK : Cx K Z own bs mx rt nm) {s0 s1 s2 s3 s4 s5 s6 s7 s8 s9 : Slot} {o : Slot} {x : Int32} (hd : decode bs pc = .ok (.istore 10, 2)) (ho : isOne o = true) (G : Go K R n0 B Q h cells slots (pc + 2) (s0 :: s1 :: s2 :: s3 :: s4 :: s5 :: s6 :: s7 :: s8 :: s9 :: .val (.int x) :: post) rs) : Go K R n0 B Q h cells slots pc (s0 :: s1 :: s2 :: s3 :: s4 :: s5 :: s6 :: s7 :: s8 :: s9 :: o :: post) (.int x :: rs) :=
  g_istoreG (pre := [s0, s1, s2, s3, s4, s5, s6, s7, s8, s9]) hK rfl hd ho G
theorem g_istore_11 (hK : Cx K Z own bs mx rt nm) {s0 s1 s2 s3 s4 s5 s6 s7 s8 s9 s10 : Slot} {o : Slot} {x : Int32} (hd : decode bs pc = .ok (.istore 11, 2)) (ho : isOne o = true) (G : Go K R n0 B Q h cells slots (pc + 2) (s0 :: s1 :: s2 :: s3 :: s4 :: s5 :: s6 :: s7 :: s8 :: s9 :: s10 :: .val (.int x) :: post) rs) : Go K R n0 B Q h cells slots pc (s0 :: s1 :: s2 :: s3 :: s4 :: s5 :: s6 :: s7 :: s8 :: s9 :: s10 :: o :: post) (.int x :: rs) :=
  g_istoreG (pre := [s0, s1, s2, s3, s4, s5, s6, s7, s8, s9, s10]) hK rfl hd ho G
theorem g_istore_14 (hK : Cx K Z own bs mx rt nm) {s0 s1 s2 s3 s4 s5 s6 s7 s8 s9 s10 s11 s12 s13 : Slot} {o : Slot} {x : Int32} (hd : decode bs pc = .ok (.istore 14, 2)) (ho : isOne o = true) (G : Go K R n0 B Q h cells slots (pc + 2) (s0 :: s1 :: s2 :: s3 :: s4 :: s5 :: s6 :: s7 :: s8 :: s9 :: s10 :: s11 :: s12 :: s13 :: .val (.int x) :: post) rs) : Go K R n0 B Q h cells slots pc (s0 :: s1 :: s2 :: s3 :: s4 :: s5 :: s6 :: s7 :: s8 :: s9 :: s10 :: s11 :: s12 :: s13 :: o :: post) (.int x :: rs) :=
  g_istoreG (pre := [s0, s1, s2, s3, s4, s5, s6, s7, s8, s9, s10, s11, s12, s13]) hK rfl hd ho G
theorem g_istore_15 (hK : Cx K Z own bs mx rt nm) {s0 s1 s2 s3 s4 s5 s6 s7 s8 s9 s10 s11 s12 s13 s14 : Slot} {o : Slot} {x : Int32} (hd : decode bs pc = .ok (.istore 15, 2)) (ho : isOne o = true) (G : Go K R n0 B Q h cells slots (pc + 2) (s0 :: s1 :: s2 :: s3 :: s4 :: s5 :: s6 :: s7 :: s8 :: s9 :: s10 :: s11 :: s12 :: s13 :: s14 :: .val (.int x) :: post) rs) : Go K R n0 B Q h cells slots pc (s0 :: s1 :: s2 :: s3 :: s4 :: s5 :: s6 :: s7 :: s8 :: s9 :: s10 :: s11 :: s12 :: s13 :: s14 :: o :: post) (.int x :: rs) :=
  g_istoreG (pre := [s0, s1, s2, s3, s4, s5, s6, s7, s8, s9, s10, s11, s12, s13, s14]) hK rfl hd ho G
theorem g_istore_16 (hK : Cx K Z own bs mx rt nm) {s0 s1 s2 s3 s4 s5 s6 s7 s8 s9 s10 s11 s12 s13 s14 s15 : Slot} {o : Slot} {x : Int32} (hd : decode bs pc = .ok (.istore 16, 2)) (ho : isOne o = true) (G : Go K R n0 B Q h cells slots (pc + 2) (s0 :: s1 :: s2 :: s3 :: s4 :: s5 :: s6 :: s7 :: s8 :: s9 :: s10 :: s11 :: s12 :: s13 :: s14 :: s15 :: .val (.int x) :: post) rs) : Go K R n0 B Q h cells slots pc (s0 :: s1 :: s2 :: s3 :: s4 :: s5 :: s6 :: s7 :: s8 :: s9 :: s10 :: s11 :: s12 :: s13 :: s14 :: s15 :: o :: post) (.int x :: rs) :=
  g_istoreG (pre := [s0, s1, s2, s3, s4, s5, s6, s7, s8, s9, s10, s11, s12, s13, s14, s15]) hK rfl hd ho G
theorem g_istore_17 (hK : Cx K Z own bs mx rt nm) {s0 s1 s2 s3 s4 s5 s6 s7 s8 s9 s10 s11 s12 s13 s14 s15 s16 : Slot} {o : Slot} {x : Int32} (hd : decode bs pc = .ok (.istore 17, 2)) (ho : isOne o = true) (G : Go K R n0 B Q h cells slots (pc + 2) (s0 :: s1 :: s2 :: s3 :: s4 :: s5 :: s6 :: s7 :: s8 :: s9 :: s10 :: s11 :: s12 :: s13 :: s14 :: s15 :: s16 :: .val (.int x) :: post) rs) : Go K R n0 B Q h cells slots pc (s0 :: s1 :: s2 :: s3 :: s4 :: s5 :: s6 :: s7 :: s8 :: s9 :: s10 :: s11 :: s12 :: s13 :: s14 :: s15 :: s16 :: o :: post) (.int x :: rs) :=
  g_istoreG (pre := [s0, s1, s2, s3, s4, s5, s6, s7, s8, s9, s10, s11, s12, s13, s14, s15, s16]) hK rfl hd ho G
theorem g_istore_18 (hK : Cx K Z own bs mx rt nm) {s0 s1 s2 s3 s4 s5 s6 s7 s8 s9 s10 s11 s12 s13 s14 s15 s16 s17 : Slot} {o : Slot} {x : Int32} (hd : decode bs pc = .ok (.istore 18, 2)) (ho : isOne o = true) (G : Go K R n0 B Q h cells slots (pc + 2) (s0 :: s1 :: s2 :: s3 :: s4 :: s5 :: s6 :: s7 :: s8 :: s9 :: s10 :: s11 :: s12 :: s13 :: s14 :: s15 :: s16 :: s17 :: .val (.int x) :: post) rs) : Go K R n0 B Q h cells slots pc (s0 :: s1 :: s2 :: s3 :: s4 :: s5 :: s6 :: s7 :: s8 :: s9 :: s10 :: s11 :: s12 :: s13 :: s14 :: s15 :: s16 :: s17 :: o :: post) (.int x :: rs) :=
  g_istoreG (pre := [s0, s1, s2, s3, s4, s5, s6, s7, s8, s9, s10, s11, s12, s13, s14, s15, s16, s17]) hK rfl hd ho G
theorem g_istore_19 (hK : Cx K Z own bs mx rt nm) {s0 s1 s2 s3 s4 s5 s6 s7 s8 s9 s10 s11 s12 s13 s14 s15 s16 s17 s18 : Slot} {o : Slot} {x : Int32} (hd : decode bs pc = .ok (.istore 19, 2)) (ho : isOne o = true) (G : Go K R n0 B Q h cells slots (pc + 2) (s0 :: s1 :: s2 :: s3 :: s4 :: s5 :: s6 :: s7 :: s8 :: s9 :: s10 :: s11 :: s12 :: s13 :: s14 :: s15 :: s16 :: s17 :: s18 :: .val (.int x) :: post) rs) : Go K R n0 B Q h cells slots pc (s0 :: s1 :: s2 :: s3 :: s4 :: s5 :: s6 :: s7 :: s8 :: s9 :: s10 :: s11 :: s12 :: s13 :: s14 :: s15 :: s16 :: s17 :: s18 :: o :: post) (.int x :: rs) :=
  g_istoreG (pre := [s0, s1, s2, s3, s4, s5, s6, s7, s8, s9, s10, s11, s12, s13, s14, s15, s16, s17, s18]) hK rfl hd ho G
theorem g_istore_20 (hK : Cx K Z own bs mx rt nm) {s0 s1 s2 s3 s4 s5 s6 s7 s8 s9 s10 s11 s12 s13 s14 s15 s16 s17 s18 s19 : Slot} {o : Slot} {x : Int32} (hd : decode bs pc = .ok (.istore 20, 2)) (ho : isOne o = true) (G : Go K R n0 B Q h cells slots (pc + 2) (s0 :: s1 :: s2 :: s3 :: s4 :: s5 :: s6 :: s7 :: s8 :: s9 :: s10 :: s11 :: s12 :: s13 :: s14 :: s15 :: s16 :: s17 :: s18 :: s19 :: .val (.int x) :: post) rs) : Go K R n0 B Q h cells slots pc (s0 :: s1 :: s2 :: s3 :: s4 :: s5 :: s6 :: s7 :: s8 :: s9 :: s10 :: s11 :: s12 :: s13 :: s14 :: s15 :: s16 :: s17 :: s18 :: s19 :: o :: post) (.int x :: rs) :=
  g_istoreG (pre := [s0, s1, s2, s3, s4, s5, s6, s7, s8, s9, s10, s11, s12, s13, s14, s15, s16, s17, s18, s19]) hK rfl hd ho G
end
section
variable {K : Ctx} {R : Room} {n0 : Nat} {B : State → List Loc → Prop} {Q : Option Value → Heap → Prop} {h : Heap} {cells slots pc : Nat} {Ls : List Slot} {rest : List Value} {Z : State} {own : String} {bs : ByteArray} {mx : Nat} {rt : Option FieldType} {nm : String} {a0 : Array Value}
theorem g_special_0V (hK : Cx K Z own bs mx rt nm) {y : MethodName} {bs' : ByteArray} {mx' i : Nat} {rm : Room} {a : Addr} {P : Heap → Prop} {ps : List FieldType} {r : Option FieldType} (W : Nat) (hd : decode bs pc = .ok (.invokespecial i, 3)) (hy1 : y.name = "<init>") (w1 : (Jvm.Cond.methodLink own i y).before a0 Z = true) (w2 : (Jvm.Cond.instanceMethod y).before a0 Z = true) (w3 : (Jvm.Cond.initialized y.cls).before a0 Z = true) (w4 : (Jvm.Cond.code y bs' mx' none).before a0 Z = true) (hy : y.cls ≠ "java/lang/invoke/MethodHandle" ∧ y.cls ≠ "java/lang/invoke/VarHandle")
    (C : Con (kL K) y bs' mx' none [] rm Z n0 #[.ref a] h (qV P)) (pd : parseMethodDescriptor y.desc = some ⟨ps, r⟩) (hlen : 0 = ps.length) (hsz : Ls.length = mx)
    (hr : (Nat.ble (rm.frames + 1) R.frames && Nat.ble (W + (mx' + 11) + rm.locals) R.locals && Nat.ble (rest.map fun v => v.category).sum W && Nat.ble (cells + rm.cells) R.cells && Nat.ble (slots + rm.slots) R.slots) = true)
    (G : ∀ h', P h' → h.size ≤ h'.size → Go K R n0 B Q h' (cells + rm.cells) (slots + rm.slots) (pc + 3) Ls rest) : Go K R n0 B Q h cells slots pc Ls (.ref a :: rest) :=
  g_special (argsL := []) hK W C hy1 w1 w2 w3 w4 hy pd hlen hd hsz hr (fun v h' q gr => by obtain ⟨rfl, p⟩ := q; exact G h' p gr)
theorem g_special_1V (hK : Cx K Z own bs mx rt nm) {y : MethodName} {bs' : ByteArray} {mx' i : Nat} {rm : Room} {a : Addr} {x0 : Value} {P : Heap → Prop} {ps : List FieldType} {r : Option FieldType} (W : Nat) (hd : decode bs pc = .ok (.invokespecial i, 3)) (hy1 : y.name = "<init>") (w1 : (Jvm.Cond.methodLink own i y).before a0 Z = true) (w2 : (Jvm.Cond.instanceMethod y).before a0 Z = true) (w3 : (Jvm.Cond.initialized y.cls).before a0 Z = true) (w4 : (Jvm.Cond.code y bs' mx' none).before a0 Z = true) (hy : y.cls ≠ "java/lang/invoke/MethodHandle" ∧ y.cls ≠ "java/lang/invoke/VarHandle")
    (C : Con (kL K) y bs' mx' none [] rm Z n0 #[.ref a, x0] h (qV P)) (pd : parseMethodDescriptor y.desc = some ⟨ps, r⟩) (hlen : 1 = ps.length) (hsz : Ls.length = mx)
    (hr : (Nat.ble (rm.frames + 1) R.frames && Nat.ble (W + (mx' + 11) + rm.locals) R.locals && Nat.ble (rest.map fun v => v.category).sum W && Nat.ble (cells + rm.cells) R.cells && Nat.ble (slots + rm.slots) R.slots) = true)
    (G : ∀ h', P h' → h.size ≤ h'.size → Go K R n0 B Q h' (cells + rm.cells) (slots + rm.slots) (pc + 3) Ls rest) : Go K R n0 B Q h cells slots pc Ls (x0 :: .ref a :: rest) :=
  g_special (argsL := [x0]) hK W C hy1 w1 w2 w3 w4 hy pd hlen hd hsz hr (fun v h' q gr => by obtain ⟨rfl, p⟩ := q; exact G h' p gr)
theorem g_static_1I (hK : Cx K Z own bs mx rt nm) {y : MethodName} {bs' : ByteArray} {mx' i : Nat} {rt' : Option FieldType} {rm : Room} {x0 : Value} {P : Int32 → Heap → Prop} {ps : List FieldType} {r : Option FieldType} (W : Nat) (hd : decode bs pc = .ok (.invokestatic i, 3)) (w1 : (Jvm.Cond.methodLink own i y).before a0 Z = true) (w2 : (Jvm.Cond.static y).before a0 Z = true) (w3 : (Jvm.Cond.initialized y.cls).before a0 Z = true) (w4 : (Jvm.Cond.code y bs' mx' rt').before a0 Z = true) (hy : y.cls ≠ "java/lang/invoke/MethodHandle" ∧ y.cls ≠ "java/lang/invoke/VarHandle")
    (C : Con (kL K) y bs' mx' rt' [] rm Z n0 #[x0] h (qI P)) (pd : parseMethodDescriptor y.desc = some ⟨ps, r⟩) (hlen : 1 = ps.length) (hsz : Ls.length = mx)
    (hr : (Nat.ble (rm.frames + 1) R.frames && Nat.ble (W + (mx' + 11) + rm.locals) R.locals && Nat.ble (rest.map fun v => v.category).sum W && Nat.ble (cells + rm.cells) R.cells && Nat.ble (slots + rm.slots) R.slots) = true)
    (G : ∀ z h', P z h' → h.size ≤ h'.size → Go K R n0 B Q h' (cells + rm.cells) (slots + rm.slots) (pc + 3) Ls (.int z :: rest)) : Go K R n0 B Q h cells slots pc Ls (x0 :: rest) :=
  g_static (argsL := [x0]) hK W C w1 w2 w3 w4 hy pd hlen hd hsz hr (fun v h' q gr => by obtain ⟨z, rfl, p⟩ := q; exact G z h' p gr)
theorem g_static_2A (hK : Cx K Z own bs mx rt nm) {y : MethodName} {bs' : ByteArray} {mx' i : Nat} {rt' : Option FieldType} {rm : Room} {x0 x1 : Value} {P : Addr → Heap → Prop} {ps : List FieldType} {r : Option FieldType} (W : Nat) (hd : decode bs pc = .ok (.invokestatic i, 3)) (w1 : (Jvm.Cond.methodLink own i y).before a0 Z = true) (w2 : (Jvm.Cond.static y).before a0 Z = true) (w3 : (Jvm.Cond.initialized y.cls).before a0 Z = true) (w4 : (Jvm.Cond.code y bs' mx' rt').before a0 Z = true) (hy : y.cls ≠ "java/lang/invoke/MethodHandle" ∧ y.cls ≠ "java/lang/invoke/VarHandle")
    (C : Con (kL K) y bs' mx' rt' [] rm Z n0 #[x0, x1] h (qA P)) (pd : parseMethodDescriptor y.desc = some ⟨ps, r⟩) (hlen : 2 = ps.length) (hsz : Ls.length = mx)
    (hr : (Nat.ble (rm.frames + 1) R.frames && Nat.ble (W + (mx' + 11) + rm.locals) R.locals && Nat.ble (rest.map fun v => v.category).sum W && Nat.ble (cells + rm.cells) R.cells && Nat.ble (slots + rm.slots) R.slots) = true)
    (G : ∀ z h', P z h' → h.size ≤ h'.size → Go K R n0 B Q h' (cells + rm.cells) (slots + rm.slots) (pc + 3) Ls (.ref z :: rest)) : Go K R n0 B Q h cells slots pc Ls (x1 :: x0 :: rest) :=
  g_static (argsL := [x0, x1]) hK W C w1 w2 w3 w4 hy pd hlen hd hsz hr (fun v h' q gr => by obtain ⟨z, rfl, p⟩ := q; exact G z h' p gr)
theorem g_static_2I (hK : Cx K Z own bs mx rt nm) {y : MethodName} {bs' : ByteArray} {mx' i : Nat} {rt' : Option FieldType} {rm : Room} {x0 x1 : Value} {P : Int32 → Heap → Prop} {ps : List FieldType} {r : Option FieldType} (W : Nat) (hd : decode bs pc = .ok (.invokestatic i, 3)) (w1 : (Jvm.Cond.methodLink own i y).before a0 Z = true) (w2 : (Jvm.Cond.static y).before a0 Z = true) (w3 : (Jvm.Cond.initialized y.cls).before a0 Z = true) (w4 : (Jvm.Cond.code y bs' mx' rt').before a0 Z = true) (hy : y.cls ≠ "java/lang/invoke/MethodHandle" ∧ y.cls ≠ "java/lang/invoke/VarHandle")
    (C : Con (kL K) y bs' mx' rt' [] rm Z n0 #[x0, x1] h (qI P)) (pd : parseMethodDescriptor y.desc = some ⟨ps, r⟩) (hlen : 2 = ps.length) (hsz : Ls.length = mx)
    (hr : (Nat.ble (rm.frames + 1) R.frames && Nat.ble (W + (mx' + 11) + rm.locals) R.locals && Nat.ble (rest.map fun v => v.category).sum W && Nat.ble (cells + rm.cells) R.cells && Nat.ble (slots + rm.slots) R.slots) = true)
    (G : ∀ z h', P z h' → h.size ≤ h'.size → Go K R n0 B Q h' (cells + rm.cells) (slots + rm.slots) (pc + 3) Ls (.int z :: rest)) : Go K R n0 B Q h cells slots pc Ls (x1 :: x0 :: rest) :=
  g_static (argsL := [x0, x1]) hK W C w1 w2 w3 w4 hy pd hlen hd hsz hr (fun v h' q gr => by obtain ⟨z, rfl, p⟩ := q; exact G z h' p gr)
theorem g_static_2J (hK : Cx K Z own bs mx rt nm) {y : MethodName} {bs' : ByteArray} {mx' i : Nat} {rt' : Option FieldType} {rm : Room} {x0 x1 : Value} {P : Int64 → Heap → Prop} {ps : List FieldType} {r : Option FieldType} (W : Nat) (hd : decode bs pc = .ok (.invokestatic i, 3)) (w1 : (Jvm.Cond.methodLink own i y).before a0 Z = true) (w2 : (Jvm.Cond.static y).before a0 Z = true) (w3 : (Jvm.Cond.initialized y.cls).before a0 Z = true) (w4 : (Jvm.Cond.code y bs' mx' rt').before a0 Z = true) (hy : y.cls ≠ "java/lang/invoke/MethodHandle" ∧ y.cls ≠ "java/lang/invoke/VarHandle")
    (C : Con (kL K) y bs' mx' rt' [] rm Z n0 #[x0, x1] h (qJ P)) (pd : parseMethodDescriptor y.desc = some ⟨ps, r⟩) (hlen : 2 = ps.length) (hsz : Ls.length = mx)
    (hr : (Nat.ble (rm.frames + 1) R.frames && Nat.ble (W + (mx' + 11) + rm.locals) R.locals && Nat.ble (rest.map fun v => v.category).sum W && Nat.ble (cells + rm.cells) R.cells && Nat.ble (slots + rm.slots) R.slots) = true)
    (G : ∀ z h', P z h' → h.size ≤ h'.size → Go K R n0 B Q h' (cells + rm.cells) (slots + rm.slots) (pc + 3) Ls (.long z :: rest)) : Go K R n0 B Q h cells slots pc Ls (x1 :: x0 :: rest) :=
  g_static (argsL := [x0, x1]) hK W C w1 w2 w3 w4 hy pd hlen hd hsz hr (fun v h' q gr => by obtain ⟨z, rfl, p⟩ := q; exact G z h' p gr)
theorem g_static_2V (hK : Cx K Z own bs mx rt nm) {y : MethodName} {bs' : ByteArray} {mx' i : Nat} {rt' : Option FieldType} {rm : Room} {x0 x1 : Value} {P : Heap → Prop} {ps : List FieldType} {r : Option FieldType} (W : Nat) (hd : decode bs pc = .ok (.invokestatic i, 3)) (w1 : (Jvm.Cond.methodLink own i y).before a0 Z = true) (w2 : (Jvm.Cond.static y).before a0 Z = true) (w3 : (Jvm.Cond.initialized y.cls).before a0 Z = true) (w4 : (Jvm.Cond.code y bs' mx' rt').before a0 Z = true) (hy : y.cls ≠ "java/lang/invoke/MethodHandle" ∧ y.cls ≠ "java/lang/invoke/VarHandle")
    (C : Con (kL K) y bs' mx' rt' [] rm Z n0 #[x0, x1] h (qV P)) (pd : parseMethodDescriptor y.desc = some ⟨ps, r⟩) (hlen : 2 = ps.length) (hsz : Ls.length = mx)
    (hr : (Nat.ble (rm.frames + 1) R.frames && Nat.ble (W + (mx' + 11) + rm.locals) R.locals && Nat.ble (rest.map fun v => v.category).sum W && Nat.ble (cells + rm.cells) R.cells && Nat.ble (slots + rm.slots) R.slots) = true)
    (G : ∀ h', P h' → h.size ≤ h'.size → Go K R n0 B Q h' (cells + rm.cells) (slots + rm.slots) (pc + 3) Ls rest) : Go K R n0 B Q h cells slots pc Ls (x1 :: x0 :: rest) :=
  g_static (argsL := [x0, x1]) hK W C w1 w2 w3 w4 hy pd hlen hd hsz hr (fun v h' q gr => by obtain ⟨rfl, p⟩ := q; exact G h' p gr)
theorem g_static_4V (hK : Cx K Z own bs mx rt nm) {y : MethodName} {bs' : ByteArray} {mx' i : Nat} {rt' : Option FieldType} {rm : Room} {x0 x1 x2 x3 : Value} {P : Heap → Prop} {ps : List FieldType} {r : Option FieldType} (W : Nat) (hd : decode bs pc = .ok (.invokestatic i, 3)) (w1 : (Jvm.Cond.methodLink own i y).before a0 Z = true) (w2 : (Jvm.Cond.static y).before a0 Z = true) (w3 : (Jvm.Cond.initialized y.cls).before a0 Z = true) (w4 : (Jvm.Cond.code y bs' mx' rt').before a0 Z = true) (hy : y.cls ≠ "java/lang/invoke/MethodHandle" ∧ y.cls ≠ "java/lang/invoke/VarHandle")
    (C : Con (kL K) y bs' mx' rt' [] rm Z n0 #[x0, x1, x2, x3] h (qV P)) (pd : parseMethodDescriptor y.desc = some ⟨ps, r⟩) (hlen : 4 = ps.length) (hsz : Ls.length = mx)
    (hr : (Nat.ble (rm.frames + 1) R.frames && Nat.ble (W + (mx' + 11) + rm.locals) R.locals && Nat.ble (rest.map fun v => v.category).sum W && Nat.ble (cells + rm.cells) R.cells && Nat.ble (slots + rm.slots) R.slots) = true)
    (G : ∀ h', P h' → h.size ≤ h'.size → Go K R n0 B Q h' (cells + rm.cells) (slots + rm.slots) (pc + 3) Ls rest) : Go K R n0 B Q h cells slots pc Ls (x3 :: x2 :: x1 :: x0 :: rest) :=
  g_static (argsL := [x0, x1, x2, x3]) hK W C w1 w2 w3 w4 hy pd hlen hd hsz hr (fun v h' q gr => by obtain ⟨rfl, p⟩ := q; exact G h' p gr)
theorem g_virtual_0I (hK : Cx K Z own bs mx rt nm) {y : MethodName} {bs' : ByteArray} {mx' i : Nat} {rt' : Option FieldType} {rm : Room} {a : Addr} {P : Int32 → Heap → Prop} {ps : List FieldType} {r : Option FieldType} (W : Nat) (hd : decode bs pc = .ok (.invokevirtual i, 3)) (w1 : (Jvm.Cond.methodLink own i y).before a0 Z = true) (w2 : (Jvm.Cond.declares y).before a0 Z = true) (w3 : (Jvm.Cond.selects y.cls y y).before a0 Z = true) (w4 : (Jvm.Cond.instanceMethod y).before a0 Z = true) (w5 : (Jvm.Cond.initialized y.cls).before a0 Z = true) (w6 : (Jvm.Cond.code y bs' mx' rt').before a0 Z = true) (hy : y.cls ≠ "java/lang/invoke/MethodHandle" ∧ y.cls ≠ "java/lang/invoke/VarHandle")
    (E : Exa Z h a y.cls) (C : Con (kL K) y bs' mx' rt' [] rm Z n0 #[.ref a] h (qI P)) (pd : parseMethodDescriptor y.desc = some ⟨ps, r⟩) (hlen : 0 = ps.length) (hsz : Ls.length = mx)
    (hr : (Nat.ble (rm.frames + 1) R.frames && Nat.ble (W + (mx' + 11) + rm.locals) R.locals && Nat.ble (rest.map fun v => v.category).sum W && Nat.ble (cells + rm.cells) R.cells && Nat.ble (slots + rm.slots) R.slots) = true)
    (G : ∀ z h', P z h' → h.size ≤ h'.size → Go K R n0 B Q h' (cells + rm.cells) (slots + rm.slots) (pc + 3) Ls (.int z :: rest)) : Go K R n0 B Q h cells slots pc Ls (.ref a :: rest) :=
  g_virtual (argsL := []) hK W C E w1 w2 w3 w4 w5 w6 hy pd hlen hd hsz hr (fun v h' q gr => by obtain ⟨z, rfl, p⟩ := q; exact G z h' p gr)
theorem g_virtual_1V (hK : Cx K Z own bs mx rt nm) {y : MethodName} {bs' : ByteArray} {mx' i : Nat} {rt' : Option FieldType} {rm : Room} {a : Addr} {x0 : Value} {P : Heap → Prop} {ps : List FieldType} {r : Option FieldType} (W : Nat) (hd : decode bs pc = .ok (.invokevirtual i, 3)) (w1 : (Jvm.Cond.methodLink own i y).before a0 Z = true) (w2 : (Jvm.Cond.declares y).before a0 Z = true) (w3 : (Jvm.Cond.selects y.cls y y).before a0 Z = true) (w4 : (Jvm.Cond.instanceMethod y).before a0 Z = true) (w5 : (Jvm.Cond.initialized y.cls).before a0 Z = true) (w6 : (Jvm.Cond.code y bs' mx' rt').before a0 Z = true) (hy : y.cls ≠ "java/lang/invoke/MethodHandle" ∧ y.cls ≠ "java/lang/invoke/VarHandle")
    (E : Exa Z h a y.cls) (C : Con (kL K) y bs' mx' rt' [] rm Z n0 #[.ref a, x0] h (qV P)) (pd : parseMethodDescriptor y.desc = some ⟨ps, r⟩) (hlen : 1 = ps.length) (hsz : Ls.length = mx)
    (hr : (Nat.ble (rm.frames + 1) R.frames && Nat.ble (W + (mx' + 11) + rm.locals) R.locals && Nat.ble (rest.map fun v => v.category).sum W && Nat.ble (cells + rm.cells) R.cells && Nat.ble (slots + rm.slots) R.slots) = true)
    (G : ∀ h', P h' → h.size ≤ h'.size → Go K R n0 B Q h' (cells + rm.cells) (slots + rm.slots) (pc + 3) Ls rest) : Go K R n0 B Q h cells slots pc Ls (x0 :: .ref a :: rest) :=
  g_virtual (argsL := [x0]) hK W C E w1 w2 w3 w4 w5 w6 hy pd hlen hd hsz hr (fun v h' q gr => by obtain ⟨rfl, p⟩ := q; exact G h' p gr)
theorem g_virtual_2I (hK : Cx K Z own bs mx rt nm) {y : MethodName} {bs' : ByteArray} {mx' i : Nat} {rt' : Option FieldType} {rm : Room} {a : Addr} {x0 x1 : Value} {P : Int32 → Heap → Prop} {ps : List FieldType} {r : Option FieldType} (W : Nat) (hd : decode bs pc = .ok (.invokevirtual i, 3)) (w1 : (Jvm.Cond.methodLink own i y).before a0 Z = true) (w2 : (Jvm.Cond.declares y).before a0 Z = true) (w3 : (Jvm.Cond.selects y.cls y y).before a0 Z = true) (w4 : (Jvm.Cond.instanceMethod y).before a0 Z = true) (w5 : (Jvm.Cond.initialized y.cls).before a0 Z = true) (w6 : (Jvm.Cond.code y bs' mx' rt').before a0 Z = true) (hy : y.cls ≠ "java/lang/invoke/MethodHandle" ∧ y.cls ≠ "java/lang/invoke/VarHandle")
    (E : Exa Z h a y.cls) (C : Con (kL K) y bs' mx' rt' [] rm Z n0 #[.ref a, x0, x1] h (qI P)) (pd : parseMethodDescriptor y.desc = some ⟨ps, r⟩) (hlen : 2 = ps.length) (hsz : Ls.length = mx)
    (hr : (Nat.ble (rm.frames + 1) R.frames && Nat.ble (W + (mx' + 11) + rm.locals) R.locals && Nat.ble (rest.map fun v => v.category).sum W && Nat.ble (cells + rm.cells) R.cells && Nat.ble (slots + rm.slots) R.slots) = true)
    (G : ∀ z h', P z h' → h.size ≤ h'.size → Go K R n0 B Q h' (cells + rm.cells) (slots + rm.slots) (pc + 3) Ls (.int z :: rest)) : Go K R n0 B Q h cells slots pc Ls (x1 :: x0 :: .ref a :: rest) :=
  g_virtual (argsL := [x0, x1]) hK W C E w1 w2 w3 w4 w5 w6 hy pd hlen hd hsz hr (fun v h' q gr => by obtain ⟨z, rfl, p⟩ := q; exact G z h' p gr)
theorem g_virtual_2V (hK : Cx K Z own bs mx rt nm) {y : MethodName} {bs' : ByteArray} {mx' i : Nat} {rt' : Option FieldType} {rm : Room} {a : Addr} {x0 x1 : Value} {P : Heap → Prop} {ps : List FieldType} {r : Option FieldType} (W : Nat) (hd : decode bs pc = .ok (.invokevirtual i, 3)) (w1 : (Jvm.Cond.methodLink own i y).before a0 Z = true) (w2 : (Jvm.Cond.declares y).before a0 Z = true) (w3 : (Jvm.Cond.selects y.cls y y).before a0 Z = true) (w4 : (Jvm.Cond.instanceMethod y).before a0 Z = true) (w5 : (Jvm.Cond.initialized y.cls).before a0 Z = true) (w6 : (Jvm.Cond.code y bs' mx' rt').before a0 Z = true) (hy : y.cls ≠ "java/lang/invoke/MethodHandle" ∧ y.cls ≠ "java/lang/invoke/VarHandle")
    (E : Exa Z h a y.cls) (C : Con (kL K) y bs' mx' rt' [] rm Z n0 #[.ref a, x0, x1] h (qV P)) (pd : parseMethodDescriptor y.desc = some ⟨ps, r⟩) (hlen : 2 = ps.length) (hsz : Ls.length = mx)
    (hr : (Nat.ble (rm.frames + 1) R.frames && Nat.ble (W + (mx' + 11) + rm.locals) R.locals && Nat.ble (rest.map fun v => v.category).sum W && Nat.ble (cells + rm.cells) R.cells && Nat.ble (slots + rm.slots) R.slots) = true)
    (G : ∀ h', P h' → h.size ≤ h'.size → Go K R n0 B Q h' (cells + rm.cells) (slots + rm.slots) (pc + 3) Ls rest) : Go K R n0 B Q h cells slots pc Ls (x1 :: x0 :: .ref a :: rest) :=
  g_virtual (argsL := [x0, x1]) hK W C E w1 w2 w3 w4 w5 w6 hy pd hlen hd hsz hr (fun v h' q gr => by obtain ⟨rfl, p⟩ := q; exact G h' p gr)
end
/-! arrays by a function of the place -/
def AI (Z : State) (h : Heap) (a : Addr) (n : Nat) (w : Nat → Int32) : Prop := ∃ cl : Cell, Arr Z h a cl .int ∧ cl.slots.size = n ∧ ∀ i, i < n → cl.slots[i]? = some (.int (w i))
def AJ (Z : State) (h : Heap) (a : Addr) (n : Nat) (w : Nat → Int64) : Prop := ∃ cl : Cell, Arr Z h a cl .long ∧ cl.slots.size = n ∧ ∀ i, i < n → cl.slots[i]? = some (.long (w i))
def upd {α : Type} (w : Nat → α) (i : Nat) (x : α) : Nat → α := fun k => if k = i then x else w k
theorem upd_at {α : Type} (w : Nat → α) (i : Nat) (x : α) : upd w i x i = x := by simp [upd]
theorem upd_ne {α : Type} (w : Nat → α) (i k : Nat) (x : α) (q : k ≠ i) : upd w i x k = w k := by simp [upd, q]
section
variable {Z : State} {h h' : Heap} {a b : Addr} {n sl : Nat} {v : Value} {ws : List Addr}
theorem AI.ext {w : Nat → Int32} (A : AI Z h a n w) (E : Ext h h') : AI Z h' a n w := by obtain ⟨cl, h1, h2⟩ := A; exact ⟨cl, h1.ext E, h2⟩
theorem AJ.ext {w : Nat → Int64} (A : AJ Z h a n w) (E : Ext h h') : AJ Z h' a n w := by obtain ⟨cl, h1, h2⟩ := A; exact ⟨cl, h1.ext E, h2⟩
theorem AI.lt {w : Nat → Int32} (A : AI Z h a n w) : a < h.size := by obtain ⟨cl, h1, h2⟩ := A; exact h1.lt
theorem AJ.lt {w : Nat → Int64} (A : AJ Z h a n w) : a < h.size := by obtain ⟨cl, h1, h2⟩ := A; exact h1.lt
theorem AI.other {w : Nat → Int32} (A : AI Z h a n w) (W : Wr h h' b sl v) (q : a ≠ b) : AI Z h' a n w := by obtain ⟨cl, h1, h2⟩ := A; exact ⟨cl, h1.other W q, h2⟩
theorem AJ.other {w : Nat → Int64} (A : AJ Z h a n w) (W : Wr h h' b sl v) (q : a ≠ b) : AJ Z h' a n w := by obtain ⟨cl, h1, h2⟩ := A; exact ⟨cl, h1.other W q, h2⟩
theorem AI.keep {w : Nat → Int32} (A : AI Z h a n w) (K : Keep h h' ws) (q : a ∉ ws) : AI Z h' a n w := by obtain ⟨cl, h1, h2⟩ := A; exact ⟨cl, ⟨K.2.1 _ _ h1.1 q, h1.2⟩, h2⟩
theorem AJ.keep {w : Nat → Int64} (A : AJ Z h a n w) (K : Keep h h' ws) (q : a ∉ ws) : AJ Z h' a n w := by obtain ⟨cl, h1, h2⟩ := A; exact ⟨cl, ⟨K.2.1 _ _ h1.1 q, h1.2⟩, h2⟩
theorem AI.congr {w w' : Nat → Int32} (A : AI Z h a n w) (q : ∀ i, i < n → w i = w' i) : AI Z h a n w' := by obtain ⟨cl, h1, h2, h3⟩ := A; exact ⟨cl, h1, h2, fun i hi => by rw [← q i hi]; exact h3 i hi⟩
theorem AJ.congr {w w' : Nat → Int64} (A : AJ Z h a n w) (q : ∀ i, i < n → w i = w' i) : AJ Z h a n w' := by obtain ⟨cl, h1, h2, h3⟩ := A; exact ⟨cl, h1, h2, fun i hi => by rw [← q i hi]; exact h3 i hi⟩
theorem cell_set {c : Cell} {j i : Nat} {x : Value} : (c.setSlot j x).slots[i]? = if j = i then (if j < c.slots.size then some x else none) else c.slots[i]? := by
  show (c.slots.setIfInBounds j x)[i]? = _
  rw [Array.getElem?_setIfInBounds]
theorem AI.set {w : Nat → Int32} (A : AI Z h a n w) {j : Nat} {x : Int32} (W : Wr h h' a j (.int x)) : AI Z h' a n (upd w j x) := by
  obtain ⟨cl, h1, h2, h3⟩ := A
  refine ⟨_, h1.same W, by rw [sz_set]; exact h2, fun i hi => ?_⟩
  rw [cell_set]
  by_cases q : j = i
  · subst q; rw [if_pos rfl, if_pos (by omega), upd_at]
  · rw [if_neg q, upd_ne _ _ _ _ (Ne.symm q)]; exact h3 i hi
theorem AJ.set {w : Nat → Int64} (A : AJ Z h a n w) {j : Nat} {x : Int64} (W : Wr h h' a j (.long x)) : AJ Z h' a n (upd w j x) := by
  obtain ⟨cl, h1, h2, h3⟩ := A
  refine ⟨_, h1.same W, by rw [sz_set]; exact h2, fun i hi => ?_⟩
  rw [cell_set]
  by_cases q : j = i
  · subst q; rw [if_pos rfl, if_pos (by omega), upd_at]
  · rw [if_neg q, upd_ne _ _ _ _ (Ne.symm q)]; exact h3 i hi
theorem AI.new {z : Int32} {k : ClassId} (A : Arr Z h a (newA k .int z) .int) (q : 0 ≤ z.toInt) : AI Z h a z.toInt.toNat (fun _ => 0) := by
  obtain ⟨cl, h1, -, h3, h4, h5, -⟩ := Arv.new A (fun e => by rw [Int32.lt_iff_toInt_lt] at e; exact absurd e (Int.not_lt.mpr q))
  exact ⟨cl, h1, h3, fun i hi => h5 i (by rw [h3]; exact hi)⟩
theorem AJ.new {z : Int32} {k : ClassId} (A : Arr Z h a (newA k .long z) .long) (q : 0 ≤ z.toInt) : AJ Z h a z.toInt.toNat (fun _ => 0) := by
  obtain ⟨cl, h1, -, h3, h4, h5, -⟩ := Arv.new A (fun e => by rw [Int32.lt_iff_toInt_lt] at e; exact absurd e (Int.not_lt.mpr q))
  exact ⟨cl, h1, h3, fun i hi => h5 i (by rw [h3]; exact hi)⟩
theorem own_idx {c : Cell} {j : Int32} (S : c.slots.size = n) (hj : 0 ≤ j.toInt ∧ j.toInt < n) : ¬ (j < 0 ∨ c.slots.size ≤ j.toNatClampNeg) := by
  have e0 : (0 : Int32).toInt = 0 := rfl
  simp only [Int32.lt_iff_toInt_lt, Int32.toNatClampNeg, S, e0]; omega
end
section
variable {K : Ctx} {R : Room} {n0 : Nat} {B : State → List Loc → Prop} {Q : Option Value → Heap → Prop} {h : Heap} {cells slots pc : Nat} {Ls : List Slot} {st rest : List Value} {Z : State} {own : String} {bs : ByteArray} {mx : Nat} {rt : Option FieldType} {nm : String} {a0 : Array Value} {a : Addr} {n : Nat}
theorem gA_iaload (hK : Cx K Z own bs mx rt nm) {w : Nat → Int32} {j v : Int32} (A : AI Z h a n w) (hj : 0 ≤ j.toInt ∧ j.toInt < n) (hv : w j.toInt.toNat = v) (hd : decode bs pc = .ok (.iaload, 1)) (G : Go K R n0 B Q h cells slots (pc + 1) Ls (.int v :: rest)) : Go K R n0 B Q h cells slots pc Ls (.int j :: .ref a :: rest) := by
  obtain ⟨cl, h1, h2, h3⟩ := A
  exact g_iaload hK h1 (own_idx h2 hj) (by subst hv; exact h3 j.toInt.toNat (by omega)) hd G
theorem gA_laload (hK : Cx K Z own bs mx rt nm) {w : Nat → Int64} {j : Int32} {v : Int64} (A : AJ Z h a n w) (hj : 0 ≤ j.toInt ∧ j.toInt < n) (hv : w j.toInt.toNat = v) (hd : decode bs pc = .ok (.laload, 1)) (G : Go K R n0 B Q h cells slots (pc + 1) Ls (.long v :: rest)) : Go K R n0 B Q h cells slots pc Ls (.int j :: .ref a :: rest) := by
  obtain ⟨cl, h1, h2, h3⟩ := A
  exact g_laload hK h1 (own_idx h2 hj) (by subst hv; exact h3 j.toInt.toNat (by omega)) hd G
theorem gA_iastore (hK : Cx K Z own bs mx rt nm) {w : Nat → Int32} {j x : Int32} (A : AI Z h a n w) (hj : 0 ≤ j.toInt ∧ j.toInt < n) (hn : n0 ≤ a) (hd : decode bs pc = .ok (.iastore, 1)) (G : ∀ h', Wr h h' a j.toInt.toNat (.int x) → AI Z h' a n (upd w j.toInt.toNat x) → Go K R n0 B Q h' cells slots (pc + 1) Ls rest) : Go K R n0 B Q h cells slots pc Ls (.int x :: .int j :: .ref a :: rest) := by
  obtain ⟨cl, h1, h2, h3⟩ := A
  exact g_iastore hK h1 (own_idx h2 hj) hn hd fun h' W => G h' W (AI.set ⟨cl, h1, h2, h3⟩ W)
theorem gA_lastore (hK : Cx K Z own bs mx rt nm) {w : Nat → Int64} {j : Int32} {x : Int64} (A : AJ Z h a n w) (hj : 0 ≤ j.toInt ∧ j.toInt < n) (hn : n0 ≤ a) (hd : decode bs pc = .ok (.lastore, 1)) (G : ∀ h', Wr h h' a j.toInt.toNat (.long x) → AJ Z h' a n (upd w j.toInt.toNat x) → Go K R n0 B Q h' cells slots (pc + 1) Ls rest) : Go K R n0 B Q h cells slots pc Ls (.long x :: .int j :: .ref a :: rest) := by
  obtain ⟨cl, h1, h2, h3⟩ := A
  exact g_lastore hK h1 (own_idx h2 hj) hn hd fun h' W => G h' W (AJ.set ⟨cl, h1, h2, h3⟩ W)
theorem gA_lenI (hK : Cx K Z own bs mx rt nm) {w : Nat → Int32} {z : Int32} (A : AI Z h a n w) (hz : Nat.toInt32 n = z) (hd : decode bs pc = .ok (.arraylength, 1)) (G : Go K R n0 B Q h cells slots (pc + 1) Ls (.int z :: rest)) : Go K R n0 B Q h cells slots pc Ls (.ref a :: rest) := by
  obtain ⟨cl, h1, h2, h3⟩ := A
  exact g_arraylength hK h1 (by rw [h2]; exact hz) hd G
theorem gA_lenJ (hK : Cx K Z own bs mx rt nm) {w : Nat → Int64} {z : Int32} (A : AJ Z h a n w) (hz : Nat.toInt32 n = z) (hd : decode bs pc = .ok (.arraylength, 1)) (G : Go K R n0 B Q h cells slots (pc + 1) Ls (.int z :: rest)) : Go K R n0 B Q h cells slots pc Ls (.ref a :: rest) := by
  obtain ⟨cl, h1, h2, h3⟩ := A
  exact g_arraylength hK h1 (by rw [h2]; exact hz) hd G
theorem gA_newI (hK : Cx K Z own bs mx rt nm) {z : Int32} (cap : Nat) (w : (Jvm.Cond.arrayClass .int).before a0 Z = true) (hd : decode bs pc = .ok (.newarray .int, 2)) (hn : 0 ≤ z.toInt) (hcap : z.toInt ≤ cap) (hr : (Nat.ble (cap * 8) 536870912 && Nat.ble (cells + 1) R.cells && Nat.ble (slots + cap) R.slots) = true)
    (G : ∀ h' a, a = h.size → Ext h h' → AI Z h' a z.toInt.toNat (fun _ => 0) → Go K R n0 B Q h' (cells + 1) (slots + cap) (pc + 2) Ls (.ref a :: rest)) : Go K R n0 B Q h cells slots pc Ls (.int z :: rest) :=
  g_newarray (aty := .int) hK cap w hd (fun e => by rw [Int32.lt_iff_toInt_lt] at e; exact absurd e (Int.not_lt.mpr hn)) (by simp only [Int32.toNatClampNeg]; omega) hr fun h' a cA e X A => G h' a e X (AI.new A hn)
theorem gA_newJ (hK : Cx K Z own bs mx rt nm) {z : Int32} (cap : Nat) (w : (Jvm.Cond.arrayClass .long).before a0 Z = true) (hd : decode bs pc = .ok (.newarray .long, 2)) (hn : 0 ≤ z.toInt) (hcap : z.toInt ≤ cap) (hr : (Nat.ble (cap * 8) 536870912 && Nat.ble (cells + 1) R.cells && Nat.ble (slots + cap) R.slots) = true)
    (G : ∀ h' a, a = h.size → Ext h h' → AJ Z h' a z.toInt.toNat (fun _ => 0) → Go K R n0 B Q h' (cells + 1) (slots + cap) (pc + 2) Ls (.ref a :: rest)) : Go K R n0 B Q h cells slots pc Ls (.int z :: rest) :=
  g_newarray (aty := .long) hK cap w hd (fun e => by rw [Int32.lt_iff_toInt_lt] at e; exact absurd e (Int.not_lt.mpr hn)) (by simp only [Int32.toNatClampNeg]; omega) hr fun h' a cA e X A => G h' a e X (AJ.new A hn)
end

/-! a walk that may load String constants cold: over the start with the tables at hand -/
abbrev wB (s : State) (R : Room) (s₂ : State) (L : List Loc) : Prop := s.Warmed39 s₂.vm ∧ s.Booked s₂.vm s₂.heap.size ∧ s.sameButNew ({ s₂ with vm := s.vm } : State) L R.cells R.slots
abbrev reK (K : Ctx) (vm : Vm) : Ctx := (kP K, kL K, kE K, (kS K).setVm vm, kM K, kA K, kB K, kI K, kC K)
def ConW (l : Launch) (y : MethodName) (bs : ByteArray) (mx : Nat) (rt : Option FieldType) (ws : List Jvm.Cond) (rm : Room) (Z : State) (n0 : Nat) (as : Array Value) (h : Heap) (Q : Option Value → Heap → Prop) : Prop :=
  MetFree l y (head1 (Jvm.Cond.code y bs mx rt :: ws) rm) (fun a U => a = as ∧ Z.Warmed39 U.vm ∧ U.heap = h) (fun _ _ _ _ _ => True)
    (fun _ U o U' => ∃ v L, o = .returned v ∧ (Q v U'.heap ∧ Fr n0 L) ∧ ReturnedEndW U o U' L rm.cells rm.slots)
theorem conW_of_go {l : Launch} {Z : State} {y : MethodName} {bs : ByteArray} {mx : Nat} {rt : Option FieldType} {ws : List Jvm.Cond} {rm : Room} {as : Array Value} {h : Heap} {n0 : Nat} {Q : Option Value → Heap → Prop} {Ls : List Slot}
    (hp : plainFor y = true) (hLs : ∀ m, entryFrame m as mx = mkF m 0 ⟨Ls⟩ []) (G : ∀ K : Ctx, kL K = l → Cx (reK K (kS K).vm) Z y.cls bs mx rt y.name → Go (reK K (kS K).vm) rm n0 (wB (kS K) rm) Q h 0 0 0 Ls []) : ConW l y bs mx rt ws rm Z n0 as h Q := by
  refine MetFree.of_bodySF hp hisR ?_
  intro p e s m args below meth c s₁ Bd hml hP hK
  obtain ⟨rfl, hZ, hh⟩ := hP
  obtain ⟨s₂, v, L, h1, h2, h3, h4, h5, h6, h7, h8⟩ := G (p, l, e, s, m, args, below, meth, c) rfl ⟨Bd.exec, Bd.bytes, hml, findClass_of_methodNamed Bd.named, (name_of_methodNamed Bd.named Bd.method).1, Bd.returns, Bd.notSynchronized, hZ⟩ s₁ [] (Stand.of_body Bd) (Fr.nil n0) (by rw [← hh, Bd.state]; rfl)
  exact ⟨s₂, .returned v, castTop (hLs m) h1, h2, h3, v, L, rfl, ⟨h4, h5⟩, ⟨v, rfl⟩, h6, h7, h8⟩
section
variable {K : Ctx} {vm : Vm} {R : Room} {n0 k : Nat} {B : State → List Loc → Prop} {Q : Option Value → Heap → Prop} {h : Heap} {cells slots pc : Nat} {Ls : List Slot} {st rest : List Value} {Z : State} {own : String} {bs : ByteArray} {mx : Nat} {rt : Option FieldType} {nm : String} {a0 : Array Value}
theorem gW_ldcS (hK : Cx (reK K vm) Z own bs mx rt nm) (hS : (kS K).Since vm k) (hk : k ≤ h.size) {text : String} {i : Nat} (n : Nat) (w : (Jvm.Cond.stringLink own i text).before a0 Z = true) (wS : ∀ a ∈ Bundle.stringAtoms, a.before a0 Z = true) (hd : decode bs pc = .ok (.ldc i, 2)) (hn : 4 * text.toList.length ≤ n)
    (hr : (Nat.ble n 536870912 && Nat.ble (cells + 2) R.cells && Nat.ble (slots + (n + 4)) R.slots) = true)
    (G : ∀ vm' h' a k', Cx (reK K vm') Z own bs mx rt nm → (kS K).Since vm' k' → k' ≤ h'.size → Ext h h' → Go (reK K vm') R n0 B Q h' (cells + 2) (slots + (n + 4)) (pc + 2) Ls (.ref a :: st)) : Go (reK K vm) R n0 B Q h cells slots pc Ls st := by
  intro T locs X N eT
  simp only [Bool.and_eq_true] at hr
  obtain ⟨a, T', h', k1, X', e', E, S', hk1, hZ', hown', St⟩ := ldcS (s := kS K) (vm0 := vm) X hK.1 hK.2.2.2.2.2.2.2 hK.2.2.2.1 w wS eT hS hk (g := mkF (kM K) pc ⟨Ls⟩ st) rfl (hb hK.2.1 hd) hn (Nat.le_of_ble_eq_true hr.1.1) (Nat.le_of_ble_eq_true hr.1.2) (Nat.le_of_ble_eq_true hr.2)
  have hK' : Cx (reK K T'.vm) Z own bs mx rt nm := ⟨hK.1, hK.2.1, hK.2.2.1, hown', hK.2.2.2.2.1, hK.2.2.2.2.2.1, hK.2.2.2.2.2.2.1, hZ'⟩
  obtain ⟨s₂, v, L, h1, r⟩ := G T'.vm h' a k1 hK' S' hk1 E T' locs X' N e'
  exact ⟨s₂, v, L, St _ h1, r⟩
theorem gW_ret {w : Value} {t : FieldType} {ins : Instr} (hK : Cx (reK K vm) Z own bs mx (some t) nm) (hS : (kS K).Since vm k) (hk : k ≤ h.size) (hn : narrow t w = w) (hi : (ins = .ireturn ∧ (t = .int ∨ t = .boolean ∨ t = .byte ∨ t = .char ∨ t = .short) ∧ ∃ z, w = .int z) ∨ (ins = .lreturn ∧ t = .long ∧ ∃ z, w = .long z) ∨ (ins = .dreturn ∧ t = .double ∧ ∃ z, w = .double z) ∨ (ins = .freturn ∧ t = .float ∧ ∃ z, w = .float z) ∨ (ins = .areturn ∧ t.isReference = true ∧ w.isRef = true))
    (hd : decode bs pc = .ok (ins, 1)) (hr : (Nat.ble cells R.cells && Nat.ble slots R.slots) = true) (q : Q (some w) h) : Go (reK K vm) R n0 (wB (kS K) R) Q h cells slots pc Ls (w :: rest) := by
  intro T locs X N eT
  simp only [Bool.and_eq_true] at hr
  have hlk := hK.2.2.2.2.2.2.1
  obtain ⟨fs, hl, hrun, hended, hW, hsame⟩ := X.leave (v := some w) (fun e => by rw [hK.2.2.2.2.2.1] at e; cases e) hlk
  obtain ⟨e1, e2, e3⟩ := hS.ended (U := T.setFrames fs) hW (by show k ≤ T.heap.size; rw [eT]; exact hk) hsame
  refine ⟨_, some w, locs, retOut X hK.1 hK.2.2.2.2.2.1 hn hi (hb hK.2.1 hd) hl, hrun, hended, ?_, N, e1, e2, e3.mono (Nat.le_of_ble_eq_true hr.1) (Nat.le_of_ble_eq_true hr.2)⟩
  show Q (some w) T.heap
  rw [eT]; exact q
theorem gW_ireturn {z : Int32} {P : Int32 → Heap → Prop} (hK : Cx (reK K vm) Z own bs mx (some .int) nm) (hS : (kS K).Since vm k) (hk : k ≤ h.size) (hd : decode bs pc = .ok (.ireturn, 1)) (hr : (Nat.ble cells R.cells && Nat.ble slots R.slots) = true) (q : P z h) : Go (reK K vm) R n0 (wB (kS K) R) (qI P) h cells slots pc Ls (.int z :: rest) :=
  gW_ret hK hS hk rfl (Or.inl ⟨rfl, Or.inl rfl, z, rfl⟩) hd hr ⟨z, rfl, q⟩
theorem gW_zreturn {z : Int32} {P : Int32 → Heap → Prop} (hK : Cx (reK K vm) Z own bs mx (some .boolean) nm) (hS : (kS K).Since vm k) (hk : k ≤ h.size) (hd : decode bs pc = .ok (.ireturn, 1)) (hn : narrow .boolean (.int z) = .int z) (hr : (Nat.ble cells R.cells && Nat.ble slots R.slots) = true) (q : P z h) : Go (reK K vm) R n0 (wB (kS K) R) (qI P) h cells slots pc Ls (.int z :: rest) :=
  gW_ret hK hS hk hn (Or.inl ⟨rfl, Or.inr (Or.inl rfl), z, rfl⟩) hd hr ⟨z, rfl, q⟩
theorem gW_return {P : Heap → Prop} (hK : Cx (reK K vm) Z own bs mx none nm) (hS : (kS K).Since vm k) (hk : k ≤ h.size) (hd : decode bs pc = .ok (.return_, 1)) (hr : (Nat.ble cells R.cells && Nat.ble slots R.slots) = true) (q : P h) : Go (reK K vm) R n0 (wB (kS K) R) (qV P) h cells slots pc Ls [] := by
  intro T locs X N eT
  simp only [Bool.and_eq_true] at hr
  have hlk := hK.2.2.2.2.2.2.1
  obtain ⟨fs, hl, hrun, hended, hW, hsame⟩ := X.leave (v := none) (fun _ => rfl) hlk
  obtain ⟨e1, e2, e3⟩ := hS.ended (U := T.setFrames fs) hW (by show k ≤ T.heap.size; rw [eT]; exact hk) hsame
  refine ⟨_, none, locs, X.returnOut hK.1 hK.2.2.2.2.2.1 (hb hK.2.1 hd) hl, hrun, hended, ⟨rfl, ?_⟩, N, e1, e2, e3.mono (Nat.le_of_ble_eq_true hr.1) (Nat.le_of_ble_eq_true hr.2)⟩
  show P T.heap
  rw [eT]; exact q
theorem gW_special (hK : Cx (reK K vm) Z own bs mx rt nm) (hS : (kS K).Since vm k) (hk : k ≤ h.size) {y : MethodName} {bs' : ByteArray} {mx' i : Nat} {rm : Room} {a : Addr} {argsL : List Value} {Q' : Option Value → Heap → Prop} {ps : List FieldType} {r : Option FieldType} (W : Nat) (C : ConW (kL K) y bs' mx' none [] rm Z n0 (.ref a :: argsL).toArray h Q') (hy1 : y.name = "<init>")
    (w1 : (Jvm.Cond.methodLink own i y).before a0 Z = true) (w2 : (Jvm.Cond.instanceMethod y).before a0 Z = true) (w3 : (Jvm.Cond.initialized y.cls).before a0 Z = true) (w4 : (Jvm.Cond.code y bs' mx' none).before a0 Z = true) (hy : y.cls ≠ "java/lang/invoke/MethodHandle" ∧ y.cls ≠ "java/lang/invoke/VarHandle")
    (pd : parseMethodDescriptor y.desc = some ⟨ps, r⟩) (hlen : argsL.length = ps.length) (hd : decode bs pc = .ok (.invokespecial i, 3)) (hsz : Ls.length = mx)
    (hr : (Nat.ble (rm.frames + 1) R.frames && Nat.ble (W + (mx' + 11) + rm.locals) R.locals && Nat.ble (rest.map fun v => v.category).sum W && Nat.ble (cells + rm.cells) R.cells && Nat.ble (slots + rm.slots) R.slots) = true)
    (G : ∀ v h' vm', Q' v h' → Cx (reK K vm') Z own bs mx rt nm → (kS K).Since vm' h'.size → h.size ≤ h'.size → Go (reK K vm') R n0 B Q h' (cells + rm.cells) (slots + rm.slots) (pc + 3) Ls (v.toList ++ rest)) : Go (reK K vm) R n0 B Q h cells slots pc Ls (argsL.reverse ++ .ref a :: rest) := by
  intro T locs X N eT
  simp only [Bool.and_eq_true] at hr
  obtain ⟨v, _, ⟨T', L', k', n'⟩, -, X', hS', hgr, ⟨Lc, ⟨hQ, hF⟩, e1, e2, e3⟩, S⟩ := X.specialBackS hK.1 (y := y) hy1 hK.2.2.2.1 (mvT hK.2.2.2.2.2.2.2 w1) (mvT hK.2.2.2.2.2.2.2 w2) (mvT hK.2.2.2.2.2.2.2 w4) hy
    (backOfS (W := W) (Q := fun v h L => Q' v h ∧ Fr n0 L) C hK.2.2.2.2.2.2.2 w4 w3 (Nat.le_of_ble_eq_true hr.1.1.1.1) (Nat.le_of_ble_eq_true hr.1.1.1.2)) (g := mkF (kM K) pc ⟨Ls⟩ (argsL.reverse ++ .ref a :: rest)) rfl (by rw [hK.2.2.1]; exact hsz) (Steps.refl _) (a := a) (argsL := argsL) (rest := rest) (lenOf pd hlen) rfl (by show 2 * 0 + _ ≤ _; rw [Nat.mul_zero, Nat.zero_add]; exact Nat.le_of_ble_eq_true hr.1.1.2) (hb hK.2.1 hd)
    (fun _ _ => ⟨rfl, eT, Nat.le_of_ble_eq_true hr.1.2, Nat.le_of_ble_eq_true hr.2⟩)
  dsimp only [Pt.U, Pt.locs, Pt.cells, Pt.slots] at X' e1 e2 e3 S hQ hS' hgr
  subst e1 e2 e3
  obtain ⟨X2, S2, Z2, O2⟩ := rebS (s := kS K) (vm0 := vm) (k0 := k) (n1 := T.heap.size) (own := own) hS (by rw [eT]; exact hk) X' hS' hgr hK.2.2.2.2.2.2.2 hK.2.2.2.1
  have hK' : Cx (reK K T'.vm) Z own bs mx rt nm := ⟨hK.1, hK.2.1, hK.2.2.1, O2, hK.2.2.2.2.1, hK.2.2.2.2.2.1, hK.2.2.2.2.2.2.1, Z2⟩
  obtain ⟨s₂, v', L, h1, rr⟩ := G v T'.heap T'.vm hQ hK' S2 (by rw [← eT]; exact hgr) T' _ X2 (Fr.app N hF) rfl
  exact ⟨s₂, v', L, S.trans h1, rr⟩

theorem gW_special_5V (hK : Cx (reK K vm) Z own bs mx rt nm) (hS : (kS K).Since vm k) (hk : k ≤ h.size) {y : MethodName} {bs' : ByteArray} {mx' i : Nat} {rm : Room} {a : Addr} {x0 x1 x2 x3 x4 : Value} {P : Heap → Prop} {ps : List FieldType} {r : Option FieldType} (W : Nat) (hd : decode bs pc = .ok (.invokespecial i, 3)) (hy1 : y.name = "<init>") (w1 : (Jvm.Cond.methodLink own i y).before a0 Z = true) (w2 : (Jvm.Cond.instanceMethod y).before a0 Z = true) (w3 : (Jvm.Cond.initialized y.cls).before a0 Z = true) (w4 : (Jvm.Cond.code y bs' mx' none).before a0 Z = true) (hy : y.cls ≠ "java/lang/invoke/MethodHandle" ∧ y.cls ≠ "java/lang/invoke/VarHandle")
    (C : ConW (kL K) y bs' mx' none [] rm Z n0 #[.ref a, x0, x1, x2, x3, x4] h (qV P)) (pd : parseMethodDescriptor y.desc = some ⟨ps, r⟩) (hlen : 5 = ps.length) (hsz : Ls.length = mx)
    (hr : (Nat.ble (rm.frames + 1) R.frames && Nat.ble (W + (mx' + 11) + rm.locals) R.locals && Nat.ble (rest.map fun v => v.category).sum W && Nat.ble (cells + rm.cells) R.cells && Nat.ble (slots + rm.slots) R.slots) = true)
    (G : ∀ h' vm', P h' → Cx (reK K vm') Z own bs mx rt nm → (kS K).Since vm' h'.size → h.size ≤ h'.size → Go (reK K vm') R n0 B Q h' (cells + rm.cells) (slots + rm.slots) (pc + 3) Ls rest) : Go (reK K vm) R n0 B Q h cells slots pc Ls (x4 :: x3 :: x2 :: x1 :: x0 :: .ref a :: rest) :=
  gW_special (argsL := [x0, x1, x2, x3, x4]) hK hS hk W C hy1 w1 w2 w3 w4 hy pd hlen hd hsz hr (fun v h' vm' q c1 c2 c3 => by obtain ⟨rfl, p⟩ := q; exact G h' vm' p c1 c2 c3)
end
section
variable {K : Ctx} {R : Room} {n0 : Nat} {B : State → List Loc → Prop} {Q : Option Value → Heap → Prop} {h : Heap} {cells slots pc : Nat} {Ls : List Slot} {rest : List Value} {Z : State} {own : String} {bs : ByteArray} {mx : Nat} {rt : Option FieldType} {nm : String} {a0 : Array Value}
theorem g_private (hK : Cx K Z own bs mx rt nm) {y : MethodName} {bs' : ByteArray} {mx' i : Nat} {rt' : Option FieldType} {rm : Room} {a : Addr} {argsL : List Value} {Q' : Option Value → Heap → Prop} {ps : List FieldType} {r : Option FieldType} (W : Nat) (C : Con (kL K) y bs' mx' rt' [] rm Z n0 (.ref a :: argsL).toArray h Q') (E : Exa Z h a y.cls)
    (w1 : (Jvm.Cond.methodLink own i y).before a0 Z = true) (w2 : (Jvm.Cond.privateMethod y).before a0 Z = true) (w3 : (Jvm.Cond.selects y.cls y y).before a0 Z = true) (w4 : (Jvm.Cond.instanceMethod y).before a0 Z = true) (w5 : (Jvm.Cond.initialized y.cls).before a0 Z = true) (w6 : (Jvm.Cond.code y bs' mx' rt').before a0 Z = true) (hy : y.cls ≠ "java/lang/invoke/MethodHandle" ∧ y.cls ≠ "java/lang/invoke/VarHandle")
    (pd : parseMethodDescriptor y.desc = some ⟨ps, r⟩) (hlen : argsL.length = ps.length) (hd : decode bs pc = .ok (.invokevirtual i, 3)) (hsz : Ls.length = mx)
    (hr : (Nat.ble (rm.frames + 1) R.frames && Nat.ble (W + (mx' + 11) + rm.locals) R.locals && Nat.ble (rest.map fun v => v.category).sum W && Nat.ble (cells + rm.cells) R.cells && Nat.ble (slots + rm.slots) R.slots) = true)
    (G : ∀ v h', Q' v h' → h.size ≤ h'.size → Go K R n0 B Q h' (cells + rm.cells) (slots + rm.slots) (pc + 3) Ls (v.toList ++ rest)) : Go K R n0 B Q h cells slots pc Ls (argsL.reverse ++ .ref a :: rest) := by
  intro T locs X N eT
  simp only [Bool.and_eq_true] at hr
  obtain ⟨cell, hc1, hc2⟩ := E.cell
  obtain ⟨v, _, ⟨T', L', k', n'⟩, -, X', ⟨Lc, ⟨hQ, hF, hgr⟩, e1, e2, e3⟩, S⟩ := X.privateBack hK.1 (y := y) hK.2.2.2.1 (mvT hK.2.2.2.2.2.2.2 w1) (mvT hK.2.2.2.2.2.2.2 w4) (mvT hK.2.2.2.2.2.2.2 w3) (Cond.privateMethod_at (mvP hK.2.2.2.2.2.2.2 w2 (args := #[]))) (mvT hK.2.2.2.2.2.2.2 w6) hy
    (backOf (W := W) (Q := fun v h' L => Q' v h' ∧ Fr n0 L ∧ h.size ≤ h'.size) C hK.2.2.2.2.2.2.2 w6 w5 (Nat.le_of_ble_eq_true hr.1.1.1.1) (Nat.le_of_ble_eq_true hr.1.1.1.2)) (g := mkF (kM K) pc ⟨Ls⟩ (argsL.reverse ++ .ref a :: rest)) rfl (by rw [hK.2.2.1]; exact hsz) (Steps.refl _) (a := a) (by rw [eT]; exact hc1) hc2 (argsL := argsL) (rest := rest) (lenOf pd hlen) rfl (by show 2 * 0 + _ ≤ _; rw [Nat.mul_zero, Nat.zero_add]; exact Nat.le_of_ble_eq_true hr.1.1.2) (hb hK.2.1 hd)
    (fun _ _ => ⟨rfl, eT, Nat.le_of_ble_eq_true hr.1.2, Nat.le_of_ble_eq_true hr.2⟩)
  dsimp only [Pt.U, Pt.locs, Pt.cells, Pt.slots] at X' e1 e2 e3 S hQ hgr
  subst e1 e2 e3
  obtain ⟨s₂, v', L, h1, rr⟩ := G v T'.heap hQ hgr T' _ X' (Fr.app N hF) rfl
  exact ⟨s₂, v', L, S.trans h1, rr⟩
theorem AI.arv0 {a : Addr} {w : Nat → Int32} (A : AI Z h a 0 w) : ∃ k, Arv Z h a k .int 0 [] (.int 0) := by
  obtain ⟨cl, h1, h2, h3⟩ := A
  exact ⟨cl.cls, cl, h1, rfl, h2, by decide, fun k hk => absurd hk (by omega), fun k hk => absurd hk (by omega)⟩
theorem AI.arvz {a : Addr} {n : Int32} (hn : ¬ n < 0) (A : AI Z h a n.toInt.toNat (fun _ => 0)) : ∃ k, Arv Z h a k .int n [] (.int 0) := by
  obtain ⟨cl, h1, h2, h3⟩ := A
  exact ⟨cl.cls, cl, h1, rfl, h2, hn, fun k hk => h3 k (by omega), fun k hk => rfl⟩
theorem AI.ofArv {a : Addr} {k : ClassId} {n : Int32} (A : Arv Z h a k .int n [] (.int 0)) : AI Z h a n.toInt.toNat (fun _ => 0) := by
  obtain ⟨cl, h1, -, h3, h4, h5, -⟩ := A
  exact ⟨cl, h1, h3, fun i hi => h5 i (by rw [h3]; exact hi)⟩
theorem g_copy0 (hK : Cx K Z own bs mx rt nm) {i : Nat} {a b : Addr} {n : Int32} {w : Nat → Int32} (W : Nat) (w1 : (Jvm.Cond.methodLink own i Jvm.Stand.acN).before a0 Z = true) (w2 : (Jvm.Cond.native Jvm.Stand.acN).before a0 Z = true) (w3 : (Jvm.Cond.static Jvm.Stand.acN).before a0 Z = true) (w4 : (Jvm.Cond.initialized "java/lang/System").before a0 Z = true)
    (A : AI Z h a 0 w) (hn : ¬ n < 0) (A2 : AI Z h b n.toInt.toNat (fun _ => 0)) (hb0 : n0 ≤ b) (hd : decode bs pc = .ok (.invokestatic i, 3)) (hsz : Ls.length = mx) (hr : (Nat.ble 1 R.frames && Nat.ble (rest.map fun v => v.category).sum W && Nat.ble (W + (nativeFrameWords "java/lang/System" "arraycopy" 5 + 11)) R.locals) = true)
    (G : ∀ h', Keep h h' [b] → AI Z h' b n.toInt.toNat (fun _ => 0) → Go K R n0 B Q h' cells slots (pc + 3) Ls rest) : Go K R n0 B Q h cells slots pc Ls (.int 0 :: .int 0 :: .ref b :: .int 0 :: .ref a :: rest) := by
  intro T locs X N eT
  simp only [Bool.and_eq_true] at hr
  obtain ⟨k1, V1⟩ := A.arv0
  obtain ⟨k2, V2⟩ := AI.arvz hn A2
  obtain ⟨T', h', L', X', e', N', Kp, V3, S⟩ := cpA X hK.1 hK.2.2.2.2.2.2.2 hK.2.2.2.1 w1 w2 w3 w4 eT (sp := 0) (dp := 0) (nn := 0) (us := []) V1 V2 (Or.inl ⟨rfl, rfl⟩) (by decide) (by decide) (by decide) (by decide) (Nat.zero_le _) rfl (Nat.zero_le _) N hb0 (g := mkF (kM K) pc ⟨Ls⟩ (.int 0 :: .int 0 :: .ref b :: .int 0 :: .ref a :: rest)) rfl (by rw [hK.2.2.1]; exact hsz) rfl (hb hK.2.1 hd) (Nat.le_of_ble_eq_true hr.1.1) (W := W) (by show 2 * 0 + _ ≤ _; rw [Nat.mul_zero, Nat.zero_add]; exact Nat.le_of_ble_eq_true hr.1.2) (Nat.le_of_ble_eq_true hr.2)
  obtain ⟨s₂, v', L, h1, rr⟩ := G h' Kp (AI.ofArv V3) T' _ X' N' e'
  exact ⟨s₂, v', L, S _ h1, rr⟩

theorem g_private_1V (hK : Cx K Z own bs mx rt nm) {y : MethodName} {bs' : ByteArray} {mx' i : Nat} {rt' : Option FieldType} {rm : Room} {a : Addr} {x0 : Value} {P : Heap → Prop} {ps : List FieldType} {r : Option FieldType} (W : Nat) (hd : decode bs pc = .ok (.invokevirtual i, 3)) (w1 : (Jvm.Cond.methodLink own i y).before a0 Z = true) (w2 : (Jvm.Cond.privateMethod y).before a0 Z = true) (w3 : (Jvm.Cond.selects y.cls y y).before a0 Z = true) (w4 : (Jvm.Cond.instanceMethod y).before a0 Z = true) (w5 : (Jvm.Cond.initialized y.cls).before a0 Z = true) (w6 : (Jvm.Cond.code y bs' mx' rt').before a0 Z = true) (hy : y.cls ≠ "java/lang/invoke/MethodHandle" ∧ y.cls ≠ "java/lang/invoke/VarHandle")
    (E : Exa Z h a y.cls) (C : Con (kL K) y bs' mx' rt' [] rm Z n0 #[.ref a, x0] h (qV P)) (pd : parseMethodDescriptor y.desc = some ⟨ps, r⟩) (hlen : 1 = ps.length) (hsz : Ls.length = mx)
    (hr : (Nat.ble (rm.frames + 1) R.frames && Nat.ble (W + (mx' + 11) + rm.locals) R.locals && Nat.ble (rest.map fun v => v.category).sum W && Nat.ble (cells + rm.cells) R.cells && Nat.ble (slots + rm.slots) R.slots) = true)
    (G : ∀ h', P h' → h.size ≤ h'.size → Go K R n0 B Q h' (cells + rm.cells) (slots + rm.slots) (pc + 3) Ls rest) : Go K R n0 B Q h cells slots pc Ls (x0 :: .ref a :: rest) :=
  g_private (argsL := [x0]) hK W C E w1 w2 w3 w4 w5 w6 hy pd hlen hd hsz hr (fun v h' q gr => by obtain ⟨rfl, p⟩ := q; exact G h' p gr)
theorem g_private_2I (hK : Cx K Z own bs mx rt nm) {y : MethodName} {bs' : ByteArray} {mx' i : Nat} {rt' : Option FieldType} {rm : Room} {a : Addr} {x0 x1 : Value} {P : Int32 → Heap → Prop} {ps : List FieldType} {r : Option FieldType} (W : Nat) (hd : decode bs pc = .ok (.invokevirtual i, 3)) (w1 : (Jvm.Cond.methodLink own i y).before a0 Z = true) (w2 : (Jvm.Cond.privateMethod y).before a0 Z = true) (w3 : (Jvm.Cond.selects y.cls y y).before a0 Z = true) (w4 : (Jvm.Cond.instanceMethod y).before a0 Z = true) (w5 : (Jvm.Cond.initialized y.cls).before a0 Z = true) (w6 : (Jvm.Cond.code y bs' mx' rt').before a0 Z = true) (hy : y.cls ≠ "java/lang/invoke/MethodHandle" ∧ y.cls ≠ "java/lang/invoke/VarHandle")
    (E : Exa Z h a y.cls) (C : Con (kL K) y bs' mx' rt' [] rm Z n0 #[.ref a, x0, x1] h (qI P)) (pd : parseMethodDescriptor y.desc = some ⟨ps, r⟩) (hlen : 2 = ps.length) (hsz : Ls.length = mx)
    (hr : (Nat.ble (rm.frames + 1) R.frames && Nat.ble (W + (mx' + 11) + rm.locals) R.locals && Nat.ble (rest.map fun v => v.category).sum W && Nat.ble (cells + rm.cells) R.cells && Nat.ble (slots + rm.slots) R.slots) = true)
    (G : ∀ z h', P z h' → h.size ≤ h'.size → Go K R n0 B Q h' (cells + rm.cells) (slots + rm.slots) (pc + 3) Ls (.int z :: rest)) : Go K R n0 B Q h cells slots pc Ls (x1 :: x0 :: .ref a :: rest) :=
  g_private (argsL := [x0, x1]) hK W C E w1 w2 w3 w4 w5 w6 hy pd hlen hd hsz hr (fun v h' q gr => by obtain ⟨z, rfl, p⟩ := q; exact G z h' p gr)
theorem g_private_2V (hK : Cx K Z own bs mx rt nm) {y : MethodName} {bs' : ByteArray} {mx' i : Nat} {rt' : Option FieldType} {rm : Room} {a : Addr} {x0 x1 : Value} {P : Heap → Prop} {ps : List FieldType} {r : Option FieldType} (W : Nat) (hd : decode bs pc = .ok (.invokevirtual i, 3)) (w1 : (Jvm.Cond.methodLink own i y).before a0 Z = true) (w2 : (Jvm.Cond.privateMethod y).before a0 Z = true) (w3 : (Jvm.Cond.selects y.cls y y).before a0 Z = true) (w4 : (Jvm.Cond.instanceMethod y).before a0 Z = true) (w5 : (Jvm.Cond.initialized y.cls).before a0 Z = true) (w6 : (Jvm.Cond.code y bs' mx' rt').before a0 Z = true) (hy : y.cls ≠ "java/lang/invoke/MethodHandle" ∧ y.cls ≠ "java/lang/invoke/VarHandle")
    (E : Exa Z h a y.cls) (C : Con (kL K) y bs' mx' rt' [] rm Z n0 #[.ref a, x0, x1] h (qV P)) (pd : parseMethodDescriptor y.desc = some ⟨ps, r⟩) (hlen : 2 = ps.length) (hsz : Ls.length = mx)
    (hr : (Nat.ble (rm.frames + 1) R.frames && Nat.ble (W + (mx' + 11) + rm.locals) R.locals && Nat.ble (rest.map fun v => v.category).sum W && Nat.ble (cells + rm.cells) R.cells && Nat.ble (slots + rm.slots) R.slots) = true)
    (G : ∀ h', P h' → h.size ≤ h'.size → Go K R n0 B Q h' (cells + rm.cells) (slots + rm.slots) (pc + 3) Ls rest) : Go K R n0 B Q h cells slots pc Ls (x1 :: x0 :: .ref a :: rest) :=
  g_private (argsL := [x0, x1]) hK W C E w1 w2 w3 w4 w5 w6 hy pd hlen hd hsz hr (fun v h' q gr => by obtain ⟨rfl, p⟩ := q; exact G h' p gr)
end
theorem d1_0 : decode prog_139_method_1_code 0 = .ok (.aload_n 0, 1) := by decide +kernel
theorem d1_1 : decode prog_139_method_1_code 1 = .ok (.invokespecial 1, 3) := by decide +kernel
theorem d1_4 : decode prog_139_method_1_code 4 = .ok (.ldc 7, 2) := by decide +kernel
theorem d1_6 : decode prog_139_method_1_code 6 = .ok (.iload_n 1, 1) := by decide +kernel
theorem d1_7 : decode prog_139_method_1_code 7 = .ok (.iconst 1, 1) := by decide +kernel
theorem d1_8 : decode prog_139_method_1_code 8 = .ok (.ldc 11, 2) := by decide +kernel
theorem d1_10 : decode prog_139_method_1_code 10 = .ok (.invokestatic 12, 3) := by decide +kernel
theorem d1_13 : decode prog_139_method_1_code 13 = .ok (.ldc 16, 2) := by decide +kernel
theorem d1_15 : decode prog_139_method_1_code 15 = .ok (.iload_n 2, 1) := by decide +kernel
theorem d1_16 : decode prog_139_method_1_code 16 = .ok (.iconst 1, 1) := by decide +kernel
theorem d1_17 : decode prog_139_method_1_code 17 = .ok (.ldc 18, 2) := by decide +kernel
theorem d1_19 : decode prog_139_method_1_code 19 = .ok (.invokestatic 12, 3) := by decide +kernel
theorem d1_22 : decode prog_139_method_1_code 22 = .ok (.ldc 19, 2) := by decide +kernel
theorem d1_24 : decode prog_139_method_1_code 24 = .ok (.iload_n 3, 1) := by decide +kernel
theorem d1_25 : decode prog_139_method_1_code 25 = .ok (.iconst 1, 1) := by decide +kernel
theorem d1_26 : decode prog_139_method_1_code 26 = .ok (.sipush 16384, 3) := by decide +kernel
theorem d1_29 : decode prog_139_method_1_code 29 = .ok (.invokestatic 12, 3) := by decide +kernel
theorem d1_32 : decode prog_139_method_1_code 32 = .ok (.ldc 21, 2) := by decide +kernel
theorem d1_34 : decode prog_139_method_1_code 34 = .ok (.iload 4, 2) := by decide +kernel
theorem d1_36 : decode prog_139_method_1_code 36 = .ok (.iconst 1, 1) := by decide +kernel
theorem d1_37 : decode prog_139_method_1_code 37 = .ok (.sipush 16384, 3) := by decide +kernel
theorem d1_40 : decode prog_139_method_1_code 40 = .ok (.invokestatic 12, 3) := by decide +kernel
theorem d1_43 : decode prog_139_method_1_code 43 = .ok (.ldc 23, 2) := by decide +kernel
theorem d1_45 : decode prog_139_method_1_code 45 = .ok (.iload 5, 2) := by decide +kernel
theorem d1_47 : decode prog_139_method_1_code 47 = .ok (.iconst 1, 1) := by decide +kernel
theorem d1_48 : decode prog_139_method_1_code 48 = .ok (.ldc 11, 2) := by decide +kernel
theorem d1_50 : decode prog_139_method_1_code 50 = .ok (.invokestatic 12, 3) := by decide +kernel
theorem d1_53 : decode prog_139_method_1_code 53 = .ok (.ldc 25, 2) := by decide +kernel
theorem d1_55 : decode prog_139_method_1_code 55 = .ok (.iload_n 3, 1) := by decide +kernel
theorem d1_56 : decode prog_139_method_1_code 56 = .ok (.iload 4, 2) := by decide +kernel
theorem d1_58 : decode prog_139_method_1_code 58 = .ok (.iadd, 1) := by decide +kernel
theorem d1_59 : decode prog_139_method_1_code 59 = .ok (.iconst 2, 1) := by decide +kernel
theorem d1_60 : decode prog_139_method_1_code 60 = .ok (.sipush 16384, 3) := by decide +kernel
theorem d1_63 : decode prog_139_method_1_code 63 = .ok (.invokestatic 12, 3) := by decide +kernel
theorem d1_66 : decode prog_139_method_1_code 66 = .ok (.ldc2_w 27, 3) := by decide +kernel
theorem d1_69 : decode prog_139_method_1_code 69 = .ok (.iload_n 1, 1) := by decide +kernel
theorem d1_70 : decode prog_139_method_1_code 70 = .ok (.iload_n 3, 1) := by decide +kernel
theorem d1_71 : decode prog_139_method_1_code 71 = .ok (.invokestatic 29, 3) := by decide +kernel
theorem d1_74 : decode prog_139_method_1_code 74 = .ok (.i2l, 1) := by decide +kernel
theorem d1_75 : decode prog_139_method_1_code 75 = .ok (.lmul, 1) := by decide +kernel
theorem d1_76 : decode prog_139_method_1_code 76 = .ok (.lconst 1, 1) := by decide +kernel
theorem d1_77 : decode prog_139_method_1_code 77 = .ok (.lsub, 1) := by decide +kernel
theorem d1_78 : decode prog_139_method_1_code 78 = .ok (.iload_n 3, 1) := by decide +kernel
theorem d1_79 : decode prog_139_method_1_code 79 = .ok (.iload 4, 2) := by decide +kernel
theorem d1_81 : decode prog_139_method_1_code 81 = .ok (.iadd, 1) := by decide +kernel
theorem d1_82 : decode prog_139_method_1_code 82 = .ok (.i2l, 1) := by decide +kernel
theorem d1_83 : decode prog_139_method_1_code 83 = .ok (.lmul, 1) := by decide +kernel
theorem d1_84 : decode prog_139_method_1_code 84 = .ok (.ldc2_w 33, 3) := by decide +kernel
theorem d1_87 : decode prog_139_method_1_code 87 = .ok (.lcmp, 1) := by decide +kernel
theorem d1_88 : decode prog_139_method_1_code 88 = .ok (.ifCond .le 13, 3) := by decide +kernel
theorem d1_101 : decode prog_139_method_1_code 101 = .ok (.iload_n 1, 1) := by decide +kernel
theorem d1_102 : decode prog_139_method_1_code 102 = .ok (.iload 5, 2) := by decide +kernel
theorem d1_104 : decode prog_139_method_1_code 104 = .ok (.invokestatic 42, 3) := by decide +kernel
theorem d1_107 : decode prog_139_method_1_code 107 = .ok (.iconst 5, 1) := by decide +kernel
theorem d1_108 : decode prog_139_method_1_code 108 = .ok (.iload_n 2, 1) := by decide +kernel
theorem d1_109 : decode prog_139_method_1_code 109 = .ok (.iadd, 1) := by decide +kernel
theorem d1_110 : decode prog_139_method_1_code 110 = .ok (.i2l, 1) := by decide +kernel
theorem d1_111 : decode prog_139_method_1_code 111 = .ok (.lmul, 1) := by decide +kernel
theorem d1_112 : decode prog_139_method_1_code 112 = .ok (.ldc2_w 46, 3) := by decide +kernel
theorem d1_115 : decode prog_139_method_1_code 115 = .ok (.lcmp, 1) := by decide +kernel
theorem d1_116 : decode prog_139_method_1_code 116 = .ok (.ifCond .le 13, 3) := by decide +kernel
theorem d1_129 : decode prog_139_method_1_code 129 = .ok (.aload_n 0, 1) := by decide +kernel
theorem d1_130 : decode prog_139_method_1_code 130 = .ok (.iload_n 1, 1) := by decide +kernel
theorem d1_131 : decode prog_139_method_1_code 131 = .ok (.putfield 50, 3) := by decide +kernel
theorem d1_134 : decode prog_139_method_1_code 134 = .ok (.aload_n 0, 1) := by decide +kernel
theorem d1_135 : decode prog_139_method_1_code 135 = .ok (.iload_n 2, 1) := by decide +kernel
theorem d1_136 : decode prog_139_method_1_code 136 = .ok (.putfield 53, 3) := by decide +kernel
theorem d1_139 : decode prog_139_method_1_code 139 = .ok (.aload_n 0, 1) := by decide +kernel
theorem d1_140 : decode prog_139_method_1_code 140 = .ok (.iload_n 3, 1) := by decide +kernel
theorem d1_141 : decode prog_139_method_1_code 141 = .ok (.putfield 56, 3) := by decide +kernel
theorem d1_144 : decode prog_139_method_1_code 144 = .ok (.aload_n 0, 1) := by decide +kernel
theorem d1_145 : decode prog_139_method_1_code 145 = .ok (.iload 4, 2) := by decide +kernel
theorem d1_147 : decode prog_139_method_1_code 147 = .ok (.putfield 58, 3) := by decide +kernel
theorem d1_150 : decode prog_139_method_1_code 150 = .ok (.aload_n 0, 1) := by decide +kernel
theorem d1_151 : decode prog_139_method_1_code 151 = .ok (.iload 5, 2) := by decide +kernel
theorem d1_153 : decode prog_139_method_1_code 153 = .ok (.putfield 60, 3) := by decide +kernel
theorem d1_156 : decode prog_139_method_1_code 156 = .ok (.return_, 1) := by decide +kernel
theorem d2_0 : decode jdk_30_method_1_code 0 = .ok (.aload_n 0, 1) := by decide +kernel
theorem d2_1 : decode jdk_30_method_1_code 1 = .ok (.invokespecial 1, 3) := by decide +kernel
theorem d2_4 : decode jdk_30_method_1_code 4 = .ok (.return_, 1) := by decide +kernel
theorem d4_0 : decode prog_139_method_21_code 0 = .ok (.iload_n 1, 1) := by decide +kernel
theorem d4_1 : decode prog_139_method_21_code 1 = .ok (.iload_n 2, 1) := by decide +kernel
theorem d4_2 : decode prog_139_method_21_code 2 = .ok (.if_icmp .lt 8, 3) := by decide +kernel
theorem d4_5 : decode prog_139_method_21_code 5 = .ok (.iload_n 1, 1) := by decide +kernel
theorem d4_6 : decode prog_139_method_21_code 6 = .ok (.iload_n 3, 1) := by decide +kernel
theorem d4_7 : decode prog_139_method_21_code 7 = .ok (.if_icmp .le 20, 3) := by decide +kernel
theorem d4_27 : decode prog_139_method_21_code 27 = .ok (.return_, 1) := by decide +kernel
theorem d5_0 : decode prog_139_method_3_code 0 = .ok (.iload_n 0, 1) := by decide +kernel
theorem d5_1 : decode prog_139_method_3_code 1 = .ok (.iload_n 1, 1) := by decide +kernel
theorem d5_2 : decode prog_139_method_3_code 2 = .ok (.iadd, 1) := by decide +kernel
theorem d5_3 : decode prog_139_method_3_code 3 = .ok (.iconst 1, 1) := by decide +kernel
theorem d5_4 : decode prog_139_method_3_code 4 = .ok (.isub, 1) := by decide +kernel
theorem d5_5 : decode prog_139_method_3_code 5 = .ok (.iload_n 1, 1) := by decide +kernel
theorem d5_6 : decode prog_139_method_3_code 6 = .ok (.idiv, 1) := by decide +kernel
theorem d5_7 : decode prog_139_method_3_code 7 = .ok (.istore_n 2, 1) := by decide +kernel
theorem d5_8 : decode prog_139_method_3_code 8 = .ok (.iload_n 2, 1) := by decide +kernel
theorem d5_9 : decode prog_139_method_3_code 9 = .ok (.iconst 1, 1) := by decide +kernel
theorem d5_10 : decode prog_139_method_3_code 10 = .ok (.if_icmp .ne 7, 3) := by decide +kernel
theorem d5_17 : decode prog_139_method_3_code 17 = .ok (.iload_n 2, 1) := by decide +kernel
theorem d5_18 : decode prog_139_method_3_code 18 = .ok (.iconst 1, 1) := by decide +kernel
theorem d5_19 : decode prog_139_method_3_code 19 = .ok (.isub, 1) := by decide +kernel
theorem d5_20 : decode prog_139_method_3_code 20 = .ok (.invokestatic 62, 3) := by decide +kernel
theorem d5_23 : decode prog_139_method_3_code 23 = .ok (.iconst 1, 1) := by decide +kernel
theorem d5_24 : decode prog_139_method_3_code 24 = .ok (.ishl, 1) := by decide +kernel
theorem d5_25 : decode prog_139_method_3_code 25 = .ok (.ireturn, 1) := by decide +kernel
theorem d6_0 : decode jdk_33_method_45_code 0 = .ok (.iload_n 0, 1) := by decide +kernel
theorem d6_1 : decode jdk_33_method_45_code 1 = .ok (.ldc 127, 2) := by decide +kernel
theorem d6_3 : decode jdk_33_method_45_code 3 = .ok (.iload_n 0, 1) := by decide +kernel
theorem d6_4 : decode jdk_33_method_45_code 4 = .ok (.invokestatic 51, 3) := by decide +kernel
theorem d6_7 : decode jdk_33_method_45_code 7 = .ok (.iushr, 1) := by decide +kernel
theorem d6_8 : decode jdk_33_method_45_code 8 = .ok (.iand, 1) := by decide +kernel
theorem d6_9 : decode jdk_33_method_45_code 9 = .ok (.ireturn, 1) := by decide +kernel
theorem d7_0 : decode jdk_33_method_47_code 0 = .ok (.iload_n 0, 1) := by decide +kernel
theorem d7_1 : decode jdk_33_method_47_code 1 = .ok (.ifCond .gt 14, 3) := by decide +kernel
theorem d7_15 : decode jdk_33_method_47_code 15 = .ok (.bipush 31, 2) := by decide +kernel
theorem d7_17 : decode jdk_33_method_47_code 17 = .ok (.istore_n 1, 1) := by decide +kernel
theorem d7_18 : decode jdk_33_method_47_code 18 = .ok (.iload_n 0, 1) := by decide +kernel
theorem d7_19 : decode jdk_33_method_47_code 19 = .ok (.ldc_w 264, 3) := by decide +kernel
theorem d7_22 : decode jdk_33_method_47_code 22 = .ok (.if_icmp .lt 11, 3) := by decide +kernel
theorem d7_33 : decode jdk_33_method_47_code 33 = .ok (.iload_n 0, 1) := by decide +kernel
theorem d7_34 : decode jdk_33_method_47_code 34 = .ok (.sipush 256, 3) := by decide +kernel
theorem d7_37 : decode jdk_33_method_47_code 37 = .ok (.if_icmp .lt 11, 3) := by decide +kernel
theorem d7_48 : decode jdk_33_method_47_code 48 = .ok (.iload_n 0, 1) := by decide +kernel
theorem d7_49 : decode jdk_33_method_47_code 49 = .ok (.bipush 16, 2) := by decide +kernel
theorem d7_51 : decode jdk_33_method_47_code 51 = .ok (.if_icmp .lt 10, 3) := by decide +kernel
theorem d7_61 : decode jdk_33_method_47_code 61 = .ok (.iload_n 0, 1) := by decide +kernel
theorem d7_62 : decode jdk_33_method_47_code 62 = .ok (.iconst 4, 1) := by decide +kernel
theorem d7_63 : decode jdk_33_method_47_code 63 = .ok (.if_icmp .lt 10, 3) := by decide +kernel
theorem d7_73 : decode jdk_33_method_47_code 73 = .ok (.iload_n 1, 1) := by decide +kernel
theorem d7_74 : decode jdk_33_method_47_code 74 = .ok (.iload_n 0, 1) := by decide +kernel
theorem d7_75 : decode jdk_33_method_47_code 75 = .ok (.iconst 1, 1) := by decide +kernel
theorem d7_76 : decode jdk_33_method_47_code 76 = .ok (.iushr, 1) := by decide +kernel
theorem d7_77 : decode jdk_33_method_47_code 77 = .ok (.isub, 1) := by decide +kernel
theorem d7_78 : decode jdk_33_method_47_code 78 = .ok (.ireturn, 1) := by decide +kernel
theorem d8_0 : decode prog_139_method_14_code 0 = .ok (.iload_n 0, 1) := by decide +kernel
theorem d8_1 : decode prog_139_method_14_code 1 = .ok (.i2l, 1) := by decide +kernel
theorem d8_2 : decode prog_139_method_14_code 2 = .ok (.iload_n 1, 1) := by decide +kernel
theorem d8_3 : decode prog_139_method_14_code 3 = .ok (.i2l, 1) := by decide +kernel
theorem d8_4 : decode prog_139_method_14_code 4 = .ok (.ldc2_w 93, 3) := by decide +kernel
theorem d8_7 : decode prog_139_method_14_code 7 = .ok (.ladd, 1) := by decide +kernel
theorem d8_8 : decode prog_139_method_14_code 8 = .ok (.invokestatic 95, 3) := by decide +kernel
theorem d8_11 : decode prog_139_method_14_code 11 = .ok (.lreturn, 1) := by decide +kernel
theorem d9_0 : decode jdk_29_method_70_code 0 = .ok (.lload_n 0, 1) := by decide +kernel
theorem d9_1 : decode jdk_29_method_70_code 1 = .ok (.lload_n 2, 1) := by decide +kernel
theorem d9_2 : decode jdk_29_method_70_code 2 = .ok (.lcmp, 1) := by decide +kernel
theorem d9_3 : decode jdk_29_method_70_code 3 = .ok (.ifCond .gt 7, 3) := by decide +kernel
theorem d9_6 : decode jdk_29_method_70_code 6 = .ok (.lload_n 0, 1) := by decide +kernel
theorem d9_7 : decode jdk_29_method_70_code 7 = .ok (.goto 4, 3) := by decide +kernel
theorem d9_10 : decode jdk_29_method_70_code 10 = .ok (.lload_n 2, 1) := by decide +kernel
theorem d9_11 : decode jdk_29_method_70_code 11 = .ok (.lreturn, 1) := by decide +kernel
theorem d10_0 : decode prog_103_method_1_code 0 = .ok (.aload_n 0, 1) := by decide +kernel
theorem d10_1 : decode prog_103_method_1_code 1 = .ok (.invokespecial 1, 3) := by decide +kernel
theorem d10_4 : decode prog_103_method_1_code 4 = .ok (.aload_n 0, 1) := by decide +kernel
theorem d10_5 : decode prog_103_method_1_code 5 = .ok (.iconst 0, 1) := by decide +kernel
theorem d10_6 : decode prog_103_method_1_code 6 = .ok (.newarray .int, 2) := by decide +kernel
theorem d10_8 : decode prog_103_method_1_code 8 = .ok (.putfield 7, 3) := by decide +kernel
theorem d10_11 : decode prog_103_method_1_code 11 = .ok (.aload_n 0, 1) := by decide +kernel
theorem d10_12 : decode prog_103_method_1_code 12 = .ok (.new 13, 3) := by decide +kernel
theorem d10_15 : decode prog_103_method_1_code 15 = .ok (.dup, 1) := by decide +kernel
theorem d10_16 : decode prog_103_method_1_code 16 = .ok (.invokespecial 15, 3) := by decide +kernel
theorem d10_19 : decode prog_103_method_1_code 19 = .ok (.putfield 16, 3) := by decide +kernel
theorem d10_22 : decode prog_103_method_1_code 22 = .ok (.aload_n 0, 1) := by decide +kernel
theorem d10_23 : decode prog_103_method_1_code 23 = .ok (.new 13, 3) := by decide +kernel
theorem d10_26 : decode prog_103_method_1_code 26 = .ok (.dup, 1) := by decide +kernel
theorem d10_27 : decode prog_103_method_1_code 27 = .ok (.invokespecial 15, 3) := by decide +kernel
theorem d10_30 : decode prog_103_method_1_code 30 = .ok (.putfield 20, 3) := by decide +kernel
theorem d10_33 : decode prog_103_method_1_code 33 = .ok (.aload_n 0, 1) := by decide +kernel
theorem d10_34 : decode prog_103_method_1_code 34 = .ok (.aload_n 1, 1) := by decide +kernel
theorem d10_35 : decode prog_103_method_1_code 35 = .ok (.putfield 23, 3) := by decide +kernel
theorem d10_38 : decode prog_103_method_1_code 38 = .ok (.aload_n 0, 1) := by decide +kernel
theorem d10_39 : decode prog_103_method_1_code 39 = .ok (.aload_n 1, 1) := by decide +kernel
theorem d10_40 : decode prog_103_method_1_code 40 = .ok (.invokevirtual 27, 3) := by decide +kernel
theorem d10_43 : decode prog_103_method_1_code 43 = .ok (.aload_n 1, 1) := by decide +kernel
theorem d10_44 : decode prog_103_method_1_code 44 = .ok (.invokevirtual 33, 3) := by decide +kernel
theorem d10_47 : decode prog_103_method_1_code 47 = .ok (.imul, 1) := by decide +kernel
theorem d10_48 : decode prog_103_method_1_code 48 = .ok (.newarray .int, 2) := by decide +kernel
theorem d10_50 : decode prog_103_method_1_code 50 = .ok (.putfield 36, 3) := by decide +kernel
theorem d10_53 : decode prog_103_method_1_code 53 = .ok (.aload_n 0, 1) := by decide +kernel
theorem d10_54 : decode prog_103_method_1_code 54 = .ok (.aload_n 0, 1) := by decide +kernel
theorem d10_55 : decode prog_103_method_1_code 55 = .ok (.getfield 36, 3) := by decide +kernel
theorem d10_58 : decode prog_103_method_1_code 58 = .ok (.arraylength, 1) := by decide +kernel
theorem d10_59 : decode prog_103_method_1_code 59 = .ok (.newarray .int, 2) := by decide +kernel
theorem d10_61 : decode prog_103_method_1_code 61 = .ok (.putfield 39, 3) := by decide +kernel
theorem d10_64 : decode prog_103_method_1_code 64 = .ok (.aload_n 0, 1) := by decide +kernel
theorem d10_65 : decode prog_103_method_1_code 65 = .ok (.aload_n 0, 1) := by decide +kernel
theorem d10_66 : decode prog_103_method_1_code 66 = .ok (.getfield 36, 3) := by decide +kernel
theorem d10_69 : decode prog_103_method_1_code 69 = .ok (.arraylength, 1) := by decide +kernel
theorem d10_70 : decode prog_103_method_1_code 70 = .ok (.bipush 64, 2) := by decide +kernel
theorem d10_72 : decode prog_103_method_1_code 72 = .ok (.iadd, 1) := by decide +kernel
theorem d10_73 : decode prog_103_method_1_code 73 = .ok (.iconst 1, 1) := by decide +kernel
theorem d10_74 : decode prog_103_method_1_code 74 = .ok (.isub, 1) := by decide +kernel
theorem d10_75 : decode prog_103_method_1_code 75 = .ok (.bipush 64, 2) := by decide +kernel
theorem d10_77 : decode prog_103_method_1_code 77 = .ok (.idiv, 1) := by decide +kernel
theorem d10_78 : decode prog_103_method_1_code 78 = .ok (.newarray .long, 2) := by decide +kernel
theorem d10_80 : decode prog_103_method_1_code 80 = .ok (.putfield 44, 3) := by decide +kernel
theorem d10_83 : decode prog_103_method_1_code 83 = .ok (.aload_n 0, 1) := by decide +kernel
theorem d10_84 : decode prog_103_method_1_code 84 = .ok (.aload_n 1, 1) := by decide +kernel
theorem d10_85 : decode prog_103_method_1_code 85 = .ok (.invokevirtual 48, 3) := by decide +kernel
theorem d10_88 : decode prog_103_method_1_code 88 = .ok (.newarray .int, 2) := by decide +kernel
theorem d10_90 : decode prog_103_method_1_code 90 = .ok (.putfield 51, 3) := by decide +kernel
theorem d10_93 : decode prog_103_method_1_code 93 = .ok (.aload_n 0, 1) := by decide +kernel
theorem d10_94 : decode prog_103_method_1_code 94 = .ok (.aload_n 1, 1) := by decide +kernel
theorem d10_95 : decode prog_103_method_1_code 95 = .ok (.invokevirtual 54, 3) := by decide +kernel
theorem d10_98 : decode prog_103_method_1_code 98 = .ok (.bipush 64, 2) := by decide +kernel
theorem d10_100 : decode prog_103_method_1_code 100 = .ok (.iadd, 1) := by decide +kernel
theorem d10_101 : decode prog_103_method_1_code 101 = .ok (.iconst 1, 1) := by decide +kernel
theorem d10_102 : decode prog_103_method_1_code 102 = .ok (.isub, 1) := by decide +kernel
theorem d10_103 : decode prog_103_method_1_code 103 = .ok (.bipush 64, 2) := by decide +kernel
theorem d10_105 : decode prog_103_method_1_code 105 = .ok (.idiv, 1) := by decide +kernel
theorem d10_106 : decode prog_103_method_1_code 106 = .ok (.putfield 57, 3) := by decide +kernel
theorem d10_109 : decode prog_103_method_1_code 109 = .ok (.aload_n 0, 1) := by decide +kernel
theorem d10_110 : decode prog_103_method_1_code 110 = .ok (.aload_n 1, 1) := by decide +kernel
theorem d10_111 : decode prog_103_method_1_code 111 = .ok (.invokevirtual 27, 3) := by decide +kernel
theorem d10_114 : decode prog_103_method_1_code 114 = .ok (.aload_n 0, 1) := by decide +kernel
theorem d10_115 : decode prog_103_method_1_code 115 = .ok (.getfield 57, 3) := by decide +kernel
theorem d10_118 : decode prog_103_method_1_code 118 = .ok (.imul, 1) := by decide +kernel
theorem d10_119 : decode prog_103_method_1_code 119 = .ok (.newarray .long, 2) := by decide +kernel
theorem d10_121 : decode prog_103_method_1_code 121 = .ok (.putfield 61, 3) := by decide +kernel
theorem d10_124 : decode prog_103_method_1_code 124 = .ok (.aload_n 0, 1) := by decide +kernel
theorem d10_125 : decode prog_103_method_1_code 125 = .ok (.aload_n 1, 1) := by decide +kernel
theorem d10_126 : decode prog_103_method_1_code 126 = .ok (.invokevirtual 27, 3) := by decide +kernel
theorem d10_129 : decode prog_103_method_1_code 129 = .ok (.aload_n 0, 1) := by decide +kernel
theorem d10_130 : decode prog_103_method_1_code 130 = .ok (.getfield 57, 3) := by decide +kernel
theorem d10_133 : decode prog_103_method_1_code 133 = .ok (.imul, 1) := by decide +kernel
theorem d10_134 : decode prog_103_method_1_code 134 = .ok (.newarray .long, 2) := by decide +kernel
theorem d10_136 : decode prog_103_method_1_code 136 = .ok (.putfield 64, 3) := by decide +kernel
theorem d10_139 : decode prog_103_method_1_code 139 = .ok (.aload_n 0, 1) := by decide +kernel
theorem d10_140 : decode prog_103_method_1_code 140 = .ok (.aload_n 1, 1) := by decide +kernel
theorem d10_141 : decode prog_103_method_1_code 141 = .ok (.invokevirtual 27, 3) := by decide +kernel
theorem d10_144 : decode prog_103_method_1_code 144 = .ok (.newarray .int, 2) := by decide +kernel
theorem d10_146 : decode prog_103_method_1_code 146 = .ok (.putfield 67, 3) := by decide +kernel
theorem d10_149 : decode prog_103_method_1_code 149 = .ok (.aload_n 0, 1) := by decide +kernel
theorem d10_150 : decode prog_103_method_1_code 150 = .ok (.aload_n 1, 1) := by decide +kernel
theorem d10_151 : decode prog_103_method_1_code 151 = .ok (.invokevirtual 27, 3) := by decide +kernel
theorem d10_154 : decode prog_103_method_1_code 154 = .ok (.newarray .long, 2) := by decide +kernel
theorem d10_156 : decode prog_103_method_1_code 156 = .ok (.putfield 70, 3) := by decide +kernel
theorem d10_159 : decode prog_103_method_1_code 159 = .ok (.aload_n 0, 1) := by decide +kernel
theorem d10_160 : decode prog_103_method_1_code 160 = .ok (.aload_n 1, 1) := by decide +kernel
theorem d10_161 : decode prog_103_method_1_code 161 = .ok (.invokevirtual 27, 3) := by decide +kernel
theorem d10_164 : decode prog_103_method_1_code 164 = .ok (.newarray .long, 2) := by decide +kernel
theorem d10_166 : decode prog_103_method_1_code 166 = .ok (.putfield 73, 3) := by decide +kernel
theorem d10_169 : decode prog_103_method_1_code 169 = .ok (.aload_n 0, 1) := by decide +kernel
theorem d10_170 : decode prog_103_method_1_code 170 = .ok (.getfield 36, 3) := by decide +kernel
theorem d10_173 : decode prog_103_method_1_code 173 = .ok (.iconst (-1), 1) := by decide +kernel
theorem d10_174 : decode prog_103_method_1_code 174 = .ok (.invokestatic 76, 3) := by decide +kernel
theorem d10_177 : decode prog_103_method_1_code 177 = .ok (.aload_n 0, 1) := by decide +kernel
theorem d10_178 : decode prog_103_method_1_code 178 = .ok (.getfield 39, 3) := by decide +kernel
theorem d10_181 : decode prog_103_method_1_code 181 = .ok (.iconst (-1), 1) := by decide +kernel
theorem d10_182 : decode prog_103_method_1_code 182 = .ok (.invokestatic 76, 3) := by decide +kernel
theorem d10_185 : decode prog_103_method_1_code 185 = .ok (.aload_n 0, 1) := by decide +kernel
theorem d10_186 : decode prog_103_method_1_code 186 = .ok (.getfield 51, 3) := by decide +kernel
theorem d10_189 : decode prog_103_method_1_code 189 = .ok (.iconst (-1), 1) := by decide +kernel
theorem d10_190 : decode prog_103_method_1_code 190 = .ok (.invokestatic 76, 3) := by decide +kernel
theorem d10_193 : decode prog_103_method_1_code 193 = .ok (.aload_n 0, 1) := by decide +kernel
theorem d10_194 : decode prog_103_method_1_code 194 = .ok (.iconst 1, 1) := by decide +kernel
theorem d10_195 : decode prog_103_method_1_code 195 = .ok (.putfield 82, 3) := by decide +kernel
theorem d10_198 : decode prog_103_method_1_code 198 = .ok (.return_, 1) := by decide +kernel
theorem d11_0 : decode jdk_92_method_4_code 0 = .ok (.aload_n 0, 1) := by decide +kernel
theorem d11_1 : decode jdk_92_method_4_code 1 = .ok (.invokespecial 21, 3) := by decide +kernel
theorem d11_4 : decode jdk_92_method_4_code 4 = .ok (.aload_n 0, 1) := by decide +kernel
theorem d11_5 : decode jdk_92_method_4_code 5 = .ok (.iconst 0, 1) := by decide +kernel
theorem d11_6 : decode jdk_92_method_4_code 6 = .ok (.putfield 7, 3) := by decide +kernel
theorem d11_9 : decode jdk_92_method_4_code 9 = .ok (.aload_n 0, 1) := by decide +kernel
theorem d11_10 : decode jdk_92_method_4_code 10 = .ok (.iconst 0, 1) := by decide +kernel
theorem d11_11 : decode jdk_92_method_4_code 11 = .ok (.putfield 24, 3) := by decide +kernel
theorem d11_14 : decode jdk_92_method_4_code 14 = .ok (.aload_n 0, 1) := by decide +kernel
theorem d11_15 : decode jdk_92_method_4_code 15 = .ok (.bipush 64, 2) := by decide +kernel
theorem d11_17 : decode jdk_92_method_4_code 17 = .ok (.invokevirtual 27, 3) := by decide +kernel
theorem d11_20 : decode jdk_92_method_4_code 20 = .ok (.aload_n 0, 1) := by decide +kernel
theorem d11_21 : decode jdk_92_method_4_code 21 = .ok (.iconst 0, 1) := by decide +kernel
theorem d11_22 : decode jdk_92_method_4_code 22 = .ok (.putfield 24, 3) := by decide +kernel
theorem d11_25 : decode jdk_92_method_4_code 25 = .ok (.return_, 1) := by decide +kernel
theorem d12_0 : decode jdk_92_method_6_code 0 = .ok (.aload_n 0, 1) := by decide +kernel
theorem d12_1 : decode jdk_92_method_6_code 1 = .ok (.iload_n 1, 1) := by decide +kernel
theorem d12_2 : decode jdk_92_method_6_code 2 = .ok (.iconst 1, 1) := by decide +kernel
theorem d12_3 : decode jdk_92_method_6_code 3 = .ok (.isub, 1) := by decide +kernel
theorem d12_4 : decode jdk_92_method_6_code 4 = .ok (.invokestatic 52, 3) := by decide +kernel
theorem d12_7 : decode jdk_92_method_6_code 7 = .ok (.iconst 1, 1) := by decide +kernel
theorem d12_8 : decode jdk_92_method_6_code 8 = .ok (.iadd, 1) := by decide +kernel
theorem d12_9 : decode jdk_92_method_6_code 9 = .ok (.newarray .long, 2) := by decide +kernel
theorem d12_11 : decode jdk_92_method_6_code 11 = .ok (.putfield 11, 3) := by decide +kernel
theorem d12_14 : decode jdk_92_method_6_code 14 = .ok (.return_, 1) := by decide +kernel
theorem d13_0 : decode jdk_92_method_1_code 0 = .ok (.iload_n 0, 1) := by decide +kernel
theorem d13_1 : decode jdk_92_method_1_code 1 = .ok (.bipush 6, 2) := by decide +kernel
theorem d13_3 : decode jdk_92_method_1_code 3 = .ok (.ishr, 1) := by decide +kernel
theorem d13_4 : decode jdk_92_method_1_code 4 = .ok (.ireturn, 1) := by decide +kernel
theorem d14_0 : decode prog_139_method_5_code 0 = .ok (.iconst 2, 1) := by decide +kernel
theorem d14_1 : decode prog_139_method_5_code 1 = .ok (.aload_n 0, 1) := by decide +kernel
theorem d14_2 : decode prog_139_method_5_code 2 = .ok (.invokevirtual 68, 3) := by decide +kernel
theorem d14_5 : decode prog_139_method_5_code 5 = .ok (.imul, 1) := by decide +kernel
theorem d14_6 : decode prog_139_method_5_code 6 = .ok (.iconst 1, 1) := by decide +kernel
theorem d14_7 : decode prog_139_method_5_code 7 = .ok (.isub, 1) := by decide +kernel
theorem d14_8 : decode prog_139_method_5_code 8 = .ok (.ireturn, 1) := by decide +kernel
theorem d15_0 : decode prog_139_method_2_code 0 = .ok (.aload_n 0, 1) := by decide +kernel
theorem d15_1 : decode prog_139_method_2_code 1 = .ok (.getfield 50, 3) := by decide +kernel
theorem d15_4 : decode prog_139_method_2_code 4 = .ok (.aload_n 0, 1) := by decide +kernel
theorem d15_5 : decode prog_139_method_2_code 5 = .ok (.getfield 56, 3) := by decide +kernel
theorem d15_8 : decode prog_139_method_2_code 8 = .ok (.invokestatic 29, 3) := by decide +kernel
theorem d15_11 : decode prog_139_method_2_code 11 = .ok (.ireturn, 1) := by decide +kernel
theorem d16_0 : decode prog_139_method_27_code 0 = .ok (.aload_n 0, 1) := by decide +kernel
theorem d16_1 : decode prog_139_method_27_code 1 = .ok (.getfield 56, 3) := by decide +kernel
theorem d16_4 : decode prog_139_method_27_code 4 = .ok (.ireturn, 1) := by decide +kernel
theorem d17_0 : decode prog_139_method_25_code 0 = .ok (.aload_n 0, 1) := by decide +kernel
theorem d17_1 : decode prog_139_method_25_code 1 = .ok (.getfield 50, 3) := by decide +kernel
theorem d17_4 : decode prog_139_method_25_code 4 = .ok (.ireturn, 1) := by decide +kernel
theorem d18_0 : decode prog_139_method_6_code 0 = .ok (.aload_n 0, 1) := by decide +kernel
theorem d18_1 : decode prog_139_method_6_code 1 = .ok (.getfield 56, 3) := by decide +kernel
theorem d18_4 : decode prog_139_method_6_code 4 = .ok (.aload_n 0, 1) := by decide +kernel
theorem d18_5 : decode prog_139_method_6_code 5 = .ok (.getfield 58, 3) := by decide +kernel
theorem d18_8 : decode prog_139_method_6_code 8 = .ok (.iadd, 1) := by decide +kernel
theorem d18_9 : decode prog_139_method_6_code 9 = .ok (.ireturn, 1) := by decide +kernel
theorem d19_0 : decode jdk_65_method_103_code 0 = .ok (.iconst 0, 1) := by decide +kernel
theorem d19_1 : decode jdk_65_method_103_code 1 = .ok (.istore_n 2, 1) := by decide +kernel
theorem d19_2 : decode jdk_65_method_103_code 2 = .ok (.aload_n 0, 1) := by decide +kernel
theorem d19_3 : decode jdk_65_method_103_code 3 = .ok (.arraylength, 1) := by decide +kernel
theorem d19_4 : decode jdk_65_method_103_code 4 = .ok (.istore_n 3, 1) := by decide +kernel
theorem d19_5 : decode jdk_65_method_103_code 5 = .ok (.iload_n 2, 1) := by decide +kernel
theorem d19_6 : decode jdk_65_method_103_code 6 = .ok (.iload_n 3, 1) := by decide +kernel
theorem d19_7 : decode jdk_65_method_103_code 7 = .ok (.if_icmp .ge 13, 3) := by decide +kernel
theorem d19_10 : decode jdk_65_method_103_code 10 = .ok (.aload_n 0, 1) := by decide +kernel
theorem d19_11 : decode jdk_65_method_103_code 11 = .ok (.iload_n 2, 1) := by decide +kernel
theorem d19_12 : decode jdk_65_method_103_code 12 = .ok (.iload_n 1, 1) := by decide +kernel
theorem d19_13 : decode jdk_65_method_103_code 13 = .ok (.iastore, 1) := by decide +kernel
theorem d19_14 : decode jdk_65_method_103_code 14 = .ok (.iinc 2 1, 3) := by decide +kernel
theorem d19_17 : decode jdk_65_method_103_code 17 = .ok (.goto (-12), 3) := by decide +kernel
theorem d19_20 : decode jdk_65_method_103_code 20 = .ok (.return_, 1) := by decide +kernel
theorem d20_0 : decode prog_103_method_9_code 0 = .ok (.aload_n 0, 1) := by decide +kernel
theorem d20_1 : decode prog_103_method_9_code 1 = .ok (.getfield 61, 3) := by decide +kernel
theorem d20_4 : decode prog_103_method_9_code 4 = .ok (.iload_n 1, 1) := by decide +kernel
theorem d20_5 : decode prog_103_method_9_code 5 = .ok (.aload_n 0, 1) := by decide +kernel
theorem d20_6 : decode prog_103_method_9_code 6 = .ok (.getfield 57, 3) := by decide +kernel
theorem d20_9 : decode prog_103_method_9_code 9 = .ok (.imul, 1) := by decide +kernel
theorem d20_10 : decode prog_103_method_9_code 10 = .ok (.iload_n 2, 1) := by decide +kernel
theorem d20_11 : decode prog_103_method_9_code 11 = .ok (.bipush 64, 2) := by decide +kernel
theorem d20_13 : decode prog_103_method_9_code 13 = .ok (.idiv, 1) := by decide +kernel
theorem d20_14 : decode prog_103_method_9_code 14 = .ok (.iadd, 1) := by decide +kernel
theorem d20_15 : decode prog_103_method_9_code 15 = .ok (.laload, 1) := by decide +kernel
theorem d20_16 : decode prog_103_method_9_code 16 = .ok (.lconst 1, 1) := by decide +kernel
theorem d20_17 : decode prog_103_method_9_code 17 = .ok (.iload_n 2, 1) := by decide +kernel
theorem d20_18 : decode prog_103_method_9_code 18 = .ok (.lshl, 1) := by decide +kernel
theorem d20_19 : decode prog_103_method_9_code 19 = .ok (.land, 1) := by decide +kernel
theorem d20_20 : decode prog_103_method_9_code 20 = .ok (.lconst 0, 1) := by decide +kernel
theorem d20_21 : decode prog_103_method_9_code 21 = .ok (.lcmp, 1) := by decide +kernel
theorem d20_22 : decode prog_103_method_9_code 22 = .ok (.ifCond .eq 7, 3) := by decide +kernel
theorem d20_25 : decode prog_103_method_9_code 25 = .ok (.iconst 1, 1) := by decide +kernel
theorem d20_26 : decode prog_103_method_9_code 26 = .ok (.goto 4, 3) := by decide +kernel
theorem d20_29 : decode prog_103_method_9_code 29 = .ok (.iconst 0, 1) := by decide +kernel
theorem d20_30 : decode prog_103_method_9_code 30 = .ok (.ireturn, 1) := by decide +kernel
theorem d21_0 : decode prog_103_method_7_code 0 = .ok (.aload_n 0, 1) := by decide +kernel
theorem d21_1 : decode prog_103_method_7_code 1 = .ok (.getfield 131, 3) := by decide +kernel
theorem d21_4 : decode prog_103_method_7_code 4 = .ok (.aload_n 0, 1) := by decide +kernel
theorem d21_5 : decode prog_103_method_7_code 5 = .ok (.getfield 7, 3) := by decide +kernel
theorem d21_8 : decode prog_103_method_7_code 8 = .ok (.arraylength, 1) := by decide +kernel
theorem d21_9 : decode prog_103_method_7_code 9 = .ok (.if_icmp .ne 26, 3) := by decide +kernel
theorem d21_12 : decode prog_103_method_7_code 12 = .ok (.aload_n 0, 1) := by decide +kernel
theorem d21_13 : decode prog_103_method_7_code 13 = .ok (.aload_n 0, 1) := by decide +kernel
theorem d21_14 : decode prog_103_method_7_code 14 = .ok (.getfield 7, 3) := by decide +kernel
theorem d21_17 : decode prog_103_method_7_code 17 = .ok (.bipush 64, 2) := by decide +kernel
theorem d21_19 : decode prog_103_method_7_code 19 = .ok (.iconst 2, 1) := by decide +kernel
theorem d21_20 : decode prog_103_method_7_code 20 = .ok (.aload_n 0, 1) := by decide +kernel
theorem d21_21 : decode prog_103_method_7_code 21 = .ok (.getfield 7, 3) := by decide +kernel
theorem d21_24 : decode prog_103_method_7_code 24 = .ok (.arraylength, 1) := by decide +kernel
theorem d21_25 : decode prog_103_method_7_code 25 = .ok (.imul, 1) := by decide +kernel
theorem d21_26 : decode prog_103_method_7_code 26 = .ok (.invokestatic 134, 3) := by decide +kernel
theorem d21_29 : decode prog_103_method_7_code 29 = .ok (.invokestatic 139, 3) := by decide +kernel
theorem d21_32 : decode prog_103_method_7_code 32 = .ok (.putfield 7, 3) := by decide +kernel
theorem d21_35 : decode prog_103_method_7_code 35 = .ok (.aload_n 0, 1) := by decide +kernel
theorem d21_36 : decode prog_103_method_7_code 36 = .ok (.getfield 7, 3) := by decide +kernel
theorem d21_39 : decode prog_103_method_7_code 39 = .ok (.aload_n 0, 1) := by decide +kernel
theorem d21_40 : decode prog_103_method_7_code 40 = .ok (.dup, 1) := by decide +kernel
theorem d21_41 : decode prog_103_method_7_code 41 = .ok (.getfield 131, 3) := by decide +kernel
theorem d21_44 : decode prog_103_method_7_code 44 = .ok (.dup_x1, 1) := by decide +kernel
theorem d21_45 : decode prog_103_method_7_code 45 = .ok (.iconst 1, 1) := by decide +kernel
theorem d21_46 : decode prog_103_method_7_code 46 = .ok (.iadd, 1) := by decide +kernel
theorem d21_47 : decode prog_103_method_7_code 47 = .ok (.putfield 131, 3) := by decide +kernel
theorem d21_50 : decode prog_103_method_7_code 50 = .ok (.iload_n 1, 1) := by decide +kernel
theorem d21_51 : decode prog_103_method_7_code 51 = .ok (.aload_n 0, 1) := by decide +kernel
theorem d21_52 : decode prog_103_method_7_code 52 = .ok (.getfield 23, 3) := by decide +kernel
theorem d21_55 : decode prog_103_method_7_code 55 = .ok (.invokevirtual 54, 3) := by decide +kernel
theorem d21_58 : decode prog_103_method_7_code 58 = .ok (.imul, 1) := by decide +kernel
theorem d21_59 : decode prog_103_method_7_code 59 = .ok (.iload_n 2, 1) := by decide +kernel
theorem d21_60 : decode prog_103_method_7_code 60 = .ok (.iadd, 1) := by decide +kernel
theorem d21_61 : decode prog_103_method_7_code 61 = .ok (.iastore, 1) := by decide +kernel
theorem d21_62 : decode prog_103_method_7_code 62 = .ok (.aload_n 0, 1) := by decide +kernel
theorem d21_63 : decode prog_103_method_7_code 63 = .ok (.iload_n 1, 1) := by decide +kernel
theorem d21_64 : decode prog_103_method_7_code 64 = .ok (.iload_n 2, 1) := by decide +kernel
theorem d21_65 : decode prog_103_method_7_code 65 = .ok (.invokevirtual 143, 3) := by decide +kernel
theorem d21_68 : decode prog_103_method_7_code 68 = .ok (.return_, 1) := by decide +kernel
theorem d22_0 : decode jdk_29_method_65_code 0 = .ok (.iload_n 0, 1) := by decide +kernel
theorem d22_1 : decode jdk_29_method_65_code 1 = .ok (.iload_n 1, 1) := by decide +kernel
theorem d22_2 : decode jdk_29_method_65_code 2 = .ok (.if_icmp .lt 7, 3) := by decide +kernel
theorem d22_5 : decode jdk_29_method_65_code 5 = .ok (.iload_n 0, 1) := by decide +kernel
theorem d22_6 : decode jdk_29_method_65_code 6 = .ok (.goto 4, 3) := by decide +kernel
theorem d22_9 : decode jdk_29_method_65_code 9 = .ok (.iload_n 1, 1) := by decide +kernel
theorem d22_10 : decode jdk_29_method_65_code 10 = .ok (.ireturn, 1) := by decide +kernel
theorem d23_0 : decode jdk_65_method_123_code 0 = .ok (.iload_n 1, 1) := by decide +kernel
theorem d23_1 : decode jdk_65_method_123_code 1 = .ok (.aload_n 0, 1) := by decide +kernel
theorem d23_2 : decode jdk_65_method_123_code 2 = .ok (.arraylength, 1) := by decide +kernel
theorem d23_3 : decode jdk_65_method_123_code 3 = .ok (.if_icmp .ne 11, 3) := by decide +kernel
theorem d23_14 : decode jdk_65_method_123_code 14 = .ok (.iload_n 1, 1) := by decide +kernel
theorem d23_15 : decode jdk_65_method_123_code 15 = .ok (.newarray .int, 2) := by decide +kernel
theorem d23_17 : decode jdk_65_method_123_code 17 = .ok (.astore_n 2, 1) := by decide +kernel
theorem d23_18 : decode jdk_65_method_123_code 18 = .ok (.aload_n 0, 1) := by decide +kernel
theorem d23_19 : decode jdk_65_method_123_code 19 = .ok (.iconst 0, 1) := by decide +kernel
theorem d23_20 : decode jdk_65_method_123_code 20 = .ok (.aload_n 2, 1) := by decide +kernel
theorem d23_21 : decode jdk_65_method_123_code 21 = .ok (.iconst 0, 1) := by decide +kernel
theorem d23_22 : decode jdk_65_method_123_code 22 = .ok (.aload_n 0, 1) := by decide +kernel
theorem d23_23 : decode jdk_65_method_123_code 23 = .ok (.arraylength, 1) := by decide +kernel
theorem d23_24 : decode jdk_65_method_123_code 24 = .ok (.iload_n 1, 1) := by decide +kernel
theorem d23_25 : decode jdk_65_method_123_code 25 = .ok (.invokestatic 304, 3) := by decide +kernel
theorem d23_28 : decode jdk_65_method_123_code 28 = .ok (.invokestatic 150, 3) := by decide +kernel
theorem d23_31 : decode jdk_65_method_123_code 31 = .ok (.aload_n 2, 1) := by decide +kernel
theorem d23_32 : decode jdk_65_method_123_code 32 = .ok (.areturn, 1) := by decide +kernel
theorem d24_0 : decode jdk_29_method_69_code 0 = .ok (.iload_n 0, 1) := by decide +kernel
theorem d24_1 : decode jdk_29_method_69_code 1 = .ok (.iload_n 1, 1) := by decide +kernel
theorem d24_2 : decode jdk_29_method_69_code 2 = .ok (.if_icmp .gt 7, 3) := by decide +kernel
theorem d24_5 : decode jdk_29_method_69_code 5 = .ok (.iload_n 0, 1) := by decide +kernel
theorem d24_6 : decode jdk_29_method_69_code 6 = .ok (.goto 4, 3) := by decide +kernel
theorem d24_9 : decode jdk_29_method_69_code 9 = .ok (.iload_n 1, 1) := by decide +kernel
theorem d24_10 : decode jdk_29_method_69_code 10 = .ok (.ireturn, 1) := by decide +kernel
theorem d25_0 : decode prog_103_method_8_code 0 = .ok (.aload_n 0, 1) := by decide +kernel
theorem d25_1 : decode prog_103_method_8_code 1 = .ok (.getfield 61, 3) := by decide +kernel
theorem d25_4 : decode prog_103_method_8_code 4 = .ok (.iload_n 1, 1) := by decide +kernel
theorem d25_5 : decode prog_103_method_8_code 5 = .ok (.aload_n 0, 1) := by decide +kernel
theorem d25_6 : decode prog_103_method_8_code 6 = .ok (.getfield 57, 3) := by decide +kernel
theorem d25_9 : decode prog_103_method_8_code 9 = .ok (.imul, 1) := by decide +kernel
theorem d25_10 : decode prog_103_method_8_code 10 = .ok (.iload_n 2, 1) := by decide +kernel
theorem d25_11 : decode prog_103_method_8_code 11 = .ok (.bipush 64, 2) := by decide +kernel
theorem d25_13 : decode prog_103_method_8_code 13 = .ok (.idiv, 1) := by decide +kernel
theorem d25_14 : decode prog_103_method_8_code 14 = .ok (.iadd, 1) := by decide +kernel
theorem d25_15 : decode prog_103_method_8_code 15 = .ok (.dup2, 1) := by decide +kernel
theorem d25_16 : decode prog_103_method_8_code 16 = .ok (.laload, 1) := by decide +kernel
theorem d25_17 : decode prog_103_method_8_code 17 = .ok (.lconst 1, 1) := by decide +kernel
theorem d25_18 : decode prog_103_method_8_code 18 = .ok (.iload_n 2, 1) := by decide +kernel
theorem d25_19 : decode prog_103_method_8_code 19 = .ok (.lshl, 1) := by decide +kernel
theorem d25_20 : decode prog_103_method_8_code 20 = .ok (.lor, 1) := by decide +kernel
theorem d25_21 : decode prog_103_method_8_code 21 = .ok (.lastore, 1) := by decide +kernel
theorem d25_22 : decode prog_103_method_8_code 22 = .ok (.aload_n 0, 1) := by decide +kernel
theorem d25_23 : decode prog_103_method_8_code 23 = .ok (.getfield 67, 3) := by decide +kernel
theorem d25_26 : decode prog_103_method_8_code 26 = .ok (.iload_n 1, 1) := by decide +kernel
theorem d25_27 : decode prog_103_method_8_code 27 = .ok (.dup2, 1) := by decide +kernel
theorem d25_28 : decode prog_103_method_8_code 28 = .ok (.iaload, 1) := by decide +kernel
theorem d25_29 : decode prog_103_method_8_code 29 = .ok (.iconst 1, 1) := by decide +kernel
theorem d25_30 : decode prog_103_method_8_code 30 = .ok (.iadd, 1) := by decide +kernel
theorem d25_31 : decode prog_103_method_8_code 31 = .ok (.iastore, 1) := by decide +kernel
theorem d25_32 : decode prog_103_method_8_code 32 = .ok (.aload_n 0, 1) := by decide +kernel
theorem d25_33 : decode prog_103_method_8_code 33 = .ok (.iload_n 1, 1) := by decide +kernel
theorem d25_34 : decode prog_103_method_8_code 34 = .ok (.iload_n 2, 1) := by decide +kernel
theorem d25_35 : decode prog_103_method_8_code 35 = .ok (.invokevirtual 98, 3) := by decide +kernel
theorem d25_38 : decode prog_103_method_8_code 38 = .ok (.istore_n 3, 1) := by decide +kernel
theorem d25_39 : decode prog_103_method_8_code 39 = .ok (.iload_n 3, 1) := by decide +kernel
theorem d25_40 : decode prog_103_method_8_code 40 = .ok (.iconst (-1), 1) := by decide +kernel
theorem d25_41 : decode prog_103_method_8_code 41 = .ok (.if_icmp .eq 54, 3) := by decide +kernel
theorem d25_95 : decode prog_103_method_8_code 95 = .ok (.return_, 1) := by decide +kernel
theorem d26_0 : decode prog_103_method_20_code 0 = .ok (.aload_n 0, 1) := by decide +kernel
theorem d26_1 : decode prog_103_method_20_code 1 = .ok (.getfield 64, 3) := by decide +kernel
theorem d26_4 : decode prog_103_method_20_code 4 = .ok (.iload_n 1, 1) := by decide +kernel
theorem d26_5 : decode prog_103_method_20_code 5 = .ok (.aload_n 0, 1) := by decide +kernel
theorem d26_6 : decode prog_103_method_20_code 6 = .ok (.getfield 57, 3) := by decide +kernel
theorem d26_9 : decode prog_103_method_20_code 9 = .ok (.imul, 1) := by decide +kernel
theorem d26_10 : decode prog_103_method_20_code 10 = .ok (.iload_n 2, 1) := by decide +kernel
theorem d26_11 : decode prog_103_method_20_code 11 = .ok (.bipush 64, 2) := by decide +kernel
theorem d26_13 : decode prog_103_method_20_code 13 = .ok (.idiv, 1) := by decide +kernel
theorem d26_14 : decode prog_103_method_20_code 14 = .ok (.iadd, 1) := by decide +kernel
theorem d26_15 : decode prog_103_method_20_code 15 = .ok (.laload, 1) := by decide +kernel
theorem d26_16 : decode prog_103_method_20_code 16 = .ok (.lconst 1, 1) := by decide +kernel
theorem d26_17 : decode prog_103_method_20_code 17 = .ok (.iload_n 2, 1) := by decide +kernel
theorem d26_18 : decode prog_103_method_20_code 18 = .ok (.lshl, 1) := by decide +kernel
theorem d26_19 : decode prog_103_method_20_code 19 = .ok (.land, 1) := by decide +kernel
theorem d26_20 : decode prog_103_method_20_code 20 = .ok (.lconst 0, 1) := by decide +kernel
theorem d26_21 : decode prog_103_method_20_code 21 = .ok (.lcmp, 1) := by decide +kernel
theorem d26_22 : decode prog_103_method_20_code 22 = .ok (.ifCond .ne 5, 3) := by decide +kernel
theorem d26_25 : decode prog_103_method_20_code 25 = .ok (.iconst (-1), 1) := by decide +kernel
theorem d26_26 : decode prog_103_method_20_code 26 = .ok (.ireturn, 1) := by decide +kernel
theorem w0 {Z : State} {a0 : Array Value} (hw : ∀ d ∈ tables_1, d.before a0 Z = true) : (Jvm.Cond.constant "com/example/veilcommit/veilcommit/oram/BucketTableWasReadPinLaw" (7 : Nat) (2147483647 : Int32)).before a0 Z = true := hw _ (List.mem_of_getElem? (i := 0) rfl)
theorem w1 {Z : State} {a0 : Array Value} (hw : ∀ d ∈ tables_1, d.before a0 Z = true) : (Jvm.Cond.classLink "com/example/veilcommit/veilcommit/oram/BucketTableWasReadPinLaw" (8 : Nat) "com/example/veilcommit/veilcommit/oram/TreeShape").before a0 Z = true := hw _ (List.mem_of_getElem? (i := 1) rfl)
theorem w2 {Z : State} {a0 : Array Value} (hw : ∀ d ∈ tables_1, d.before a0 Z = true) : (Jvm.Cond.instantiable "com/example/veilcommit/veilcommit/oram/TreeShape" (5 : Nat)).before a0 Z = true := hw _ (List.mem_of_getElem? (i := 2) rfl)
theorem w3 {Z : State} {a0 : Array Value} (hw : ∀ d ∈ tables_1, d.before a0 Z = true) : (Jvm.Cond.initialized "com/example/veilcommit/veilcommit/oram/TreeShape").before a0 Z = true := hw _ (List.mem_of_getElem? (i := 3) rfl)
theorem w4 {Z : State} {a0 : Array Value} (hw : ∀ d ∈ tables_1, d.before a0 Z = true) : (Jvm.Cond.methodLink "com/example/veilcommit/veilcommit/oram/BucketTableWasReadPinLaw" (10 : Nat) ({ cls := "com/example/veilcommit/veilcommit/oram/TreeShape", name := "<init>", desc := "(IIIII)V" } : Jvm.MethodName)).before a0 Z = true := hw _ (List.mem_of_getElem? (i := 4) rfl)
theorem w5 {Z : State} {a0 : Array Value} (hw : ∀ d ∈ tables_1, d.before a0 Z = true) : (Jvm.Cond.instanceMethod ({ cls := "com/example/veilcommit/veilcommit/oram/TreeShape", name := "<init>", desc := "(IIIII)V" } : Jvm.MethodName)).before a0 Z = true := hw _ (List.mem_of_getElem? (i := 5) rfl)
theorem w6 {Z : State} {a0 : Array Value} (hw : ∀ d ∈ tables_1, d.before a0 Z = true) : (Jvm.Cond.code ({ cls := "com/example/veilcommit/veilcommit/oram/TreeShape", name := "<init>", desc := "(IIIII)V" } : Jvm.MethodName) prog_139_method_1_code (6 : Nat) (Option.none : Option Jvm.ClassFile.FieldType)).before a0 Z = true := hw _ (List.mem_of_getElem? (i := 6) rfl)
theorem w7 {Z : State} {a0 : Array Value} (hw : ∀ d ∈ tables_1, d.before a0 Z = true) : (Jvm.Cond.methodLink "com/example/veilcommit/veilcommit/oram/TreeShape" (1 : Nat) ({ cls := "java/lang/Record", name := "<init>", desc := "()V" } : Jvm.MethodName)).before a0 Z = true := hw _ (List.mem_of_getElem? (i := 7) rfl)
theorem w8 {Z : State} {a0 : Array Value} (hw : ∀ d ∈ tables_1, d.before a0 Z = true) : (Jvm.Cond.instanceMethod ({ cls := "java/lang/Record", name := "<init>", desc := "()V" } : Jvm.MethodName)).before a0 Z = true := hw _ (List.mem_of_getElem? (i := 8) rfl)
theorem w10 {Z : State} {a0 : Array Value} (hw : ∀ d ∈ tables_1, d.before a0 Z = true) : (Jvm.Cond.initialized "java/lang/Record").before a0 Z = true := hw _ (List.mem_of_getElem? (i := 10) rfl)
theorem w11 {Z : State} {a0 : Array Value} (hw : ∀ d ∈ tables_1, d.before a0 Z = true) : (Jvm.Cond.code ({ cls := "java/lang/Record", name := "<init>", desc := "()V" } : Jvm.MethodName) jdk_30_method_1_code (1 : Nat) (Option.none : Option Jvm.ClassFile.FieldType)).before a0 Z = true := hw _ (List.mem_of_getElem? (i := 11) rfl)
theorem w12 {Z : State} {a0 : Array Value} (hw : ∀ d ∈ tables_1, d.before a0 Z = true) : (Jvm.Cond.methodLink "java/lang/Record" (1 : Nat) ({ cls := "java/lang/Object", name := "<init>", desc := "()V" } : Jvm.MethodName)).before a0 Z = true := hw _ (List.mem_of_getElem? (i := 12) rfl)
theorem w13 {Z : State} {a0 : Array Value} (hw : ∀ d ∈ tables_1, d.before a0 Z = true) : (Jvm.Cond.instanceMethod ({ cls := "java/lang/Object", name := "<init>", desc := "()V" } : Jvm.MethodName)).before a0 Z = true := hw _ (List.mem_of_getElem? (i := 13) rfl)
theorem w14 {Z : State} {a0 : Array Value} (hw : ∀ d ∈ tables_1, d.before a0 Z = true) : (Jvm.Cond.code ({ cls := "java/lang/Object", name := "<init>", desc := "()V" } : Jvm.MethodName) object_method_1_code (1 : Nat) (Option.none : Option Jvm.ClassFile.FieldType)).before a0 Z = true := hw _ (List.mem_of_getElem? (i := 14) rfl)
theorem w15 {Z : State} {a0 : Array Value} (hw : ∀ d ∈ tables_1, d.before a0 Z = true) : (Jvm.Cond.stringLink "com/example/veilcommit/veilcommit/oram/TreeShape" (7 : Nat) "capacity").before a0 Z = true := hw _ (List.mem_of_getElem? (i := 15) rfl)
theorem w16 {Z : State} {a0 : Array Value} (hw : ∀ d ∈ tables_1, d.before a0 Z = true) : (Jvm.Cond.initialized "java/lang/String").before a0 Z = true := hw _ (List.mem_of_getElem? (i := 16) rfl)
theorem w17 {Z : State} {a0 : Array Value} (hw : ∀ d ∈ tables_1, d.before a0 Z = true) : (Jvm.Cond.instantiable "java/lang/String" (4 : Nat)).before a0 Z = true := hw _ (List.mem_of_getElem? (i := 17) rfl)
theorem w18 {Z : State} {a0 : Array Value} (hw : ∀ d ∈ tables_1, d.before a0 Z = true) : (Jvm.Cond.arrayClass Jvm.ClassFile.FieldType.byte).before a0 Z = true := hw _ (List.mem_of_getElem? (i := 18) rfl)
theorem w19 {Z : State} {a0 : Array Value} (hw : ∀ d ∈ tables_1, d.before a0 Z = true) : (Jvm.Cond.laysFinal "java/lang/String" "java/lang/String" "value" "[B").before a0 Z = true := hw _ (List.mem_of_getElem? (i := 19) rfl)
theorem w20 {Z : State} {a0 : Array Value} (hw : ∀ d ∈ tables_1, d.before a0 Z = true) : (Jvm.Cond.laysFinal "java/lang/String" "java/lang/String" "coder" "B").before a0 Z = true := hw _ (List.mem_of_getElem? (i := 20) rfl)
theorem w21 {Z : State} {a0 : Array Value} (hw : ∀ d ∈ tables_1, d.before a0 Z = true) : (Jvm.Cond.soleField "java/lang/String" "value").before a0 Z = true := hw _ (List.mem_of_getElem? (i := 21) rfl)
theorem w22 {Z : State} {a0 : Array Value} (hw : ∀ d ∈ tables_1, d.before a0 Z = true) : (Jvm.Cond.soleField "java/lang/String" "coder").before a0 Z = true := hw _ (List.mem_of_getElem? (i := 22) rfl)
theorem w23 {Z : State} {a0 : Array Value} (hw : ∀ d ∈ tables_1, d.before a0 Z = true) : (Jvm.Cond.constant "com/example/veilcommit/veilcommit/oram/TreeShape" (11 : Nat) (16777216 : Int32)).before a0 Z = true := hw _ (List.mem_of_getElem? (i := 23) rfl)
theorem w24 {Z : State} {a0 : Array Value} (hw : ∀ d ∈ tables_1, d.before a0 Z = true) : (Jvm.Cond.methodLink "com/example/veilcommit/veilcommit/oram/TreeShape" (12 : Nat) ({ cls := "com/example/veilcommit/veilcommit/oram/TreeShape", name := "requireRange", desc := "(Ljava/lang/String;III)V" } : Jvm.MethodName)).before a0 Z = true := hw _ (List.mem_of_getElem? (i := 24) rfl)
theorem w25 {Z : State} {a0 : Array Value} (hw : ∀ d ∈ tables_1, d.before a0 Z = true) : (Jvm.Cond.static ({ cls := "com/example/veilcommit/veilcommit/oram/TreeShape", name := "requireRange", desc := "(Ljava/lang/String;III)V" } : Jvm.MethodName)).before a0 Z = true := hw _ (List.mem_of_getElem? (i := 25) rfl)
theorem w26 {Z : State} {a0 : Array Value} (hw : ∀ d ∈ tables_1, d.before a0 Z = true) : (Jvm.Cond.code ({ cls := "com/example/veilcommit/veilcommit/oram/TreeShape", name := "requireRange", desc := "(Ljava/lang/String;III)V" } : Jvm.MethodName) prog_139_method_21_code (4 : Nat) (Option.none : Option Jvm.ClassFile.FieldType)).before a0 Z = true := hw _ (List.mem_of_getElem? (i := 26) rfl)
theorem w27 {Z : State} {a0 : Array Value} (hw : ∀ d ∈ tables_1, d.before a0 Z = true) : (Jvm.Cond.stringLink "com/example/veilcommit/veilcommit/oram/TreeShape" (16 : Nat) "block size").before a0 Z = true := hw _ (List.mem_of_getElem? (i := 27) rfl)
theorem w28 {Z : State} {a0 : Array Value} (hw : ∀ d ∈ tables_1, d.before a0 Z = true) : (Jvm.Cond.constant "com/example/veilcommit/veilcommit/oram/TreeShape" (18 : Nat) (65536 : Int32)).before a0 Z = true := hw _ (List.mem_of_getElem? (i := 28) rfl)
theorem w29 {Z : State} {a0 : Array Value} (hw : ∀ d ∈ tables_1, d.before a0 Z = true) : (Jvm.Cond.stringLink "com/example/veilcommit/veilcommit/oram/TreeShape" (19 : Nat) "z").before a0 Z = true := hw _ (List.mem_of_getElem? (i := 29) rfl)
theorem w30 {Z : State} {a0 : Array Value} (hw : ∀ d ∈ tables_1, d.before a0 Z = true) : (Jvm.Cond.stringLink "com/example/veilcommit/veilcommit/oram/TreeShape" (21 : Nat) "s").before a0 Z = true := hw _ (List.mem_of_getElem? (i := 30) rfl)
theorem w31 {Z : State} {a0 : Array Value} (hw : ∀ d ∈ tables_1, d.before a0 Z = true) : (Jvm.Cond.stringLink "com/example/veilcommit/veilcommit/oram/TreeShape" (23 : Nat) "a").before a0 Z = true := hw _ (List.mem_of_getElem? (i := 31) rfl)
theorem w32 {Z : State} {a0 : Array Value} (hw : ∀ d ∈ tables_1, d.before a0 Z = true) : (Jvm.Cond.stringLink "com/example/veilcommit/veilcommit/oram/TreeShape" (25 : Nat) "z + s").before a0 Z = true := hw _ (List.mem_of_getElem? (i := 32) rfl)
theorem w33 {Z : State} {a0 : Array Value} (hw : ∀ d ∈ tables_1, d.before a0 Z = true) : (Jvm.Cond.constantLong "com/example/veilcommit/veilcommit/oram/TreeShape" (27 : Nat) (2 : Int64)).before a0 Z = true := hw _ (List.mem_of_getElem? (i := 33) rfl)
theorem w34 {Z : State} {a0 : Array Value} (hw : ∀ d ∈ tables_1, d.before a0 Z = true) : (Jvm.Cond.methodLink "com/example/veilcommit/veilcommit/oram/TreeShape" (29 : Nat) ({ cls := "com/example/veilcommit/veilcommit/oram/TreeShape", name := "leaves", desc := "(II)I" } : Jvm.MethodName)).before a0 Z = true := hw _ (List.mem_of_getElem? (i := 34) rfl)
theorem w35 {Z : State} {a0 : Array Value} (hw : ∀ d ∈ tables_1, d.before a0 Z = true) : (Jvm.Cond.static ({ cls := "com/example/veilcommit/veilcommit/oram/TreeShape", name := "leaves", desc := "(II)I" } : Jvm.MethodName)).before a0 Z = true := hw _ (List.mem_of_getElem? (i := 35) rfl)
theorem w36 {Z : State} {a0 : Array Value} (hw : ∀ d ∈ tables_1, d.before a0 Z = true) : (Jvm.Cond.code ({ cls := "com/example/veilcommit/veilcommit/oram/TreeShape", name := "leaves", desc := "(II)I" } : Jvm.MethodName) prog_139_method_3_code (3 : Nat) (Option.some Jvm.ClassFile.FieldType.int)).before a0 Z = true := hw _ (List.mem_of_getElem? (i := 36) rfl)
theorem w37 {Z : State} {a0 : Array Value} (hw : ∀ d ∈ tables_1, d.before a0 Z = true) : (Jvm.Cond.methodLink "com/example/veilcommit/veilcommit/oram/TreeShape" (62 : Nat) ({ cls := "java/lang/Integer", name := "highestOneBit", desc := "(I)I" } : Jvm.MethodName)).before a0 Z = true := hw _ (List.mem_of_getElem? (i := 37) rfl)
theorem w38 {Z : State} {a0 : Array Value} (hw : ∀ d ∈ tables_1, d.before a0 Z = true) : (Jvm.Cond.static ({ cls := "java/lang/Integer", name := "highestOneBit", desc := "(I)I" } : Jvm.MethodName)).before a0 Z = true := hw _ (List.mem_of_getElem? (i := 38) rfl)
theorem w39 {Z : State} {a0 : Array Value} (hw : ∀ d ∈ tables_1, d.before a0 Z = true) : (Jvm.Cond.initialized "java/lang/Integer").before a0 Z = true := hw _ (List.mem_of_getElem? (i := 39) rfl)
theorem w40 {Z : State} {a0 : Array Value} (hw : ∀ d ∈ tables_1, d.before a0 Z = true) : (Jvm.Cond.code ({ cls := "java/lang/Integer", name := "highestOneBit", desc := "(I)I" } : Jvm.MethodName) jdk_33_method_45_code (1 : Nat) (Option.some Jvm.ClassFile.FieldType.int)).before a0 Z = true := hw _ (List.mem_of_getElem? (i := 40) rfl)
theorem w41 {Z : State} {a0 : Array Value} (hw : ∀ d ∈ tables_1, d.before a0 Z = true) : (Jvm.Cond.constant "java/lang/Integer" (127 : Nat) (-2147483648 : Int32)).before a0 Z = true := hw _ (List.mem_of_getElem? (i := 41) rfl)
theorem w42 {Z : State} {a0 : Array Value} (hw : ∀ d ∈ tables_1, d.before a0 Z = true) : (Jvm.Cond.methodLink "java/lang/Integer" (51 : Nat) ({ cls := "java/lang/Integer", name := "numberOfLeadingZeros", desc := "(I)I" } : Jvm.MethodName)).before a0 Z = true := hw _ (List.mem_of_getElem? (i := 42) rfl)
theorem w43 {Z : State} {a0 : Array Value} (hw : ∀ d ∈ tables_1, d.before a0 Z = true) : (Jvm.Cond.static ({ cls := "java/lang/Integer", name := "numberOfLeadingZeros", desc := "(I)I" } : Jvm.MethodName)).before a0 Z = true := hw _ (List.mem_of_getElem? (i := 43) rfl)
theorem w44 {Z : State} {a0 : Array Value} (hw : ∀ d ∈ tables_1, d.before a0 Z = true) : (Jvm.Cond.code ({ cls := "java/lang/Integer", name := "numberOfLeadingZeros", desc := "(I)I" } : Jvm.MethodName) jdk_33_method_47_code (2 : Nat) (Option.some Jvm.ClassFile.FieldType.int)).before a0 Z = true := hw _ (List.mem_of_getElem? (i := 44) rfl)
theorem w45 {Z : State} {a0 : Array Value} (hw : ∀ d ∈ tables_1, d.before a0 Z = true) : (Jvm.Cond.constant "java/lang/Integer" (264 : Nat) (65536 : Int32)).before a0 Z = true := hw _ (List.mem_of_getElem? (i := 45) rfl)
theorem w46 {Z : State} {a0 : Array Value} (hw : ∀ d ∈ tables_1, d.before a0 Z = true) : (Jvm.Cond.constantLong "com/example/veilcommit/veilcommit/oram/TreeShape" (33 : Nat) (134217728 : Int64)).before a0 Z = true := hw _ (List.mem_of_getElem? (i := 46) rfl)
theorem w47 {Z : State} {a0 : Array Value} (hw : ∀ d ∈ tables_1, d.before a0 Z = true) : (Jvm.Cond.methodLink "com/example/veilcommit/veilcommit/oram/TreeShape" (42 : Nat) ({ cls := "com/example/veilcommit/veilcommit/oram/TreeShape", name := "stashCapacity", desc := "(II)J" } : Jvm.MethodName)).before a0 Z = true := hw _ (List.mem_of_getElem? (i := 47) rfl)
theorem w48 {Z : State} {a0 : Array Value} (hw : ∀ d ∈ tables_1, d.before a0 Z = true) : (Jvm.Cond.static ({ cls := "com/example/veilcommit/veilcommit/oram/TreeShape", name := "stashCapacity", desc := "(II)J" } : Jvm.MethodName)).before a0 Z = true := hw _ (List.mem_of_getElem? (i := 48) rfl)
theorem w49 {Z : State} {a0 : Array Value} (hw : ∀ d ∈ tables_1, d.before a0 Z = true) : (Jvm.Cond.code ({ cls := "com/example/veilcommit/veilcommit/oram/TreeShape", name := "stashCapacity", desc := "(II)J" } : Jvm.MethodName) prog_139_method_14_code (2 : Nat) (Option.some Jvm.ClassFile.FieldType.long)).before a0 Z = true := hw _ (List.mem_of_getElem? (i := 49) rfl)
theorem w50 {Z : State} {a0 : Array Value} (hw : ∀ d ∈ tables_1, d.before a0 Z = true) : (Jvm.Cond.constantLong "com/example/veilcommit/veilcommit/oram/TreeShape" (93 : Nat) (256 : Int64)).before a0 Z = true := hw _ (List.mem_of_getElem? (i := 50) rfl)
theorem w51 {Z : State} {a0 : Array Value} (hw : ∀ d ∈ tables_1, d.before a0 Z = true) : (Jvm.Cond.methodLink "com/example/veilcommit/veilcommit/oram/TreeShape" (95 : Nat) ({ cls := "java/lang/Math", name := "min", desc := "(JJ)J" } : Jvm.MethodName)).before a0 Z = true := hw _ (List.mem_of_getElem? (i := 51) rfl)
theorem w52 {Z : State} {a0 : Array Value} (hw : ∀ d ∈ tables_1, d.before a0 Z = true) : (Jvm.Cond.static ({ cls := "java/lang/Math", name := "min", desc := "(JJ)J" } : Jvm.MethodName)).before a0 Z = true := hw _ (List.mem_of_getElem? (i := 52) rfl)
theorem w53 {Z : State} {a0 : Array Value} (hw : ∀ d ∈ tables_1, d.before a0 Z = true) : (Jvm.Cond.initialized "java/lang/Math").before a0 Z = true := hw _ (List.mem_of_getElem? (i := 53) rfl)
theorem w54 {Z : State} {a0 : Array Value} (hw : ∀ d ∈ tables_1, d.before a0 Z = true) : (Jvm.Cond.code ({ cls := "java/lang/Math", name := "min", desc := "(JJ)J" } : Jvm.MethodName) jdk_29_method_70_code (4 : Nat) (Option.some Jvm.ClassFile.FieldType.long)).before a0 Z = true := hw _ (List.mem_of_getElem? (i := 54) rfl)
theorem w55 {Z : State} {a0 : Array Value} (hw : ∀ d ∈ tables_1, d.before a0 Z = true) : (Jvm.Cond.constantLong "com/example/veilcommit/veilcommit/oram/TreeShape" (46 : Nat) (1073741824 : Int64)).before a0 Z = true := hw _ (List.mem_of_getElem? (i := 55) rfl)
theorem w56 {Z : State} {a0 : Array Value} (hw : ∀ d ∈ tables_1, d.before a0 Z = true) : (Jvm.Cond.fieldLink "com/example/veilcommit/veilcommit/oram/TreeShape" (50 : Nat) "com/example/veilcommit/veilcommit/oram/TreeShape" "capacity" "I").before a0 Z = true := hw _ (List.mem_of_getElem? (i := 56) rfl)
theorem w57 {Z : State} {a0 : Array Value} (hw : ∀ d ∈ tables_1, d.before a0 Z = true) : (Jvm.Cond.laysFinal "com/example/veilcommit/veilcommit/oram/TreeShape" "com/example/veilcommit/veilcommit/oram/TreeShape" "capacity" "I").before a0 Z = true := hw _ (List.mem_of_getElem? (i := 57) rfl)
theorem w58 {Z : State} {a0 : Array Value} (hw : ∀ d ∈ tables_1, d.before a0 Z = true) : (Jvm.Cond.fieldLink "com/example/veilcommit/veilcommit/oram/TreeShape" (53 : Nat) "com/example/veilcommit/veilcommit/oram/TreeShape" "blockSize" "I").before a0 Z = true := hw _ (List.mem_of_getElem? (i := 58) rfl)
theorem w59 {Z : State} {a0 : Array Value} (hw : ∀ d ∈ tables_1, d.before a0 Z = true) : (Jvm.Cond.laysFinal "com/example/veilcommit/veilcommit/oram/TreeShape" "com/example/veilcommit/veilcommit/oram/TreeShape" "blockSize" "I").before a0 Z = true := hw _ (List.mem_of_getElem? (i := 59) rfl)
theorem w60 {Z : State} {a0 : Array Value} (hw : ∀ d ∈ tables_1, d.before a0 Z = true) : (Jvm.Cond.fieldLink "com/example/veilcommit/veilcommit/oram/TreeShape" (56 : Nat) "com/example/veilcommit/veilcommit/oram/TreeShape" "z" "I").before a0 Z = true := hw _ (List.mem_of_getElem? (i := 60) rfl)
theorem w61 {Z : State} {a0 : Array Value} (hw : ∀ d ∈ tables_1, d.before a0 Z = true) : (Jvm.Cond.laysFinal "com/example/veilcommit/veilcommit/oram/TreeShape" "com/example/veilcommit/veilcommit/oram/TreeShape" "z" "I").before a0 Z = true := hw _ (List.mem_of_getElem? (i := 61) rfl)
theorem w62 {Z : State} {a0 : Array Value} (hw : ∀ d ∈ tables_1, d.before a0 Z = true) : (Jvm.Cond.fieldLink "com/example/veilcommit/veilcommit/oram/TreeShape" (58 : Nat) "com/example/veilcommit/veilcommit/oram/TreeShape" "s" "I").before a0 Z = true := hw _ (List.mem_of_getElem? (i := 62) rfl)
theorem w63 {Z : State} {a0 : Array Value} (hw : ∀ d ∈ tables_1, d.before a0 Z = true) : (Jvm.Cond.laysFinal "com/example/veilcommit/veilcommit/oram/TreeShape" "com/example/veilcommit/veilcommit/oram/TreeShape" "s" "I").before a0 Z = true := hw _ (List.mem_of_getElem? (i := 63) rfl)
theorem w64 {Z : State} {a0 : Array Value} (hw : ∀ d ∈ tables_1, d.before a0 Z = true) : (Jvm.Cond.fieldLink "com/example/veilcommit/veilcommit/oram/TreeShape" (60 : Nat) "com/example/veilcommit/veilcommit/oram/TreeShape" "a" "I").before a0 Z = true := hw _ (List.mem_of_getElem? (i := 64) rfl)
theorem w65 {Z : State} {a0 : Array Value} (hw : ∀ d ∈ tables_1, d.before a0 Z = true) : (Jvm.Cond.laysFinal "com/example/veilcommit/veilcommit/oram/TreeShape" "com/example/veilcommit/veilcommit/oram/TreeShape" "a" "I").before a0 Z = true := hw _ (List.mem_of_getElem? (i := 65) rfl)
theorem w66 {Z : State} {a0 : Array Value} (hw : ∀ d ∈ tables_1, d.before a0 Z = true) : (Jvm.Cond.classLink "com/example/veilcommit/veilcommit/oram/BucketTableWasReadPinLaw" (13 : Nat) "com/example/veilcommit/veilcommit/oram/BucketTable").before a0 Z = true := hw _ (List.mem_of_getElem? (i := 66) rfl)
theorem w67 {Z : State} {a0 : Array Value} (hw : ∀ d ∈ tables_1, d.before a0 Z = true) : (Jvm.Cond.instantiable "com/example/veilcommit/veilcommit/oram/BucketTable" (16 : Nat)).before a0 Z = true := hw _ (List.mem_of_getElem? (i := 67) rfl)
theorem w68 {Z : State} {a0 : Array Value} (hw : ∀ d ∈ tables_1, d.before a0 Z = true) : (Jvm.Cond.initialized "com/example/veilcommit/veilcommit/oram/BucketTable").before a0 Z = true := hw _ (List.mem_of_getElem? (i := 68) rfl)
theorem w69 {Z : State} {a0 : Array Value} (hw : ∀ d ∈ tables_1, d.before a0 Z = true) : (Jvm.Cond.methodLink "com/example/veilcommit/veilcommit/oram/BucketTableWasReadPinLaw" (15 : Nat) ({ cls := "com/example/veilcommit/veilcommit/oram/BucketTable", name := "<init>", desc := "(Lcom/example/veilcommit/veilcommit/oram/TreeShape;)V" } : Jvm.MethodName)).before a0 Z = true := hw _ (List.mem_of_getElem? (i := 69) rfl)
theorem w70 {Z : State} {a0 : Array Value} (hw : ∀ d ∈ tables_1, d.before a0 Z = true) : (Jvm.Cond.instanceMethod ({ cls := "com/example/veilcommit/veilcommit/oram/BucketTable", name := "<init>", desc := "(Lcom/example/veilcommit/veilcommit/oram/TreeShape;)V" } : Jvm.MethodName)).before a0 Z = true := hw _ (List.mem_of_getElem? (i := 70) rfl)
theorem w71 {Z : State} {a0 : Array Value} (hw : ∀ d ∈ tables_1, d.before a0 Z = true) : (Jvm.Cond.code ({ cls := "com/example/veilcommit/veilcommit/oram/BucketTable", name := "<init>", desc := "(Lcom/example/veilcommit/veilcommit/oram/TreeShape;)V" } : Jvm.MethodName) prog_103_method_1_code (2 : Nat) (Option.none : Option Jvm.ClassFile.FieldType)).before a0 Z = true := hw _ (List.mem_of_getElem? (i := 71) rfl)
theorem w72 {Z : State} {a0 : Array Value} (hw : ∀ d ∈ tables_1, d.before a0 Z = true) : (Jvm.Cond.methodLink "com/example/veilcommit/veilcommit/oram/BucketTable" (1 : Nat) ({ cls := "java/lang/Object", name := "<init>", desc := "()V" } : Jvm.MethodName)).before a0 Z = true := hw _ (List.mem_of_getElem? (i := 72) rfl)
theorem w73 {Z : State} {a0 : Array Value} (hw : ∀ d ∈ tables_1, d.before a0 Z = true) : (Jvm.Cond.arrayClass Jvm.ClassFile.FieldType.int).before a0 Z = true := hw _ (List.mem_of_getElem? (i := 73) rfl)
theorem w74 {Z : State} {a0 : Array Value} (hw : ∀ d ∈ tables_1, d.before a0 Z = true) : (Jvm.Cond.fieldLink "com/example/veilcommit/veilcommit/oram/BucketTable" (7 : Nat) "com/example/veilcommit/veilcommit/oram/BucketTable" "pathReads" "[I").before a0 Z = true := hw _ (List.mem_of_getElem? (i := 74) rfl)
theorem w75 {Z : State} {a0 : Array Value} (hw : ∀ d ∈ tables_1, d.before a0 Z = true) : (Jvm.Cond.lays "com/example/veilcommit/veilcommit/oram/BucketTable" "com/example/veilcommit/veilcommit/oram/BucketTable" "pathReads" "[I").before a0 Z = true := hw _ (List.mem_of_getElem? (i := 75) rfl)
theorem w76 {Z : State} {a0 : Array Value} (hw : ∀ d ∈ tables_1, d.before a0 Z = true) : (Jvm.Cond.classLink "com/example/veilcommit/veilcommit/oram/BucketTable" (13 : Nat) "java/util/BitSet").before a0 Z = true := hw _ (List.mem_of_getElem? (i := 76) rfl)
theorem w77 {Z : State} {a0 : Array Value} (hw : ∀ d ∈ tables_1, d.before a0 Z = true) : (Jvm.Cond.instantiable "java/util/BitSet" (3 : Nat)).before a0 Z = true := hw _ (List.mem_of_getElem? (i := 77) rfl)
theorem w78 {Z : State} {a0 : Array Value} (hw : ∀ d ∈ tables_1, d.before a0 Z = true) : (Jvm.Cond.initialized "java/util/BitSet").before a0 Z = true := hw _ (List.mem_of_getElem? (i := 78) rfl)
theorem w79 {Z : State} {a0 : Array Value} (hw : ∀ d ∈ tables_1, d.before a0 Z = true) : (Jvm.Cond.methodLink "com/example/veilcommit/veilcommit/oram/BucketTable" (15 : Nat) ({ cls := "java/util/BitSet", name := "<init>", desc := "()V" } : Jvm.MethodName)).before a0 Z = true := hw _ (List.mem_of_getElem? (i := 79) rfl)
theorem w80 {Z : State} {a0 : Array Value} (hw : ∀ d ∈ tables_1, d.before a0 Z = true) : (Jvm.Cond.instanceMethod ({ cls := "java/util/BitSet", name := "<init>", desc := "()V" } : Jvm.MethodName)).before a0 Z = true := hw _ (List.mem_of_getElem? (i := 80) rfl)
theorem w81 {Z : State} {a0 : Array Value} (hw : ∀ d ∈ tables_1, d.before a0 Z = true) : (Jvm.Cond.code ({ cls := "java/util/BitSet", name := "<init>", desc := "()V" } : Jvm.MethodName) jdk_92_method_4_code (1 : Nat) (Option.none : Option Jvm.ClassFile.FieldType)).before a0 Z = true := hw _ (List.mem_of_getElem? (i := 81) rfl)
theorem w82 {Z : State} {a0 : Array Value} (hw : ∀ d ∈ tables_1, d.before a0 Z = true) : (Jvm.Cond.methodLink "java/util/BitSet" (21 : Nat) ({ cls := "java/lang/Object", name := "<init>", desc := "()V" } : Jvm.MethodName)).before a0 Z = true := hw _ (List.mem_of_getElem? (i := 82) rfl)
theorem w83 {Z : State} {a0 : Array Value} (hw : ∀ d ∈ tables_1, d.before a0 Z = true) : (Jvm.Cond.fieldLink "java/util/BitSet" (7 : Nat) "java/util/BitSet" "wordsInUse" "I").before a0 Z = true := hw _ (List.mem_of_getElem? (i := 83) rfl)
theorem w84 {Z : State} {a0 : Array Value} (hw : ∀ d ∈ tables_1, d.before a0 Z = true) : (Jvm.Cond.lays "java/util/BitSet" "java/util/BitSet" "wordsInUse" "I").before a0 Z = true := hw _ (List.mem_of_getElem? (i := 84) rfl)
theorem w85 {Z : State} {a0 : Array Value} (hw : ∀ d ∈ tables_1, d.before a0 Z = true) : (Jvm.Cond.fieldLink "java/util/BitSet" (24 : Nat) "java/util/BitSet" "sizeIsSticky" "Z").before a0 Z = true := hw _ (List.mem_of_getElem? (i := 85) rfl)
theorem w86 {Z : State} {a0 : Array Value} (hw : ∀ d ∈ tables_1, d.before a0 Z = true) : (Jvm.Cond.lays "java/util/BitSet" "java/util/BitSet" "sizeIsSticky" "Z").before a0 Z = true := hw _ (List.mem_of_getElem? (i := 86) rfl)
theorem w87 {Z : State} {a0 : Array Value} (hw : ∀ d ∈ tables_1, d.before a0 Z = true) : (Jvm.Cond.methodLink "java/util/BitSet" (27 : Nat) ({ cls := "java/util/BitSet", name := "initWords", desc := "(I)V" } : Jvm.MethodName)).before a0 Z = true := hw _ (List.mem_of_getElem? (i := 87) rfl)
theorem w88 {Z : State} {a0 : Array Value} (hw : ∀ d ∈ tables_1, d.before a0 Z = true) : (Jvm.Cond.instanceMethod ({ cls := "java/util/BitSet", name := "initWords", desc := "(I)V" } : Jvm.MethodName)).before a0 Z = true := hw _ (List.mem_of_getElem? (i := 88) rfl)
theorem w89 {Z : State} {a0 : Array Value} (hw : ∀ d ∈ tables_1, d.before a0 Z = true) : (Jvm.Cond.privateMethod ({ cls := "java/util/BitSet", name := "initWords", desc := "(I)V" } : Jvm.MethodName)).before a0 Z = true := hw _ (List.mem_of_getElem? (i := 89) rfl)
theorem w90 {Z : State} {a0 : Array Value} (hw : ∀ d ∈ tables_1, d.before a0 Z = true) : (Jvm.Cond.selects "java/util/BitSet" ({ cls := "java/util/BitSet", name := "initWords", desc := "(I)V" } : Jvm.MethodName) ({ cls := "java/util/BitSet", name := "initWords", desc := "(I)V" } : Jvm.MethodName)).before a0 Z = true := hw _ (List.mem_of_getElem? (i := 90) rfl)
theorem w91 {Z : State} {a0 : Array Value} (hw : ∀ d ∈ tables_1, d.before a0 Z = true) : (Jvm.Cond.code ({ cls := "java/util/BitSet", name := "initWords", desc := "(I)V" } : Jvm.MethodName) jdk_92_method_6_code (2 : Nat) (Option.none : Option Jvm.ClassFile.FieldType)).before a0 Z = true := hw _ (List.mem_of_getElem? (i := 91) rfl)
theorem w92 {Z : State} {a0 : Array Value} (hw : ∀ d ∈ tables_1, d.before a0 Z = true) : (Jvm.Cond.methodLink "java/util/BitSet" (52 : Nat) ({ cls := "java/util/BitSet", name := "wordIndex", desc := "(I)I" } : Jvm.MethodName)).before a0 Z = true := hw _ (List.mem_of_getElem? (i := 92) rfl)
theorem w93 {Z : State} {a0 : Array Value} (hw : ∀ d ∈ tables_1, d.before a0 Z = true) : (Jvm.Cond.static ({ cls := "java/util/BitSet", name := "wordIndex", desc := "(I)I" } : Jvm.MethodName)).before a0 Z = true := hw _ (List.mem_of_getElem? (i := 93) rfl)
theorem w94 {Z : State} {a0 : Array Value} (hw : ∀ d ∈ tables_1, d.before a0 Z = true) : (Jvm.Cond.code ({ cls := "java/util/BitSet", name := "wordIndex", desc := "(I)I" } : Jvm.MethodName) jdk_92_method_1_code (1 : Nat) (Option.some Jvm.ClassFile.FieldType.int)).before a0 Z = true := hw _ (List.mem_of_getElem? (i := 94) rfl)
theorem w95 {Z : State} {a0 : Array Value} (hw : ∀ d ∈ tables_1, d.before a0 Z = true) : (Jvm.Cond.arrayClass Jvm.ClassFile.FieldType.long).before a0 Z = true := hw _ (List.mem_of_getElem? (i := 95) rfl)
theorem w96 {Z : State} {a0 : Array Value} (hw : ∀ d ∈ tables_1, d.before a0 Z = true) : (Jvm.Cond.fieldLink "java/util/BitSet" (11 : Nat) "java/util/BitSet" "words" "[J").before a0 Z = true := hw _ (List.mem_of_getElem? (i := 96) rfl)
theorem w97 {Z : State} {a0 : Array Value} (hw : ∀ d ∈ tables_1, d.before a0 Z = true) : (Jvm.Cond.lays "java/util/BitSet" "java/util/BitSet" "words" "[J").before a0 Z = true := hw _ (List.mem_of_getElem? (i := 97) rfl)
theorem w98 {Z : State} {a0 : Array Value} (hw : ∀ d ∈ tables_1, d.before a0 Z = true) : (Jvm.Cond.fieldLink "com/example/veilcommit/veilcommit/oram/BucketTable" (16 : Nat) "com/example/veilcommit/veilcommit/oram/BucketTable" "superseded" "Ljava/util/BitSet;").before a0 Z = true := hw _ (List.mem_of_getElem? (i := 98) rfl)
theorem w99 {Z : State} {a0 : Array Value} (hw : ∀ d ∈ tables_1, d.before a0 Z = true) : (Jvm.Cond.laysFinal "com/example/veilcommit/veilcommit/oram/BucketTable" "com/example/veilcommit/veilcommit/oram/BucketTable" "superseded" "Ljava/util/BitSet;").before a0 Z = true := hw _ (List.mem_of_getElem? (i := 99) rfl)
theorem w100 {Z : State} {a0 : Array Value} (hw : ∀ d ∈ tables_1, d.before a0 Z = true) : (Jvm.Cond.fieldLink "com/example/veilcommit/veilcommit/oram/BucketTable" (20 : Nat) "com/example/veilcommit/veilcommit/oram/BucketTable" "written" "Ljava/util/BitSet;").before a0 Z = true := hw _ (List.mem_of_getElem? (i := 100) rfl)
theorem w101 {Z : State} {a0 : Array Value} (hw : ∀ d ∈ tables_1, d.before a0 Z = true) : (Jvm.Cond.laysFinal "com/example/veilcommit/veilcommit/oram/BucketTable" "com/example/veilcommit/veilcommit/oram/BucketTable" "written" "Ljava/util/BitSet;").before a0 Z = true := hw _ (List.mem_of_getElem? (i := 101) rfl)
theorem w102 {Z : State} {a0 : Array Value} (hw : ∀ d ∈ tables_1, d.before a0 Z = true) : (Jvm.Cond.fieldLink "com/example/veilcommit/veilcommit/oram/BucketTable" (23 : Nat) "com/example/veilcommit/veilcommit/oram/BucketTable" "shape" "Lcom/example/veilcommit/veilcommit/oram/TreeShape;").before a0 Z = true := hw _ (List.mem_of_getElem? (i := 102) rfl)
theorem w103 {Z : State} {a0 : Array Value} (hw : ∀ d ∈ tables_1, d.before a0 Z = true) : (Jvm.Cond.laysFinal "com/example/veilcommit/veilcommit/oram/BucketTable" "com/example/veilcommit/veilcommit/oram/BucketTable" "shape" "Lcom/example/veilcommit/veilcommit/oram/TreeShape;").before a0 Z = true := hw _ (List.mem_of_getElem? (i := 103) rfl)
theorem w104 {Z : State} {a0 : Array Value} (hw : ∀ d ∈ tables_1, d.before a0 Z = true) : (Jvm.Cond.methodLink "com/example/veilcommit/veilcommit/oram/BucketTable" (27 : Nat) ({ cls := "com/example/veilcommit/veilcommit/oram/TreeShape", name := "buckets", desc := "()I" } : Jvm.MethodName)).before a0 Z = true := hw _ (List.mem_of_getElem? (i := 104) rfl)
theorem w105 {Z : State} {a0 : Array Value} (hw : ∀ d ∈ tables_1, d.before a0 Z = true) : (Jvm.Cond.declares ({ cls := "com/example/veilcommit/veilcommit/oram/TreeShape", name := "buckets", desc := "()I" } : Jvm.MethodName)).before a0 Z = true := hw _ (List.mem_of_getElem? (i := 105) rfl)
theorem w106 {Z : State} {a0 : Array Value} (hw : ∀ d ∈ tables_1, d.before a0 Z = true) : (Jvm.Cond.instanceMethod ({ cls := "com/example/veilcommit/veilcommit/oram/TreeShape", name := "buckets", desc := "()I" } : Jvm.MethodName)).before a0 Z = true := hw _ (List.mem_of_getElem? (i := 106) rfl)
theorem w107 {Z : State} {a0 : Array Value} (hw : ∀ d ∈ tables_1, d.before a0 Z = true) : (Jvm.Cond.selects "com/example/veilcommit/veilcommit/oram/TreeShape" ({ cls := "com/example/veilcommit/veilcommit/oram/TreeShape", name := "buckets", desc := "()I" } : Jvm.MethodName) ({ cls := "com/example/veilcommit/veilcommit/oram/TreeShape", name := "buckets", desc := "()I" } : Jvm.MethodName)).before a0 Z = true := hw _ (List.mem_of_getElem? (i := 107) rfl)
theorem w108 {Z : State} {a0 : Array Value} (hw : ∀ d ∈ tables_1, d.before a0 Z = true) : (Jvm.Cond.code ({ cls := "com/example/veilcommit/veilcommit/oram/TreeShape", name := "buckets", desc := "()I" } : Jvm.MethodName) prog_139_method_5_code (1 : Nat) (Option.some Jvm.ClassFile.FieldType.int)).before a0 Z = true := hw _ (List.mem_of_getElem? (i := 108) rfl)
theorem w109 {Z : State} {a0 : Array Value} (hw : ∀ d ∈ tables_1, d.before a0 Z = true) : (Jvm.Cond.methodLink "com/example/veilcommit/veilcommit/oram/TreeShape" (68 : Nat) ({ cls := "com/example/veilcommit/veilcommit/oram/TreeShape", name := "leaves", desc := "()I" } : Jvm.MethodName)).before a0 Z = true := hw _ (List.mem_of_getElem? (i := 109) rfl)
theorem w110 {Z : State} {a0 : Array Value} (hw : ∀ d ∈ tables_1, d.before a0 Z = true) : (Jvm.Cond.declares ({ cls := "com/example/veilcommit/veilcommit/oram/TreeShape", name := "leaves", desc := "()I" } : Jvm.MethodName)).before a0 Z = true := hw _ (List.mem_of_getElem? (i := 110) rfl)
theorem w111 {Z : State} {a0 : Array Value} (hw : ∀ d ∈ tables_1, d.before a0 Z = true) : (Jvm.Cond.instanceMethod ({ cls := "com/example/veilcommit/veilcommit/oram/TreeShape", name := "leaves", desc := "()I" } : Jvm.MethodName)).before a0 Z = true := hw _ (List.mem_of_getElem? (i := 111) rfl)
theorem w112 {Z : State} {a0 : Array Value} (hw : ∀ d ∈ tables_1, d.before a0 Z = true) : (Jvm.Cond.selects "com/example/veilcommit/veilcommit/oram/TreeShape" ({ cls := "com/example/veilcommit/veilcommit/oram/TreeShape", name := "leaves", desc := "()I" } : Jvm.MethodName) ({ cls := "com/example/veilcommit/veilcommit/oram/TreeShape", name := "leaves", desc := "()I" } : Jvm.MethodName)).before a0 Z = true := hw _ (List.mem_of_getElem? (i := 112) rfl)
theorem w113 {Z : State} {a0 : Array Value} (hw : ∀ d ∈ tables_1, d.before a0 Z = true) : (Jvm.Cond.code ({ cls := "com/example/veilcommit/veilcommit/oram/TreeShape", name := "leaves", desc := "()I" } : Jvm.MethodName) prog_139_method_2_code (1 : Nat) (Option.some Jvm.ClassFile.FieldType.int)).before a0 Z = true := hw _ (List.mem_of_getElem? (i := 113) rfl)
theorem w114 {Z : State} {a0 : Array Value} (hw : ∀ d ∈ tables_1, d.before a0 Z = true) : (Jvm.Cond.methodLink "com/example/veilcommit/veilcommit/oram/BucketTable" (33 : Nat) ({ cls := "com/example/veilcommit/veilcommit/oram/TreeShape", name := "z", desc := "()I" } : Jvm.MethodName)).before a0 Z = true := hw _ (List.mem_of_getElem? (i := 114) rfl)
theorem w115 {Z : State} {a0 : Array Value} (hw : ∀ d ∈ tables_1, d.before a0 Z = true) : (Jvm.Cond.declares ({ cls := "com/example/veilcommit/veilcommit/oram/TreeShape", name := "z", desc := "()I" } : Jvm.MethodName)).before a0 Z = true := hw _ (List.mem_of_getElem? (i := 115) rfl)
theorem w116 {Z : State} {a0 : Array Value} (hw : ∀ d ∈ tables_1, d.before a0 Z = true) : (Jvm.Cond.instanceMethod ({ cls := "com/example/veilcommit/veilcommit/oram/TreeShape", name := "z", desc := "()I" } : Jvm.MethodName)).before a0 Z = true := hw _ (List.mem_of_getElem? (i := 116) rfl)
theorem w117 {Z : State} {a0 : Array Value} (hw : ∀ d ∈ tables_1, d.before a0 Z = true) : (Jvm.Cond.selects "com/example/veilcommit/veilcommit/oram/TreeShape" ({ cls := "com/example/veilcommit/veilcommit/oram/TreeShape", name := "z", desc := "()I" } : Jvm.MethodName) ({ cls := "com/example/veilcommit/veilcommit/oram/TreeShape", name := "z", desc := "()I" } : Jvm.MethodName)).before a0 Z = true := hw _ (List.mem_of_getElem? (i := 117) rfl)
theorem w118 {Z : State} {a0 : Array Value} (hw : ∀ d ∈ tables_1, d.before a0 Z = true) : (Jvm.Cond.code ({ cls := "com/example/veilcommit/veilcommit/oram/TreeShape", name := "z", desc := "()I" } : Jvm.MethodName) prog_139_method_27_code (1 : Nat) (Option.some Jvm.ClassFile.FieldType.int)).before a0 Z = true := hw _ (List.mem_of_getElem? (i := 118) rfl)
theorem w119 {Z : State} {a0 : Array Value} (hw : ∀ d ∈ tables_1, d.before a0 Z = true) : (Jvm.Cond.fieldLink "com/example/veilcommit/veilcommit/oram/BucketTable" (36 : Nat) "com/example/veilcommit/veilcommit/oram/BucketTable" "realSlots" "[I").before a0 Z = true := hw _ (List.mem_of_getElem? (i := 119) rfl)
theorem w120 {Z : State} {a0 : Array Value} (hw : ∀ d ∈ tables_1, d.before a0 Z = true) : (Jvm.Cond.laysFinal "com/example/veilcommit/veilcommit/oram/BucketTable" "com/example/veilcommit/veilcommit/oram/BucketTable" "realSlots" "[I").before a0 Z = true := hw _ (List.mem_of_getElem? (i := 120) rfl)
theorem w121 {Z : State} {a0 : Array Value} (hw : ∀ d ∈ tables_1, d.before a0 Z = true) : (Jvm.Cond.fieldLink "com/example/veilcommit/veilcommit/oram/BucketTable" (39 : Nat) "com/example/veilcommit/veilcommit/oram/BucketTable" "realIds" "[I").before a0 Z = true := hw _ (List.mem_of_getElem? (i := 121) rfl)
theorem w122 {Z : State} {a0 : Array Value} (hw : ∀ d ∈ tables_1, d.before a0 Z = true) : (Jvm.Cond.laysFinal "com/example/veilcommit/veilcommit/oram/BucketTable" "com/example/veilcommit/veilcommit/oram/BucketTable" "realIds" "[I").before a0 Z = true := hw _ (List.mem_of_getElem? (i := 122) rfl)
theorem w123 {Z : State} {a0 : Array Value} (hw : ∀ d ∈ tables_1, d.before a0 Z = true) : (Jvm.Cond.fieldLink "com/example/veilcommit/veilcommit/oram/BucketTable" (44 : Nat) "com/example/veilcommit/veilcommit/oram/BucketTable" "older" "[J").before a0 Z = true := hw _ (List.mem_of_getElem? (i := 123) rfl)
theorem w124 {Z : State} {a0 : Array Value} (hw : ∀ d ∈ tables_1, d.before a0 Z = true) : (Jvm.Cond.laysFinal "com/example/veilcommit/veilcommit/oram/BucketTable" "com/example/veilcommit/veilcommit/oram/BucketTable" "older" "[J").before a0 Z = true := hw _ (List.mem_of_getElem? (i := 124) rfl)
theorem w125 {Z : State} {a0 : Array Value} (hw : ∀ d ∈ tables_1, d.before a0 Z = true) : (Jvm.Cond.methodLink "com/example/veilcommit/veilcommit/oram/BucketTable" (48 : Nat) ({ cls := "com/example/veilcommit/veilcommit/oram/TreeShape", name := "capacity", desc := "()I" } : Jvm.MethodName)).before a0 Z = true := hw _ (List.mem_of_getElem? (i := 125) rfl)
theorem w126 {Z : State} {a0 : Array Value} (hw : ∀ d ∈ tables_1, d.before a0 Z = true) : (Jvm.Cond.declares ({ cls := "com/example/veilcommit/veilcommit/oram/TreeShape", name := "capacity", desc := "()I" } : Jvm.MethodName)).before a0 Z = true := hw _ (List.mem_of_getElem? (i := 126) rfl)
theorem w127 {Z : State} {a0 : Array Value} (hw : ∀ d ∈ tables_1, d.before a0 Z = true) : (Jvm.Cond.instanceMethod ({ cls := "com/example/veilcommit/veilcommit/oram/TreeShape", name := "capacity", desc := "()I" } : Jvm.MethodName)).before a0 Z = true := hw _ (List.mem_of_getElem? (i := 127) rfl)
theorem w128 {Z : State} {a0 : Array Value} (hw : ∀ d ∈ tables_1, d.before a0 Z = true) : (Jvm.Cond.selects "com/example/veilcommit/veilcommit/oram/TreeShape" ({ cls := "com/example/veilcommit/veilcommit/oram/TreeShape", name := "capacity", desc := "()I" } : Jvm.MethodName) ({ cls := "com/example/veilcommit/veilcommit/oram/TreeShape", name := "capacity", desc := "()I" } : Jvm.MethodName)).before a0 Z = true := hw _ (List.mem_of_getElem? (i := 128) rfl)
theorem w129 {Z : State} {a0 : Array Value} (hw : ∀ d ∈ tables_1, d.before a0 Z = true) : (Jvm.Cond.code ({ cls := "com/example/veilcommit/veilcommit/oram/TreeShape", name := "capacity", desc := "()I" } : Jvm.MethodName) prog_139_method_25_code (1 : Nat) (Option.some Jvm.ClassFile.FieldType.int)).before a0 Z = true := hw _ (List.mem_of_getElem? (i := 129) rfl)
theorem w130 {Z : State} {a0 : Array Value} (hw : ∀ d ∈ tables_1, d.before a0 Z = true) : (Jvm.Cond.fieldLink "com/example/veilcommit/veilcommit/oram/BucketTable" (51 : Nat) "com/example/veilcommit/veilcommit/oram/BucketTable" "currentEntries" "[I").before a0 Z = true := hw _ (List.mem_of_getElem? (i := 130) rfl)
theorem w131 {Z : State} {a0 : Array Value} (hw : ∀ d ∈ tables_1, d.before a0 Z = true) : (Jvm.Cond.laysFinal "com/example/veilcommit/veilcommit/oram/BucketTable" "com/example/veilcommit/veilcommit/oram/BucketTable" "currentEntries" "[I").before a0 Z = true := hw _ (List.mem_of_getElem? (i := 131) rfl)
theorem w132 {Z : State} {a0 : Array Value} (hw : ∀ d ∈ tables_1, d.before a0 Z = true) : (Jvm.Cond.methodLink "com/example/veilcommit/veilcommit/oram/BucketTable" (54 : Nat) ({ cls := "com/example/veilcommit/veilcommit/oram/TreeShape", name := "slotsPerBucket", desc := "()I" } : Jvm.MethodName)).before a0 Z = true := hw _ (List.mem_of_getElem? (i := 132) rfl)
theorem w133 {Z : State} {a0 : Array Value} (hw : ∀ d ∈ tables_1, d.before a0 Z = true) : (Jvm.Cond.declares ({ cls := "com/example/veilcommit/veilcommit/oram/TreeShape", name := "slotsPerBucket", desc := "()I" } : Jvm.MethodName)).before a0 Z = true := hw _ (List.mem_of_getElem? (i := 133) rfl)
theorem w134 {Z : State} {a0 : Array Value} (hw : ∀ d ∈ tables_1, d.before a0 Z = true) : (Jvm.Cond.instanceMethod ({ cls := "com/example/veilcommit/veilcommit/oram/TreeShape", name := "slotsPerBucket", desc := "()I" } : Jvm.MethodName)).before a0 Z = true := hw _ (List.mem_of_getElem? (i := 134) rfl)
theorem w135 {Z : State} {a0 : Array Value} (hw : ∀ d ∈ tables_1, d.before a0 Z = true) : (Jvm.Cond.selects "com/example/veilcommit/veilcommit/oram/TreeShape" ({ cls := "com/example/veilcommit/veilcommit/oram/TreeShape", name := "slotsPerBucket", desc := "()I" } : Jvm.MethodName) ({ cls := "com/example/veilcommit/veilcommit/oram/TreeShape", name := "slotsPerBucket", desc := "()I" } : Jvm.MethodName)).before a0 Z = true := hw _ (List.mem_of_getElem? (i := 135) rfl)
theorem w136 {Z : State} {a0 : Array Value} (hw : ∀ d ∈ tables_1, d.before a0 Z = true) : (Jvm.Cond.code ({ cls := "com/example/veilcommit/veilcommit/oram/TreeShape", name := "slotsPerBucket", desc := "()I" } : Jvm.MethodName) prog_139_method_6_code (1 : Nat) (Option.some Jvm.ClassFile.FieldType.int)).before a0 Z = true := hw _ (List.mem_of_getElem? (i := 136) rfl)
theorem w137 {Z : State} {a0 : Array Value} (hw : ∀ d ∈ tables_1, d.before a0 Z = true) : (Jvm.Cond.fieldLink "com/example/veilcommit/veilcommit/oram/BucketTable" (57 : Nat) "com/example/veilcommit/veilcommit/oram/BucketTable" "words" "I").before a0 Z = true := hw _ (List.mem_of_getElem? (i := 137) rfl)
theorem w138 {Z : State} {a0 : Array Value} (hw : ∀ d ∈ tables_1, d.before a0 Z = true) : (Jvm.Cond.laysFinal "com/example/veilcommit/veilcommit/oram/BucketTable" "com/example/veilcommit/veilcommit/oram/BucketTable" "words" "I").before a0 Z = true := hw _ (List.mem_of_getElem? (i := 138) rfl)
theorem w139 {Z : State} {a0 : Array Value} (hw : ∀ d ∈ tables_1, d.before a0 Z = true) : (Jvm.Cond.fieldLink "com/example/veilcommit/veilcommit/oram/BucketTable" (61 : Nat) "com/example/veilcommit/veilcommit/oram/BucketTable" "read" "[J").before a0 Z = true := hw _ (List.mem_of_getElem? (i := 139) rfl)
theorem w140 {Z : State} {a0 : Array Value} (hw : ∀ d ∈ tables_1, d.before a0 Z = true) : (Jvm.Cond.laysFinal "com/example/veilcommit/veilcommit/oram/BucketTable" "com/example/veilcommit/veilcommit/oram/BucketTable" "read" "[J").before a0 Z = true := hw _ (List.mem_of_getElem? (i := 140) rfl)
theorem w141 {Z : State} {a0 : Array Value} (hw : ∀ d ∈ tables_1, d.before a0 Z = true) : (Jvm.Cond.fieldLink "com/example/veilcommit/veilcommit/oram/BucketTable" (64 : Nat) "com/example/veilcommit/veilcommit/oram/BucketTable" "listed" "[J").before a0 Z = true := hw _ (List.mem_of_getElem? (i := 141) rfl)
theorem w142 {Z : State} {a0 : Array Value} (hw : ∀ d ∈ tables_1, d.before a0 Z = true) : (Jvm.Cond.laysFinal "com/example/veilcommit/veilcommit/oram/BucketTable" "com/example/veilcommit/veilcommit/oram/BucketTable" "listed" "[J").before a0 Z = true := hw _ (List.mem_of_getElem? (i := 142) rfl)
theorem w143 {Z : State} {a0 : Array Value} (hw : ∀ d ∈ tables_1, d.before a0 Z = true) : (Jvm.Cond.fieldLink "com/example/veilcommit/veilcommit/oram/BucketTable" (67 : Nat) "com/example/veilcommit/veilcommit/oram/BucketTable" "readCounts" "[I").before a0 Z = true := hw _ (List.mem_of_getElem? (i := 143) rfl)
theorem w144 {Z : State} {a0 : Array Value} (hw : ∀ d ∈ tables_1, d.before a0 Z = true) : (Jvm.Cond.laysFinal "com/example/veilcommit/veilcommit/oram/BucketTable" "com/example/veilcommit/veilcommit/oram/BucketTable" "readCounts" "[I").before a0 Z = true := hw _ (List.mem_of_getElem? (i := 144) rfl)
theorem w145 {Z : State} {a0 : Array Value} (hw : ∀ d ∈ tables_1, d.before a0 Z = true) : (Jvm.Cond.fieldLink "com/example/veilcommit/veilcommit/oram/BucketTable" (70 : Nat) "com/example/veilcommit/veilcommit/oram/BucketTable" "writes" "[J").before a0 Z = true := hw _ (List.mem_of_getElem? (i := 145) rfl)
theorem w146 {Z : State} {a0 : Array Value} (hw : ∀ d ∈ tables_1, d.before a0 Z = true) : (Jvm.Cond.laysFinal "com/example/veilcommit/veilcommit/oram/BucketTable" "com/example/veilcommit/veilcommit/oram/BucketTable" "writes" "[J").before a0 Z = true := hw _ (List.mem_of_getElem? (i := 146) rfl)
theorem w147 {Z : State} {a0 : Array Value} (hw : ∀ d ∈ tables_1, d.before a0 Z = true) : (Jvm.Cond.fieldLink "com/example/veilcommit/veilcommit/oram/BucketTable" (73 : Nat) "com/example/veilcommit/veilcommit/oram/BucketTable" "tags" "[J").before a0 Z = true := hw _ (List.mem_of_getElem? (i := 147) rfl)
theorem w148 {Z : State} {a0 : Array Value} (hw : ∀ d ∈ tables_1, d.before a0 Z = true) : (Jvm.Cond.laysFinal "com/example/veilcommit/veilcommit/oram/BucketTable" "com/example/veilcommit/veilcommit/oram/BucketTable" "tags" "[J").before a0 Z = true := hw _ (List.mem_of_getElem? (i := 148) rfl)
theorem w149 {Z : State} {a0 : Array Value} (hw : ∀ d ∈ tables_1, d.before a0 Z = true) : (Jvm.Cond.methodLink "com/example/veilcommit/veilcommit/oram/BucketTable" (76 : Nat) ({ cls := "java/util/Arrays", name := "fill", desc := "([II)V" } : Jvm.MethodName)).before a0 Z = true := hw _ (List.mem_of_getElem? (i := 149) rfl)
theorem w150 {Z : State} {a0 : Array Value} (hw : ∀ d ∈ tables_1, d.before a0 Z = true) : (Jvm.Cond.static ({ cls := "java/util/Arrays", name := "fill", desc := "([II)V" } : Jvm.MethodName)).before a0 Z = true := hw _ (List.mem_of_getElem? (i := 150) rfl)
theorem w151 {Z : State} {a0 : Array Value} (hw : ∀ d ∈ tables_1, d.before a0 Z = true) : (Jvm.Cond.initialized "java/util/Arrays").before a0 Z = true := hw _ (List.mem_of_getElem? (i := 151) rfl)
theorem w152 {Z : State} {a0 : Array Value} (hw : ∀ d ∈ tables_1, d.before a0 Z = true) : (Jvm.Cond.code ({ cls := "java/util/Arrays", name := "fill", desc := "([II)V" } : Jvm.MethodName) jdk_65_method_103_code (4 : Nat) (Option.none : Option Jvm.ClassFile.FieldType)).before a0 Z = true := hw _ (List.mem_of_getElem? (i := 152) rfl)
theorem w153 {Z : State} {a0 : Array Value} (hw : ∀ d ∈ tables_1, d.before a0 Z = true) : (Jvm.Cond.fieldLink "com/example/veilcommit/veilcommit/oram/BucketTable" (82 : Nat) "com/example/veilcommit/veilcommit/oram/BucketTable" "indexed" "Z").before a0 Z = true := hw _ (List.mem_of_getElem? (i := 153) rfl)
theorem w154 {Z : State} {a0 : Array Value} (hw : ∀ d ∈ tables_1, d.before a0 Z = true) : (Jvm.Cond.lays "com/example/veilcommit/veilcommit/oram/BucketTable" "com/example/veilcommit/veilcommit/oram/BucketTable" "indexed" "Z").before a0 Z = true := hw _ (List.mem_of_getElem? (i := 154) rfl)
theorem w155 {Z : State} {a0 : Array Value} (hw : ∀ d ∈ tables_1, d.before a0 Z = true) : (Jvm.Cond.methodLink "com/example/veilcommit/veilcommit/oram/BucketTableWasReadPinLaw" (18 : Nat) ({ cls := "com/example/veilcommit/veilcommit/oram/BucketTable", name := "wasRead", desc := "(II)Z" } : Jvm.MethodName)).before a0 Z = true := hw _ (List.mem_of_getElem? (i := 155) rfl)
theorem w156 {Z : State} {a0 : Array Value} (hw : ∀ d ∈ tables_1, d.before a0 Z = true) : (Jvm.Cond.declares ({ cls := "com/example/veilcommit/veilcommit/oram/BucketTable", name := "wasRead", desc := "(II)Z" } : Jvm.MethodName)).before a0 Z = true := hw _ (List.mem_of_getElem? (i := 156) rfl)
theorem w157 {Z : State} {a0 : Array Value} (hw : ∀ d ∈ tables_1, d.before a0 Z = true) : (Jvm.Cond.instanceMethod ({ cls := "com/example/veilcommit/veilcommit/oram/BucketTable", name := "wasRead", desc := "(II)Z" } : Jvm.MethodName)).before a0 Z = true := hw _ (List.mem_of_getElem? (i := 157) rfl)
theorem w158 {Z : State} {a0 : Array Value} (hw : ∀ d ∈ tables_1, d.before a0 Z = true) : (Jvm.Cond.selects "com/example/veilcommit/veilcommit/oram/BucketTable" ({ cls := "com/example/veilcommit/veilcommit/oram/BucketTable", name := "wasRead", desc := "(II)Z" } : Jvm.MethodName) ({ cls := "com/example/veilcommit/veilcommit/oram/BucketTable", name := "wasRead", desc := "(II)Z" } : Jvm.MethodName)).before a0 Z = true := hw _ (List.mem_of_getElem? (i := 158) rfl)
theorem w159 {Z : State} {a0 : Array Value} (hw : ∀ d ∈ tables_1, d.before a0 Z = true) : (Jvm.Cond.code ({ cls := "com/example/veilcommit/veilcommit/oram/BucketTable", name := "wasRead", desc := "(II)Z" } : Jvm.MethodName) prog_103_method_9_code (3 : Nat) (Option.some Jvm.ClassFile.FieldType.boolean)).before a0 Z = true := hw _ (List.mem_of_getElem? (i := 159) rfl)
theorem w160 {Z : State} {a0 : Array Value} (hw : ∀ d ∈ tables_1, d.before a0 Z = true) : (Jvm.Cond.methodLink "com/example/veilcommit/veilcommit/oram/BucketTableWasReadPinLaw" (22 : Nat) ({ cls := "com/example/veilcommit/veilcommit/oram/BucketTable", name := "markRead", desc := "(II)V" } : Jvm.MethodName)).before a0 Z = true := hw _ (List.mem_of_getElem? (i := 160) rfl)
theorem w161 {Z : State} {a0 : Array Value} (hw : ∀ d ∈ tables_1, d.before a0 Z = true) : (Jvm.Cond.declares ({ cls := "com/example/veilcommit/veilcommit/oram/BucketTable", name := "markRead", desc := "(II)V" } : Jvm.MethodName)).before a0 Z = true := hw _ (List.mem_of_getElem? (i := 161) rfl)
theorem w162 {Z : State} {a0 : Array Value} (hw : ∀ d ∈ tables_1, d.before a0 Z = true) : (Jvm.Cond.instanceMethod ({ cls := "com/example/veilcommit/veilcommit/oram/BucketTable", name := "markRead", desc := "(II)V" } : Jvm.MethodName)).before a0 Z = true := hw _ (List.mem_of_getElem? (i := 162) rfl)
theorem w163 {Z : State} {a0 : Array Value} (hw : ∀ d ∈ tables_1, d.before a0 Z = true) : (Jvm.Cond.selects "com/example/veilcommit/veilcommit/oram/BucketTable" ({ cls := "com/example/veilcommit/veilcommit/oram/BucketTable", name := "markRead", desc := "(II)V" } : Jvm.MethodName) ({ cls := "com/example/veilcommit/veilcommit/oram/BucketTable", name := "markRead", desc := "(II)V" } : Jvm.MethodName)).before a0 Z = true := hw _ (List.mem_of_getElem? (i := 163) rfl)
theorem w164 {Z : State} {a0 : Array Value} (hw : ∀ d ∈ tables_1, d.before a0 Z = true) : (Jvm.Cond.code ({ cls := "com/example/veilcommit/veilcommit/oram/BucketTable", name := "markRead", desc := "(II)V" } : Jvm.MethodName) prog_103_method_7_code (3 : Nat) (Option.none : Option Jvm.ClassFile.FieldType)).before a0 Z = true := hw _ (List.mem_of_getElem? (i := 164) rfl)
theorem w165 {Z : State} {a0 : Array Value} (hw : ∀ d ∈ tables_1, d.before a0 Z = true) : (Jvm.Cond.fieldLink "com/example/veilcommit/veilcommit/oram/BucketTable" (131 : Nat) "com/example/veilcommit/veilcommit/oram/BucketTable" "pathReadCount" "I").before a0 Z = true := hw _ (List.mem_of_getElem? (i := 165) rfl)
theorem w166 {Z : State} {a0 : Array Value} (hw : ∀ d ∈ tables_1, d.before a0 Z = true) : (Jvm.Cond.lays "com/example/veilcommit/veilcommit/oram/BucketTable" "com/example/veilcommit/veilcommit/oram/BucketTable" "pathReadCount" "I").before a0 Z = true := hw _ (List.mem_of_getElem? (i := 166) rfl)
theorem w167 {Z : State} {a0 : Array Value} (hw : ∀ d ∈ tables_1, d.before a0 Z = true) : (Jvm.Cond.methodLink "com/example/veilcommit/veilcommit/oram/BucketTable" (134 : Nat) ({ cls := "java/lang/Math", name := "max", desc := "(II)I" } : Jvm.MethodName)).before a0 Z = true := hw _ (List.mem_of_getElem? (i := 167) rfl)
theorem w168 {Z : State} {a0 : Array Value} (hw : ∀ d ∈ tables_1, d.before a0 Z = true) : (Jvm.Cond.static ({ cls := "java/lang/Math", name := "max", desc := "(II)I" } : Jvm.MethodName)).before a0 Z = true := hw _ (List.mem_of_getElem? (i := 168) rfl)
theorem w169 {Z : State} {a0 : Array Value} (hw : ∀ d ∈ tables_1, d.before a0 Z = true) : (Jvm.Cond.code ({ cls := "java/lang/Math", name := "max", desc := "(II)I" } : Jvm.MethodName) jdk_29_method_65_code (2 : Nat) (Option.some Jvm.ClassFile.FieldType.int)).before a0 Z = true := hw _ (List.mem_of_getElem? (i := 169) rfl)
theorem w170 {Z : State} {a0 : Array Value} (hw : ∀ d ∈ tables_1, d.before a0 Z = true) : (Jvm.Cond.methodLink "com/example/veilcommit/veilcommit/oram/BucketTable" (139 : Nat) ({ cls := "java/util/Arrays", name := "copyOf", desc := "([II)[I" } : Jvm.MethodName)).before a0 Z = true := hw _ (List.mem_of_getElem? (i := 170) rfl)
theorem w171 {Z : State} {a0 : Array Value} (hw : ∀ d ∈ tables_1, d.before a0 Z = true) : (Jvm.Cond.static ({ cls := "java/util/Arrays", name := "copyOf", desc := "([II)[I" } : Jvm.MethodName)).before a0 Z = true := hw _ (List.mem_of_getElem? (i := 171) rfl)
theorem w172 {Z : State} {a0 : Array Value} (hw : ∀ d ∈ tables_1, d.before a0 Z = true) : (Jvm.Cond.code ({ cls := "java/util/Arrays", name := "copyOf", desc := "([II)[I" } : Jvm.MethodName) jdk_65_method_123_code (3 : Nat) (Option.some (Jvm.ClassFile.FieldType.array Jvm.ClassFile.FieldType.int))).before a0 Z = true := hw _ (List.mem_of_getElem? (i := 172) rfl)
theorem w173 {Z : State} {a0 : Array Value} (hw : ∀ d ∈ tables_1, d.before a0 Z = true) : (Jvm.Cond.methodLink "java/util/Arrays" (304 : Nat) ({ cls := "java/lang/Math", name := "min", desc := "(II)I" } : Jvm.MethodName)).before a0 Z = true := hw _ (List.mem_of_getElem? (i := 173) rfl)
theorem w174 {Z : State} {a0 : Array Value} (hw : ∀ d ∈ tables_1, d.before a0 Z = true) : (Jvm.Cond.static ({ cls := "java/lang/Math", name := "min", desc := "(II)I" } : Jvm.MethodName)).before a0 Z = true := hw _ (List.mem_of_getElem? (i := 174) rfl)
theorem w175 {Z : State} {a0 : Array Value} (hw : ∀ d ∈ tables_1, d.before a0 Z = true) : (Jvm.Cond.code ({ cls := "java/lang/Math", name := "min", desc := "(II)I" } : Jvm.MethodName) jdk_29_method_69_code (2 : Nat) (Option.some Jvm.ClassFile.FieldType.int)).before a0 Z = true := hw _ (List.mem_of_getElem? (i := 175) rfl)
theorem w176 {Z : State} {a0 : Array Value} (hw : ∀ d ∈ tables_1, d.before a0 Z = true) : (Jvm.Cond.methodLink "java/util/Arrays" (150 : Nat) ({ cls := "java/lang/System", name := "arraycopy", desc := "(Ljava/lang/Object;ILjava/lang/Object;II)V" } : Jvm.MethodName)).before a0 Z = true := hw _ (List.mem_of_getElem? (i := 176) rfl)
theorem w177 {Z : State} {a0 : Array Value} (hw : ∀ d ∈ tables_1, d.before a0 Z = true) : (Jvm.Cond.static ({ cls := "java/lang/System", name := "arraycopy", desc := "(Ljava/lang/Object;ILjava/lang/Object;II)V" } : Jvm.MethodName)).before a0 Z = true := hw _ (List.mem_of_getElem? (i := 177) rfl)
theorem w178 {Z : State} {a0 : Array Value} (hw : ∀ d ∈ tables_1, d.before a0 Z = true) : (Jvm.Cond.initialized "java/lang/System").before a0 Z = true := hw _ (List.mem_of_getElem? (i := 178) rfl)
theorem w179 {Z : State} {a0 : Array Value} (hw : ∀ d ∈ tables_1, d.before a0 Z = true) : (Jvm.Cond.native ({ cls := "java/lang/System", name := "arraycopy", desc := "(Ljava/lang/Object;ILjava/lang/Object;II)V" } : Jvm.MethodName)).before a0 Z = true := hw _ (List.mem_of_getElem? (i := 179) rfl)
theorem w180 {Z : State} {a0 : Array Value} (hw : ∀ d ∈ tables_1, d.before a0 Z = true) : (Jvm.Cond.methodLink "com/example/veilcommit/veilcommit/oram/BucketTable" (143 : Nat) ({ cls := "com/example/veilcommit/veilcommit/oram/BucketTable", name := "takeRead", desc := "(II)V" } : Jvm.MethodName)).before a0 Z = true := hw _ (List.mem_of_getElem? (i := 180) rfl)
theorem w181 {Z : State} {a0 : Array Value} (hw : ∀ d ∈ tables_1, d.before a0 Z = true) : (Jvm.Cond.instanceMethod ({ cls := "com/example/veilcommit/veilcommit/oram/BucketTable", name := "takeRead", desc := "(II)V" } : Jvm.MethodName)).before a0 Z = true := hw _ (List.mem_of_getElem? (i := 181) rfl)
theorem w182 {Z : State} {a0 : Array Value} (hw : ∀ d ∈ tables_1, d.before a0 Z = true) : (Jvm.Cond.privateMethod ({ cls := "com/example/veilcommit/veilcommit/oram/BucketTable", name := "takeRead", desc := "(II)V" } : Jvm.MethodName)).before a0 Z = true := hw _ (List.mem_of_getElem? (i := 182) rfl)
theorem w183 {Z : State} {a0 : Array Value} (hw : ∀ d ∈ tables_1, d.before a0 Z = true) : (Jvm.Cond.code ({ cls := "com/example/veilcommit/veilcommit/oram/BucketTable", name := "takeRead", desc := "(II)V" } : Jvm.MethodName) prog_103_method_8_code (4 : Nat) (Option.none : Option Jvm.ClassFile.FieldType)).before a0 Z = true := hw _ (List.mem_of_getElem? (i := 183) rfl)
theorem w184 {Z : State} {a0 : Array Value} (hw : ∀ d ∈ tables_1, d.before a0 Z = true) : (Jvm.Cond.methodLink "com/example/veilcommit/veilcommit/oram/BucketTable" (98 : Nat) ({ cls := "com/example/veilcommit/veilcommit/oram/BucketTable", name := "entryOf", desc := "(II)I" } : Jvm.MethodName)).before a0 Z = true := hw _ (List.mem_of_getElem? (i := 184) rfl)
theorem w185 {Z : State} {a0 : Array Value} (hw : ∀ d ∈ tables_1, d.before a0 Z = true) : (Jvm.Cond.instanceMethod ({ cls := "com/example/veilcommit/veilcommit/oram/BucketTable", name := "entryOf", desc := "(II)I" } : Jvm.MethodName)).before a0 Z = true := hw _ (List.mem_of_getElem? (i := 185) rfl)
theorem w186 {Z : State} {a0 : Array Value} (hw : ∀ d ∈ tables_1, d.before a0 Z = true) : (Jvm.Cond.privateMethod ({ cls := "com/example/veilcommit/veilcommit/oram/BucketTable", name := "entryOf", desc := "(II)I" } : Jvm.MethodName)).before a0 Z = true := hw _ (List.mem_of_getElem? (i := 186) rfl)
theorem w187 {Z : State} {a0 : Array Value} (hw : ∀ d ∈ tables_1, d.before a0 Z = true) : (Jvm.Cond.code ({ cls := "com/example/veilcommit/veilcommit/oram/BucketTable", name := "entryOf", desc := "(II)I" } : Jvm.MethodName) prog_103_method_20_code (4 : Nat) (Option.some Jvm.ClassFile.FieldType.int)).before a0 Z = true := hw _ (List.mem_of_getElem? (i := 187) rfl)
theorem pd_0 : parseMethodDescriptor "(I)I" = some ⟨[.int], some (.int)⟩ := by decide +kernel
theorem pd_1 : parseMethodDescriptor "(JJ)J" = some ⟨[.long, .long], some (.long)⟩ := by decide +kernel
theorem pd_2 : parseMethodDescriptor "()V" = some ⟨[], none⟩ := by decide +kernel
theorem pd_3 : parseMethodDescriptor "(Ljava/lang/String;III)V" = some ⟨[.object "java/lang/String", .int, .int, .int], none⟩ := by decide +kernel
theorem pd_4 : parseMethodDescriptor "(II)I" = some ⟨[.int, .int], some (.int)⟩ := by decide +kernel
theorem pd_5 : parseMethodDescriptor "(II)J" = some ⟨[.int, .int], some (.long)⟩ := by decide +kernel
theorem pd_6 : parseMethodDescriptor "()I" = some ⟨[], some (.int)⟩ := by decide +kernel
theorem pd_7 : parseMethodDescriptor "(I)V" = some ⟨[.int], none⟩ := by decide +kernel
theorem pd_8 : parseMethodDescriptor "([II)V" = some ⟨[.array (.int), .int], none⟩ := by decide +kernel
theorem pd_9 : parseMethodDescriptor "(II)V" = some ⟨[.int, .int], none⟩ := by decide +kernel
theorem pd_10 : parseMethodDescriptor "([II)[I" = some ⟨[.array (.int), .int], some (.array (.int))⟩ := by decide +kernel
theorem pd_11 : parseMethodDescriptor "(II)Z" = some ⟨[.int, .int], some (.boolean)⟩ := by decide +kernel
theorem pd_12 : parseMethodDescriptor "(IIIII)V" = some ⟨[.int, .int, .int, .int, .int], none⟩ := by decide +kernel
theorem pd_13 : parseMethodDescriptor "(Lcom/example/veilcommit/veilcommit/oram/TreeShape;)V" = some ⟨[.object "com/example/veilcommit/veilcommit/oram/TreeShape"], none⟩ := by decide +kernel
theorem own_str {Z : State} {a0 : Array Value} (hw : ∀ d ∈ tables_1, d.before a0 Z = true) : ∀ a ∈ Bundle.stringAtoms, a.before a0 Z = true := by
  intro d hd
  simp only [Bundle.stringAtoms, List.mem_cons, List.not_mem_nil, or_false] at hd
  rcases hd with rfl | rfl | rfl | rfl | rfl | rfl | rfl
  · exact (w16 hw)
  · exact (w17 hw)
  · exact (w18 hw)
  · exact (w19 hw)
  · exact (w20 hw)
  · exact (w21 hw)
  · exact (w22 hw)
theorem sn_TreeShape_capacity_blockSize {Z : State} {a0 : Array Value} (hw : ∀ d ∈ tables_1, d.before a0 Z = true) : Jvm.RoadKit.slotOf Z "com/example/veilcommit/veilcommit/oram/TreeShape" "capacity" "I" ≠ Jvm.RoadKit.slotOf Z "com/example/veilcommit/veilcommit/oram/TreeShape" "blockSize" "I" := slot_ne (t := .int) (t' := .int) (C := "com/example/veilcommit/veilcommit/oram/TreeShape") (Or.inr (w57 hw)) (Or.inr (w59 hw)) (by decide) (by decide) (by decide)
theorem sn_TreeShape_capacity_z {Z : State} {a0 : Array Value} (hw : ∀ d ∈ tables_1, d.before a0 Z = true) : Jvm.RoadKit.slotOf Z "com/example/veilcommit/veilcommit/oram/TreeShape" "capacity" "I" ≠ Jvm.RoadKit.slotOf Z "com/example/veilcommit/veilcommit/oram/TreeShape" "z" "I" := slot_ne (t := .int) (t' := .int) (C := "com/example/veilcommit/veilcommit/oram/TreeShape") (Or.inr (w57 hw)) (Or.inr (w61 hw)) (by decide) (by decide) (by decide)
theorem sn_TreeShape_capacity_s {Z : State} {a0 : Array Value} (hw : ∀ d ∈ tables_1, d.before a0 Z = true) : Jvm.RoadKit.slotOf Z "com/example/veilcommit/veilcommit/oram/TreeShape" "capacity" "I" ≠ Jvm.RoadKit.slotOf Z "com/example/veilcommit/veilcommit/oram/TreeShape" "s" "I" := slot_ne (t := .int) (t' := .int) (C := "com/example/veilcommit/veilcommit/oram/TreeShape") (Or.inr (w57 hw)) (Or.inr (w63 hw)) (by decide) (by decide) (by decide)
theorem sn_TreeShape_capacity_a {Z : State} {a0 : Array Value} (hw : ∀ d ∈ tables_1, d.before a0 Z = true) : Jvm.RoadKit.slotOf Z "com/example/veilcommit/veilcommit/oram/TreeShape" "capacity" "I" ≠ Jvm.RoadKit.slotOf Z "com/example/veilcommit/veilcommit/oram/TreeShape" "a" "I" := slot_ne (t := .int) (t' := .int) (C := "com/example/veilcommit/veilcommit/oram/TreeShape") (Or.inr (w57 hw)) (Or.inr (w65 hw)) (by decide) (by decide) (by decide)
theorem sn_TreeShape_blockSize_capacity {Z : State} {a0 : Array Value} (hw : ∀ d ∈ tables_1, d.before a0 Z = true) : Jvm.RoadKit.slotOf Z "com/example/veilcommit/veilcommit/oram/TreeShape" "blockSize" "I" ≠ Jvm.RoadKit.slotOf Z "com/example/veilcommit/veilcommit/oram/TreeShape" "capacity" "I" := slot_ne (t := .int) (t' := .int) (C := "com/example/veilcommit/veilcommit/oram/TreeShape") (Or.inr (w59 hw)) (Or.inr (w57 hw)) (by decide) (by decide) (by decide)
theorem sn_TreeShape_blockSize_z {Z : State} {a0 : Array Value} (hw : ∀ d ∈ tables_1, d.before a0 Z = true) : Jvm.RoadKit.slotOf Z "com/example/veilcommit/veilcommit/oram/TreeShape" "blockSize" "I" ≠ Jvm.RoadKit.slotOf Z "com/example/veilcommit/veilcommit/oram/TreeShape" "z" "I" := slot_ne (t := .int) (t' := .int) (C := "com/example/veilcommit/veilcommit/oram/TreeShape") (Or.inr (w59 hw)) (Or.inr (w61 hw)) (by decide) (by decide) (by decide)
theorem sn_TreeShape_blockSize_s {Z : State} {a0 : Array Value} (hw : ∀ d ∈ tables_1, d.before a0 Z = true) : Jvm.RoadKit.slotOf Z "com/example/veilcommit/veilcommit/oram/TreeShape" "blockSize" "I" ≠ Jvm.RoadKit.slotOf Z "com/example/veilcommit/veilcommit/oram/TreeShape" "s" "I" := slot_ne (t := .int) (t' := .int) (C := "com/example/veilcommit/veilcommit/oram/TreeShape") (Or.inr (w59 hw)) (Or.inr (w63 hw)) (by decide) (by decide) (by decide)
theorem sn_TreeShape_blockSize_a {Z : State} {a0 : Array Value} (hw : ∀ d ∈ tables_1, d.before a0 Z = true) : Jvm.RoadKit.slotOf Z "com/example/veilcommit/veilcommit/oram/TreeShape" "blockSize" "I" ≠ Jvm.RoadKit.slotOf Z "com/example/veilcommit/veilcommit/oram/TreeShape" "a" "I" := slot_ne (t := .int) (t' := .int) (C := "com/example/veilcommit/veilcommit/oram/TreeShape") (Or.inr (w59 hw)) (Or.inr (w65 hw)) (by decide) (by decide) (by decide)
theorem sn_TreeShape_z_capacity {Z : State} {a0 : Array Value} (hw : ∀ d ∈ tables_1, d.before a0 Z = true) : Jvm.RoadKit.slotOf Z "com/example/veilcommit/veilcommit/oram/TreeShape" "z" "I" ≠ Jvm.RoadKit.slotOf Z "com/example/veilcommit/veilcommit/oram/TreeShape" "capacity" "I" := slot_ne (t := .int) (t' := .int) (C := "com/example/veilcommit/veilcommit/oram/TreeShape") (Or.inr (w61 hw)) (Or.inr (w57 hw)) (by decide) (by decide) (by decide)
theorem sn_TreeShape_z_blockSize {Z : State} {a0 : Array Value} (hw : ∀ d ∈ tables_1, d.before a0 Z = true) : Jvm.RoadKit.slotOf Z "com/example/veilcommit/veilcommit/oram/TreeShape" "z" "I" ≠ Jvm.RoadKit.slotOf Z "com/example/veilcommit/veilcommit/oram/TreeShape" "blockSize" "I" := slot_ne (t := .int) (t' := .int) (C := "com/example/veilcommit/veilcommit/oram/TreeShape") (Or.inr (w61 hw)) (Or.inr (w59 hw)) (by decide) (by decide) (by decide)
theorem sn_TreeShape_z_s {Z : State} {a0 : Array Value} (hw : ∀ d ∈ tables_1, d.before a0 Z = true) : Jvm.RoadKit.slotOf Z "com/example/veilcommit/veilcommit/oram/TreeShape" "z" "I" ≠ Jvm.RoadKit.slotOf Z "com/example/veilcommit/veilcommit/oram/TreeShape" "s" "I" := slot_ne (t := .int) (t' := .int) (C := "com/example/veilcommit/veilcommit/oram/TreeShape") (Or.inr (w61 hw)) (Or.inr (w63 hw)) (by decide) (by decide) (by decide)
theorem sn_TreeShape_z_a {Z : State} {a0 : Array Value} (hw : ∀ d ∈ tables_1, d.before a0 Z = true) : Jvm.RoadKit.slotOf Z "com/example/veilcommit/veilcommit/oram/TreeShape" "z" "I" ≠ Jvm.RoadKit.slotOf Z "com/example/veilcommit/veilcommit/oram/TreeShape" "a" "I" := slot_ne (t := .int) (t' := .int) (C := "com/example/veilcommit/veilcommit/oram/TreeShape") (Or.inr (w61 hw)) (Or.inr (w65 hw)) (by decide) (by decide) (by decide)
theorem sn_TreeShape_s_capacity {Z : State} {a0 : Array Value} (hw : ∀ d ∈ tables_1, d.before a0 Z = true) : Jvm.RoadKit.slotOf Z "com/example/veilcommit/veilcommit/oram/TreeShape" "s" "I" ≠ Jvm.RoadKit.slotOf Z "com/example/veilcommit/veilcommit/oram/TreeShape" "capacity" "I" := slot_ne (t := .int) (t' := .int) (C := "com/example/veilcommit/veilcommit/oram/TreeShape") (Or.inr (w63 hw)) (Or.inr (w57 hw)) (by decide) (by decide) (by decide)
theorem sn_TreeShape_s_blockSize {Z : State} {a0 : Array Value} (hw : ∀ d ∈ tables_1, d.before a0 Z = true) : Jvm.RoadKit.slotOf Z "com/example/veilcommit/veilcommit/oram/TreeShape" "s" "I" ≠ Jvm.RoadKit.slotOf Z "com/example/veilcommit/veilcommit/oram/TreeShape" "blockSize" "I" := slot_ne (t := .int) (t' := .int) (C := "com/example/veilcommit/veilcommit/oram/TreeShape") (Or.inr (w63 hw)) (Or.inr (w59 hw)) (by decide) (by decide) (by decide)
theorem sn_TreeShape_s_z {Z : State} {a0 : Array Value} (hw : ∀ d ∈ tables_1, d.before a0 Z = true) : Jvm.RoadKit.slotOf Z "com/example/veilcommit/veilcommit/oram/TreeShape" "s" "I" ≠ Jvm.RoadKit.slotOf Z "com/example/veilcommit/veilcommit/oram/TreeShape" "z" "I" := slot_ne (t := .int) (t' := .int) (C := "com/example/veilcommit/veilcommit/oram/TreeShape") (Or.inr (w63 hw)) (Or.inr (w61 hw)) (by decide) (by decide) (by decide)
theorem sn_TreeShape_s_a {Z : State} {a0 : Array Value} (hw : ∀ d ∈ tables_1, d.before a0 Z = true) : Jvm.RoadKit.slotOf Z "com/example/veilcommit/veilcommit/oram/TreeShape" "s" "I" ≠ Jvm.RoadKit.slotOf Z "com/example/veilcommit/veilcommit/oram/TreeShape" "a" "I" := slot_ne (t := .int) (t' := .int) (C := "com/example/veilcommit/veilcommit/oram/TreeShape") (Or.inr (w63 hw)) (Or.inr (w65 hw)) (by decide) (by decide) (by decide)
theorem sn_TreeShape_a_capacity {Z : State} {a0 : Array Value} (hw : ∀ d ∈ tables_1, d.before a0 Z = true) : Jvm.RoadKit.slotOf Z "com/example/veilcommit/veilcommit/oram/TreeShape" "a" "I" ≠ Jvm.RoadKit.slotOf Z "com/example/veilcommit/veilcommit/oram/TreeShape" "capacity" "I" := slot_ne (t := .int) (t' := .int) (C := "com/example/veilcommit/veilcommit/oram/TreeShape") (Or.inr (w65 hw)) (Or.inr (w57 hw)) (by decide) (by decide) (by decide)
theorem sn_TreeShape_a_blockSize {Z : State} {a0 : Array Value} (hw : ∀ d ∈ tables_1, d.before a0 Z = true) : Jvm.RoadKit.slotOf Z "com/example/veilcommit/veilcommit/oram/TreeShape" "a" "I" ≠ Jvm.RoadKit.slotOf Z "com/example/veilcommit/veilcommit/oram/TreeShape" "blockSize" "I" := slot_ne (t := .int) (t' := .int) (C := "com/example/veilcommit/veilcommit/oram/TreeShape") (Or.inr (w65 hw)) (Or.inr (w59 hw)) (by decide) (by decide) (by decide)
theorem sn_TreeShape_a_z {Z : State} {a0 : Array Value} (hw : ∀ d ∈ tables_1, d.before a0 Z = true) : Jvm.RoadKit.slotOf Z "com/example/veilcommit/veilcommit/oram/TreeShape" "a" "I" ≠ Jvm.RoadKit.slotOf Z "com/example/veilcommit/veilcommit/oram/TreeShape" "z" "I" := slot_ne (t := .int) (t' := .int) (C := "com/example/veilcommit/veilcommit/oram/TreeShape") (Or.inr (w65 hw)) (Or.inr (w61 hw)) (by decide) (by decide) (by decide)
theorem sn_TreeShape_a_s {Z : State} {a0 : Array Value} (hw : ∀ d ∈ tables_1, d.before a0 Z = true) : Jvm.RoadKit.slotOf Z "com/example/veilcommit/veilcommit/oram/TreeShape" "a" "I" ≠ Jvm.RoadKit.slotOf Z "com/example/veilcommit/veilcommit/oram/TreeShape" "s" "I" := slot_ne (t := .int) (t' := .int) (C := "com/example/veilcommit/veilcommit/oram/TreeShape") (Or.inr (w65 hw)) (Or.inr (w63 hw)) (by decide) (by decide) (by decide)
def own_T (Z : State) (h : Heap) (o : Addr) (cap bs z s a : Int32) : Prop := Exa Z h o "com/example/veilcommit/veilcommit/oram/TreeShape" ∧ Fld Z h o "com/example/veilcommit/veilcommit/oram/TreeShape" "capacity" "I" (.int cap) ∧ Fld Z h o "com/example/veilcommit/veilcommit/oram/TreeShape" "blockSize" "I" (.int bs) ∧ Fld Z h o "com/example/veilcommit/veilcommit/oram/TreeShape" "z" "I" (.int z) ∧ Fld Z h o "com/example/veilcommit/veilcommit/oram/TreeShape" "s" "I" (.int s) ∧ Fld Z h o "com/example/veilcommit/veilcommit/oram/TreeShape" "a" "I" (.int a)
theorem sn_BitSet_wordsInUse_sizeIsSticky {Z : State} {a0 : Array Value} (hw : ∀ d ∈ tables_1, d.before a0 Z = true) : Jvm.RoadKit.slotOf Z "java/util/BitSet" "wordsInUse" "I" ≠ Jvm.RoadKit.slotOf Z "java/util/BitSet" "sizeIsSticky" "Z" := slot_ne (t := .int) (t' := .boolean) (C := "java/util/BitSet") (Or.inl (w84 hw)) (Or.inl (w86 hw)) (by decide) (by decide) (by decide)
theorem sn_BitSet_wordsInUse_words {Z : State} {a0 : Array Value} (hw : ∀ d ∈ tables_1, d.before a0 Z = true) : Jvm.RoadKit.slotOf Z "java/util/BitSet" "wordsInUse" "I" ≠ Jvm.RoadKit.slotOf Z "java/util/BitSet" "words" "[J" := slot_ne (t := .int) (t' := .array (.long)) (C := "java/util/BitSet") (Or.inl (w84 hw)) (Or.inl (w97 hw)) (by decide) (by decide) (by decide)
theorem sn_BitSet_sizeIsSticky_wordsInUse {Z : State} {a0 : Array Value} (hw : ∀ d ∈ tables_1, d.before a0 Z = true) : Jvm.RoadKit.slotOf Z "java/util/BitSet" "sizeIsSticky" "Z" ≠ Jvm.RoadKit.slotOf Z "java/util/BitSet" "wordsInUse" "I" := slot_ne (t := .boolean) (t' := .int) (C := "java/util/BitSet") (Or.inl (w86 hw)) (Or.inl (w84 hw)) (by decide) (by decide) (by decide)
theorem sn_BitSet_sizeIsSticky_words {Z : State} {a0 : Array Value} (hw : ∀ d ∈ tables_1, d.before a0 Z = true) : Jvm.RoadKit.slotOf Z "java/util/BitSet" "sizeIsSticky" "Z" ≠ Jvm.RoadKit.slotOf Z "java/util/BitSet" "words" "[J" := slot_ne (t := .boolean) (t' := .array (.long)) (C := "java/util/BitSet") (Or.inl (w86 hw)) (Or.inl (w97 hw)) (by decide) (by decide) (by decide)
theorem sn_BitSet_words_wordsInUse {Z : State} {a0 : Array Value} (hw : ∀ d ∈ tables_1, d.before a0 Z = true) : Jvm.RoadKit.slotOf Z "java/util/BitSet" "words" "[J" ≠ Jvm.RoadKit.slotOf Z "java/util/BitSet" "wordsInUse" "I" := slot_ne (t := .array (.long)) (t' := .int) (C := "java/util/BitSet") (Or.inl (w97 hw)) (Or.inl (w84 hw)) (by decide) (by decide) (by decide)
theorem sn_BitSet_words_sizeIsSticky {Z : State} {a0 : Array Value} (hw : ∀ d ∈ tables_1, d.before a0 Z = true) : Jvm.RoadKit.slotOf Z "java/util/BitSet" "words" "[J" ≠ Jvm.RoadKit.slotOf Z "java/util/BitSet" "sizeIsSticky" "Z" := slot_ne (t := .array (.long)) (t' := .boolean) (C := "java/util/BitSet") (Or.inl (w97 hw)) (Or.inl (w86 hw)) (by decide) (by decide) (by decide)
theorem own_T.ext {Z : State} {h h' : Heap} {o : Addr} {a b d e f : Int32} (T : own_T Z h o a b d e f) (X : Ext h h') : own_T Z h' o a b d e f := ⟨T.1.ext X, T.2.1.ext X, T.2.2.1.ext X, T.2.2.2.1.ext X, T.2.2.2.2.1.ext X, T.2.2.2.2.2.ext X⟩
theorem own_T.keep {Z : State} {h h' : Heap} {o : Addr} {a b d e f : Int32} {ws : List Addr} (T : own_T Z h o a b d e f) (K : Keep h h' ws) (q : o ∉ ws) : own_T Z h' o a b d e f := ⟨T.1.keep K, T.2.1.keep K q, T.2.2.1.keep K q, T.2.2.2.1.keep K q, T.2.2.2.2.1.keep K q, T.2.2.2.2.2.keep K q⟩
theorem own_T.other {Z : State} {h h' : Heap} {o y : Addr} {a b d e f : Int32} {sl : Nat} {v : Value} (T : own_T Z h o a b d e f) (W : Wr h h' y sl v) (q : o ≠ y) : own_T Z h' o a b d e f := T.keep (Keep.of_wr W) (ninS q nin0)
def own_b (k : Nat) : Int64 := 1 <<< (Int64.ofBitVec (BitVec.ofNat 64 k))
theorem own_b_ne : ∀ k : Fin 64, own_b k.val ≠ 0 := by decide +kernel
theorem own_b_and : ∀ j k : Fin 64, j ≠ k → own_b j.val &&& own_b k.val = 0 := by decide +kernel
theorem own_bv (q : Int32) (h : 0 ≤ q.toInt) : (q.toBitVec.toNat : Int) = q.toInt := by
  have e : q.toBitVec.toInt = q.toInt := rfl
  rw [BitVec.toInt_eq_toNat_cond] at e
  have := q.toBitVec.isLt
  split at e <;> omega
def own_bit (s : Int32) : Int64 := 1 <<< (s &&& 0x3f).toInt64
theorem own_bit_b (s : Int32) (h : 0 ≤ s.toInt) : own_bit s = own_b (s.toInt % 64).toNat := by
  have e := own_bv s h
  have e2 := (sm64 s (s.toInt % 64).toNat (by omega)).1
  have e3 : (s &&& 0x3f).toInt64 = Int64.ofBitVec (BitVec.ofNat 64 (s.toInt % 64).toNat) := Int64.toBitVec_inj.mp e2
  rw [own_bit, own_b, e3]
theorem own_dist (x y z : Int64) : (x ||| y) &&& z = (x &&& z) ||| (y &&& z) := by
  apply Int64.toBitVec_inj.mp
  show (x.toBitVec ||| y.toBitVec) &&& z.toBitVec = (x.toBitVec &&& z.toBitVec) ||| (y.toBitVec &&& z.toBitVec)
  apply BitVec.eq_of_getLsbD_eq
  intro i hi
  simp only [BitVec.getLsbD_and, BitVec.getLsbD_or]
  cases x.toBitVec.getLsbD i <;> cases y.toBitVec.getLsbD i <;> cases z.toBitVec.getLsbD i <;> rfl
theorem own_or_ne (x : Int64) (y : Int64) (h : y ≠ 0) : x ||| y ≠ 0 := fun e => h (by
  apply Int64.toBitVec_inj.mp
  have e2 : x.toBitVec ||| y.toBitVec = 0#64 := congrArg Int64.toBitVec e
  exact (BitVec.or_eq_zero_iff.mp e2).2)
def own_ix (b s : Int32) : Int32 := b * 4 + s / 64
def own_in (b s : Int32) : Prop := (0 ≤ b.toInt ∧ b.toInt < 7) ∧ 0 ≤ s.toInt ∧ s.toInt < 200
theorem own_ix_int (b s : Int32) (q : own_in b s) : (own_ix b s).toInt = 4 * b.toInt + s.toInt / 64 := by
  obtain ⟨⟨q1, q2⟩, q3, q4⟩ := q
  have d := (c_idiv s 64 64 rfl (by decide)).1 q3
  have m := c_imul b 4
  have mr := rng32 (b * 4)
  have a := c_iadd (b * 4) (s / 64)
  have ar := rng32 (b * 4 + s / 64)
  simp only [Int32.reduceToInt] at m
  show (b * 4 + s / 64).toInt = _
  omega
theorem own_ix_rng (b s : Int32) (q : own_in b s) : 0 ≤ (own_ix b s).toInt ∧ (own_ix b s).toInt < ((28 : Nat) : Int) := by
  have e := own_ix_int b s q
  obtain ⟨⟨q1, q2⟩, q3, q4⟩ := q
  omega
def own_rb (rd : Nat → Int64) (b s : Int32) : Prop := rd (own_ix b s).toInt.toNat &&& own_bit s ≠ 0
def own_st (rd : Nat → Int64) (b s : Int32) : Nat → Int64 := upd rd (own_ix b s).toInt.toNat (rd (own_ix b s).toInt.toNat ||| own_bit s)
theorem own_rb0 (b s : Int32) : ¬ own_rb (fun _ => 0) b s := by simp [own_rb]
theorem own_rb_st (rd : Nat → Int64) (b s b' s' : Int32) (q : own_in b s) (q' : own_in b' s') : own_rb (own_st rd b s) b' s' ↔ (own_rb rd b' s' ∨ (b' = b ∧ s' = s)) := by
  have e := own_ix_int b s q
  have e' := own_ix_int b' s' q'
  have r := own_ix_rng b s q
  have r' := own_ix_rng b' s' q'
  have f := own_bit_b s q.2.1
  have f' := own_bit_b s' q'.2.1
  obtain ⟨⟨q1, q2⟩, q3, q4⟩ := q
  obtain ⟨⟨p1, p2⟩, p3, p4⟩ := q'
  by_cases i : (own_ix b' s').toInt.toNat = (own_ix b s).toInt.toNat
  · have eb : b'.toInt = b.toInt ∧ s'.toInt / 64 = s.toInt / 64 := by omega
    rw [own_rb, own_rb, own_st, i, upd_at, own_dist, f, f']
    by_cases j : s.toInt % 64 = s'.toInt % 64
    · rw [j]
      have hs : s' = s := Int32.toInt_inj.mp (by omega)
      have hb : b' = b := Int32.toInt_inj.mp eb.1
      refine ⟨fun _ => Or.inr ⟨hb, hs⟩, fun _ => own_or_ne _ _ ?_⟩
      have : ∀ k : Fin 64, own_b k.val &&& own_b k.val ≠ 0 := by decide +kernel
      exact this ⟨(s'.toInt % 64).toNat, by omega⟩
    · have z := own_b_and ⟨(s.toInt % 64).toNat, by omega⟩ ⟨(s'.toInt % 64).toNat, by omega⟩ (fun w => j (by have := Fin.mk.inj w; omega))
      simp only at z
      rw [z]
      simp only [Int64.or_zero]
      refine ⟨fun w => Or.inl w, fun w => w.elim id fun w => absurd (by rw [w.2]) j⟩
  · rw [own_rb, own_rb, own_st, upd_ne _ _ _ _ i]
    refine ⟨fun w => Or.inl w, fun w => w.elim id fun w => absurd (by rw [w.1, w.2]) i⟩
def own_fs : List (String × String) := [("pathReads", "[I"), ("superseded", "Ljava/util/BitSet;"), ("written", "Ljava/util/BitSet;"), ("shape", "Lcom/example/veilcommit/veilcommit/oram/TreeShape;"), ("realSlots", "[I"), ("realIds", "[I"), ("older", "[J"), ("currentEntries", "[I"), ("words", "I"), ("read", "[J"), ("listed", "[J"), ("readCounts", "[I"), ("writes", "[J"), ("tags", "[J"), ("indexed", "Z"), ("pathReadCount", "I")]
theorem own_laid {Z : State} {a0 : Array Value} (hw : ∀ d ∈ tables_1, d.before a0 Z = true) : ∀ f ∈ own_fs, Laid Z a0 "com/example/veilcommit/veilcommit/oram/BucketTable" "com/example/veilcommit/veilcommit/oram/BucketTable" f.1 f.2 := by
  intro f hf
  simp only [own_fs, List.mem_cons, List.not_mem_nil, or_false] at hf
  rcases hf with rfl | rfl | rfl | rfl | rfl | rfl | rfl | rfl | rfl | rfl | rfl | rfl | rfl | rfl | rfl | rfl
  · exact Or.inl (w75 hw)
  · exact Or.inr (w99 hw)
  · exact Or.inr (w101 hw)
  · exact Or.inr (w103 hw)
  · exact Or.inr (w120 hw)
  · exact Or.inr (w122 hw)
  · exact Or.inr (w124 hw)
  · exact Or.inr (w131 hw)
  · exact Or.inr (w138 hw)
  · exact Or.inr (w140 hw)
  · exact Or.inr (w142 hw)
  · exact Or.inr (w144 hw)
  · exact Or.inr (w146 hw)
  · exact Or.inr (w148 hw)
  · exact Or.inl (w154 hw)
  · exact Or.inl (w166 hw)
theorem own_desc : ∀ f ∈ own_fs, ∃ t, parseFieldDescriptor f.2 = some t := by
  intro f hf
  simp only [own_fs, List.mem_cons, List.not_mem_nil, or_false] at hf
  rcases hf with rfl | rfl | rfl | rfl | rfl | rfl | rfl | rfl | rfl | rfl | rfl | rfl | rfl | rfl | rfl | rfl
  · exact ⟨.array (.int), by decide⟩
  · exact ⟨.object "java/util/BitSet", by decide⟩
  · exact ⟨.object "java/util/BitSet", by decide⟩
  · exact ⟨.object "com/example/veilcommit/veilcommit/oram/TreeShape", by decide⟩
  · exact ⟨.array (.int), by decide⟩
  · exact ⟨.array (.int), by decide⟩
  · exact ⟨.array (.long), by decide⟩
  · exact ⟨.array (.int), by decide⟩
  · exact ⟨.int, by decide⟩
  · exact ⟨.array (.long), by decide⟩
  · exact ⟨.array (.long), by decide⟩
  · exact ⟨.array (.int), by decide⟩
  · exact ⟨.array (.long), by decide⟩
  · exact ⟨.array (.long), by decide⟩
  · exact ⟨.boolean, by decide⟩
  · exact ⟨.int, by decide⟩
theorem own_nodup : (own_fs.map Prod.fst).Nodup := by decide
theorem own_names {i j : Nat} {f g : String × String} (hi : own_fs[i]? = some f) (hj : own_fs[j]? = some g) (q : i ≠ j) : f.1 ≠ g.1 := fun e => by
  have a : (own_fs.map Prod.fst)[i]? = some f.1 := by rw [List.getElem?_map, hi]; rfl
  have b : (own_fs.map Prod.fst)[j]? = some g.1 := by rw [List.getElem?_map, hj]; rfl
  have l : i < (own_fs.map Prod.fst).length := (List.getElem?_eq_some_iff.mp a).1
  exact q ((List.getElem?_inj l own_nodup).mp (by rw [a, b, e]))
def own_O (Z : State) (h : Heap) (o : Addr) (v : Nat → Value) : Prop := Exa Z h o "com/example/veilcommit/veilcommit/oram/BucketTable" ∧ ∀ i f, own_fs[i]? = some f → Fld Z h o "com/example/veilcommit/veilcommit/oram/BucketTable" f.1 f.2 (v i)
theorem own_O.get {Z : State} {h : Heap} {o : Addr} {v : Nat → Value} (O : own_O Z h o v) (k : Nat) {n d : String} {x : Value} (hk : own_fs[k]? = some (n, d)) (hv : v k = x) : Fld Z h o "com/example/veilcommit/veilcommit/oram/BucketTable" n d x := hv ▸ O.2 k _ hk
theorem own_O.ext {Z : State} {h h' : Heap} {o : Addr} {v : Nat → Value} (O : own_O Z h o v) (X : Ext h h') : own_O Z h' o v := ⟨O.1.ext X, fun i f hf => (O.2 i f hf).ext X⟩
theorem own_O.keep {Z : State} {h h' : Heap} {o : Addr} {v : Nat → Value} {ws : List Addr} (O : own_O Z h o v) (K : Keep h h' ws) (q : o ∉ ws) : own_O Z h' o v := ⟨O.1.keep K, fun i f hf => (O.2 i f hf).keep K q⟩
theorem own_O.other {Z : State} {h h' : Heap} {o y : Addr} {v : Nat → Value} {sl : Nat} {x : Value} (O : own_O Z h o v) (W : Wr h h' y sl x) (q : o ≠ y) : own_O Z h' o v := O.keep (Keep.of_wr W) (ninS q nin0)
theorem own_O.put {Z : State} {a0 : Array Value} (hw : ∀ d ∈ tables_1, d.before a0 Z = true) {h h' : Heap} {o : Addr} {v : Nat → Value} (O : own_O Z h o v) {k : Nat} {n d : String} {x : Value} (hk : own_fs[k]? = some (n, d)) (W : Wr h h' o (Jvm.RoadKit.slotOf Z "com/example/veilcommit/veilcommit/oram/BucketTable" n d) x) : own_O Z h' o (upd v k x) :=
  ⟨O.1.wr W, fun i f hf => by
    by_cases q : i = k
    · subst q
      cases hf.symm.trans hk
      rw [upd_at]; exact (O.2 i _ hk).same W
    · rw [upd_ne _ _ _ _ q]
      obtain ⟨t, ht⟩ := own_desc f (List.mem_of_getElem? hf)
      obtain ⟨t', ht'⟩ := own_desc _ (List.mem_of_getElem? hk)
      exact (O.2 i f hf).other W (Or.inr (slot_ne (own_laid hw f (List.mem_of_getElem? hf)) (own_laid hw _ (List.mem_of_getElem? hk)) (own_names hf hk q) ht ht'))⟩
theorem own_nf {Z : State} {a0 : Array Value} (hw : ∀ d ∈ tables_1, d.before a0 Z = true) : ∃ c k, Z.vm.findClass "com/example/veilcommit/veilcommit/oram/BucketTable" = some c ∧ Z.vm.classes[c]? = some k ∧ k.isInterface = false := by
  obtain ⟨c2, r2, m2, q1, q2, q3, q4, kP, hkP, hkPi⟩ := Cond.selects_spec (w158 hw)
  exact ⟨_, kP, findClass_of_methodNamed q3, hkP, hkPi⟩
theorem own_sel_takeRead {Z : State} {a0 : Array Value} (hw : ∀ d ∈ tables_1, d.before a0 Z = true) : (Jvm.Cond.selects "com/example/veilcommit/veilcommit/oram/BucketTable" (⟨"com/example/veilcommit/veilcommit/oram/BucketTable", "takeRead", "(II)V"⟩ : MethodName) (⟨"com/example/veilcommit/veilcommit/oram/BucketTable", "takeRead", "(II)V"⟩ : MethodName)).before a0 Z = true := by
  obtain ⟨c, k, h1, h2, h3⟩ := own_nf hw
  exact Jvm.Stand.selects_self_of_private (y := (⟨"com/example/veilcommit/veilcommit/oram/BucketTable", "takeRead", "(II)V"⟩ : MethodName)) h1 h2 h3 (Cond.privateMethod_at (w182 hw)) (w181 hw) (by decide)
theorem own_sel_entryOf {Z : State} {a0 : Array Value} (hw : ∀ d ∈ tables_1, d.before a0 Z = true) : (Jvm.Cond.selects "com/example/veilcommit/veilcommit/oram/BucketTable" (⟨"com/example/veilcommit/veilcommit/oram/BucketTable", "entryOf", "(II)I"⟩ : MethodName) (⟨"com/example/veilcommit/veilcommit/oram/BucketTable", "entryOf", "(II)I"⟩ : MethodName)).before a0 Z = true := by
  obtain ⟨c, k, h1, h2, h3⟩ := own_nf hw
  exact Jvm.Stand.selects_self_of_private (y := (⟨"com/example/veilcommit/veilcommit/oram/BucketTable", "entryOf", "(II)I"⟩ : MethodName)) h1 h2 h3 (Cond.privateMethod_at (w186 hw)) (w185 hw) (by decide)
set_option maxRecDepth 65536 in
set_option maxHeartbeats 4000000 in
theorem rmNL (l : Launch) (Z : State) (a0 : Array Value) (hw : ∀ d ∈ tables_1, d.before a0 Z = true) (n0 : Nat) (h : Heap)  : Con l (⟨"java/lang/Integer", "numberOfLeadingZeros", "(I)I"⟩ : MethodName) jdk_33_method_47_code 2 (some .int) [] ({ frames := 0, cells := 0, slots := 0, locals := 0 } : Room) Z n0 #[.int 3] h (qI fun z h' => z = 30 ∧ h' = h) := by
  refine con_of_go (Ls := [.val (.int 3), .unset]) (plainFor_of_name (by first | (simp [plainName, overriddenIn]; done) | decide +kernel)) (fun m => by first | (simp [entryFrame, mkF, argsToLocals, Value.category]; done) | rfl) ?_
  intro K hl hK
  subst hl
  change Cx K Z "java/lang/Integer" jdk_33_method_47_code 2 (some .int) "numberOfLeadingZeros" at hK
  refine g_iloadN (pc := 0) hK d7_0 rfl ?_
  refine gY_if_gt (pc := 1) (pc' := 15) hK d7_1 (by decide) (by decide) ?_
  refine g_bipush (pc := 15) (z := (31 : Int32)) hK d7_15 (by decide) ?_
  refine g_istore_1 (pc := 17) hK d7_17 rfl ?_
  refine g_iloadN (pc := 18) hK d7_18 rfl ?_
  refine g_ldc_w (pc := 19) hK (w45 hw) d7_19 ?_
  refine gY_icmp_lt (pc := 22) (pc' := 33) hK d7_22 (by decide) (by decide) ?_
  refine g_iloadN (pc := 33) hK d7_33 rfl ?_
  refine g_sipush (pc := 34) (z := (256 : Int32)) hK d7_34 (by decide) ?_
  refine gY_icmp_lt (pc := 37) (pc' := 48) hK d7_37 (by decide) (by decide) ?_
  refine g_iloadN (pc := 48) hK d7_48 rfl ?_
  refine g_bipush (pc := 49) (z := (16 : Int32)) hK d7_49 (by decide) ?_
  refine gY_icmp_lt (pc := 51) (pc' := 61) hK d7_51 (by decide) (by decide) ?_
  refine g_iloadN (pc := 61) hK d7_61 rfl ?_
  refine g_iconst (pc := 62) (z := (4 : Int32)) hK d7_62 (by decide) ?_
  refine gY_icmp_lt (pc := 63) (pc' := 73) hK d7_63 (by decide) (by decide) ?_
  refine g_iloadN (pc := 73) hK d7_73 rfl ?_
  refine g_iloadN (pc := 74) hK d7_74 rfl ?_
  refine g_iconst (pc := 75) (z := (1 : Int32)) hK d7_75 (by decide) ?_
  refine g_iushr (pc := 76) hK d7_76 ?_
  refine g_isub (pc := 77) hK d7_77 ?_
  exact g_ireturn (pc := 78) hK d7_78 rfl ⟨by decide, rfl⟩
set_option maxRecDepth 65536 in
set_option maxHeartbeats 4000000 in
theorem rmHO (l : Launch) (Z : State) (a0 : Array Value) (hw : ∀ d ∈ tables_1, d.before a0 Z = true) (n0 : Nat) (h : Heap)  : Con l (⟨"java/lang/Integer", "highestOneBit", "(I)I"⟩ : MethodName) jdk_33_method_45_code 1 (some .int) [] ({ frames := 1, cells := 0, slots := 0, locals := 20 } : Room) Z n0 #[.int 3] h (qI fun z h' => z = 2 ∧ h' = h) := by
  refine con_of_go (Ls := [.val (.int 3)]) (plainFor_of_name (by first | (simp [plainName, overriddenIn]; done) | decide +kernel)) (fun m => by first | (simp [entryFrame, mkF, argsToLocals, Value.category]; done) | rfl) ?_
  intro K hl hK
  subst hl
  change Cx K Z "java/lang/Integer" jdk_33_method_45_code 1 (some .int) "highestOneBit" at hK
  refine g_iloadN (pc := 0) hK d6_0 rfl ?_
  refine g_ldc (pc := 1) hK (w41 hw) d6_1 ?_
  refine g_iloadN (pc := 3) hK d6_3 rfl ?_
  refine g_static_1I (pc := 4) hK 4 d6_4 (w42 hw) (w43 hw) (w39 hw) (w44 hw) (by decide) (rmNL _ Z a0 hw n0 _) pd_0 rfl rfl rfl (fun z4 h4 q4 gr4 => ?_)
  obtain ⟨rfl, rfl⟩ := q4
  refine g_iushr (pc := 7) hK d6_7 ?_
  refine g_iand (pc := 8) hK d6_8 ?_
  exact g_ireturn (pc := 9) hK d6_9 rfl ⟨by decide, rfl⟩
set_option maxRecDepth 65536 in
set_option maxHeartbeats 4000000 in
theorem rmV (l : Launch) (Z : State) (a0 : Array Value) (hw : ∀ d ∈ tables_1, d.before a0 Z = true) (n0 : Nat) (h : Heap)  : Con l (⟨"com/example/veilcommit/veilcommit/oram/TreeShape", "leaves", "(II)I"⟩ : MethodName) prog_139_method_3_code 3 (some .int) [] ({ frames := 2, cells := 0, slots := 0, locals := 36 } : Room) Z n0 #[.int 4, .int 1] h (qI fun z h' => z = 4 ∧ h' = h) := by
  refine con_of_go (Ls := [.val (.int 4), .val (.int 1), .unset]) (plainFor_of_name (by first | (simp [plainName, overriddenIn]; done) | decide +kernel)) (fun m => by first | (simp [entryFrame, mkF, argsToLocals, Value.category]; done) | rfl) ?_
  intro K hl hK
  subst hl
  change Cx K Z "com/example/veilcommit/veilcommit/oram/TreeShape" prog_139_method_3_code 3 (some .int) "leaves" at hK
  refine g_iloadN (pc := 0) hK d5_0 rfl ?_
  refine g_iloadN (pc := 1) hK d5_1 rfl ?_
  refine g_iadd (pc := 2) hK d5_2 ?_
  refine g_iconst (pc := 3) (z := (1 : Int32)) hK d5_3 (by decide) ?_
  refine g_isub (pc := 4) hK d5_4 ?_
  refine g_iloadN (pc := 5) hK d5_5 rfl ?_
  refine g_idiv (pc := 6) hK d5_6 (by decide) ?_
  refine g_istore_2 (pc := 7) hK d5_7 rfl ?_
  refine g_iloadN (pc := 8) hK d5_8 rfl ?_
  refine g_iconst (pc := 9) (z := (1 : Int32)) hK d5_9 (by decide) ?_
  refine gY_icmp_ne (pc := 10) (pc' := 17) hK d5_10 (by decide) (by decide) ?_
  refine g_iloadN (pc := 17) hK d5_17 rfl ?_
  refine g_iconst (pc := 18) (z := (1 : Int32)) hK d5_18 (by decide) ?_
  refine g_isub (pc := 19) hK d5_19 ?_
  rw [show ((4 : Int32) + 1 - 1) / 1 - 1 = 3 by decide]
  refine g_static_1I (pc := 20) hK 2 d5_20 (w37 hw) (w38 hw) (w39 hw) (w40 hw) (by decide) (rmHO _ Z a0 hw n0 _) pd_0 rfl rfl rfl (fun z20 h20 q20 gr20 => ?_)
  obtain ⟨rfl, rfl⟩ := q20
  refine g_iconst (pc := 23) (z := (1 : Int32)) hK d5_23 (by decide) ?_
  refine g_ishl (pc := 24) hK d5_24 ?_
  exact g_ireturn (pc := 25) hK d5_25 rfl ⟨by decide, rfl⟩
set_option maxRecDepth 65536 in
set_option maxHeartbeats 4000000 in
theorem rmX (l : Launch) (Z : State) (a0 : Array Value) (hw : ∀ d ∈ tables_1, d.before a0 Z = true) (n0 : Nat) (h : Heap) (x y : Int32) : Con l (⟨"java/lang/Math", "max", "(II)I"⟩ : MethodName) jdk_29_method_65_code 2 (some .int) [] ({ frames := 0, cells := 0, slots := 0, locals := 0 } : Room) Z n0 #[.int x, .int y] h (qI fun z h' => ((x.toInt < y.toInt → z = y) ∧ (y.toInt ≤ x.toInt → z = x)) ∧ h' = h) := by
  refine con_of_go (Ls := [.val (.int x), .val (.int y)]) (Jvm.Free.JP.mathPlain rfl (by decide)) (fun m => by first | (simp [entryFrame, mkF, argsToLocals, Value.category]; done) | rfl) ?_
  intro K hl hK
  subst hl
  change Cx K Z "java/lang/Math" jdk_29_method_65_code 2 (some .int) "max" at hK
  refine g_iloadN (pc := 0) hK d22_0 rfl ?_
  refine g_iloadN (pc := 1) hK d22_1 rfl ?_
  refine g_icmp_lt (pc := 2) (pc' := 9) hK d22_2 (by decide) (fun b2 => ?_) (fun b2 => ?_)
  · refine g_iloadN (pc := 9) hK d22_9 rfl ?_
    exact g_ireturn (pc := 10) hK d22_10 rfl ⟨⟨fun _ => rfl, fun q => absurd q (by omega)⟩, rfl⟩
  · refine g_iloadN (pc := 5) hK d22_5 rfl ?_
    refine g_goto (pc := 6) (pc' := 10) hK d22_6 (by decide) ?_
    exact g_ireturn (pc := 10) hK d22_10 rfl ⟨⟨fun q => absurd q (by omega), fun _ => rfl⟩, rfl⟩
set_option maxRecDepth 65536 in
set_option maxHeartbeats 4000000 in
theorem rmJ (l : Launch) (Z : State) (a0 : Array Value) (hw : ∀ d ∈ tables_1, d.before a0 Z = true) (n0 : Nat) (h : Heap) (x y : Int32) : Con l (⟨"java/lang/Math", "min", "(II)I"⟩ : MethodName) jdk_29_method_69_code 2 (some .int) [] ({ frames := 0, cells := 0, slots := 0, locals := 0 } : Room) Z n0 #[.int x, .int y] h (qI fun z h' => ((x.toInt ≤ y.toInt → z = x) ∧ (y.toInt < x.toInt → z = y)) ∧ h' = h) := by
  refine con_of_go (Ls := [.val (.int x), .val (.int y)]) (Jvm.Free.JP.mathPlain rfl (by decide)) (fun m => by first | (simp [entryFrame, mkF, argsToLocals, Value.category]; done) | rfl) ?_
  intro K hl hK
  subst hl
  change Cx K Z "java/lang/Math" jdk_29_method_69_code 2 (some .int) "min" at hK
  refine g_iloadN (pc := 0) hK d24_0 rfl ?_
  refine g_iloadN (pc := 1) hK d24_1 rfl ?_
  refine g_icmp_gt (pc := 2) (pc' := 9) hK d24_2 (by decide) (fun b2 => ?_) (fun b2 => ?_)
  · refine g_iloadN (pc := 9) hK d24_9 rfl ?_
    exact g_ireturn (pc := 10) hK d24_10 rfl ⟨⟨fun q => absurd q (by omega), fun _ => rfl⟩, rfl⟩
  · refine g_iloadN (pc := 5) hK d24_5 rfl ?_
    refine g_goto (pc := 6) (pc' := 10) hK d24_6 (by decide) ?_
    exact g_ireturn (pc := 10) hK d24_10 rfl ⟨⟨fun _ => rfl, fun q => absurd q (by omega)⟩, rfl⟩
set_option maxRecDepth 65536 in
set_option maxHeartbeats 4000000 in
theorem rmI (l : Launch) (Z : State) (a0 : Array Value) (hw : ∀ d ∈ tables_1, d.before a0 Z = true) (n0 : Nat) (h : Heap) (o : Addr) : Con l (⟨"java/lang/Record", "<init>", "()V"⟩ : MethodName) jdk_30_method_1_code 1 none [] ({ frames := 1, cells := 0, slots := 0, locals := 14 } : Room) Z n0 #[.ref o] h (qV fun h' => h' = h) := by
  refine con_of_go (Ls := [.val (.ref o)]) (plainFor_of_name (by first | (simp [plainName, overriddenIn]; done) | decide +kernel)) (fun m => by first | (simp [entryFrame, mkF, argsToLocals, Value.category]; done) | rfl) ?_
  intro K hl hK
  subst hl
  change Cx K Z "java/lang/Record" jdk_30_method_1_code 1 none "<init>" at hK
  refine g_aloadN (pc := 0) hK d2_0 rfl ?_
  refine g_objinit (pc := 1) hK 2 (w12 hw) (w13 hw) (w14 hw) d2_1 rfl rfl ?_
  exact g_return (pc := 4) hK d2_4 rfl rfl
set_option maxRecDepth 65536 in
set_option maxHeartbeats 4000000 in
theorem rmR (l : Launch) (Z : State) (a0 : Array Value) (hw : ∀ d ∈ tables_1, d.before a0 Z = true) (n0 : Nat) (h : Heap) (b : Addr) (v lo hi : Int32) (h1 : lo.toInt ≤ v.toInt) (h2 : v.toInt ≤ hi.toInt) : Con l (⟨"com/example/veilcommit/veilcommit/oram/TreeShape", "requireRange", "(Ljava/lang/String;III)V"⟩ : MethodName) prog_139_method_21_code 4 none [] ({ frames := 0, cells := 0, slots := 0, locals := 0 } : Room) Z n0 #[.ref b, .int v, .int lo, .int hi] h (qV fun h' => h' = h) := by
  refine con_of_go (Ls := [.val (.ref b), .val (.int v), .val (.int lo), .val (.int hi)]) (plainFor_of_name (by first | (simp [plainName, overriddenIn]; done) | decide +kernel)) (fun m => by first | (simp [entryFrame, mkF, argsToLocals, Value.category]; done) | rfl) ?_
  intro K hl hK
  subst hl
  change Cx K Z "com/example/veilcommit/veilcommit/oram/TreeShape" prog_139_method_21_code 4 none "requireRange" at hK
  refine g_iloadN (pc := 0) hK d4_0 rfl ?_
  refine g_iloadN (pc := 1) hK d4_1 rfl ?_
  refine gN_icmp_lt (pc := 2) hK d4_2 h1 ?_
  refine g_iloadN (pc := 5) hK d4_5 rfl ?_
  refine g_iloadN (pc := 6) hK d4_6 rfl ?_
  refine gY_icmp_le (pc := 7) (pc' := 27) hK d4_7 (by decide) h2 ?_
  exact g_return (pc := 27) hK d4_27 rfl rfl
set_option maxRecDepth 65536 in
set_option maxHeartbeats 4000000 in
theorem rmM (l : Launch) (Z : State) (a0 : Array Value) (hw : ∀ d ∈ tables_1, d.before a0 Z = true) (n0 : Nat) (h : Heap) (x y : Int64) : Con l (⟨"java/lang/Math", "min", "(JJ)J"⟩ : MethodName) jdk_29_method_70_code 4 (some .long) [] ({ frames := 0, cells := 0, slots := 0, locals := 0 } : Room) Z n0 #[.long x, .long y] h (qJ fun z h' => ((x.toInt ≤ y.toInt → z = x) ∧ (y.toInt < x.toInt → z = y)) ∧ h' = h) := by
  refine con_of_go (Ls := [.val (.long x), .second, .val (.long y), .second]) (Jvm.Free.JP.mathPlain rfl (by decide)) (fun m => by first | (simp [entryFrame, mkF, argsToLocals, Value.category]; done) | rfl) ?_
  intro K hl hK
  subst hl
  change Cx K Z "java/lang/Math" jdk_29_method_70_code 4 (some .long) "min" at hK
  refine g_lloadN (pc := 0) hK d9_0 rfl ?_
  refine g_lloadN (pc := 1) hK d9_1 rfl ?_
  refine g_lif_gt (pc := 2) (pc' := 10) hK d9_2 d9_3 (by decide) (fun b2 => ?_) (fun b2 => ?_)
  · refine g_lloadN (pc := 10) hK d9_10 rfl ?_
    exact g_lreturn (pc := 11) hK d9_11 rfl ⟨⟨fun q => absurd q (by omega), fun _ => rfl⟩, rfl⟩
  · refine g_lloadN (pc := 6) hK d9_6 rfl ?_
    refine g_goto (pc := 7) (pc' := 11) hK d9_7 (by decide) ?_
    exact g_lreturn (pc := 11) hK d9_11 rfl ⟨⟨fun _ => rfl, fun q => absurd q (by omega)⟩, rfl⟩
set_option maxRecDepth 65536 in
set_option maxHeartbeats 4000000 in
theorem rmH (l : Launch) (Z : State) (a0 : Array Value) (hw : ∀ d ∈ tables_1, d.before a0 Z = true) (n0 : Nat) (h : Heap) (i j : Int32) (hi : 0 ≤ i.toInt) (hj : 0 ≤ j.toInt) : Con l (⟨"com/example/veilcommit/veilcommit/oram/TreeShape", "stashCapacity", "(II)J"⟩ : MethodName) prog_139_method_14_code 2 (some .long) [] ({ frames := 1, cells := 0, slots := 0, locals := 20 } : Room) Z n0 #[.int i, .int j] h (qJ fun z h' => (0 ≤ z.toInt ∧ z.toInt ≤ i.toInt) ∧ h' = h) := by
  refine con_of_go (Ls := [.val (.int i), .val (.int j)]) (plainFor_of_name (by first | (simp [plainName, overriddenIn]; done) | decide +kernel)) (fun m => by first | (simp [entryFrame, mkF, argsToLocals, Value.category]; done) | rfl) ?_
  intro K hl hK
  subst hl
  change Cx K Z "com/example/veilcommit/veilcommit/oram/TreeShape" prog_139_method_14_code 2 (some .long) "stashCapacity" at hK
  refine g_iloadN (pc := 0) hK d8_0 rfl ?_
  refine g_i2l (pc := 1) hK d8_1 ?_
  refine g_iloadN (pc := 2) hK d8_2 rfl ?_
  refine g_i2l (pc := 3) hK d8_3 ?_
  refine g_ldc2 (pc := 4) hK (w50 hw) d8_4 ?_
  refine g_ladd (pc := 7) hK d8_7 ?_
  refine g_static_2J (pc := 8) hK 2 d8_8 (w51 hw) (w52 hw) (w53 hw) (w54 hw) (by decide) (rmM _ Z a0 hw n0 _ _ _) pd_1 rfl rfl rfl (fun z8 h8 q8 gr8 => ?_)
  obtain ⟨⟨p1, p2⟩, rfl⟩ := q8
  have e1 := c_i2l i
  have e2 := c_i2l j
  have e3 := c_ladd j.toInt64 256
  have e4 := rng64 (j.toInt64 + 256)
  have e5 := rng32 j
  have e6 := rng32 i
  simp only [Int64.reduceToInt] at e3
  exact g_lreturn (pc := 11) hK d8_11 rfl ⟨by
      by_cases q : i.toInt64.toInt ≤ (j.toInt64 + 256).toInt
      · rw [p1 q]; omega
      · rw [p2 (by omega)]; omega, rfl⟩
set_option maxRecDepth 65536 in
set_option maxHeartbeats 4000000 in
theorem rmN (l : Launch) (Z : State) (a0 : Array Value) (hw : ∀ d ∈ tables_1, d.before a0 Z = true) (n0 : Nat) (h : Heap) (o : Addr) (go : n0 ≤ o) (c1 c2 c3 c4 c5 x1 x2 x3 x4 x5 : Int32) (h1 : 1 ≤ x1.toInt ∧ x1.toInt ≤ 16000) (h2 : 1 ≤ x2.toInt ∧ x2.toInt ≤ 65536) (h3 : 1 ≤ x3.toInt ∧ x3.toInt ≤ 16383) (h4 : 1 ≤ x4.toInt ∧ x3.toInt + x4.toInt ≤ 16384) (h5 : 1 ≤ x5.toInt ∧ x5.toInt ≤ 16777216) (k1 : x1 = 4) (k3 : x3 = 1) (hT : own_T Z h o c1 c2 c3 c4 c5) : ConW l (⟨"com/example/veilcommit/veilcommit/oram/TreeShape", "<init>", "(IIIII)V"⟩ : MethodName) prog_139_method_1_code 6 none [] ({ frames := 3, cells := 12, slots := 128, locals := 60 } : Room) Z n0 #[.ref o, .int x1, .int x2, .int x3, .int x4, .int x5] h (qV fun h' => own_T Z h' o x1 x2 x3 x4 x5) := by
  refine conW_of_go (Ls := [.val (.ref o), .val (.int x1), .val (.int x2), .val (.int x3), .val (.int x4), .val (.int x5)]) (plainFor_of_name (by first | (simp [plainName, overriddenIn]; done) | decide +kernel)) (fun m => by first | (simp [entryFrame, mkF, argsToLocals, Value.category]; done) | rfl) ?_
  intro K hl hK
  subst hl
  have hS : (kS K).Since (kS K).vm 0 := (State.WarmedH.refl _).since 0
  have hk : 0 ≤ h.size := Nat.zero_le _
  change Cx (reK K (kS K).vm) Z "com/example/veilcommit/veilcommit/oram/TreeShape" prog_139_method_1_code 6 none "<init>" at hK
  subst k1 k3
  simp only [Int32.reduceToInt] at h1 h3 h4
  obtain ⟨E_o, F_o_capacity, F_o_blockSize, F_o_z, F_o_s, F_o_a⟩ := hT
  have j1 := c_iadd (1 : Int32) x4
  have j2 := rng32 ((1 : Int32) + x4)
  simp only [Int32.reduceToInt] at j1
  have ez : ((1 : Int32) + x4).toInt = 1 + x4.toInt := by omega
  refine g_aloadN (pc := 0) hK d1_0 rfl ?_
  refine g_special_0V (pc := 1) hK 2 d1_1 rfl (w7 hw) (w8 hw) (w10 hw) (w11 hw) (by decide) (rmI _ Z a0 hw n0 _ _) pd_2 rfl rfl rfl (fun h1 q1 gr1 => ?_)
  subst q1
  refine gW_ldcS (pc := 4) hK hS hk 32 (w15 hw) (own_str hw) d1_4 (by decide) rfl (fun vm4 h4 a4 k4 hK hS hk X4 => ?_)
  have E_o := E_o.ext X4
  have F_o_capacity := F_o_capacity.ext X4
  have F_o_blockSize := F_o_blockSize.ext X4
  have F_o_z := F_o_z.ext X4
  have F_o_s := F_o_s.ext X4
  have F_o_a := F_o_a.ext X4
  refine g_iloadN (pc := 6) hK d1_6 rfl ?_
  refine g_iconst (pc := 7) (z := (1 : Int32)) hK d1_7 (by decide) ?_
  refine g_ldc (pc := 8) hK (w23 hw) d1_8 ?_
  refine g_static_4V (pc := 10) hK 4 d1_10 (w24 hw) (w25 hw) (w3 hw) (w26 hw) (by decide) (rmR _ Z a0 hw n0 _ _ _ _ _ (by simp only [Int32.reduceToInt]; omega) (by simp only [Int32.reduceToInt]; omega)) pd_3 rfl rfl rfl (fun h10 q10 gr10 => ?_)
  subst q10
  refine gW_ldcS (pc := 13) hK hS hk 40 (w27 hw) (own_str hw) d1_13 (by decide) rfl (fun vm13 h13 a13 k13 hK hS hk X13 => ?_)
  have E_o := E_o.ext X13
  have F_o_capacity := F_o_capacity.ext X13
  have F_o_blockSize := F_o_blockSize.ext X13
  have F_o_z := F_o_z.ext X13
  have F_o_s := F_o_s.ext X13
  have F_o_a := F_o_a.ext X13
  refine g_iloadN (pc := 15) hK d1_15 rfl ?_
  refine g_iconst (pc := 16) (z := (1 : Int32)) hK d1_16 (by decide) ?_
  refine g_ldc (pc := 17) hK (w28 hw) d1_17 ?_
  refine g_static_4V (pc := 19) hK 4 d1_19 (w24 hw) (w25 hw) (w3 hw) (w26 hw) (by decide) (rmR _ Z a0 hw n0 _ _ _ _ _ (by simp only [Int32.reduceToInt]; omega) (by simp only [Int32.reduceToInt]; omega)) pd_3 rfl rfl rfl (fun h19 q19 gr19 => ?_)
  subst q19
  refine gW_ldcS (pc := 22) hK hS hk 4 (w29 hw) (own_str hw) d1_22 (by decide) rfl (fun vm22 h22 a22 k22 hK hS hk X22 => ?_)
  have E_o := E_o.ext X22
  have F_o_capacity := F_o_capacity.ext X22
  have F_o_blockSize := F_o_blockSize.ext X22
  have F_o_z := F_o_z.ext X22
  have F_o_s := F_o_s.ext X22
  have F_o_a := F_o_a.ext X22
  refine g_iloadN (pc := 24) hK d1_24 rfl ?_
  refine g_iconst (pc := 25) (z := (1 : Int32)) hK d1_25 (by decide) ?_
  refine g_sipush (pc := 26) (z := (16384 : Int32)) hK d1_26 (by decide) ?_
  refine g_static_4V (pc := 29) hK 4 d1_29 (w24 hw) (w25 hw) (w3 hw) (w26 hw) (by decide) (rmR _ Z a0 hw n0 _ _ _ _ _ (by simp only [Int32.reduceToInt]; omega) (by simp only [Int32.reduceToInt]; omega)) pd_3 rfl rfl rfl (fun h29 q29 gr29 => ?_)
  subst q29
  refine gW_ldcS (pc := 32) hK hS hk 4 (w30 hw) (own_str hw) d1_32 (by decide) rfl (fun vm32 h32 a32 k32 hK hS hk X32 => ?_)
  have E_o := E_o.ext X32
  have F_o_capacity := F_o_capacity.ext X32
  have F_o_blockSize := F_o_blockSize.ext X32
  have F_o_z := F_o_z.ext X32
  have F_o_s := F_o_s.ext X32
  have F_o_a := F_o_a.ext X32
  refine g_iload (pc := 34) hK d1_34 rfl ?_
  refine g_iconst (pc := 36) (z := (1 : Int32)) hK d1_36 (by decide) ?_
  refine g_sipush (pc := 37) (z := (16384 : Int32)) hK d1_37 (by decide) ?_
  refine g_static_4V (pc := 40) hK 4 d1_40 (w24 hw) (w25 hw) (w3 hw) (w26 hw) (by decide) (rmR _ Z a0 hw n0 _ _ _ _ _ (by simp only [Int32.reduceToInt]; omega) (by simp only [Int32.reduceToInt]; omega)) pd_3 rfl rfl rfl (fun h40 q40 gr40 => ?_)
  subst q40
  refine gW_ldcS (pc := 43) hK hS hk 4 (w31 hw) (own_str hw) d1_43 (by decide) rfl (fun vm43 h43 a43 k43 hK hS hk X43 => ?_)
  have E_o := E_o.ext X43
  have F_o_capacity := F_o_capacity.ext X43
  have F_o_blockSize := F_o_blockSize.ext X43
  have F_o_z := F_o_z.ext X43
  have F_o_s := F_o_s.ext X43
  have F_o_a := F_o_a.ext X43
  refine g_iload (pc := 45) hK d1_45 rfl ?_
  refine g_iconst (pc := 47) (z := (1 : Int32)) hK d1_47 (by decide) ?_
  refine g_ldc (pc := 48) hK (w23 hw) d1_48 ?_
  refine g_static_4V (pc := 50) hK 4 d1_50 (w24 hw) (w25 hw) (w3 hw) (w26 hw) (by decide) (rmR _ Z a0 hw n0 _ _ _ _ _ (by simp only [Int32.reduceToInt]; omega) (by simp only [Int32.reduceToInt]; omega)) pd_3 rfl rfl rfl (fun h50 q50 gr50 => ?_)
  subst q50
  refine gW_ldcS (pc := 53) hK hS hk 20 (w32 hw) (own_str hw) d1_53 (by decide) rfl (fun vm53 h53 a53 k53 hK hS hk X53 => ?_)
  have E_o := E_o.ext X53
  have F_o_capacity := F_o_capacity.ext X53
  have F_o_blockSize := F_o_blockSize.ext X53
  have F_o_z := F_o_z.ext X53
  have F_o_s := F_o_s.ext X53
  have F_o_a := F_o_a.ext X53
  refine g_iloadN (pc := 55) hK d1_55 rfl ?_
  refine g_iload (pc := 56) hK d1_56 rfl ?_
  refine g_iadd (pc := 58) hK d1_58 ?_
  refine g_iconst (pc := 59) (z := (2 : Int32)) hK d1_59 (by decide) ?_
  refine g_sipush (pc := 60) (z := (16384 : Int32)) hK d1_60 (by decide) ?_
  refine g_static_4V (pc := 63) hK 4 d1_63 (w24 hw) (w25 hw) (w3 hw) (w26 hw) (by decide) (rmR _ Z a0 hw n0 _ _ _ _ _ (by simp only [Int32.reduceToInt]; omega) (by simp only [Int32.reduceToInt]; omega)) pd_3 rfl rfl rfl (fun h63 q63 gr63 => ?_)
  subst q63
  refine g_ldc2 (pc := 66) hK (w33 hw) d1_66 ?_
  refine g_iloadN (pc := 69) hK d1_69 rfl ?_
  refine g_iloadN (pc := 70) hK d1_70 rfl ?_
  refine g_static_2I (pc := 71) hK 4 d1_71 (w34 hw) (w35 hw) (w3 hw) (w36 hw) (by decide) (rmV _ Z a0 hw n0 _ ) pd_4 rfl rfl rfl (fun z71 h71 q71 gr71 => ?_)
  obtain ⟨rfl, rfl⟩ := q71
  refine g_i2l (pc := 74) hK d1_74 ?_
  refine g_lmul (pc := 75) hK d1_75 ?_
  refine g_lconst (pc := 76) (z := (1 : Int64)) hK d1_76 (by decide) ?_
  refine g_lsub (pc := 77) hK d1_77 ?_
  refine g_iloadN (pc := 78) hK d1_78 rfl ?_
  refine g_iload (pc := 79) hK d1_79 rfl ?_
  refine g_iadd (pc := 81) hK d1_81 ?_
  refine g_i2l (pc := 82) hK d1_82 ?_
  refine g_lmul (pc := 83) hK d1_83 ?_
  refine g_ldc2 (pc := 84) hK (w46 hw) d1_84 ?_
  refine gY_lif_le (pc := 87) (pc' := 101) hK d1_87 d1_88 (by decide) (by
      rw [show (2 * (4 : Int32).toInt64 - 1 : Int64) = 7 by decide]
      have k1 := c_lmul 7 (1 + x4).toInt64
      have k2 := rng64 (7 * (1 + x4).toInt64)
      have k3 := c_i2l (1 + x4)
      simp only [Int64.reduceToInt] at k1 ⊢
      have k4 : (7 * (1 + x4).toInt64).toInt = 7 * (1 + x4).toInt64.toInt := by omega
      omega) ?_
  refine g_iloadN (pc := 101) hK d1_101 rfl ?_
  refine g_iload (pc := 102) hK d1_102 rfl ?_
  refine g_static_2J (pc := 104) hK 4 d1_104 (w47 hw) (w48 hw) (w3 hw) (w49 hw) (by decide) (rmH _ Z a0 hw n0 _ _ _ (by first | omega | decide) (by omega)) pd_5 rfl rfl rfl (fun z104 h104 q104 gr104 => ?_)
  obtain ⟨⟨s1, s2⟩, rfl⟩ := q104
  try simp only [Int32.reduceToInt] at s2
  have n1 := c_iadd 5 x2
  have n1r := rng32 (5 + x2)
  simp only [Int32.reduceToInt] at n1
  have n2 := c_i2l (5 + x2)
  have n3 := c_lmul z104 (5 + x2).toInt64
  have n3r := rng64 (z104 * (5 + x2).toInt64)
  have n4 := mc (a := z104.toInt) (b := (5 + x2).toInt64.toInt) (l1 := 0) (h1 := 16000) (l2 := 0) (h2 := 65541) (by omega) (by omega) (by omega) (by omega)
  refine g_iconst (pc := 107) (z := (5 : Int32)) hK d1_107 (by decide) ?_
  refine g_iloadN (pc := 108) hK d1_108 rfl ?_
  refine g_iadd (pc := 109) hK d1_109 ?_
  refine g_i2l (pc := 110) hK d1_110 ?_
  refine g_lmul (pc := 111) hK d1_111 ?_
  refine g_ldc2 (pc := 112) hK (w55 hw) d1_112 ?_
  refine gY_lif_le (pc := 115) (pc' := 129) hK d1_115 d1_116 (by decide) (by simp only [Int64.reduceToInt]; omega) ?_
  refine g_aloadN (pc := 129) hK d1_129 rfl ?_
  refine g_iloadN (pc := 130) hK d1_130 rfl ?_
  refine g_put (pc := 131) (ty := .int) hK (w56 hw) (Or.inr ⟨(w57 hw), rfl, rfl⟩) (w2 hw) d1_131 (by assumption) (by assumption) (by assumption) (by decide) rfl rfl (fun h131 W131 => ?_)
  have E_o := E_o.wr W131
  have F_o_capacity := F_o_capacity.same W131
  have F_o_blockSize := F_o_blockSize.other W131 (Or.inr (sn_TreeShape_blockSize_capacity hw))
  have F_o_z := F_o_z.other W131 (Or.inr (sn_TreeShape_z_capacity hw))
  have F_o_s := F_o_s.other W131 (Or.inr (sn_TreeShape_s_capacity hw))
  have F_o_a := F_o_a.other W131 (Or.inr (sn_TreeShape_a_capacity hw))
  refine g_aloadN (pc := 134) hK d1_134 rfl ?_
  refine g_iloadN (pc := 135) hK d1_135 rfl ?_
  refine g_put (pc := 136) (ty := .int) hK (w58 hw) (Or.inr ⟨(w59 hw), rfl, rfl⟩) (w2 hw) d1_136 (by assumption) (by assumption) (by assumption) (by decide) rfl rfl (fun h136 W136 => ?_)
  have E_o := E_o.wr W136
  have F_o_capacity := F_o_capacity.other W136 (Or.inr (sn_TreeShape_capacity_blockSize hw))
  have F_o_blockSize := F_o_blockSize.same W136
  have F_o_z := F_o_z.other W136 (Or.inr (sn_TreeShape_z_blockSize hw))
  have F_o_s := F_o_s.other W136 (Or.inr (sn_TreeShape_s_blockSize hw))
  have F_o_a := F_o_a.other W136 (Or.inr (sn_TreeShape_a_blockSize hw))
  refine g_aloadN (pc := 139) hK d1_139 rfl ?_
  refine g_iloadN (pc := 140) hK d1_140 rfl ?_
  refine g_put (pc := 141) (ty := .int) hK (w60 hw) (Or.inr ⟨(w61 hw), rfl, rfl⟩) (w2 hw) d1_141 (by assumption) (by assumption) (by assumption) (by decide) rfl rfl (fun h141 W141 => ?_)
  have E_o := E_o.wr W141
  have F_o_capacity := F_o_capacity.other W141 (Or.inr (sn_TreeShape_capacity_z hw))
  have F_o_blockSize := F_o_blockSize.other W141 (Or.inr (sn_TreeShape_blockSize_z hw))
  have F_o_z := F_o_z.same W141
  have F_o_s := F_o_s.other W141 (Or.inr (sn_TreeShape_s_z hw))
  have F_o_a := F_o_a.other W141 (Or.inr (sn_TreeShape_a_z hw))
  refine g_aloadN (pc := 144) hK d1_144 rfl ?_
  refine g_iload (pc := 145) hK d1_145 rfl ?_
  refine g_put (pc := 147) (ty := .int) hK (w62 hw) (Or.inr ⟨(w63 hw), rfl, rfl⟩) (w2 hw) d1_147 (by assumption) (by assumption) (by assumption) (by decide) rfl rfl (fun h147 W147 => ?_)
  have E_o := E_o.wr W147
  have F_o_capacity := F_o_capacity.other W147 (Or.inr (sn_TreeShape_capacity_s hw))
  have F_o_blockSize := F_o_blockSize.other W147 (Or.inr (sn_TreeShape_blockSize_s hw))
  have F_o_z := F_o_z.other W147 (Or.inr (sn_TreeShape_z_s hw))
  have F_o_s := F_o_s.same W147
  have F_o_a := F_o_a.other W147 (Or.inr (sn_TreeShape_a_s hw))
  refine g_aloadN (pc := 150) hK d1_150 rfl ?_
  refine g_iload (pc := 151) hK d1_151 rfl ?_
  refine g_put (pc := 153) (ty := .int) hK (w64 hw) (Or.inr ⟨(w65 hw), rfl, rfl⟩) (w2 hw) d1_153 (by assumption) (by assumption) (by assumption) (by decide) rfl rfl (fun h153 W153 => ?_)
  have E_o := E_o.wr W153
  have F_o_capacity := F_o_capacity.other W153 (Or.inr (sn_TreeShape_capacity_a hw))
  have F_o_blockSize := F_o_blockSize.other W153 (Or.inr (sn_TreeShape_blockSize_a hw))
  have F_o_z := F_o_z.other W153 (Or.inr (sn_TreeShape_z_a hw))
  have F_o_s := F_o_s.other W153 (Or.inr (sn_TreeShape_s_a hw))
  have F_o_a := F_o_a.same W153
  have hk := hk
  rw [← W131.size, ← W136.size, ← W141.size, ← W147.size, ← W153.size] at hk
  exact gW_return (pc := 156) hK hS hk d1_156 rfl ⟨E_o, F_o_capacity, F_o_blockSize, F_o_z, F_o_s, F_o_a⟩
set_option maxRecDepth 65536 in
set_option maxHeartbeats 4000000 in
theorem rmLE (l : Launch) (Z : State) (a0 : Array Value) (hw : ∀ d ∈ tables_1, d.before a0 Z = true) (n0 : Nat) (h : Heap) (o : Addr) (hT : own_T Z h o 4 1 1 199 1) : Con l (⟨"com/example/veilcommit/veilcommit/oram/TreeShape", "leaves", "()I"⟩ : MethodName) prog_139_method_2_code 1 (some .int) [] ({ frames := 3, cells := 0, slots := 0, locals := 54 } : Room) Z n0 #[.ref o] h (qI fun z h' => z = 4 ∧ h' = h) := by
  refine con_of_go (Ls := [.val (.ref o)]) (plainFor_of_name (by first | (simp [plainName, overriddenIn]; done) | decide +kernel)) (fun m => by first | (simp [entryFrame, mkF, argsToLocals, Value.category]; done) | rfl) ?_
  intro K hl hK
  subst hl
  change Cx K Z "com/example/veilcommit/veilcommit/oram/TreeShape" prog_139_method_2_code 1 (some .int) "leaves" at hK
  have hT0 := hT
  obtain ⟨E_o, F_o_capacity, F_o_blockSize, F_o_z, F_o_s, F_o_a⟩ := hT
  refine g_aloadN (pc := 0) hK d15_0 rfl ?_
  refine g_get (pc := 1) hK (w56 hw) d15_1 (by assumption) ?_
  refine g_aloadN (pc := 4) hK d15_4 rfl ?_
  refine g_get (pc := 5) hK (w60 hw) d15_5 (by assumption) ?_
  refine g_static_2I (pc := 8) hK 2 d15_8 (w34 hw) (w35 hw) (w3 hw) (w36 hw) (by decide) (rmV _ Z a0 hw n0 _) pd_4 rfl rfl rfl (fun z8 h8 q8 gr8 => ?_)
  obtain ⟨rfl, rfl⟩ := q8
  exact g_ireturn (pc := 11) hK d15_11 rfl ⟨rfl, rfl⟩
set_option maxRecDepth 65536 in
set_option maxHeartbeats 4000000 in
theorem rmBU (l : Launch) (Z : State) (a0 : Array Value) (hw : ∀ d ∈ tables_1, d.before a0 Z = true) (n0 : Nat) (h : Heap) (o : Addr) (hT : own_T Z h o 4 1 1 199 1) : Con l (⟨"com/example/veilcommit/veilcommit/oram/TreeShape", "buckets", "()I"⟩ : MethodName) prog_139_method_5_code 1 (some .int) [] ({ frames := 4, cells := 0, slots := 0, locals := 70 } : Room) Z n0 #[.ref o] h (qI fun z h' => z = 7 ∧ h' = h) := by
  refine con_of_go (Ls := [.val (.ref o)]) (plainFor_of_name (by first | (simp [plainName, overriddenIn]; done) | decide +kernel)) (fun m => by first | (simp [entryFrame, mkF, argsToLocals, Value.category]; done) | rfl) ?_
  intro K hl hK
  subst hl
  change Cx K Z "com/example/veilcommit/veilcommit/oram/TreeShape" prog_139_method_5_code 1 (some .int) "buckets" at hK
  have hT0 := hT
  obtain ⟨E_o, F_o_capacity, F_o_blockSize, F_o_z, F_o_s, F_o_a⟩ := hT
  refine g_iconst (pc := 0) (z := (2 : Int32)) hK d14_0 (by decide) ?_
  refine g_aloadN (pc := 1) hK d14_1 rfl ?_
  refine g_virtual_0I (pc := 2) hK 2 d14_2 (w109 hw) (w110 hw) (w112 hw) (w111 hw) (w3 hw) (w113 hw) (by decide) E_o (rmLE _ Z a0 hw n0 _ o hT0) pd_6 rfl rfl rfl (fun z2 h2 q2 gr2 => ?_)
  obtain ⟨rfl, rfl⟩ := q2
  refine g_imul (pc := 5) hK d14_5 ?_
  refine g_iconst (pc := 6) (z := (1 : Int32)) hK d14_6 (by decide) ?_
  refine g_isub (pc := 7) hK d14_7 ?_
  exact g_ireturn (pc := 8) hK d14_8 rfl ⟨by decide, rfl⟩
set_option maxRecDepth 65536 in
set_option maxHeartbeats 4000000 in
theorem rmZ (l : Launch) (Z : State) (a0 : Array Value) (hw : ∀ d ∈ tables_1, d.before a0 Z = true) (n0 : Nat) (h : Heap) (o : Addr) (hT : own_T Z h o 4 1 1 199 1) : Con l (⟨"com/example/veilcommit/veilcommit/oram/TreeShape", "z", "()I"⟩ : MethodName) prog_139_method_27_code 1 (some .int) [] ({ frames := 0, cells := 0, slots := 0, locals := 0 } : Room) Z n0 #[.ref o] h (qI fun z h' => z = 1 ∧ h' = h) := by
  refine con_of_go (Ls := [.val (.ref o)]) (plainFor_of_name (by first | (simp [plainName, overriddenIn]; done) | decide +kernel)) (fun m => by first | (simp [entryFrame, mkF, argsToLocals, Value.category]; done) | rfl) ?_
  intro K hl hK
  subst hl
  change Cx K Z "com/example/veilcommit/veilcommit/oram/TreeShape" prog_139_method_27_code 1 (some .int) "z" at hK
  have hT0 := hT
  obtain ⟨E_o, F_o_capacity, F_o_blockSize, F_o_z, F_o_s, F_o_a⟩ := hT
  refine g_aloadN (pc := 0) hK d16_0 rfl ?_
  refine g_get (pc := 1) hK (w60 hw) d16_1 (by assumption) ?_
  exact g_ireturn (pc := 4) hK d16_4 rfl ⟨rfl, rfl⟩
set_option maxRecDepth 65536 in
set_option maxHeartbeats 4000000 in
theorem rmCA (l : Launch) (Z : State) (a0 : Array Value) (hw : ∀ d ∈ tables_1, d.before a0 Z = true) (n0 : Nat) (h : Heap) (o : Addr) (hT : own_T Z h o 4 1 1 199 1) : Con l (⟨"com/example/veilcommit/veilcommit/oram/TreeShape", "capacity", "()I"⟩ : MethodName) prog_139_method_25_code 1 (some .int) [] ({ frames := 0, cells := 0, slots := 0, locals := 0 } : Room) Z n0 #[.ref o] h (qI fun z h' => z = 4 ∧ h' = h) := by
  refine con_of_go (Ls := [.val (.ref o)]) (plainFor_of_name (by first | (simp [plainName, overriddenIn]; done) | decide +kernel)) (fun m => by first | (simp [entryFrame, mkF, argsToLocals, Value.category]; done) | rfl) ?_
  intro K hl hK
  subst hl
  change Cx K Z "com/example/veilcommit/veilcommit/oram/TreeShape" prog_139_method_25_code 1 (some .int) "capacity" at hK
  have hT0 := hT
  obtain ⟨E_o, F_o_capacity, F_o_blockSize, F_o_z, F_o_s, F_o_a⟩ := hT
  refine g_aloadN (pc := 0) hK d17_0 rfl ?_
  refine g_get (pc := 1) hK (w56 hw) d17_1 (by assumption) ?_
  exact g_ireturn (pc := 4) hK d17_4 rfl ⟨rfl, rfl⟩
set_option maxRecDepth 65536 in
set_option maxHeartbeats 4000000 in
theorem rmSL (l : Launch) (Z : State) (a0 : Array Value) (hw : ∀ d ∈ tables_1, d.before a0 Z = true) (n0 : Nat) (h : Heap) (o : Addr) (hT : own_T Z h o 4 1 1 199 1) : Con l (⟨"com/example/veilcommit/veilcommit/oram/TreeShape", "slotsPerBucket", "()I"⟩ : MethodName) prog_139_method_6_code 1 (some .int) [] ({ frames := 0, cells := 0, slots := 0, locals := 0 } : Room) Z n0 #[.ref o] h (qI fun z h' => z = 200 ∧ h' = h) := by
  refine con_of_go (Ls := [.val (.ref o)]) (plainFor_of_name (by first | (simp [plainName, overriddenIn]; done) | decide +kernel)) (fun m => by first | (simp [entryFrame, mkF, argsToLocals, Value.category]; done) | rfl) ?_
  intro K hl hK
  subst hl
  change Cx K Z "com/example/veilcommit/veilcommit/oram/TreeShape" prog_139_method_6_code 1 (some .int) "slotsPerBucket" at hK
  have hT0 := hT
  obtain ⟨E_o, F_o_capacity, F_o_blockSize, F_o_z, F_o_s, F_o_a⟩ := hT
  refine g_aloadN (pc := 0) hK d18_0 rfl ?_
  refine g_get (pc := 1) hK (w60 hw) d18_1 (by assumption) ?_
  refine g_aloadN (pc := 4) hK d18_4 rfl ?_
  refine g_get (pc := 5) hK (w62 hw) d18_5 (by assumption) ?_
  refine g_iadd (pc := 8) hK d18_8 ?_
  exact g_ireturn (pc := 9) hK d18_9 rfl ⟨by decide, rfl⟩
set_option maxRecDepth 65536 in
set_option maxHeartbeats 4000000 in
theorem rmWI (l : Launch) (Z : State) (a0 : Array Value) (hw : ∀ d ∈ tables_1, d.before a0 Z = true) (n0 : Nat) (h : Heap) (i : Int32) : Con l (⟨"java/util/BitSet", "wordIndex", "(I)I"⟩ : MethodName) jdk_92_method_1_code 1 (some .int) [] ({ frames := 0, cells := 0, slots := 0, locals := 0 } : Room) Z n0 #[.int i] h (qI fun z h' => z = i >>> ((6 : Int32) &&& 31) ∧ h' = h) := by
  refine con_of_go (Ls := [.val (.int i)]) (plainFor_of_name (by first | (simp [plainName, overriddenIn]; done) | decide +kernel)) (fun m => by first | (simp [entryFrame, mkF, argsToLocals, Value.category]; done) | rfl) ?_
  intro K hl hK
  subst hl
  change Cx K Z "java/util/BitSet" jdk_92_method_1_code 1 (some .int) "wordIndex" at hK
  refine g_iloadN (pc := 0) hK d13_0 rfl ?_
  refine g_bipush (pc := 1) (z := (6 : Int32)) hK d13_1 (by decide) ?_
  refine g_ishr (pc := 3) hK d13_3 ?_
  exact g_ireturn (pc := 4) hK d13_4 rfl ⟨rfl, rfl⟩
set_option maxRecDepth 65536 in
set_option maxHeartbeats 4000000 in
theorem rmIW (l : Launch) (Z : State) (a0 : Array Value) (hw : ∀ d ∈ tables_1, d.before a0 Z = true) (n0 : Nat) (h : Heap) (o : Addr) (go : n0 ≤ o) (E_o : Exa Z h o "java/util/BitSet") (F_o_words : Fld Z h o "java/util/BitSet" "words" "[J" .null) (F_o_sizeIsSticky : Fld Z h o "java/util/BitSet" "sizeIsSticky" "Z" (.int 0)) : Con l (⟨"java/util/BitSet", "initWords", "(I)V"⟩ : MethodName) jdk_92_method_6_code 2 none [] ({ frames := 1, cells := 1, slots := 1, locals := 18 } : Room) Z n0 #[.ref o, .int 64] h (qV fun h' => Keep h h' [o] ∧ Fld Z h' o "java/util/BitSet" "sizeIsSticky" "Z" (.int 0)) := by
  refine con_of_go (Ls := [.val (.ref o), .val (.int 64)]) (plainFor_of_name (by first | (simp [plainName, overriddenIn]; done) | decide +kernel)) (fun m => by first | (simp [entryFrame, mkF, argsToLocals, Value.category]; done) | rfl) ?_
  intro K hl hK
  subst hl
  change Cx K Z "java/util/BitSet" jdk_92_method_6_code 2 none "initWords" at hK
  refine g_aloadN (pc := 0) hK d12_0 rfl ?_
  refine g_iloadN (pc := 1) hK d12_1 rfl ?_
  refine g_iconst (pc := 2) (z := (1 : Int32)) hK d12_2 (by decide) ?_
  refine g_isub (pc := 3) hK d12_3 ?_
  refine g_static_1I (pc := 4) hK 4 d12_4 (w92 hw) (w93 hw) (w78 hw) (w94 hw) (by decide) (rmWI _ Z a0 hw n0 _ _) pd_0 rfl rfl rfl (fun z4 h4 q4 gr4 => ?_)
  obtain ⟨rfl, rfl⟩ := q4
  refine g_iconst (pc := 7) (z := (1 : Int32)) hK d12_7 (by decide) ?_
  refine g_iadd (pc := 8) hK d12_8 ?_
  rw [show ((64 : Int32) - 1) >>> ((6 : Int32) &&& 31) + 1 = 1 by decide]
  refine gA_newJ (pc := 9) hK 1 (w95 hw) d12_9 (by decide) (by decide) rfl (fun h9 o9 ea9 X9 A9 => ?_)
  have F_o_words := F_o_words.ext X9
  have F_o_sizeIsSticky := F_o_sizeIsSticky.ext X9
  have E_o := E_o.ext X9
  refine g_put (pc := 11) (ty := .array (.long)) hK (w96 hw) (Or.inl (w97 hw)) (w77 hw) d12_11 F_o_words E_o go (by decide) rfl rfl (fun h11 W11 => ?_)
  exact g_return (pc := 14) hK d12_14 rfl ⟨((Keep.refl _ [o]).ext X9).wr W11 (Or.inl (List.mem_singleton.mpr rfl)), F_o_sizeIsSticky.other W11 (Or.inr (sn_BitSet_sizeIsSticky_words hw))⟩
set_option maxRecDepth 65536 in
set_option maxHeartbeats 4000000 in
theorem rmBI (l : Launch) (Z : State) (a0 : Array Value) (hw : ∀ d ∈ tables_1, d.before a0 Z = true) (n0 : Nat) (h : Heap) (o : Addr) (go : n0 ≤ o) (E_o : Exa Z h o "java/util/BitSet") (F_o_words : Fld Z h o "java/util/BitSet" "words" "[J" .null) (F_o_sizeIsSticky : Fld Z h o "java/util/BitSet" "sizeIsSticky" "Z" (.int 0)) (F_o_wordsInUse : Fld Z h o "java/util/BitSet" "wordsInUse" "I" (.int 0)) : Con l (⟨"java/util/BitSet", "<init>", "()V"⟩ : MethodName) jdk_92_method_4_code 1 none [] ({ frames := 2, cells := 1, slots := 1, locals := 40 } : Room) Z n0 #[.ref o] h (qV fun h' => Keep h h' [o]) := by
  refine con_of_go (Ls := [.val (.ref o)]) (plainFor_of_name (by first | (simp [plainName, overriddenIn]; done) | decide +kernel)) (fun m => by first | (simp [entryFrame, mkF, argsToLocals, Value.category]; done) | rfl) ?_
  intro K hl hK
  subst hl
  change Cx K Z "java/util/BitSet" jdk_92_method_4_code 1 none "<init>" at hK
  refine g_aloadN (pc := 0) hK d11_0 rfl ?_
  refine g_objinit (pc := 1) hK 2 (w82 hw) (w13 hw) (w14 hw) d11_1 rfl rfl ?_
  refine g_aloadN (pc := 4) hK d11_4 rfl ?_
  refine g_iconst (pc := 5) (z := (0 : Int32)) hK d11_5 (by decide) ?_
  refine g_put (pc := 6) (ty := .int) hK (w83 hw) (Or.inl (w84 hw)) (w77 hw) d11_6 (by assumption) (by assumption) (by assumption) (by decide) rfl rfl (fun h6 W6 => ?_)
  have E_o := E_o.wr W6
  have F_o_wordsInUse := F_o_wordsInUse.same W6
  have F_o_sizeIsSticky := F_o_sizeIsSticky.other W6 (Or.inr (sn_BitSet_sizeIsSticky_wordsInUse hw))
  have F_o_words := F_o_words.other W6 (Or.inr (sn_BitSet_words_wordsInUse hw))
  refine g_aloadN (pc := 9) hK d11_9 rfl ?_
  refine g_iconst (pc := 10) (z := (0 : Int32)) hK d11_10 (by decide) ?_
  refine g_put (pc := 11) (ty := .boolean) hK (w85 hw) (Or.inl (w86 hw)) (w77 hw) d11_11 (by assumption) (by assumption) (by assumption) (by decide) rfl rfl (fun h11 W11 => ?_)
  have E_o := E_o.wr W11
  have F_o_wordsInUse := F_o_wordsInUse.other W11 (Or.inr (sn_BitSet_wordsInUse_sizeIsSticky hw))
  have F_o_sizeIsSticky := F_o_sizeIsSticky.same W11
  have F_o_words := F_o_words.other W11 (Or.inr (sn_BitSet_words_sizeIsSticky hw))
  have Kp := ((Keep.refl _ [o]).wr W6 (Or.inl (List.mem_singleton.mpr rfl))).wr W11 (Or.inl (List.mem_singleton.mpr rfl))
  refine g_aloadN (pc := 14) hK d11_14 rfl ?_
  refine g_bipush (pc := 15) (z := (64 : Int32)) hK d11_15 (by decide) ?_
  refine g_private_1V (pc := 17) hK 4 d11_17 (w87 hw) (w89 hw) (w90 hw) (w88 hw) (w78 hw) (w91 hw) (by decide) E_o (rmIW _ Z a0 hw n0 _ o go E_o F_o_words F_o_sizeIsSticky) pd_7 rfl rfl rfl (fun h17 q17 gr17 => ?_)
  obtain ⟨K17, F17⟩ := q17
  have E_o := E_o.keep K17
  have Kp := Kp.trans K17 (fun x hx => Or.inl hx)
  refine g_aloadN (pc := 20) hK d11_20 rfl ?_
  refine g_iconst (pc := 21) (z := (0 : Int32)) hK d11_21 (by decide) ?_
  refine g_put (pc := 22) (ty := .boolean) hK (w85 hw) (Or.inl (w86 hw)) (w77 hw) d11_22 F17 E_o go (by decide) rfl rfl (fun h22 W22 => ?_)
  exact g_return (pc := 25) hK d11_25 rfl (Kp.wr W22 (Or.inl (List.mem_singleton.mpr rfl)))
theorem own_len (n : Nat) (h : n ≤ 1000) : (Nat.toInt32 n).toInt = n := Int32.toInt_ofNat_of_lt (by omega)
theorem own_succ (i : Nat) : Nat.toInt32 i + (1 : Int32) = Nat.toInt32 (i + 1) := (Int32.ofNat_add i 1).symm
set_option maxRecDepth 65536 in
set_option maxHeartbeats 4000000 in
theorem rmFI (l : Launch) (Z : State) (a0 : Array Value) (hw : ∀ d ∈ tables_1, d.before a0 Z = true) (n0 : Nat) (h : Heap) (a : Addr) (ga : n0 ≤ a) (x : Int32) (n : Nat) (hn : n ≤ 1000) (w : Nat → Int32) (A : AI Z h a n w) : Con l (⟨"java/util/Arrays", "fill", "([II)V"⟩ : MethodName) jdk_65_method_103_code 4 none [] ({ frames := 0, cells := 0, slots := 0, locals := 0 } : Room) Z n0 #[.ref a, .int x] h (qV fun h' => Keep h h' [a]) := by
  refine con_of_go (Ls := [.val (.ref a), .val (.int x), .unset, .unset]) (plainFor_of_name (by first | (simp [plainName, overriddenIn]; done) | decide +kernel)) (fun m => by first | (simp [entryFrame, mkF, argsToLocals, Value.category]; done) | rfl) ?_
  intro K hl hK
  subst hl
  change Cx K Z "java/util/Arrays" jdk_65_method_103_code 4 none "fill" at hK
  have LP : ∀ (r i : Nat) (h1 : Heap) (w : Nat → Int32), i + r = n → AI Z h1 a n w → Keep h h1 [a] → Go K ({ frames := 0, cells := 0, slots := 0, locals := 0 } : Room) n0 (nB (kS K) ({ frames := 0, cells := 0, slots := 0, locals := 0 } : Room)) (qV fun h' => Keep h h' [a]) h1 0 0 5 [.val (.ref a), .val (.int x), .val (.int (Nat.toInt32 i)), .val (.int (Nat.toInt32 n))] [] := by
    intro r
    induction r with
    | zero =>
      intro i h1 w hir A Kp
      have ei := own_len i (by omega)
      have en := own_len n hn
      refine g_iloadN (pc := 5) hK d19_5 rfl ?_
      refine g_iloadN (pc := 6) hK d19_6 rfl ?_
      refine gY_icmp_ge (pc := 7) (pc' := 20) hK d19_7 (by decide) (by omega) ?_
      exact g_return (pc := 20) hK d19_20 rfl Kp
    | succ r ih =>
      intro i h1 w hir A Kp
      have ei := own_len i (by omega)
      have en := own_len n hn
      refine g_iloadN (pc := 5) hK d19_5 rfl ?_
      refine g_iloadN (pc := 6) hK d19_6 rfl ?_
      refine gN_icmp_ge (pc := 7) hK d19_7 (by omega) ?_
      refine g_aloadN (pc := 10) hK d19_10 rfl ?_
      refine g_iloadN (pc := 11) hK d19_11 rfl ?_
      refine g_iloadN (pc := 12) hK d19_12 rfl ?_
      refine gA_iastore (pc := 13) hK A (by omega) ga d19_13 (fun h13 W13 A13 => ?_)
      refine g_iinc_2 (pc := 14) (z := (1 : Int32)) hK d19_14 (by decide) ?_
      refine g_goto (pc := 17) (pc' := 5) hK d19_17 (by decide) ?_
      rw [own_succ]
      exact ih (i + 1) _ _ (by omega) A13 (Kp.wr W13 (Or.inl (List.mem_singleton.mpr rfl)))
  refine g_iconst (pc := 0) (z := (0 : Int32)) hK d19_0 (by decide) ?_
  refine g_istore_2 (pc := 1) hK d19_1 rfl ?_
  refine g_aloadN (pc := 2) hK d19_2 rfl ?_
  refine gA_lenI (pc := 3) hK A (z := Nat.toInt32 n) rfl d19_3 ?_
  refine g_istore_3 (pc := 4) hK d19_4 rfl ?_
  exact LP n 0 h w (by omega) A (Keep.refl h [a])
def own_BT (Z : State) (n0 : Nat) (h : Heap) (o : Addr) (ct : Int32) (n : Nat) (rd : Nat → Int64) : Prop :=
  ∃ (v : Nat → Value) (sh pr ar al ac : Addr) (pw rc : Nat → Int32), own_O Z h o v ∧ (v 0 = .ref pr ∧ v 3 = .ref sh ∧ v 8 = .int 4 ∧ v 9 = .ref ar ∧ v 10 = .ref al ∧ v 11 = .ref ac ∧ v 15 = .int ct) ∧ own_T Z h sh 4 1 1 199 1 ∧ AI Z h pr n pw ∧ AJ Z h ar 28 rd ∧ AJ Z h al 28 (fun _ => 0) ∧ AI Z h ac 7 rc ∧
    (o ≠ sh ∧ o ≠ pr ∧ o ≠ ar ∧ o ≠ al ∧ o ≠ ac ∧ sh ≠ pr ∧ sh ≠ ar ∧ sh ≠ ac ∧ pr ≠ ar ∧ pr ≠ al ∧ pr ≠ ac ∧ ar ≠ al ∧ ar ≠ ac ∧ al ≠ ac) ∧ (n0 ≤ o ∧ n0 ≤ pr ∧ n0 ≤ ar ∧ n0 ≤ ac)
def own_v0 : Nat → Value := fun i => if i = 0 then .null else if i = 1 then .null else if i = 2 then .null else if i = 3 then .null else if i = 4 then .null else if i = 5 then .null else if i = 6 then .null else if i = 7 then .null else if i = 8 then .int 0 else if i = 9 then .null else if i = 10 then .null else if i = 11 then .null else if i = 12 then .null else if i = 13 then .null else if i = 14 then .int 0 else if i = 15 then .int 0 else .null
set_option maxRecDepth 65536 in
set_option maxHeartbeats 4000000 in
theorem rmB (l : Launch) (Z : State) (a0 : Array Value) (hw : ∀ d ∈ tables_1, d.before a0 Z = true) (n0 : Nat) (h : Heap) (o sh : Addr) (go : n0 ≤ o) (os : o ≠ sh) (O : own_O Z h o own_v0) (T : own_T Z h sh 4 1 1 199 1) : Con l (⟨"com/example/veilcommit/veilcommit/oram/BucketTable", "<init>", "(Lcom/example/veilcommit/veilcommit/oram/TreeShape;)V"⟩ : MethodName) prog_103_method_1_code 2 none [] ({ frames := 5, cells := 14, slots := 104, locals := 96 } : Room) Z n0 #[.ref o, .ref sh] h (qV fun h' => own_BT Z n0 h' o 0 0 (fun _ => 0)) := by
  refine con_of_go (Ls := [.val (.ref o), .val (.ref sh)]) (plainFor_of_name (by first | (simp [plainName, overriddenIn]; done) | decide +kernel)) (fun m => by first | (simp [entryFrame, mkF, argsToLocals, Value.category]; done) | rfl) ?_
  intro K hl hK
  subst hl
  change Cx K Z "com/example/veilcommit/veilcommit/oram/BucketTable" prog_103_method_1_code 2 none "<init>" at hK
  refine g_aloadN (pc := 0) hK d10_0 rfl ?_
  refine g_objinit (pc := 1) hK 2 (w72 hw) (w13 hw) (w14 hw) d10_1 rfl rfl ?_
  refine g_aloadN (pc := 4) hK d10_4 rfl ?_
  refine g_iconst (pc := 5) (z := (0 : Int32)) hK d10_5 (by decide) ?_
  refine gA_newI (pc := 6) hK 0 (w73 hw) d10_6 (by decide) (by decide) rfl (fun h6 o6 ea6 X6 A6 => ?_)
  have ne_pr : o ≠ o6 := by rw [ea6]; exact Nat.ne_of_lt O.1.lt
  have ns_pr : sh ≠ o6 := by rw [ea6]; exact Nat.ne_of_lt T.1.lt
  have g_pr : n0 ≤ o6 := by rw [ea6]; exact Nat.le_trans go (Nat.le_of_lt O.1.lt)
  have O := O.ext X6
  have T := T.ext X6
  have A_pr : AI Z h6 o6 0 (fun _ => 0) := A6
  refine g_put (pc := 8) (ty := .array (.int)) hK (w74 hw) (Or.inl (w75 hw)) (w67 hw) d10_8 (own_O.get O 0 rfl rfl) O.1 go (by decide) rfl rfl (fun h8 W8 => ?_)
  have O := own_O.put hw O (k := 0) rfl W8
  have T := T.other W8 (Ne.symm os)
  have A_pr := A_pr.other W8 (Ne.symm ne_pr)
  refine g_aloadN (pc := 11) hK d10_11 rfl ?_
  refine g_new (pc := 12) hK (w76 hw) (w77 hw) (w78 hw) d10_12 rfl (fun h12 o12 ea12 X12 E12 D12 => ?_)
  have F12_wordsInUse : Fld Z h12 o12 "java/util/BitSet" "wordsInUse" "I" (.int 0) := D12 (Or.inl (w84 hw)) (ty := .int) (by decide)
  have F12_sizeIsSticky : Fld Z h12 o12 "java/util/BitSet" "sizeIsSticky" "Z" (.int 0) := D12 (Or.inl (w86 hw)) (ty := .boolean) (by decide)
  have F12_words : Fld Z h12 o12 "java/util/BitSet" "words" "[J" .null := D12 (Or.inl (w97 hw)) (ty := .array (.long)) (by decide)
  have nb : o ≠ o12 := by rw [ea12]; exact Nat.ne_of_lt O.1.lt
  have nsb : sh ≠ o12 := by rw [ea12]; exact Nat.ne_of_lt T.1.lt
  have gb : n0 ≤ o12 := by rw [ea12]; exact Nat.le_trans go (Nat.le_of_lt O.1.lt)
  have nb_pr : o6 ≠ o12 := by rw [ea12]; exact Nat.ne_of_lt A_pr.lt
  have O := O.ext X12
  have T := T.ext X12
  have A_pr := A_pr.ext X12
  refine g_dup (pc := 15) hK d10_15 rfl ?_
  refine g_special_0V (pc := 16) hK 4 d10_16 rfl (w79 hw) (w80 hw) (w78 hw) (w81 hw) (by decide) (rmBI _ Z a0 hw n0 _ _ gb E12 F12_words F12_sizeIsSticky F12_wordsInUse) pd_2 rfl rfl rfl (fun h16 q16 gr16 => ?_)
  have O := O.keep q16 (ninS nb nin0)
  have T := T.keep q16 (ninS nsb nin0)
  have A_pr := A_pr.keep q16 (ninS nb_pr nin0)
  refine g_put (pc := 19) (ty := .object "java/util/BitSet") hK (w98 hw) (Or.inr ⟨(w99 hw), rfl, rfl⟩) (w67 hw) d10_19 (own_O.get O 1 rfl rfl) O.1 go (by decide) rfl rfl (fun h19 W19 => ?_)
  have O := own_O.put hw O (k := 1) rfl W19
  have T := T.other W19 (Ne.symm os)
  have A_pr := A_pr.other W19 (Ne.symm ne_pr)
  refine g_aloadN (pc := 22) hK d10_22 rfl ?_
  refine g_new (pc := 23) hK (w76 hw) (w77 hw) (w78 hw) d10_23 rfl (fun h23 o23 ea23 X23 E23 D23 => ?_)
  have F23_wordsInUse : Fld Z h23 o23 "java/util/BitSet" "wordsInUse" "I" (.int 0) := D23 (Or.inl (w84 hw)) (ty := .int) (by decide)
  have F23_sizeIsSticky : Fld Z h23 o23 "java/util/BitSet" "sizeIsSticky" "Z" (.int 0) := D23 (Or.inl (w86 hw)) (ty := .boolean) (by decide)
  have F23_words : Fld Z h23 o23 "java/util/BitSet" "words" "[J" .null := D23 (Or.inl (w97 hw)) (ty := .array (.long)) (by decide)
  have nb : o ≠ o23 := by rw [ea23]; exact Nat.ne_of_lt O.1.lt
  have nsb : sh ≠ o23 := by rw [ea23]; exact Nat.ne_of_lt T.1.lt
  have gb : n0 ≤ o23 := by rw [ea23]; exact Nat.le_trans go (Nat.le_of_lt O.1.lt)
  have nb_pr : o6 ≠ o23 := by rw [ea23]; exact Nat.ne_of_lt A_pr.lt
  have O := O.ext X23
  have T := T.ext X23
  have A_pr := A_pr.ext X23
  refine g_dup (pc := 26) hK d10_26 rfl ?_
  refine g_special_0V (pc := 27) hK 4 d10_27 rfl (w79 hw) (w80 hw) (w78 hw) (w81 hw) (by decide) (rmBI _ Z a0 hw n0 _ _ gb E23 F23_words F23_sizeIsSticky F23_wordsInUse) pd_2 rfl rfl rfl (fun h27 q27 gr27 => ?_)
  have O := O.keep q27 (ninS nb nin0)
  have T := T.keep q27 (ninS nsb nin0)
  have A_pr := A_pr.keep q27 (ninS nb_pr nin0)
  refine g_put (pc := 30) (ty := .object "java/util/BitSet") hK (w100 hw) (Or.inr ⟨(w101 hw), rfl, rfl⟩) (w67 hw) d10_30 (own_O.get O 2 rfl rfl) O.1 go (by decide) rfl rfl (fun h30 W30 => ?_)
  have O := own_O.put hw O (k := 2) rfl W30
  have T := T.other W30 (Ne.symm os)
  have A_pr := A_pr.other W30 (Ne.symm ne_pr)
  refine g_aloadN (pc := 33) hK d10_33 rfl ?_
  refine g_aloadN (pc := 34) hK d10_34 rfl ?_
  refine g_put (pc := 35) (ty := .object "com/example/veilcommit/veilcommit/oram/TreeShape") hK (w102 hw) (Or.inr ⟨(w103 hw), rfl, rfl⟩) (w67 hw) d10_35 (own_O.get O 3 rfl rfl) O.1 go (by decide) rfl rfl (fun h35 W35 => ?_)
  have O := own_O.put hw O (k := 3) rfl W35
  have T := T.other W35 (Ne.symm os)
  have A_pr := A_pr.other W35 (Ne.symm ne_pr)
  refine g_aloadN (pc := 38) hK d10_38 rfl ?_
  refine g_aloadN (pc := 39) hK d10_39 rfl ?_
  refine g_virtual_0I (pc := 40) hK 4 d10_40 (w104 hw) (w105 hw) (w107 hw) (w106 hw) (w3 hw) (w108 hw) (by decide) T.1 (rmBU _ Z a0 hw n0 _ sh T) pd_6 rfl rfl rfl (fun z40 h40 q40 gr40 => ?_)
  obtain ⟨rfl, rfl⟩ := q40
  refine g_aloadN (pc := 43) hK d10_43 rfl ?_
  refine g_virtual_0I (pc := 44) hK 4 d10_44 (w114 hw) (w115 hw) (w117 hw) (w116 hw) (w3 hw) (w118 hw) (by decide) T.1 (rmZ _ Z a0 hw n0 _ sh T) pd_6 rfl rfl rfl (fun z44 h44 q44 gr44 => ?_)
  obtain ⟨rfl, rfl⟩ := q44
  refine g_imul (pc := 47) hK d10_47 ?_
  rw [show (7 : Int32) * 1 = 7 by decide]
  refine gA_newI (pc := 48) hK 7 (w73 hw) d10_48 (by decide) (by decide) rfl (fun h48 o48 ea48 X48 A48 => ?_)
  have ne_rs : o ≠ o48 := by rw [ea48]; exact Nat.ne_of_lt O.1.lt
  have ns_rs : sh ≠ o48 := by rw [ea48]; exact Nat.ne_of_lt T.1.lt
  have g_rs : n0 ≤ o48 := by rw [ea48]; exact Nat.le_trans go (Nat.le_of_lt O.1.lt)
  have d_pr_rs : o6 ≠ o48 := by rw [ea48]; exact Nat.ne_of_lt A_pr.lt
  have O := O.ext X48
  have T := T.ext X48
  have A_pr := A_pr.ext X48
  have A_rs : AI Z h48 o48 7 (fun _ => 0) := A48
  refine g_put (pc := 50) (ty := .array (.int)) hK (w119 hw) (Or.inr ⟨(w120 hw), rfl, rfl⟩) (w67 hw) d10_50 (own_O.get O 4 rfl rfl) O.1 go (by decide) rfl rfl (fun h50 W50 => ?_)
  have O := own_O.put hw O (k := 4) rfl W50
  have T := T.other W50 (Ne.symm os)
  have A_pr := A_pr.other W50 (Ne.symm ne_pr)
  have A_rs := A_rs.other W50 (Ne.symm ne_rs)
  refine g_aloadN (pc := 53) hK d10_53 rfl ?_
  refine g_aloadN (pc := 54) hK d10_54 rfl ?_
  refine g_get (pc := 55) hK (w119 hw) d10_55 (own_O.get O 4 (x := .ref o48) rfl rfl) ?_
  refine gA_lenI (pc := 58) hK A_rs (z := 7) (by decide) d10_58 ?_
  refine gA_newI (pc := 59) hK 7 (w73 hw) d10_59 (by decide) (by decide) rfl (fun h59 o59 ea59 X59 A59 => ?_)
  have ne_ri : o ≠ o59 := by rw [ea59]; exact Nat.ne_of_lt O.1.lt
  have ns_ri : sh ≠ o59 := by rw [ea59]; exact Nat.ne_of_lt T.1.lt
  have g_ri : n0 ≤ o59 := by rw [ea59]; exact Nat.le_trans go (Nat.le_of_lt O.1.lt)
  have d_pr_ri : o6 ≠ o59 := by rw [ea59]; exact Nat.ne_of_lt A_pr.lt
  have d_rs_ri : o48 ≠ o59 := by rw [ea59]; exact Nat.ne_of_lt A_rs.lt
  have O := O.ext X59
  have T := T.ext X59
  have A_pr := A_pr.ext X59
  have A_rs := A_rs.ext X59
  have A_ri : AI Z h59 o59 7 (fun _ => 0) := A59
  refine g_put (pc := 61) (ty := .array (.int)) hK (w121 hw) (Or.inr ⟨(w122 hw), rfl, rfl⟩) (w67 hw) d10_61 (own_O.get O 5 rfl rfl) O.1 go (by decide) rfl rfl (fun h61 W61 => ?_)
  have O := own_O.put hw O (k := 5) rfl W61
  have T := T.other W61 (Ne.symm os)
  have A_pr := A_pr.other W61 (Ne.symm ne_pr)
  have A_rs := A_rs.other W61 (Ne.symm ne_rs)
  have A_ri := A_ri.other W61 (Ne.symm ne_ri)
  refine g_aloadN (pc := 64) hK d10_64 rfl ?_
  refine g_aloadN (pc := 65) hK d10_65 rfl ?_
  refine g_get (pc := 66) hK (w119 hw) d10_66 (own_O.get O 4 (x := .ref o48) rfl rfl) ?_
  refine gA_lenI (pc := 69) hK A_rs (z := 7) (by decide) d10_69 ?_
  refine g_bipush (pc := 70) (z := (64 : Int32)) hK d10_70 (by decide) ?_
  refine g_iadd (pc := 72) hK d10_72 ?_
  refine g_iconst (pc := 73) (z := (1 : Int32)) hK d10_73 (by decide) ?_
  refine g_isub (pc := 74) hK d10_74 ?_
  refine g_bipush (pc := 75) (z := (64 : Int32)) hK d10_75 (by decide) ?_
  refine g_idiv (pc := 77) hK d10_77 (by decide) ?_
  rw [show ((7 : Int32) + 64 - 1) / 64 = 1 by decide]
  refine gA_newJ (pc := 78) hK 1 (w95 hw) d10_78 (by decide) (by decide) rfl (fun h78 o78 ea78 X78 A78 => ?_)
  have ne_ol : o ≠ o78 := by rw [ea78]; exact Nat.ne_of_lt O.1.lt
  have ns_ol : sh ≠ o78 := by rw [ea78]; exact Nat.ne_of_lt T.1.lt
  have g_ol : n0 ≤ o78 := by rw [ea78]; exact Nat.le_trans go (Nat.le_of_lt O.1.lt)
  have d_pr_ol : o6 ≠ o78 := by rw [ea78]; exact Nat.ne_of_lt A_pr.lt
  have d_rs_ol : o48 ≠ o78 := by rw [ea78]; exact Nat.ne_of_lt A_rs.lt
  have d_ri_ol : o59 ≠ o78 := by rw [ea78]; exact Nat.ne_of_lt A_ri.lt
  have O := O.ext X78
  have T := T.ext X78
  have A_pr := A_pr.ext X78
  have A_rs := A_rs.ext X78
  have A_ri := A_ri.ext X78
  refine g_put (pc := 80) (ty := .array (.long)) hK (w123 hw) (Or.inr ⟨(w124 hw), rfl, rfl⟩) (w67 hw) d10_80 (own_O.get O 6 rfl rfl) O.1 go (by decide) rfl rfl (fun h80 W80 => ?_)
  have O := own_O.put hw O (k := 6) rfl W80
  have T := T.other W80 (Ne.symm os)
  have A_pr := A_pr.other W80 (Ne.symm ne_pr)
  have A_rs := A_rs.other W80 (Ne.symm ne_rs)
  have A_ri := A_ri.other W80 (Ne.symm ne_ri)
  refine g_aloadN (pc := 83) hK d10_83 rfl ?_
  refine g_aloadN (pc := 84) hK d10_84 rfl ?_
  refine g_virtual_0I (pc := 85) hK 4 d10_85 (w125 hw) (w126 hw) (w128 hw) (w127 hw) (w3 hw) (w129 hw) (by decide) T.1 (rmCA _ Z a0 hw n0 _ sh T) pd_6 rfl rfl rfl (fun z85 h85 q85 gr85 => ?_)
  obtain ⟨rfl, rfl⟩ := q85
  refine gA_newI (pc := 88) hK 4 (w73 hw) d10_88 (by decide) (by decide) rfl (fun h88 o88 ea88 X88 A88 => ?_)
  have ne_ce : o ≠ o88 := by rw [ea88]; exact Nat.ne_of_lt O.1.lt
  have ns_ce : sh ≠ o88 := by rw [ea88]; exact Nat.ne_of_lt T.1.lt
  have g_ce : n0 ≤ o88 := by rw [ea88]; exact Nat.le_trans go (Nat.le_of_lt O.1.lt)
  have d_pr_ce : o6 ≠ o88 := by rw [ea88]; exact Nat.ne_of_lt A_pr.lt
  have d_rs_ce : o48 ≠ o88 := by rw [ea88]; exact Nat.ne_of_lt A_rs.lt
  have d_ri_ce : o59 ≠ o88 := by rw [ea88]; exact Nat.ne_of_lt A_ri.lt
  have O := O.ext X88
  have T := T.ext X88
  have A_pr := A_pr.ext X88
  have A_rs := A_rs.ext X88
  have A_ri := A_ri.ext X88
  have A_ce : AI Z h88 o88 4 (fun _ => 0) := A88
  refine g_put (pc := 90) (ty := .array (.int)) hK (w130 hw) (Or.inr ⟨(w131 hw), rfl, rfl⟩) (w67 hw) d10_90 (own_O.get O 7 rfl rfl) O.1 go (by decide) rfl rfl (fun h90 W90 => ?_)
  have O := own_O.put hw O (k := 7) rfl W90
  have T := T.other W90 (Ne.symm os)
  have A_pr := A_pr.other W90 (Ne.symm ne_pr)
  have A_rs := A_rs.other W90 (Ne.symm ne_rs)
  have A_ri := A_ri.other W90 (Ne.symm ne_ri)
  have A_ce := A_ce.other W90 (Ne.symm ne_ce)
  refine g_aloadN (pc := 93) hK d10_93 rfl ?_
  refine g_aloadN (pc := 94) hK d10_94 rfl ?_
  refine g_virtual_0I (pc := 95) hK 4 d10_95 (w132 hw) (w133 hw) (w135 hw) (w134 hw) (w3 hw) (w136 hw) (by decide) T.1 (rmSL _ Z a0 hw n0 _ sh T) pd_6 rfl rfl rfl (fun z95 h95 q95 gr95 => ?_)
  obtain ⟨rfl, rfl⟩ := q95
  refine g_bipush (pc := 98) (z := (64 : Int32)) hK d10_98 (by decide) ?_
  refine g_iadd (pc := 100) hK d10_100 ?_
  refine g_iconst (pc := 101) (z := (1 : Int32)) hK d10_101 (by decide) ?_
  refine g_isub (pc := 102) hK d10_102 ?_
  refine g_bipush (pc := 103) (z := (64 : Int32)) hK d10_103 (by decide) ?_
  refine g_idiv (pc := 105) hK d10_105 (by decide) ?_
  rw [show ((200 : Int32) + 64 - 1) / 64 = 4 by decide]
  refine g_put (pc := 106) (ty := .int) hK (w137 hw) (Or.inr ⟨(w138 hw), rfl, rfl⟩) (w67 hw) d10_106 (own_O.get O 8 rfl rfl) O.1 go (by decide) rfl rfl (fun h106 W106 => ?_)
  have O := own_O.put hw O (k := 8) rfl W106
  have T := T.other W106 (Ne.symm os)
  have A_pr := A_pr.other W106 (Ne.symm ne_pr)
  have A_rs := A_rs.other W106 (Ne.symm ne_rs)
  have A_ri := A_ri.other W106 (Ne.symm ne_ri)
  have A_ce := A_ce.other W106 (Ne.symm ne_ce)
  refine g_aloadN (pc := 109) hK d10_109 rfl ?_
  refine g_aloadN (pc := 110) hK d10_110 rfl ?_
  refine g_virtual_0I (pc := 111) hK 4 d10_111 (w104 hw) (w105 hw) (w107 hw) (w106 hw) (w3 hw) (w108 hw) (by decide) T.1 (rmBU _ Z a0 hw n0 _ sh T) pd_6 rfl rfl rfl (fun z111 h111 q111 gr111 => ?_)
  obtain ⟨rfl, rfl⟩ := q111
  refine g_aloadN (pc := 114) hK d10_114 rfl ?_
  refine g_get (pc := 115) hK (w137 hw) d10_115 (own_O.get O 8 (x := .int 4) rfl rfl) ?_
  refine g_imul (pc := 118) hK d10_118 ?_
  rw [show (7 : Int32) * 4 = 28 by decide]
  refine gA_newJ (pc := 119) hK 28 (w95 hw) d10_119 (by decide) (by decide) rfl (fun h119 o119 ea119 X119 A119 => ?_)
  have ne_rd : o ≠ o119 := by rw [ea119]; exact Nat.ne_of_lt O.1.lt
  have ns_rd : sh ≠ o119 := by rw [ea119]; exact Nat.ne_of_lt T.1.lt
  have g_rd : n0 ≤ o119 := by rw [ea119]; exact Nat.le_trans go (Nat.le_of_lt O.1.lt)
  have d_pr_rd : o6 ≠ o119 := by rw [ea119]; exact Nat.ne_of_lt A_pr.lt
  have d_rs_rd : o48 ≠ o119 := by rw [ea119]; exact Nat.ne_of_lt A_rs.lt
  have d_ri_rd : o59 ≠ o119 := by rw [ea119]; exact Nat.ne_of_lt A_ri.lt
  have d_ce_rd : o88 ≠ o119 := by rw [ea119]; exact Nat.ne_of_lt A_ce.lt
  have O := O.ext X119
  have T := T.ext X119
  have A_pr := A_pr.ext X119
  have A_rs := A_rs.ext X119
  have A_ri := A_ri.ext X119
  have A_ce := A_ce.ext X119
  have A_rd : AJ Z h119 o119 28 (fun _ => 0) := A119
  refine g_put (pc := 121) (ty := .array (.long)) hK (w139 hw) (Or.inr ⟨(w140 hw), rfl, rfl⟩) (w67 hw) d10_121 (own_O.get O 9 rfl rfl) O.1 go (by decide) rfl rfl (fun h121 W121 => ?_)
  have O := own_O.put hw O (k := 9) rfl W121
  have T := T.other W121 (Ne.symm os)
  have A_pr := A_pr.other W121 (Ne.symm ne_pr)
  have A_rs := A_rs.other W121 (Ne.symm ne_rs)
  have A_ri := A_ri.other W121 (Ne.symm ne_ri)
  have A_ce := A_ce.other W121 (Ne.symm ne_ce)
  have A_rd := A_rd.other W121 (Ne.symm ne_rd)
  refine g_aloadN (pc := 124) hK d10_124 rfl ?_
  refine g_aloadN (pc := 125) hK d10_125 rfl ?_
  refine g_virtual_0I (pc := 126) hK 4 d10_126 (w104 hw) (w105 hw) (w107 hw) (w106 hw) (w3 hw) (w108 hw) (by decide) T.1 (rmBU _ Z a0 hw n0 _ sh T) pd_6 rfl rfl rfl (fun z126 h126 q126 gr126 => ?_)
  obtain ⟨rfl, rfl⟩ := q126
  refine g_aloadN (pc := 129) hK d10_129 rfl ?_
  refine g_get (pc := 130) hK (w137 hw) d10_130 (own_O.get O 8 (x := .int 4) rfl rfl) ?_
  refine g_imul (pc := 133) hK d10_133 ?_
  rw [show (7 : Int32) * 4 = 28 by decide]
  refine gA_newJ (pc := 134) hK 28 (w95 hw) d10_134 (by decide) (by decide) rfl (fun h134 o134 ea134 X134 A134 => ?_)
  have ne_li : o ≠ o134 := by rw [ea134]; exact Nat.ne_of_lt O.1.lt
  have ns_li : sh ≠ o134 := by rw [ea134]; exact Nat.ne_of_lt T.1.lt
  have g_li : n0 ≤ o134 := by rw [ea134]; exact Nat.le_trans go (Nat.le_of_lt O.1.lt)
  have d_pr_li : o6 ≠ o134 := by rw [ea134]; exact Nat.ne_of_lt A_pr.lt
  have d_rs_li : o48 ≠ o134 := by rw [ea134]; exact Nat.ne_of_lt A_rs.lt
  have d_ri_li : o59 ≠ o134 := by rw [ea134]; exact Nat.ne_of_lt A_ri.lt
  have d_ce_li : o88 ≠ o134 := by rw [ea134]; exact Nat.ne_of_lt A_ce.lt
  have d_rd_li : o119 ≠ o134 := by rw [ea134]; exact Nat.ne_of_lt A_rd.lt
  have O := O.ext X134
  have T := T.ext X134
  have A_pr := A_pr.ext X134
  have A_rs := A_rs.ext X134
  have A_ri := A_ri.ext X134
  have A_ce := A_ce.ext X134
  have A_rd := A_rd.ext X134
  have A_li : AJ Z h134 o134 28 (fun _ => 0) := A134
  refine g_put (pc := 136) (ty := .array (.long)) hK (w141 hw) (Or.inr ⟨(w142 hw), rfl, rfl⟩) (w67 hw) d10_136 (own_O.get O 10 rfl rfl) O.1 go (by decide) rfl rfl (fun h136 W136 => ?_)
  have O := own_O.put hw O (k := 10) rfl W136
  have T := T.other W136 (Ne.symm os)
  have A_pr := A_pr.other W136 (Ne.symm ne_pr)
  have A_rs := A_rs.other W136 (Ne.symm ne_rs)
  have A_ri := A_ri.other W136 (Ne.symm ne_ri)
  have A_ce := A_ce.other W136 (Ne.symm ne_ce)
  have A_rd := A_rd.other W136 (Ne.symm ne_rd)
  have A_li := A_li.other W136 (Ne.symm ne_li)
  refine g_aloadN (pc := 139) hK d10_139 rfl ?_
  refine g_aloadN (pc := 140) hK d10_140 rfl ?_
  refine g_virtual_0I (pc := 141) hK 4 d10_141 (w104 hw) (w105 hw) (w107 hw) (w106 hw) (w3 hw) (w108 hw) (by decide) T.1 (rmBU _ Z a0 hw n0 _ sh T) pd_6 rfl rfl rfl (fun z141 h141 q141 gr141 => ?_)
  obtain ⟨rfl, rfl⟩ := q141
  refine gA_newI (pc := 144) hK 7 (w73 hw) d10_144 (by decide) (by decide) rfl (fun h144 o144 ea144 X144 A144 => ?_)
  have ne_rc : o ≠ o144 := by rw [ea144]; exact Nat.ne_of_lt O.1.lt
  have ns_rc : sh ≠ o144 := by rw [ea144]; exact Nat.ne_of_lt T.1.lt
  have g_rc : n0 ≤ o144 := by rw [ea144]; exact Nat.le_trans go (Nat.le_of_lt O.1.lt)
  have d_pr_rc : o6 ≠ o144 := by rw [ea144]; exact Nat.ne_of_lt A_pr.lt
  have d_rs_rc : o48 ≠ o144 := by rw [ea144]; exact Nat.ne_of_lt A_rs.lt
  have d_ri_rc : o59 ≠ o144 := by rw [ea144]; exact Nat.ne_of_lt A_ri.lt
  have d_ce_rc : o88 ≠ o144 := by rw [ea144]; exact Nat.ne_of_lt A_ce.lt
  have d_rd_rc : o119 ≠ o144 := by rw [ea144]; exact Nat.ne_of_lt A_rd.lt
  have d_li_rc : o134 ≠ o144 := by rw [ea144]; exact Nat.ne_of_lt A_li.lt
  have O := O.ext X144
  have T := T.ext X144
  have A_pr := A_pr.ext X144
  have A_rs := A_rs.ext X144
  have A_ri := A_ri.ext X144
  have A_ce := A_ce.ext X144
  have A_rd := A_rd.ext X144
  have A_li := A_li.ext X144
  have A_rc : AI Z h144 o144 7 (fun _ => 0) := A144
  refine g_put (pc := 146) (ty := .array (.int)) hK (w143 hw) (Or.inr ⟨(w144 hw), rfl, rfl⟩) (w67 hw) d10_146 (own_O.get O 11 rfl rfl) O.1 go (by decide) rfl rfl (fun h146 W146 => ?_)
  have O := own_O.put hw O (k := 11) rfl W146
  have T := T.other W146 (Ne.symm os)
  have A_pr := A_pr.other W146 (Ne.symm ne_pr)
  have A_rs := A_rs.other W146 (Ne.symm ne_rs)
  have A_ri := A_ri.other W146 (Ne.symm ne_ri)
  have A_ce := A_ce.other W146 (Ne.symm ne_ce)
  have A_rd := A_rd.other W146 (Ne.symm ne_rd)
  have A_li := A_li.other W146 (Ne.symm ne_li)
  have A_rc := A_rc.other W146 (Ne.symm ne_rc)
  refine g_aloadN (pc := 149) hK d10_149 rfl ?_
  refine g_aloadN (pc := 150) hK d10_150 rfl ?_
  refine g_virtual_0I (pc := 151) hK 4 d10_151 (w104 hw) (w105 hw) (w107 hw) (w106 hw) (w3 hw) (w108 hw) (by decide) T.1 (rmBU _ Z a0 hw n0 _ sh T) pd_6 rfl rfl rfl (fun z151 h151 q151 gr151 => ?_)
  obtain ⟨rfl, rfl⟩ := q151
  refine gA_newJ (pc := 154) hK 7 (w95 hw) d10_154 (by decide) (by decide) rfl (fun h154 o154 ea154 X154 A154 => ?_)
  have ne_wr : o ≠ o154 := by rw [ea154]; exact Nat.ne_of_lt O.1.lt
  have ns_wr : sh ≠ o154 := by rw [ea154]; exact Nat.ne_of_lt T.1.lt
  have g_wr : n0 ≤ o154 := by rw [ea154]; exact Nat.le_trans go (Nat.le_of_lt O.1.lt)
  have d_pr_wr : o6 ≠ o154 := by rw [ea154]; exact Nat.ne_of_lt A_pr.lt
  have d_rs_wr : o48 ≠ o154 := by rw [ea154]; exact Nat.ne_of_lt A_rs.lt
  have d_ri_wr : o59 ≠ o154 := by rw [ea154]; exact Nat.ne_of_lt A_ri.lt
  have d_ce_wr : o88 ≠ o154 := by rw [ea154]; exact Nat.ne_of_lt A_ce.lt
  have d_rd_wr : o119 ≠ o154 := by rw [ea154]; exact Nat.ne_of_lt A_rd.lt
  have d_li_wr : o134 ≠ o154 := by rw [ea154]; exact Nat.ne_of_lt A_li.lt
  have d_rc_wr : o144 ≠ o154 := by rw [ea154]; exact Nat.ne_of_lt A_rc.lt
  have O := O.ext X154
  have T := T.ext X154
  have A_pr := A_pr.ext X154
  have A_rs := A_rs.ext X154
  have A_ri := A_ri.ext X154
  have A_ce := A_ce.ext X154
  have A_rd := A_rd.ext X154
  have A_li := A_li.ext X154
  have A_rc := A_rc.ext X154
  refine g_put (pc := 156) (ty := .array (.long)) hK (w145 hw) (Or.inr ⟨(w146 hw), rfl, rfl⟩) (w67 hw) d10_156 (own_O.get O 12 rfl rfl) O.1 go (by decide) rfl rfl (fun h156 W156 => ?_)
  have O := own_O.put hw O (k := 12) rfl W156
  have T := T.other W156 (Ne.symm os)
  have A_pr := A_pr.other W156 (Ne.symm ne_pr)
  have A_rs := A_rs.other W156 (Ne.symm ne_rs)
  have A_ri := A_ri.other W156 (Ne.symm ne_ri)
  have A_ce := A_ce.other W156 (Ne.symm ne_ce)
  have A_rd := A_rd.other W156 (Ne.symm ne_rd)
  have A_li := A_li.other W156 (Ne.symm ne_li)
  have A_rc := A_rc.other W156 (Ne.symm ne_rc)
  refine g_aloadN (pc := 159) hK d10_159 rfl ?_
  refine g_aloadN (pc := 160) hK d10_160 rfl ?_
  refine g_virtual_0I (pc := 161) hK 4 d10_161 (w104 hw) (w105 hw) (w107 hw) (w106 hw) (w3 hw) (w108 hw) (by decide) T.1 (rmBU _ Z a0 hw n0 _ sh T) pd_6 rfl rfl rfl (fun z161 h161 q161 gr161 => ?_)
  obtain ⟨rfl, rfl⟩ := q161
  refine gA_newJ (pc := 164) hK 7 (w95 hw) d10_164 (by decide) (by decide) rfl (fun h164 o164 ea164 X164 A164 => ?_)
  have ne_tg : o ≠ o164 := by rw [ea164]; exact Nat.ne_of_lt O.1.lt
  have ns_tg : sh ≠ o164 := by rw [ea164]; exact Nat.ne_of_lt T.1.lt
  have g_tg : n0 ≤ o164 := by rw [ea164]; exact Nat.le_trans go (Nat.le_of_lt O.1.lt)
  have d_pr_tg : o6 ≠ o164 := by rw [ea164]; exact Nat.ne_of_lt A_pr.lt
  have d_rs_tg : o48 ≠ o164 := by rw [ea164]; exact Nat.ne_of_lt A_rs.lt
  have d_ri_tg : o59 ≠ o164 := by rw [ea164]; exact Nat.ne_of_lt A_ri.lt
  have d_ce_tg : o88 ≠ o164 := by rw [ea164]; exact Nat.ne_of_lt A_ce.lt
  have d_rd_tg : o119 ≠ o164 := by rw [ea164]; exact Nat.ne_of_lt A_rd.lt
  have d_li_tg : o134 ≠ o164 := by rw [ea164]; exact Nat.ne_of_lt A_li.lt
  have d_rc_tg : o144 ≠ o164 := by rw [ea164]; exact Nat.ne_of_lt A_rc.lt
  have O := O.ext X164
  have T := T.ext X164
  have A_pr := A_pr.ext X164
  have A_rs := A_rs.ext X164
  have A_ri := A_ri.ext X164
  have A_ce := A_ce.ext X164
  have A_rd := A_rd.ext X164
  have A_li := A_li.ext X164
  have A_rc := A_rc.ext X164
  refine g_put (pc := 166) (ty := .array (.long)) hK (w147 hw) (Or.inr ⟨(w148 hw), rfl, rfl⟩) (w67 hw) d10_166 (own_O.get O 13 rfl rfl) O.1 go (by decide) rfl rfl (fun h166 W166 => ?_)
  have O := own_O.put hw O (k := 13) rfl W166
  have T := T.other W166 (Ne.symm os)
  have A_pr := A_pr.other W166 (Ne.symm ne_pr)
  have A_rs := A_rs.other W166 (Ne.symm ne_rs)
  have A_ri := A_ri.other W166 (Ne.symm ne_ri)
  have A_ce := A_ce.other W166 (Ne.symm ne_ce)
  have A_rd := A_rd.other W166 (Ne.symm ne_rd)
  have A_li := A_li.other W166 (Ne.symm ne_li)
  have A_rc := A_rc.other W166 (Ne.symm ne_rc)
  refine g_aloadN (pc := 169) hK d10_169 rfl ?_
  refine g_get (pc := 170) hK (w119 hw) d10_170 (own_O.get O 4 (x := .ref o48) rfl rfl) ?_
  refine g_iconst (pc := 173) (z := (-1 : Int32)) hK d10_173 (by decide) ?_
  refine g_static_2V (pc := 174) hK 4 d10_174 (w149 hw) (w150 hw) (w151 hw) (w152 hw) (by decide) (rmFI _ Z a0 hw n0 _ _ g_rs _ 7 (by decide) _ A_rs) pd_8 rfl rfl rfl (fun h174 q174 gr174 => ?_)
  have O := O.keep q174 (ninS ne_rs nin0)
  have T := T.keep q174 (ninS ns_rs nin0)
  have A_pr := A_pr.keep q174 (ninS d_pr_rs nin0)
  have A_ri := A_ri.keep q174 (ninS (Ne.symm d_rs_ri) nin0)
  have A_ce := A_ce.keep q174 (ninS (Ne.symm d_rs_ce) nin0)
  have A_rd := A_rd.keep q174 (ninS (Ne.symm d_rs_rd) nin0)
  have A_li := A_li.keep q174 (ninS (Ne.symm d_rs_li) nin0)
  have A_rc := A_rc.keep q174 (ninS (Ne.symm d_rs_rc) nin0)
  refine g_aloadN (pc := 177) hK d10_177 rfl ?_
  refine g_get (pc := 178) hK (w121 hw) d10_178 (own_O.get O 5 (x := .ref o59) rfl rfl) ?_
  refine g_iconst (pc := 181) (z := (-1 : Int32)) hK d10_181 (by decide) ?_
  refine g_static_2V (pc := 182) hK 4 d10_182 (w149 hw) (w150 hw) (w151 hw) (w152 hw) (by decide) (rmFI _ Z a0 hw n0 _ _ g_ri _ 7 (by decide) _ A_ri) pd_8 rfl rfl rfl (fun h182 q182 gr182 => ?_)
  have O := O.keep q182 (ninS ne_ri nin0)
  have T := T.keep q182 (ninS ns_ri nin0)
  have A_pr := A_pr.keep q182 (ninS d_pr_ri nin0)
  have A_ce := A_ce.keep q182 (ninS (Ne.symm d_ri_ce) nin0)
  have A_rd := A_rd.keep q182 (ninS (Ne.symm d_ri_rd) nin0)
  have A_li := A_li.keep q182 (ninS (Ne.symm d_ri_li) nin0)
  have A_rc := A_rc.keep q182 (ninS (Ne.symm d_ri_rc) nin0)
  refine g_aloadN (pc := 185) hK d10_185 rfl ?_
  refine g_get (pc := 186) hK (w130 hw) d10_186 (own_O.get O 7 (x := .ref o88) rfl rfl) ?_
  refine g_iconst (pc := 189) (z := (-1 : Int32)) hK d10_189 (by decide) ?_
  refine g_static_2V (pc := 190) hK 4 d10_190 (w149 hw) (w150 hw) (w151 hw) (w152 hw) (by decide) (rmFI _ Z a0 hw n0 _ _ g_ce _ 4 (by decide) _ A_ce) pd_8 rfl rfl rfl (fun h190 q190 gr190 => ?_)
  have O := O.keep q190 (ninS ne_ce nin0)
  have T := T.keep q190 (ninS ns_ce nin0)
  have A_pr := A_pr.keep q190 (ninS d_pr_ce nin0)
  have A_rd := A_rd.keep q190 (ninS (Ne.symm d_ce_rd) nin0)
  have A_li := A_li.keep q190 (ninS (Ne.symm d_ce_li) nin0)
  have A_rc := A_rc.keep q190 (ninS (Ne.symm d_ce_rc) nin0)
  refine g_aloadN (pc := 193) hK d10_193 rfl ?_
  refine g_iconst (pc := 194) (z := (1 : Int32)) hK d10_194 (by decide) ?_
  refine g_put (pc := 195) (ty := .boolean) hK (w153 hw) (Or.inl (w154 hw)) (w67 hw) d10_195 (own_O.get O 14 rfl rfl) O.1 go (by decide) rfl rfl (fun h195 W195 => ?_)
  have O := own_O.put hw O (k := 14) rfl W195
  have T := T.other W195 (Ne.symm os)
  have A_pr := A_pr.other W195 (Ne.symm ne_pr)
  have A_rd := A_rd.other W195 (Ne.symm ne_rd)
  have A_li := A_li.other W195 (Ne.symm ne_li)
  have A_rc := A_rc.other W195 (Ne.symm ne_rc)
  exact g_return (pc := 198) hK d10_198 rfl ⟨_, sh, o6, o119, o134, o144, _, _, O, ⟨rfl, rfl, rfl, rfl, rfl, rfl, rfl⟩, T, A_pr, A_rd, A_li, A_rc, ⟨os, ne_pr, ne_rd, ne_li, ne_rc, ns_pr, ns_rd, ns_rc, d_pr_rd, d_pr_li, d_pr_rc, d_rd_li, d_rd_rc, d_li_rc⟩, go, g_pr, g_rd, g_rc⟩
set_option maxRecDepth 65536 in
set_option maxHeartbeats 4000000 in
theorem rmWR (l : Launch) (Z : State) (a0 : Array Value) (hw : ∀ d ∈ tables_1, d.before a0 Z = true) (n0 : Nat) (h : Heap) (o : Addr) (ct : Int32) (n : Nat) (rd : Nat → Int64) (b s : Int32) (hi : own_in b s) (hB : own_BT Z n0 h o ct n rd) : Con l (⟨"com/example/veilcommit/veilcommit/oram/BucketTable", "wasRead", "(II)Z"⟩ : MethodName) prog_103_method_9_code 3 (some .boolean) [] ({ frames := 0, cells := 0, slots := 0, locals := 0 } : Room) Z n0 #[.ref o, .int b, .int s] h (qI fun z h' => ((z = 1 ∧ own_rb rd b s) ∨ (z = 0 ∧ ¬ own_rb rd b s)) ∧ h' = h) := by
  refine con_of_go (Ls := [.val (.ref o), .val (.int b), .val (.int s)]) (plainFor_of_name (by first | (simp [plainName, overriddenIn]; done) | decide +kernel)) (fun m => by first | (simp [entryFrame, mkF, argsToLocals, Value.category]; done) | rfl) ?_
  intro K hl hK
  subst hl
  change Cx K Z "com/example/veilcommit/veilcommit/oram/BucketTable" prog_103_method_9_code 3 (some .boolean) "wasRead" at hK
  obtain ⟨v, sh, pr, ar, al, ac, pw, rc, O, ⟨e0, e1, e2, e3, e4, e5, e6⟩, T, AP, AR, AL, AC, ⟨d1, d2, d3, d4, d5, d6, d7, d8, d9, da, db, dc, dd, de⟩, g1, g2, g3, g4⟩ := hB
  refine g_aloadN (pc := 0) hK d20_0 rfl ?_
  refine g_get (pc := 1) hK (w139 hw) d20_1 (own_O.get O 9 (x := .ref ar) rfl e3) ?_
  refine g_iloadN (pc := 4) hK d20_4 rfl ?_
  refine g_aloadN (pc := 5) hK d20_5 rfl ?_
  refine g_get (pc := 6) hK (w137 hw) d20_6 (own_O.get O 8 (x := .int 4) rfl e2) ?_
  refine g_imul (pc := 9) hK d20_9 ?_
  refine g_iloadN (pc := 10) hK d20_10 rfl ?_
  refine g_bipush (pc := 11) (z := (64 : Int32)) hK d20_11 (by decide) ?_
  refine g_idiv (pc := 13) hK d20_13 (by decide) ?_
  refine g_iadd (pc := 14) hK d20_14 ?_
  refine gA_laload (pc := 15) hK AR (own_ix_rng b s hi) rfl d20_15 ?_
  refine g_lconst (pc := 16) (z := (1 : Int64)) hK d20_16 (by decide) ?_
  refine g_iloadN (pc := 17) hK d20_17 rfl ?_
  refine g_lshl (pc := 18) hK d20_18 ?_
  refine g_land (pc := 19) hK d20_19 ?_
  refine g_lconst (pc := 20) (z := (0 : Int64)) hK d20_20 (by decide) ?_
  refine g_lif_eq (pc := 21) (pc' := 29) hK d20_21 d20_22 (by decide) (fun b21 => ?_) (fun b21 => ?_)
  · refine g_iconst (pc := 29) (z := (0 : Int32)) hK d20_29 (by decide) ?_
    exact g_zreturn (pc := 30) hK d20_30 (by first | rfl | decide) rfl ⟨Or.inr ⟨rfl, fun q => q b21⟩, rfl⟩
  · refine g_iconst (pc := 25) (z := (1 : Int32)) hK d20_25 (by decide) ?_
    refine g_goto (pc := 26) (pc' := 30) hK d20_26 (by decide) ?_
    exact g_zreturn (pc := 30) hK d20_30 (by first | rfl | decide) rfl ⟨Or.inl ⟨rfl, b21⟩, rfl⟩
set_option maxRecDepth 65536 in
set_option maxHeartbeats 4000000 in
theorem rmEO (l : Launch) (Z : State) (a0 : Array Value) (hw : ∀ d ∈ tables_1, d.before a0 Z = true) (n0 : Nat) (h : Heap) (o : Addr) (ct : Int32) (n : Nat) (rd : Nat → Int64) (b s : Int32) (hi : own_in b s) (hB : own_BT Z n0 h o ct n rd) : Con l (⟨"com/example/veilcommit/veilcommit/oram/BucketTable", "entryOf", "(II)I"⟩ : MethodName) prog_103_method_20_code 4 (some .int) [] ({ frames := 0, cells := 0, slots := 0, locals := 0 } : Room) Z n0 #[.ref o, .int b, .int s] h (qI fun z h' => z = -1 ∧ h' = h) := by
  refine con_of_go (Ls := [.val (.ref o), .val (.int b), .val (.int s), .unset]) (plainFor_of_name (by first | (simp [plainName, overriddenIn]; done) | decide +kernel)) (fun m => by first | (simp [entryFrame, mkF, argsToLocals, Value.category]; done) | rfl) ?_
  intro K hl hK
  subst hl
  change Cx K Z "com/example/veilcommit/veilcommit/oram/BucketTable" prog_103_method_20_code 4 (some .int) "entryOf" at hK
  obtain ⟨v, sh, pr, ar, al, ac, pw, rc, O, ⟨e0, e1, e2, e3, e4, e5, e6⟩, T, AP, AR, AL, AC, ⟨d1, d2, d3, d4, d5, d6, d7, d8, d9, da, db, dc, dd, de⟩, g1, g2, g3, g4⟩ := hB
  refine g_aloadN (pc := 0) hK d26_0 rfl ?_
  refine g_get (pc := 1) hK (w141 hw) d26_1 (own_O.get O 10 (x := .ref al) rfl e4) ?_
  refine g_iloadN (pc := 4) hK d26_4 rfl ?_
  refine g_aloadN (pc := 5) hK d26_5 rfl ?_
  refine g_get (pc := 6) hK (w137 hw) d26_6 (own_O.get O 8 (x := .int 4) rfl e2) ?_
  refine g_imul (pc := 9) hK d26_9 ?_
  refine g_iloadN (pc := 10) hK d26_10 rfl ?_
  refine g_bipush (pc := 11) (z := (64 : Int32)) hK d26_11 (by decide) ?_
  refine g_idiv (pc := 13) hK d26_13 (by decide) ?_
  refine g_iadd (pc := 14) hK d26_14 ?_
  refine gA_laload (pc := 15) hK AL (own_ix_rng b s hi) rfl d26_15 ?_
  refine g_lconst (pc := 16) (z := (1 : Int64)) hK d26_16 (by decide) ?_
  refine g_iloadN (pc := 17) hK d26_17 rfl ?_
  refine g_lshl (pc := 18) hK d26_18 ?_
  refine g_land (pc := 19) hK d26_19 ?_
  refine g_lconst (pc := 20) (z := (0 : Int64)) hK d26_20 (by decide) ?_
  refine gN_lif_ne (pc := 21) hK d26_21 d26_22 (by simp) ?_
  refine g_iconst (pc := 25) (z := (-1 : Int32)) hK d26_25 (by decide) ?_
  exact g_ireturn (pc := 26) hK d26_26 rfl ⟨rfl, rfl⟩
set_option maxRecDepth 65536 in
set_option maxHeartbeats 4000000 in
theorem rmTR (l : Launch) (Z : State) (a0 : Array Value) (hw : ∀ d ∈ tables_1, d.before a0 Z = true) (n0 : Nat) (h : Heap) (o : Addr) (ct : Int32) (n : Nat) (rd : Nat → Int64) (b s : Int32) (hi : own_in b s) (hB : own_BT Z n0 h o ct n rd) : Con l (⟨"com/example/veilcommit/veilcommit/oram/BucketTable", "takeRead", "(II)V"⟩ : MethodName) prog_103_method_8_code 4 none [] ({ frames := 1, cells := 0, slots := 0, locals := 22 } : Room) Z n0 #[.ref o, .int b, .int s] h (qV fun h' => own_BT Z n0 h' o ct n (own_st rd b s)) := by
  refine con_of_go (Ls := [.val (.ref o), .val (.int b), .val (.int s), .unset]) (plainFor_of_name (by first | (simp [plainName, overriddenIn]; done) | decide +kernel)) (fun m => by first | (simp [entryFrame, mkF, argsToLocals, Value.category]; done) | rfl) ?_
  intro K hl hK
  subst hl
  change Cx K Z "com/example/veilcommit/veilcommit/oram/BucketTable" prog_103_method_8_code 4 none "takeRead" at hK
  obtain ⟨v, sh, pr, ar, al, ac, pw, rc, O, ⟨e0, e1, e2, e3, e4, e5, e6⟩, T, AP, AR, AL, AC, ⟨d1, d2, d3, d4, d5, d6, d7, d8, d9, da, db, dc, dd, de⟩, g1, g2, g3, g4⟩ := hB
  have hb := hi.1
  refine g_aloadN (pc := 0) hK d25_0 rfl ?_
  refine g_get (pc := 1) hK (w139 hw) d25_1 (own_O.get O 9 (x := .ref ar) rfl e3) ?_
  refine g_iloadN (pc := 4) hK d25_4 rfl ?_
  refine g_aloadN (pc := 5) hK d25_5 rfl ?_
  refine g_get (pc := 6) hK (w137 hw) d25_6 (own_O.get O 8 (x := .int 4) rfl e2) ?_
  refine g_imul (pc := 9) hK d25_9 ?_
  refine g_iloadN (pc := 10) hK d25_10 rfl ?_
  refine g_bipush (pc := 11) (z := (64 : Int32)) hK d25_11 (by decide) ?_
  refine g_idiv (pc := 13) hK d25_13 (by decide) ?_
  refine g_iadd (pc := 14) hK d25_14 ?_
  refine g_dup2 (pc := 15) hK d25_15 rfl rfl ?_
  refine gA_laload (pc := 16) hK AR (own_ix_rng b s hi) rfl d25_16 ?_
  refine g_lconst (pc := 17) (z := (1 : Int64)) hK d25_17 (by decide) ?_
  refine g_iloadN (pc := 18) hK d25_18 rfl ?_
  refine g_lshl (pc := 19) hK d25_19 ?_
  refine g_lor (pc := 20) hK d25_20 ?_
  refine gA_lastore (pc := 21) hK AR (own_ix_rng b s hi) g3 d25_21 (fun h21 W21 A21 => ?_)
  have O := O.other W21 d3
  have T := T.other W21 d7
  have AP := AP.other W21 d9
  have AR : AJ Z h21 ar 28 (own_st rd b s) := A21
  have AL := AL.other W21 (Ne.symm dc)
  have AC := AC.other W21 (Ne.symm dd)
  refine g_aloadN (pc := 22) hK d25_22 rfl ?_
  refine g_get (pc := 23) hK (w143 hw) d25_23 (own_O.get O 11 (x := .ref ac) rfl e5) ?_
  refine g_iloadN (pc := 26) hK d25_26 rfl ?_
  refine g_dup2 (pc := 27) hK d25_27 rfl rfl ?_
  refine gA_iaload (pc := 28) hK AC hb rfl d25_28 ?_
  refine g_iconst (pc := 29) (z := (1 : Int32)) hK d25_29 (by decide) ?_
  refine g_iadd (pc := 30) hK d25_30 ?_
  refine gA_iastore (pc := 31) hK AC hb g4 d25_31 (fun h31 W31 A31 => ?_)
  have O := O.other W31 d5
  have T := T.other W31 d8
  have AP := AP.other W31 db
  have AR := AR.other W31 dd
  have AL := AL.other W31 de
  have AC := A31
  have hB : own_BT Z n0 h31 o ct n (own_st rd b s) := ⟨v, sh, pr, ar, al, ac, _, _, O, ⟨e0, e1, e2, e3, e4, e5, e6⟩, T, AP, AR, AL, AC, ⟨d1, d2, d3, d4, d5, d6, d7, d8, d9, da, db, dc, dd, de⟩, ⟨g1, g2, g3, g4⟩⟩
  refine g_aloadN (pc := 32) hK d25_32 rfl ?_
  refine g_iloadN (pc := 33) hK d25_33 rfl ?_
  refine g_iloadN (pc := 34) hK d25_34 rfl ?_
  refine g_private_2I (pc := 35) hK 4 d25_35 (w184 hw) (w186 hw) (own_sel_entryOf hw) (w185 hw) (w68 hw) (w187 hw) (by decide) O.1 (rmEO _ Z a0 hw n0 _ o ct n _ b s hi hB) pd_4 rfl rfl rfl (fun z35 h35 q35 gr35 => ?_)
  obtain ⟨rfl, rfl⟩ := q35
  refine g_istore_3 (pc := 38) hK d25_38 rfl ?_
  refine g_iloadN (pc := 39) hK d25_39 rfl ?_
  refine g_iconst (pc := 40) (z := (-1 : Int32)) hK d25_40 (by decide) ?_
  refine gY_icmp_eq (pc := 41) (pc' := 95) hK d25_41 (by decide) rfl ?_
  exact g_return (pc := 95) hK d25_95 rfl hB
set_option maxRecDepth 65536 in
set_option maxHeartbeats 4000000 in
theorem rmCP (l : Launch) (Z : State) (a0 : Array Value) (hw : ∀ d ∈ tables_1, d.before a0 Z = true) (n0 : Nat) (h : Heap) (Z0 : n0 ≤ h.size) (a : Addr) (w : Nat → Int32) (A : AI Z h a 0 w) : Con l (⟨"java/util/Arrays", "copyOf", "([II)[I"⟩ : MethodName) jdk_65_method_123_code 3 (some (.array (.int))) [] ({ frames := 1, cells := 1, slots := 64, locals := 30 } : Room) Z n0 #[.ref a, .int 64] h (qA fun y h' => h.size ≤ y ∧ AI Z h' y 64 (fun _ => 0) ∧ Keep h h' []) := by
  refine con_of_go (Ls := [.val (.ref a), .val (.int 64), .unset]) (plainFor_of_name (by first | (simp [plainName, overriddenIn]; done) | decide +kernel)) (fun m => by first | (simp [entryFrame, mkF, argsToLocals, Value.category]; done) | rfl) ?_
  intro K hl hK
  subst hl
  change Cx K Z "java/util/Arrays" jdk_65_method_123_code 3 (some (.array (.int))) "copyOf" at hK
  refine g_iloadN (pc := 0) hK d23_0 rfl ?_
  refine g_aloadN (pc := 1) hK d23_1 rfl ?_
  refine gA_lenI (pc := 2) hK A (z := 0) (by decide) d23_2 ?_
  refine gY_icmp_ne (pc := 3) (pc' := 14) hK d23_3 (by decide) (by decide) ?_
  refine g_iloadN (pc := 14) hK d23_14 rfl ?_
  refine gA_newI (pc := 15) hK 64 (w73 hw) d23_15 (by decide) (by decide) rfl (fun h15 o15 ea15 X15 A15 => ?_)
  have A := A.ext X15
  have gy : n0 ≤ o15 := ea15 ▸ Z0
  refine g_astore_2 (pc := 17) hK d23_17 rfl ?_
  refine g_aloadN (pc := 18) hK d23_18 rfl ?_
  refine g_iconst (pc := 19) (z := (0 : Int32)) hK d23_19 (by decide) ?_
  refine g_aloadN (pc := 20) hK d23_20 rfl ?_
  refine g_iconst (pc := 21) (z := (0 : Int32)) hK d23_21 (by decide) ?_
  refine g_aloadN (pc := 22) hK d23_22 rfl ?_
  refine gA_lenI (pc := 23) hK A (z := 0) (by decide) d23_23 ?_
  refine g_iloadN (pc := 24) hK d23_24 rfl ?_
  refine g_static_2I (pc := 25) hK 6 d23_25 (w173 hw) (w174 hw) (w53 hw) (w175 hw) (by decide) (rmJ _ Z a0 hw n0 _ _ _) pd_4 rfl rfl rfl (fun z25 h25 q25 gr25 => ?_)
  obtain ⟨⟨p1, p2⟩, rfl⟩ := q25
  obtain rfl := p1 (by decide)
  refine g_copy0 (pc := 28) hK 4 (w176 hw) (w179 hw) (w177 hw) (w178 hw) A (by decide) A15 gy d23_28 rfl rfl (fun h28 K28 A28 => ?_)
  refine g_aloadN (pc := 31) hK d23_31 rfl ?_
  exact g_areturn (pc := 32) hK rfl rfl d23_32 rfl ⟨Nat.le_of_eq ea15.symm, A28, ((Keep.refl _ []).ext X15).trans K28 (fun x hx => Or.inr (by rw [List.mem_singleton.mp hx, ea15]; exact Nat.le_refl _))⟩
set_option maxRecDepth 65536 in
set_option maxHeartbeats 4000000 in
theorem rmMR (l : Launch) (Z : State) (a0 : Array Value) (hw : ∀ d ∈ tables_1, d.before a0 Z = true) (n0 : Nat) (h : Heap) (o : Addr) (ct : Int32) (n : Nat) (rd : Nat → Int64) (b s : Int32) (hc : (ct = 0 ∧ n = 0) ∨ (ct = 1 ∧ n = 64)) (hi : own_in b s) (hB : own_BT Z n0 h o ct n rd) : Con l (⟨"com/example/veilcommit/veilcommit/oram/BucketTable", "markRead", "(II)V"⟩ : MethodName) prog_103_method_7_code 3 none [] ({ frames := 2, cells := 1, slots := 64, locals := 50 } : Room) Z n0 #[.ref o, .int b, .int s] h (qV fun h' => own_BT Z n0 h' o (ct + 1) 64 (own_st rd b s)) := by
  refine con_of_go (Ls := [.val (.ref o), .val (.int b), .val (.int s)]) (plainFor_of_name (by first | (simp [plainName, overriddenIn]; done) | decide +kernel)) (fun m => by first | (simp [entryFrame, mkF, argsToLocals, Value.category]; done) | rfl) ?_
  intro K hl hK
  subst hl
  change Cx K Z "com/example/veilcommit/veilcommit/oram/BucketTable" prog_103_method_7_code 3 none "markRead" at hK
  have J : ∀ (h1 : Heap), own_BT Z n0 h1 o ct 64 rd → Go K ({ frames := 2, cells := 1, slots := 64, locals := 50 } : Room) n0 (nB (kS K) ({ frames := 2, cells := 1, slots := 64, locals := 50 } : Room)) (qV fun h' => own_BT Z n0 h' o (ct + 1) 64 (own_st rd b s)) h1 1 64 35 [.val (.ref o), .val (.int b), .val (.int s)] [] := by
    intro h1 hB
    obtain ⟨v, sh, pr, ar, al, ac, pw, rc, O, ⟨e0, e1, e2, e3, e4, e5, e6⟩, T, AP, AR, AL, AC, ⟨d1, d2, d3, d4, d5, d6, d7, d8, d9, da, db, dc, dd, de⟩, g1, g2, g3, g4⟩ := hB
    refine g_aloadN (pc := 35) hK d21_35 rfl ?_
    refine g_get (pc := 36) hK (w74 hw) d21_36 (own_O.get O 0 (x := .ref pr) rfl e0) ?_
    refine g_aloadN (pc := 39) hK d21_39 rfl ?_
    refine g_dup (pc := 40) hK d21_40 rfl ?_
    refine g_get (pc := 41) hK (w165 hw) d21_41 (own_O.get O 15 (x := .int ct) rfl e6) ?_
    refine g_dup_x1 (pc := 44) hK d21_44 rfl rfl ?_
    refine g_iconst (pc := 45) (z := (1 : Int32)) hK d21_45 (by decide) ?_
    refine g_iadd (pc := 46) hK d21_46 ?_
    refine g_put (pc := 47) (ty := .int) hK (w165 hw) (Or.inl (w166 hw)) (w67 hw) d21_47 (own_O.get O 15 (x := .int ct) rfl e6) O.1 g1 (by decide) rfl rfl (fun h47 W47 => ?_)
    have O := own_O.put hw O (k := 15) rfl W47
    have e0 := (upd_ne v 15 0 (.int (ct + 1)) (by decide)).trans e0
    have e1 := (upd_ne v 15 3 (.int (ct + 1)) (by decide)).trans e1
    have e2 := (upd_ne v 15 8 (.int (ct + 1)) (by decide)).trans e2
    have e3 := (upd_ne v 15 9 (.int (ct + 1)) (by decide)).trans e3
    have e4 := (upd_ne v 15 10 (.int (ct + 1)) (by decide)).trans e4
    have e5 := (upd_ne v 15 11 (.int (ct + 1)) (by decide)).trans e5
    have e6 := upd_at v 15 (.int (ct + 1))
    have T := T.other W47 (Ne.symm d1)
    have AP := AP.other W47 (Ne.symm d2)
    have AR := AR.other W47 (Ne.symm d3)
    have AL := AL.other W47 (Ne.symm d4)
    have AC := AC.other W47 (Ne.symm d5)
    refine g_iloadN (pc := 50) hK d21_50 rfl ?_
    refine g_aloadN (pc := 51) hK d21_51 rfl ?_
    refine g_get (pc := 52) hK (w102 hw) d21_52 (own_O.get O 3 (x := .ref sh) rfl e1) ?_
    refine g_virtual_0I (pc := 55) hK 6 d21_55 (w132 hw) (w133 hw) (w135 hw) (w134 hw) (w3 hw) (w136 hw) (by decide) T.1 (rmSL _ Z a0 hw n0 _ sh T) pd_6 rfl rfl rfl (fun z55 h55 q55 gr55 => ?_)
    obtain ⟨rfl, rfl⟩ := q55
    refine g_imul (pc := 58) hK d21_58 ?_
    refine g_iloadN (pc := 59) hK d21_59 rfl ?_
    refine g_iadd (pc := 60) hK d21_60 ?_
    refine gA_iastore (pc := 61) hK AP (by rcases hc with ⟨rfl, _⟩ | ⟨rfl, _⟩ <;> decide) g2 d21_61 (fun h61 W61 A61 => ?_)
    have O := O.other W61 d2
    have T := T.other W61 d6
    have AR := AR.other W61 (Ne.symm d9)
    have AL := AL.other W61 (Ne.symm da)
    have AC := AC.other W61 (Ne.symm db)
    have AP := A61
    have hB : own_BT Z n0 h61 o (ct + 1) 64 rd := ⟨_, sh, pr, ar, al, ac, _, _, O, ⟨e0, e1, e2, e3, e4, e5, e6⟩, T, AP, AR, AL, AC, ⟨d1, d2, d3, d4, d5, d6, d7, d8, d9, da, db, dc, dd, de⟩, ⟨g1, g2, g3, g4⟩⟩
    refine g_aloadN (pc := 62) hK d21_62 rfl ?_
    refine g_iloadN (pc := 63) hK d21_63 rfl ?_
    refine g_iloadN (pc := 64) hK d21_64 rfl ?_
    refine g_private_2V (pc := 65) hK 4 d21_65 (w180 hw) (w182 hw) (own_sel_takeRead hw) (w181 hw) (w68 hw) (w183 hw) (by decide) O.1 (rmTR _ Z a0 hw n0 _ o _ 64 rd b s hi hB) pd_9 rfl rfl rfl (fun h65 q65 gr65 => ?_)
    exact g_return (pc := 68) hK d21_68 rfl q65
  obtain ⟨v, sh, pr, ar, al, ac, pw, rc, O, ⟨e0, e1, e2, e3, e4, e5, e6⟩, T, AP, AR, AL, AC, ⟨d1, d2, d3, d4, d5, d6, d7, d8, d9, da, db, dc, dd, de⟩, g1, g2, g3, g4⟩ := hB
  have sz := O.1.lt
  refine g_aloadN (pc := 0) hK d21_0 rfl ?_
  refine g_get (pc := 1) hK (w165 hw) d21_1 (own_O.get O 15 (x := .int ct) rfl e6) ?_
  refine g_aloadN (pc := 4) hK d21_4 rfl ?_
  refine g_get (pc := 5) hK (w74 hw) d21_5 (own_O.get O 0 (x := .ref pr) rfl e0) ?_
  refine gA_lenI (pc := 8) hK AP rfl d21_8 ?_
  refine g_icmp_ne (pc := 9) (pc' := 35) hK d21_9 (by decide) (fun b9 => ?_) (fun b9 => ?_)
  · obtain ⟨rfl, rfl⟩ : ct = 1 ∧ n = 64 := by
      rcases hc with ⟨rfl, rfl⟩ | q
      · exact absurd (by decide) b9
      · exact q
    refine Go.grow (J h ⟨v, sh, pr, ar, al, ac, _, _, O, ⟨e0, e1, e2, e3, e4, e5, e6⟩, T, AP, AR, AL, AC, ⟨d1, d2, d3, d4, d5, d6, d7, d8, d9, da, db, dc, dd, de⟩, ⟨g1, g2, g3, g4⟩⟩) (by decide) (by decide)
  · refine g_aloadN (pc := 12) hK d21_12 rfl ?_
    refine g_aloadN (pc := 13) hK d21_13 rfl ?_
    refine g_get (pc := 14) hK (w74 hw) d21_14 (own_O.get O 0 (x := .ref pr) rfl e0) ?_
    refine g_bipush (pc := 17) (z := (64 : Int32)) hK d21_17 (by decide) ?_
    refine g_iconst (pc := 19) (z := (2 : Int32)) hK d21_19 (by decide) ?_
    refine g_aloadN (pc := 20) hK d21_20 rfl ?_
    refine g_get (pc := 21) hK (w74 hw) d21_21 (own_O.get O 0 (x := .ref pr) rfl e0) ?_
    obtain ⟨rfl, rfl⟩ : ct = 0 ∧ n = 0 := by
      rcases hc with q | ⟨rfl, rfl⟩
      · exact q
      · exact absurd b9 (by decide)
    refine gA_lenI (pc := 24) hK AP (z := 0) (by decide) d21_24 ?_
    refine g_imul (pc := 25) hK d21_25 ?_
    refine g_static_2I (pc := 26) hK 4 d21_26 (w167 hw) (w168 hw) (w53 hw) (w169 hw) (by decide) (rmX _ Z a0 hw n0 _ _ _) pd_4 rfl rfl rfl (fun z26 h26 q26 gr26 => ?_)
    obtain ⟨⟨p1, p2⟩, rfl⟩ := q26
    obtain rfl := p2 (by decide)
    refine g_static_2A (pc := 29) hK 4 d21_29 (w170 hw) (w171 hw) (w151 hw) (w172 hw) (by decide) (rmCP _ Z a0 hw n0 _ (Nat.le_trans g1 (Nat.le_of_lt O.1.lt)) pr pw AP) pd_10 rfl rfl rfl (fun z29 h29 q29 gr29 => ?_)
    obtain ⟨y1, AY, K29⟩ := q29
    have m1 := Nat.ne_of_lt (Nat.lt_of_lt_of_le O.1.lt y1)
    have m2 := Nat.ne_of_lt (Nat.lt_of_lt_of_le T.1.lt y1)
    have m3 := Nat.ne_of_gt (Nat.lt_of_lt_of_le AR.lt y1)
    have m4 := Nat.ne_of_gt (Nat.lt_of_lt_of_le AL.lt y1)
    have m5 := Nat.ne_of_gt (Nat.lt_of_lt_of_le AC.lt y1)
    have gy : n0 ≤ z29 := Nat.le_trans g1 (Nat.le_trans (Nat.le_of_lt O.1.lt) y1)
    have O := O.keep K29 nin0
    have T := T.keep K29 nin0
    have AR := AR.keep K29 nin0
    have AL := AL.keep K29 nin0
    have AC := AC.keep K29 nin0
    refine g_put (pc := 32) (ty := .array (.int)) hK (w74 hw) (Or.inl (w75 hw)) (w67 hw) d21_32 (own_O.get O 0 (x := .ref pr) rfl e0) O.1 g1 (by decide) rfl rfl (fun h32 W32 => ?_)
    have O := own_O.put hw O (k := 0) rfl W32
    have e1 := (upd_ne v 0 3 (.ref z29) (by decide)).trans e1
    have e2 := (upd_ne v 0 8 (.ref z29) (by decide)).trans e2
    have e3 := (upd_ne v 0 9 (.ref z29) (by decide)).trans e3
    have e4 := (upd_ne v 0 10 (.ref z29) (by decide)).trans e4
    have e5 := (upd_ne v 0 11 (.ref z29) (by decide)).trans e5
    have e6 := (upd_ne v 0 15 (.ref z29) (by decide)).trans e6
    have e0 := upd_at v 0 (.ref z29)
    have T := T.other W32 (Ne.symm d1)
    have AP := AY.other W32 (Ne.symm m1)
    have AR := AR.other W32 (Ne.symm d3)
    have AL := AL.other W32 (Ne.symm d4)
    have AC := AC.other W32 (Ne.symm d5)
    exact J h32 ⟨_, sh, z29, ar, al, ac, _, _, O, ⟨e0, e1, e2, e3, e4, e5, e6⟩, T, AP, AR, AL, AC, ⟨d1, m1, d3, d4, d5, m2, d7, d8, m3, m4, m5, dc, dd, de⟩, ⟨g1, gy, g3, g4⟩⟩
theorem own_BTx {Z : State} {n0 : Nat} {h : Heap} {o : Addr} {ct : Int32} {n : Nat} {rd : Nat → Int64} (hB : own_BT Z n0 h o ct n rd) : Exa Z h o "com/example/veilcommit/veilcommit/oram/BucketTable" := by
  obtain ⟨_, _, _, _, _, _, _, _, O, -⟩ := hB
  exact O.1
set_option maxRecDepth 65536 in
set_option maxHeartbeats 4000000 in
theorem rm0 (l : Launch) (Z : State) (a0 : Array Value) (hw : ∀ d ∈ tables_1, d.before a0 Z = true) (n0 : Nat) (h : Heap) (Z0 : n0 ≤ h.size) (i0 i1 i2 i3 i4 i5 : Int32) : ConW l x code maxLocals ret tables_1 room_1 Z n0 #[.int i0, .int i1, .int i2, .int i3, .int i4, .int i5] h (qI fun z _ => z = 1) := by
  refine conW_of_go (Ls := [.val (.int i0), .val (.int i1), .val (.int i2), .val (.int i3), .val (.int i4), .val (.int i5), .unset, .unset, .unset, .unset, .unset, .unset, .unset, .unset, .unset, .unset, .unset, .unset, .unset, .unset, .unset]) (plainFor_of_name (by first | (simp [plainName, overriddenIn]; done) | decide +kernel)) (fun m => by first | (simp [entryFrame, mkF, argsToLocals, Value.category, maxLocals]; done) | rfl) ?_
  intro K hl hK
  subst hl
  have hS : (kS K).Since (kS K).vm 0 := (State.WarmedH.refl _).since 0
  have hk : 0 ≤ h.size := Nat.zero_le _
  change Cx (reK K (kS K).vm) Z "com/example/veilcommit/veilcommit/oram/BucketTableWasReadPinLaw" code 21 (some .boolean) "law" at hK
  refine g_iloadN (pc := 0) hK at_0 rfl ?_
  refine g_ldc (pc := 1) hK (w0 hw) at_1 ?_
  refine g_iand (pc := 3) hK at_3 ?_
  refine g_bipush (pc := 4) (z := (7 : Int32)) hK at_4 (by decide) ?_
  refine g_irem (pc := 6) hK at_6 (by decide) ?_
  refine g_istore_6 (pc := 7) hK at_7 rfl ?_
  have m0 := c_mask i0 2147483647 31 (by decide) (by decide)
  have m1 := (c_irem (i0 &&& 2147483647) 7 7 rfl).1 (by omega)
  generalize (i0 &&& 2147483647) % 7 = b1 at *
  have hb1 : 0 ≤ b1.toInt ∧ b1.toInt < 7 := by omega
  clear m0 m1
  refine g_iloadN (pc := 9) hK at_9 rfl ?_
  refine g_ldc (pc := 10) hK (w0 hw) at_10 ?_
  refine g_iand (pc := 12) hK at_12 ?_
  refine g_sipush (pc := 13) (z := (200 : Int32)) hK at_13 (by decide) ?_
  refine g_irem (pc := 16) hK at_16 (by decide) ?_
  refine g_istore_7 (pc := 17) hK at_17 rfl ?_
  have m0 := c_mask i1 2147483647 31 (by decide) (by decide)
  have m1 := (c_irem (i1 &&& 2147483647) 200 200 rfl).1 (by omega)
  generalize (i1 &&& 2147483647) % 200 = s1 at *
  have hs1 : 0 ≤ s1.toInt ∧ s1.toInt < 200 := by omega
  clear m0 m1
  refine g_iloadN (pc := 19) hK at_19 rfl ?_
  refine g_ldc (pc := 20) hK (w0 hw) at_20 ?_
  refine g_iand (pc := 22) hK at_22 ?_
  refine g_bipush (pc := 23) (z := (7 : Int32)) hK at_23 (by decide) ?_
  refine g_irem (pc := 25) hK at_25 (by decide) ?_
  refine g_istore_8 (pc := 26) hK at_26 rfl ?_
  have m0 := c_mask i2 2147483647 31 (by decide) (by decide)
  have m1 := (c_irem (i2 &&& 2147483647) 7 7 rfl).1 (by omega)
  generalize (i2 &&& 2147483647) % 7 = b2 at *
  have hb2 : 0 ≤ b2.toInt ∧ b2.toInt < 7 := by omega
  clear m0 m1
  refine g_iloadN (pc := 28) hK at_28 rfl ?_
  refine g_ldc (pc := 29) hK (w0 hw) at_29 ?_
  refine g_iand (pc := 31) hK at_31 ?_
  refine g_sipush (pc := 32) (z := (200 : Int32)) hK at_32 (by decide) ?_
  refine g_irem (pc := 35) hK at_35 (by decide) ?_
  refine g_istore_9 (pc := 36) hK at_36 rfl ?_
  have m0 := c_mask i3 2147483647 31 (by decide) (by decide)
  have m1 := (c_irem (i3 &&& 2147483647) 200 200 rfl).1 (by omega)
  generalize (i3 &&& 2147483647) % 200 = s2 at *
  have hs2 : 0 ≤ s2.toInt ∧ s2.toInt < 200 := by omega
  clear m0 m1
  refine g_iload (pc := 38) hK at_38 rfl ?_
  refine g_ldc (pc := 40) hK (w0 hw) at_40 ?_
  refine g_iand (pc := 42) hK at_42 ?_
  refine g_bipush (pc := 43) (z := (7 : Int32)) hK at_43 (by decide) ?_
  refine g_irem (pc := 45) hK at_45 (by decide) ?_
  refine g_istore_10 (pc := 46) hK at_46 rfl ?_
  have m0 := c_mask i4 2147483647 31 (by decide) (by decide)
  have m1 := (c_irem (i4 &&& 2147483647) 7 7 rfl).1 (by omega)
  generalize (i4 &&& 2147483647) % 7 = qb at *
  have hqb : 0 ≤ qb.toInt ∧ qb.toInt < 7 := by omega
  clear m0 m1
  refine g_iload (pc := 48) hK at_48 rfl ?_
  refine g_ldc (pc := 50) hK (w0 hw) at_50 ?_
  refine g_iand (pc := 52) hK at_52 ?_
  refine g_sipush (pc := 53) (z := (200 : Int32)) hK at_53 (by decide) ?_
  refine g_irem (pc := 56) hK at_56 (by decide) ?_
  refine g_istore_11 (pc := 57) hK at_57 rfl ?_
  have m0 := c_mask i5 2147483647 31 (by decide) (by decide)
  have m1 := (c_irem (i5 &&& 2147483647) 200 200 rfl).1 (by omega)
  generalize (i5 &&& 2147483647) % 200 = qs at *
  have hqs : 0 ≤ qs.toInt ∧ qs.toInt < 200 := by omega
  clear m0 m1
  have n1 : own_in b1 s1 := ⟨hb1, hs1⟩
  have n2 : own_in b2 s2 := ⟨hb2, hs2⟩
  have nq : own_in qb qs := ⟨hqb, hqs⟩
  refine g_new (pc := 59) hK (w1 hw) (w2 hw) (w3 hw) at_59 rfl (fun h59 o59 ea59 X59 E59 D59 => ?_)
  have F59_capacity : Fld Z h59 o59 "com/example/veilcommit/veilcommit/oram/TreeShape" "capacity" "I" (.int 0) := D59 (Or.inr (w57 hw)) (ty := .int) (by decide)
  have F59_blockSize : Fld Z h59 o59 "com/example/veilcommit/veilcommit/oram/TreeShape" "blockSize" "I" (.int 0) := D59 (Or.inr (w59 hw)) (ty := .int) (by decide)
  have F59_z : Fld Z h59 o59 "com/example/veilcommit/veilcommit/oram/TreeShape" "z" "I" (.int 0) := D59 (Or.inr (w61 hw)) (ty := .int) (by decide)
  have F59_s : Fld Z h59 o59 "com/example/veilcommit/veilcommit/oram/TreeShape" "s" "I" (.int 0) := D59 (Or.inr (w63 hw)) (ty := .int) (by decide)
  have F59_a : Fld Z h59 o59 "com/example/veilcommit/veilcommit/oram/TreeShape" "a" "I" (.int 0) := D59 (Or.inr (w65 hw)) (ty := .int) (by decide)
  have hT : own_T Z h59 o59 0 0 0 0 0 := ⟨E59, F59_capacity, F59_blockSize, F59_z, F59_s, F59_a⟩
  have go : n0 ≤ o59 := ea59 ▸ Z0
  have hk : 0 ≤ h59.size := Nat.zero_le _
  refine g_dup (pc := 62) hK at_62 rfl ?_
  refine g_iconst (pc := 63) (z := (4 : Int32)) hK at_63 (by decide) ?_
  refine g_iconst (pc := 64) (z := (1 : Int32)) hK at_64 (by decide) ?_
  refine g_iconst (pc := 65) (z := (1 : Int32)) hK at_65 (by decide) ?_
  refine g_sipush (pc := 66) (z := (199 : Int32)) hK at_66 (by decide) ?_
  refine g_iconst (pc := 69) (z := (1 : Int32)) hK at_69 (by decide) ?_
  refine gW_special_5V (pc := 70) hK hS hk 4 at_70 rfl (w4 hw) (w5 hw) (w3 hw) (w6 hw) (by decide) (rmN _ Z a0 hw n0 _ _ go _ _ _ _ _ _ _ _ _ _ (by decide) (by decide) (by decide) (by decide) (by decide) rfl rfl hT) pd_12 rfl rfl rfl (fun h70 vm70 q70 hK hS gr70 => ?_)
  have hk := Nat.le_refl h70.size
  have hT := q70
  refine g_astore_12 (pc := 73) hK at_73 rfl ?_
  refine g_new (pc := 75) hK (w66 hw) (w67 hw) (w68 hw) at_75 rfl (fun h75 o75 ea75 X75 E75 D75 => ?_)
  have F75_pathReads : Fld Z h75 o75 "com/example/veilcommit/veilcommit/oram/BucketTable" "pathReads" "[I" .null := D75 (Or.inl (w75 hw)) (ty := .array (.int)) (by decide)
  have F75_superseded : Fld Z h75 o75 "com/example/veilcommit/veilcommit/oram/BucketTable" "superseded" "Ljava/util/BitSet;" .null := D75 (Or.inr (w99 hw)) (ty := .object "java/util/BitSet") (by decide)
  have F75_written : Fld Z h75 o75 "com/example/veilcommit/veilcommit/oram/BucketTable" "written" "Ljava/util/BitSet;" .null := D75 (Or.inr (w101 hw)) (ty := .object "java/util/BitSet") (by decide)
  have F75_shape : Fld Z h75 o75 "com/example/veilcommit/veilcommit/oram/BucketTable" "shape" "Lcom/example/veilcommit/veilcommit/oram/TreeShape;" .null := D75 (Or.inr (w103 hw)) (ty := .object "com/example/veilcommit/veilcommit/oram/TreeShape") (by decide)
  have F75_realSlots : Fld Z h75 o75 "com/example/veilcommit/veilcommit/oram/BucketTable" "realSlots" "[I" .null := D75 (Or.inr (w120 hw)) (ty := .array (.int)) (by decide)
  have F75_realIds : Fld Z h75 o75 "com/example/veilcommit/veilcommit/oram/BucketTable" "realIds" "[I" .null := D75 (Or.inr (w122 hw)) (ty := .array (.int)) (by decide)
  have F75_older : Fld Z h75 o75 "com/example/veilcommit/veilcommit/oram/BucketTable" "older" "[J" .null := D75 (Or.inr (w124 hw)) (ty := .array (.long)) (by decide)
  have F75_currentEntries : Fld Z h75 o75 "com/example/veilcommit/veilcommit/oram/BucketTable" "currentEntries" "[I" .null := D75 (Or.inr (w131 hw)) (ty := .array (.int)) (by decide)
  have F75_words : Fld Z h75 o75 "com/example/veilcommit/veilcommit/oram/BucketTable" "words" "I" (.int 0) := D75 (Or.inr (w138 hw)) (ty := .int) (by decide)
  have F75_read : Fld Z h75 o75 "com/example/veilcommit/veilcommit/oram/BucketTable" "read" "[J" .null := D75 (Or.inr (w140 hw)) (ty := .array (.long)) (by decide)
  have F75_listed : Fld Z h75 o75 "com/example/veilcommit/veilcommit/oram/BucketTable" "listed" "[J" .null := D75 (Or.inr (w142 hw)) (ty := .array (.long)) (by decide)
  have F75_readCounts : Fld Z h75 o75 "com/example/veilcommit/veilcommit/oram/BucketTable" "readCounts" "[I" .null := D75 (Or.inr (w144 hw)) (ty := .array (.int)) (by decide)
  have F75_writes : Fld Z h75 o75 "com/example/veilcommit/veilcommit/oram/BucketTable" "writes" "[J" .null := D75 (Or.inr (w146 hw)) (ty := .array (.long)) (by decide)
  have F75_tags : Fld Z h75 o75 "com/example/veilcommit/veilcommit/oram/BucketTable" "tags" "[J" .null := D75 (Or.inr (w148 hw)) (ty := .array (.long)) (by decide)
  have F75_indexed : Fld Z h75 o75 "com/example/veilcommit/veilcommit/oram/BucketTable" "indexed" "Z" (.int 0) := D75 (Or.inl (w154 hw)) (ty := .boolean) (by decide)
  have F75_pathReadCount : Fld Z h75 o75 "com/example/veilcommit/veilcommit/oram/BucketTable" "pathReadCount" "I" (.int 0) := D75 (Or.inl (w166 hw)) (ty := .int) (by decide)
  have os : o75 ≠ o59 := by rw [ea75]; exact Nat.ne_of_gt hT.1.lt
  have hT := hT.ext X75
  have go2 : n0 ≤ o75 := by rw [ea75]; exact Nat.le_trans go (Nat.le_of_lt (Nat.lt_of_lt_of_le (Nat.lt_of_lt_of_le (by rw [ea59]; exact Nat.lt_of_lt_of_le (Nat.lt_succ_self _) (by have := E59.lt; rw [ea59] at this; exact this)) (Nat.le_refl _)) gr70))
  have hk := Nat.le_trans hk X75.1
  have OO : own_O Z h75 o75 own_v0 := ⟨E75, fun i f hf => by
    match i, hf with
    | 0, hf => cases hf; exact F75_pathReads
    | 1, hf => cases hf; exact F75_superseded
    | 2, hf => cases hf; exact F75_written
    | 3, hf => cases hf; exact F75_shape
    | 4, hf => cases hf; exact F75_realSlots
    | 5, hf => cases hf; exact F75_realIds
    | 6, hf => cases hf; exact F75_older
    | 7, hf => cases hf; exact F75_currentEntries
    | 8, hf => cases hf; exact F75_words
    | 9, hf => cases hf; exact F75_read
    | 10, hf => cases hf; exact F75_listed
    | 11, hf => cases hf; exact F75_readCounts
    | 12, hf => cases hf; exact F75_writes
    | 13, hf => cases hf; exact F75_tags
    | 14, hf => cases hf; exact F75_indexed
    | 15, hf => cases hf; exact F75_pathReadCount⟩
  refine g_dup (pc := 78) hK at_78 rfl ?_
  refine g_aload (pc := 79) hK at_79 rfl ?_
  refine g_special_1V (pc := 81) hK 4 at_81 rfl (w69 hw) (w70 hw) (w68 hw) (w71 hw) (by decide) (rmB _ Z a0 hw n0 _ o75 o59 go2 os OO hT) pd_13 rfl rfl rfl (fun h81 q81 gr81 => ?_)
  have hB := q81
  have hk := Nat.le_trans hk gr81
  refine g_astore_13 (pc := 84) hK at_84 rfl ?_
  refine g_aload (pc := 86) hK at_86 rfl ?_
  refine g_iload (pc := 88) hK at_88 rfl ?_
  refine g_iload (pc := 90) hK at_90 rfl ?_
  refine g_virtual_2I (pc := 92) hK 4 at_92 (w155 hw) (w156 hw) (w158 hw) (w157 hw) (w68 hw) (w159 hw) (by decide) (own_BTx hB) (rmWR _ Z a0 hw n0 _ o75 _ _ _ qb qs nq hB) pd_11 rfl rfl rfl (fun z92 h92 q92 gr92 => ?_)
  obtain ⟨q92, rfl⟩ := q92
  obtain rfl : z92 = 0 := by
    rcases q92 with ⟨_, q⟩ | ⟨q, _⟩
    · exact absurd q (own_rb0 qb qs)
    · exact q
  refine gN_if_ne (pc := 95) hK at_95 rfl ?_
  refine g_iconst (pc := 98) (z := (1 : Int32)) hK at_98 (by decide) ?_
  refine g_goto (pc := 99) (pc' := 103) hK at_99 (by decide) ?_
  refine g_istore_14 (pc := 103) hK at_103 rfl ?_
  refine g_aload (pc := 105) hK at_105 rfl ?_
  refine g_iload (pc := 107) hK at_107 rfl ?_
  refine g_iload (pc := 109) hK at_109 rfl ?_
  refine g_virtual_2V (pc := 111) hK 4 at_111 (w160 hw) (w161 hw) (w163 hw) (w162 hw) (w68 hw) (w164 hw) (by decide) (own_BTx hB) (rmMR _ Z a0 hw n0 _ o75 _ _ _ b1 s1 (Or.inl ⟨rfl, rfl⟩) n1 hB) pd_9 rfl rfl rfl (fun h111 q111 gr111 => ?_)
  have hB := q111
  have hk := Nat.le_trans hk gr111
  refine g_aload (pc := 114) hK at_114 rfl ?_
  refine g_iload (pc := 116) hK at_116 rfl ?_
  refine g_iload (pc := 118) hK at_118 rfl ?_
  refine g_virtual_2I (pc := 120) hK 4 at_120 (w155 hw) (w156 hw) (w158 hw) (w157 hw) (w68 hw) (w159 hw) (by decide) (own_BTx hB) (rmWR _ Z a0 hw n0 _ o75 _ _ _ b2 s2 n2 hB) pd_11 rfl rfl rfl (fun z120 h120 q120 gr120 => ?_)
  obtain ⟨q120, rfl⟩ := q120
  rw [own_rb_st _ b1 s1 b2 s2 n1 n2] at q120
  refine g_istore_15 (pc := 123) hK at_123 rfl ?_
  have J156 : Go (reK K vm70) room_1 n0 (wB (kS K) room_1) (qI fun z _ => z = 1) h120 29 317 156 [.val (.int i0), .val (.int i1), .val (.int i2), .val (.int i3), .val (.int i4), .val (.int i5), .val (.int b1), .val (.int s1), .val (.int b2), .val (.int s2), .val (.int qb), .val (.int qs), .val (.ref o59), .val (.ref o75), .val (.int 1), .val (.int z120), .val (.int 1), .unset, .unset, .unset, .unset] [] := by
    have J200 : ∀ ex : Int32, ((ex = 1 ∧ ((qb = b1 ∧ qs = s1) ∨ (qb = b2 ∧ qs = s2))) ∨ (ex = 0 ∧ ¬ ((qb = b1 ∧ qs = s1) ∨ (qb = b2 ∧ qs = s2)))) → ∀ h162 : Heap, own_BT Z n0 h162 o75 (0 + 1 + 1) 64 (own_st (own_st (fun _ => 0) b1 s1) b2 s2) → h120.size ≤ h162.size → Go (reK K vm70) room_1 n0 (wB (kS K) room_1) (qI fun z _ => z = 1) h162 30 381 200 [.val (.int i0), .val (.int i1), .val (.int i2), .val (.int i3), .val (.int i4), .val (.int i5), .val (.int b1), .val (.int s1), .val (.int b2), .val (.int s2), .val (.int qb), .val (.int qs), .val (.ref o59), .val (.ref o75), .val (.int 1), .val (.int z120), .val (.int 1), .val (.int ex), .unset, .unset, .unset] [] := by
      intro ex hex h162 hB hle
      have hk := Nat.le_trans hk hle
      refine g_aload (pc := 200) hK at_200 rfl ?_
      refine g_iload (pc := 202) hK at_202 rfl ?_
      refine g_iload (pc := 204) hK at_204 rfl ?_
      refine g_virtual_2I (pc := 206) hK 4 at_206 (w155 hw) (w156 hw) (w158 hw) (w157 hw) (w68 hw) (w159 hw) (by decide) (own_BTx hB) (rmWR _ Z a0 hw n0 _ o75 _ _ _ b1 s1 n1 hB) pd_11 rfl rfl rfl (fun z206 h206 q206 gr206 => ?_)
      obtain ⟨q206, rfl⟩ := q206
      rw [own_rb_st _ b2 s2 b1 s1 n2 n1, own_rb_st _ b1 s1 b1 s1 n1 n1] at q206
      obtain rfl : z206 = 1 := by
        rcases q206 with ⟨q, _⟩ | ⟨_, q⟩
        · exact q
        · exact absurd (Or.inl (Or.inr ⟨rfl, rfl⟩)) q
      refine g_istore_18 (pc := 209) hK at_209 rfl ?_
      refine g_aload (pc := 211) hK at_211 rfl ?_
      refine g_iload (pc := 213) hK at_213 rfl ?_
      refine g_iload (pc := 215) hK at_215 rfl ?_
      refine g_virtual_2I (pc := 217) hK 4 at_217 (w155 hw) (w156 hw) (w158 hw) (w157 hw) (w68 hw) (w159 hw) (by decide) (own_BTx hB) (rmWR _ Z a0 hw n0 _ o75 _ _ _ b2 s2 n2 hB) pd_11 rfl rfl rfl (fun z217 h217 q217 gr217 => ?_)
      obtain ⟨q217, rfl⟩ := q217
      rw [own_rb_st _ b2 s2 b2 s2 n2 n2, own_rb_st _ b1 s1 b2 s2 n1 n2] at q217
      obtain rfl : z217 = 1 := by
        rcases q217 with ⟨q, _⟩ | ⟨_, q⟩
        · exact q
        · exact absurd (Or.inr ⟨rfl, rfl⟩) q
      refine g_istore_19 (pc := 220) hK at_220 rfl ?_
      refine g_aload (pc := 222) hK at_222 rfl ?_
      refine g_iload (pc := 224) hK at_224 rfl ?_
      refine g_iload (pc := 226) hK at_226 rfl ?_
      refine g_virtual_2I (pc := 228) hK 4 at_228 (w155 hw) (w156 hw) (w158 hw) (w157 hw) (w68 hw) (w159 hw) (by decide) (own_BTx hB) (rmWR _ Z a0 hw n0 _ o75 _ _ _ qb qs nq hB) pd_11 rfl rfl rfl (fun z228 h228 q228 gr228 => ?_)
      obtain ⟨q228, rfl⟩ := q228
      rw [own_rb_st _ b2 s2 qb qs n2 nq, own_rb_st _ b1 s1 qb qs n1 nq] at q228
      obtain rfl : z228 = ex := by
        have q0 := own_rb0 qb qs
        rcases q228 with ⟨q, r⟩ | ⟨q, r⟩ <;> rcases hex with ⟨q2, r2⟩ | ⟨q2, r2⟩
        · exact q.trans q2.symm
        · exact absurd (r.elim (fun r => r.elim (fun r => absurd r q0) Or.inl) Or.inr) r2
        · exact absurd (r2.elim (fun r => Or.inl (Or.inr r)) Or.inr) r
        · exact q.trans q2.symm
      refine g_istore_20 (pc := 231) hK at_231 rfl ?_
      refine g_iload (pc := 233) hK at_233 rfl ?_
      refine gN_if_eq (pc := 235) hK at_235 (by decide) ?_
      refine g_iload (pc := 238) hK at_238 rfl ?_
      refine gN_if_eq (pc := 240) hK at_240 (by decide) ?_
      refine g_iload (pc := 243) hK at_243 rfl ?_
      refine gN_if_eq (pc := 245) hK at_245 (by decide) ?_
      refine g_iload (pc := 248) hK at_248 rfl ?_
      refine gN_if_eq (pc := 250) hK at_250 (by decide) ?_
      refine g_iload (pc := 253) hK at_253 rfl ?_
      refine g_iload (pc := 255) hK at_255 rfl ?_
      refine gN_icmp_ne (pc := 257) hK at_257 rfl ?_
      refine g_iconst (pc := 260) (z := (1 : Int32)) hK at_260 (by decide) ?_
      refine g_goto (pc := 261) (pc' := 265) hK at_261 (by decide) ?_
      exact gW_zreturn (pc := 265) hK hS hk at_265 (by first | rfl | decide) rfl rfl
    refine g_aload (pc := 156) hK at_156 rfl ?_
    refine g_iload (pc := 158) hK at_158 rfl ?_
    refine g_iload (pc := 160) hK at_160 rfl ?_
    refine g_virtual_2V (pc := 162) hK 4 at_162 (w160 hw) (w161 hw) (w163 hw) (w162 hw) (w68 hw) (w164 hw) (by decide) (own_BTx hB) (rmMR _ Z a0 hw n0 _ o75 _ _ _ b2 s2 (Or.inr ⟨by decide, rfl⟩) n2 hB) pd_9 rfl rfl rfl (fun h162 q162 gr162 => ?_)
    have hB := q162
    refine g_iload (pc := 165) hK at_165 rfl ?_
    refine g_iload (pc := 167) hK at_167 rfl ?_
    refine g_icmp_ne (pc := 169) (pc' := 179) hK at_169 (by decide) (fun b169 => ?_) (fun b169 => ?_)
    · refine g_iload (pc := 179) hK at_179 rfl ?_
      refine g_iload (pc := 181) hK at_181 rfl ?_
      refine g_icmp_ne (pc := 183) (pc' := 197) hK at_183 (by decide) (fun b183 => ?_) (fun b183 => ?_)
      · refine g_iconst (pc := 197) (z := (0 : Int32)) hK at_197 (by decide) ?_
        refine g_istore_17 (pc := 198) hK at_198 rfl ?_
        exact J200 _ (Or.inr ⟨rfl, fun q => q.elim (fun q => b169 q.1) (fun q => b183 q.1)⟩) _ hB gr162
      · refine g_iload (pc := 186) hK at_186 rfl ?_
        refine g_iload (pc := 188) hK at_188 rfl ?_
        refine g_icmp_ne (pc := 190) (pc' := 197) hK at_190 (by decide) (fun b190 => ?_) (fun b190 => ?_)
        · refine g_iconst (pc := 197) (z := (0 : Int32)) hK at_197 (by decide) ?_
          refine g_istore_17 (pc := 198) hK at_198 rfl ?_
          exact J200 _ (Or.inr ⟨rfl, fun q => q.elim (fun q => b169 q.1) (fun q => b190 q.2)⟩) _ hB gr162
        · refine g_iconst (pc := 193) (z := (1 : Int32)) hK at_193 (by decide) ?_
          refine g_goto (pc := 194) (pc' := 198) hK at_194 (by decide) ?_
          refine g_istore_17 (pc := 198) hK at_198 rfl ?_
          exact J200 _ (Or.inl ⟨rfl, Or.inr ⟨b183, b190⟩⟩) _ hB gr162
    · refine g_iload (pc := 172) hK at_172 rfl ?_
      refine g_iload (pc := 174) hK at_174 rfl ?_
      refine g_icmp_eq (pc := 176) (pc' := 193) hK at_176 (by decide) (fun b176 => ?_) (fun b176 => ?_)
      · refine g_iconst (pc := 193) (z := (1 : Int32)) hK at_193 (by decide) ?_
        refine g_goto (pc := 194) (pc' := 198) hK at_194 (by decide) ?_
        refine g_istore_17 (pc := 198) hK at_198 rfl ?_
        exact J200 _ (Or.inl ⟨rfl, Or.inl ⟨b169, b176⟩⟩) _ hB gr162
      · refine g_iload (pc := 179) hK at_179 rfl ?_
        refine g_iload (pc := 181) hK at_181 rfl ?_
        refine g_icmp_ne (pc := 183) (pc' := 197) hK at_183 (by decide) (fun b183 => ?_) (fun b183 => ?_)
        · refine g_iconst (pc := 197) (z := (0 : Int32)) hK at_197 (by decide) ?_
          refine g_istore_17 (pc := 198) hK at_198 rfl ?_
          exact J200 _ (Or.inr ⟨rfl, fun q => q.elim (fun q => b176 q.2) (fun q => b183 q.1)⟩) _ hB gr162
        · refine g_iload (pc := 186) hK at_186 rfl ?_
          refine g_iload (pc := 188) hK at_188 rfl ?_
          refine g_icmp_ne (pc := 190) (pc' := 197) hK at_190 (by decide) (fun b190 => ?_) (fun b190 => ?_)
          · refine g_iconst (pc := 197) (z := (0 : Int32)) hK at_197 (by decide) ?_
            refine g_istore_17 (pc := 198) hK at_198 rfl ?_
            exact J200 _ (Or.inr ⟨rfl, fun q => q.elim (fun q => b176 q.2) (fun q => b190 q.2)⟩) _ hB gr162
          · refine g_iconst (pc := 193) (z := (1 : Int32)) hK at_193 (by decide) ?_
            refine g_goto (pc := 194) (pc' := 198) hK at_194 (by decide) ?_
            refine g_istore_17 (pc := 198) hK at_198 rfl ?_
            exact J200 _ (Or.inl ⟨rfl, Or.inr ⟨b183, b190⟩⟩) _ hB gr162
  refine g_iload (pc := 125) hK at_125 rfl ?_
  refine g_iload (pc := 127) hK at_127 rfl ?_
  refine g_iload (pc := 129) hK at_129 rfl ?_
  refine g_icmp_ne (pc := 131) (pc' := 145) hK at_131 (by decide) (fun b131 => ?_) (fun b131 => ?_)
  · refine g_iconst (pc := 145) (z := (0 : Int32)) hK at_145 (by decide) ?_
    refine gN_icmp_ne (pc := 146) hK at_146 (by
        rcases q120 with ⟨e, q⟩ | ⟨e, q⟩
        · exact absurd q (fun w => w.elim (own_rb0 _ _) (fun w => b131 w.1))
        · exact e) ?_
    refine g_iconst (pc := 149) (z := (1 : Int32)) hK at_149 (by decide) ?_
    refine g_goto (pc := 150) (pc' := 154) hK at_150 (by decide) ?_
    refine g_istore_16 (pc := 154) hK at_154 rfl ?_
    exact J156
  · refine g_iload (pc := 134) hK at_134 rfl ?_
    refine g_iload (pc := 136) hK at_136 rfl ?_
    refine g_icmp_ne (pc := 138) (pc' := 145) hK at_138 (by decide) (fun b138 => ?_) (fun b138 => ?_)
    · refine g_iconst (pc := 145) (z := (0 : Int32)) hK at_145 (by decide) ?_
      refine gN_icmp_ne (pc := 146) hK at_146 (by
          rcases q120 with ⟨e, q⟩ | ⟨e, q⟩
          · exact absurd q (fun w => w.elim (own_rb0 _ _) (fun w => b138 w.2))
          · exact e) ?_
      refine g_iconst (pc := 149) (z := (1 : Int32)) hK at_149 (by decide) ?_
      refine g_goto (pc := 150) (pc' := 154) hK at_150 (by decide) ?_
      refine g_istore_16 (pc := 154) hK at_154 rfl ?_
      exact J156
    · refine g_iconst (pc := 141) (z := (1 : Int32)) hK at_141 (by decide) ?_
      refine g_goto (pc := 142) (pc' := 146) hK at_142 (by decide) ?_
      refine gN_icmp_ne (pc := 146) hK at_146 (by
          rcases q120 with ⟨e, q⟩ | ⟨e, q⟩
          · exact e
          · exact absurd (Or.inr ⟨b131, b138⟩) q) ?_
      refine g_iconst (pc := 149) (z := (1 : Int32)) hK at_149 (by decide) ?_
      refine g_goto (pc := 150) (pc' := 154) hK at_150 (by decide) ?_
      refine g_istore_16 (pc := 154) hK at_154 rfl ?_
      exact J156
set_option maxRecDepth 65536 in
set_option maxHeartbeats 40000000 in
theorem comes_1 {Post : Tables → Env → Array Value → State → Outcome → State → Prop} (hpost : ∀ tb e args s v u, (limb_1_1.after args s (.returned v) u = true ∧ limb_1_2.after args s (.returned v) u = true ∧ True) → ReturnedEndW s (.returned v) u (Jvm.fieldLocs frame_1_writes args s ++ Jvm.arrayLocs frame_1_arrays args s ++ Jvm.staticLocs frame_1_statics s) 56 6656 → Post tb e args s (.returned v) u) :
    ArmFor flags0 classFile x code maxLocals ret World_1 tables_1 room_1 Calls_1 rest_1 Pre_1 Post := by
  intro l hfl _ _ p e ha hc hk s m args below hf hA hF happ hP
  obtain ⟨hcalls, hrest, hpre⟩ := hP
  obtain ⟨-, -, -, hnamed, -, -, -, hat⟩ := (Spec.applies_iff hf).mp happ
  obtain ⟨hg, hn⟩ := and_e (Cond.before_iff.mp (show (Jvm.Cond.and given_1 narrow_1).before args s = true from hpre))
  obtain ⟨gc, g0⟩ := and_e hg
  obtain ⟨u0, g1⟩ := and_e g0
  obtain ⟨u1, g2⟩ := and_e g1
  obtain ⟨u2, g3⟩ := and_e g2
  obtain ⟨u3, g4⟩ := and_e g3
  obtain ⟨u4, g5⟩ := and_e g4
  obtain ⟨v0, v1, v2, v3, v4, v5, rfl⟩ : ∃ v0 v1 v2 v3 v4 v5 : Value, args = #[v0, v1, v2, v3, v4, v5] := by
    have hs : args.size = 6 := by simpa [Cond.value, given_1] using gc
    obtain ⟨L⟩ := args
    match L, hs with
    | [v0, v1, v2, v3, v4, v5], _ => exact ⟨v0, v1, v2, v3, v4, v5, rfl⟩
  have hw := fun d (hd : d ∈ tables_1) => atoms_spec (ws := Jvm.Cond.code x code maxLocals ret :: tables_1) hat d (List.mem_cons_of_mem _ hd)
  obtain ⟨i0, ei0⟩ := is_v u0
  obtain rfl : v0 = (.int i0) := Option.some.inj ei0
  obtain ⟨i1, ei1⟩ := is_v u1
  obtain rfl : v1 = (.int i1) := Option.some.inj ei1
  obtain ⟨i2, ei2⟩ := is_v u2
  obtain rfl : v2 = (.int i2) := Option.some.inj ei2
  obtain ⟨i3, ei3⟩ := is_v u3
  obtain rfl : v3 = (.int i3) := Option.some.inj ei3
  obtain ⟨i4, ei4⟩ := is_v u4
  obtain rfl : v4 = (.int i4) := Option.some.inj ei4
  obtain ⟨i5, ei5⟩ := is_v g5
  obtain rfl : v5 = (.int i5) := Option.some.inj ei5
  obtain ⟨n, o, h1, h2, h3, _, L, rfl, ⟨⟨_, rfl, rfl⟩, N⟩, hq⟩ := rm0 l s _ hw s.heap.size s.heap (Nat.le_refl _) i0 i1 i2 i3 i4 i5 p e ha hc hk s m _ below hf ((Spec.applies_iff_loose hf).mp happ).1 ⟨rfl, State.Warmed39.refl s, rfl⟩ trivial
  refine ⟨n, _, h1, h2, h3, hpost _ _ _ _ _ _ ⟨Cond.after_iff.mpr rfl, Cond.after_iff.mpr (eq_i res_at (Term.int_eval (1)) rfl), trivial⟩ ⟨hq.1, hq.2.1, hq.2.2.1, (hq.2.2.2.sift fun y hy => Or.inr (N y hy)).mono (by decide) (by decide)⟩⟩
theorem main_1_1 : Claimed_1_1 := comes_1 fun _ _ _ _ _ _ h hF => ⟨h.1, hF⟩
theorem main_1_2 : Claimed_1_2 := comes_1 fun _ _ _ _ _ _ h hF => ⟨h.2.1, hF⟩
end Jvm.Pilot.@@N@@
namespace Jvm.Pilot.@@N@@
open Jvm Jvm.ClassFile Sem Op Lib Jvm.Free Jvm.Stand Jvm.Pilot.@@N@@.Jvm.D
/-! MADE BY PROGRAM (witnessworld.py) out of the Statement's table words and the real class files: 24 classes; the members and pool entries that the words name. The judged class is class 1, her method 1. -/
namespace start1
open Jvm.ClassFile
def u (s : String) : CpInfo := .utf8 (stringToUtf16 s)
/-- a pool by its gaps: so many unusable entries, then the entry; so many at the end -/
def gap : Nat → List CpInfo → List CpInfo
  | 0, r => r
  | n + 1, r => .unusable :: gap n r
def poolList (es : List (Nat × CpInfo)) (last : Nat) : List CpInfo := es.foldr (fun e r => gap e.1 (e.2 :: r)) (gap last [])
def pool (es : List (Nat × CpInfo)) (last : Nat) : Array CpInfo := ⟨poolList es last⟩
def fileOf (pool : Array CpInfo) (this : Nat) (attrs : Array Attribute := #[]) (ms : Array MethodInfo := #[]) (fl : Nat := 33) (sup : Nat := 0) (ifs : Array Nat := #[]) (fds : Array FieldInfo := #[]) : ClassFile where
  minorVersion := 0
  majorVersion := 65
  constantPool := pool
  accessFlags := fl
  thisClass := this
  superClass := sup
  interfaces := ifs
  fields := fds
  methods := ms
  attributes := attrs
def plain (name : String) (sup : Option ClassId) : Class where
  name := name
  kind := .ordinary
  loader := none
  accessFlags := 33
  super := sup
  interfaces := #[]
  cf := none
  fields := #[]
  methods := #[]
  instanceTypes := #[]
  staticTypes := #[]
  resolved := #[]
  callSites := []
  init := .initialized
  statics := none
  mirror := none

def pool0 : Array CpInfo := pool [(5, u "<init>"), (0, u "()V"), (1, .class_ 10), (1, u "java/lang/Object")] 113

def k0c0 : Code := { maxStack := 0, maxLocals := 1, code := object_method_1_code, exceptionTable := #[], attributes := #[] }
def k0m0 : Method := { name := "<init>", desc := "()V", sig := { parameters := [], returnType := none }, accessFlags := 1, code := some k0c0 }
/-- java/lang/Object -/
def k0 : Class := { plain "java/lang/Object" none with
  accessFlags := 33
  interfaces := #[]
  cf := some (fileOf pool0 8 #[] #[{ accessFlags := 1, nameIndex := 5, descriptorIndex := 6, attributes := #[] }] 33 0 #[] #[])
  fields := #[]
  methods := #[k0m0]
  instanceTypes := #[]
  staticTypes := #[]
  resolved := Array.replicate 124 none
  statics := none }

def pool1 : Array CpInfo := pool [(2, .class_ 4), (1, u "java/lang/Object"), (0, u "<init>"), (0, u "()V"), (0, .integer 2147483647), (0, .class_ 9), (0, u "com/example/veilcommit/veilcommit/oram/TreeShape"), (0, .methodref 8 11), (0, .nameAndType 5 12), (0, u "(IIIII)V"), (0, .class_ 14), (0, u "com/example/veilcommit/veilcommit/oram/BucketTable"), (0, .methodref 13 16), (0, .nameAndType 5 17), (0, u "(Lcom/example/veilcommit/veilcommit/oram/TreeShape;)V"), (0, .methodref 13 19), (0, .nameAndType 20 21), (0, u "wasRead"), (0, u "(II)Z"), (0, .methodref 13 23), (0, .nameAndType 24 25), (0, u "markRead"), (0, u "(II)V"), (0, .class_ 27), (0, u "com/example/veilcommit/veilcommit/oram/BucketTableWasReadPinLaw"), (2, u "law"), (0, u "(IIIIII)Z")] 3

def k1m0 : Method := { name := "<init>", desc := "()V", sig := { parameters := [], returnType := none }, accessFlags := 1, code := none }
def k1c1 : Code := { maxStack := 7, maxLocals := 21, code := code, exceptionTable := #[], attributes := #[] }
def k1m1 : Method := { name := "law", desc := "(IIIIII)Z", sig := { parameters := [.int, .int, .int, .int, .int, .int], returnType := some .boolean }, accessFlags := 9, code := some k1c1 }
/-- com/example/veilcommit/veilcommit/oram/BucketTableWasReadPinLaw -/
def k1 : Class := { plain "com/example/veilcommit/veilcommit/oram/BucketTableWasReadPinLaw" (some 0) with
  accessFlags := 49
  interfaces := #[]
  cf := some (fileOf pool1 26 #[] #[{ accessFlags := 1, nameIndex := 5, descriptorIndex := 6, attributes := #[] }, { accessFlags := 9, nameIndex := 30, descriptorIndex := 31, attributes := #[] }] 49 2 #[] #[])
  fields := #[]
  methods := #[k1m0, k1m1]
  instanceTypes := #[]
  staticTypes := #[]
  resolved := Array.replicate 35 none
  statics := none }

def pool2 : Array CpInfo := pool [(1, .methodref 2 3), (0, .class_ 4), (0, .nameAndType 5 6), (0, u "java/lang/Object"), (0, u "<init>"), (0, u "()V"), (0, .class_ 8), (0, u "java/lang/Record")] 13

def k2c0 : Code := { maxStack := 1, maxLocals := 1, code := jdk_30_method_1_code, exceptionTable := #[], attributes := #[] }
def k2m0 : Method := { name := "<init>", desc := "()V", sig := { parameters := [], returnType := none }, accessFlags := 4, code := some k2c0 }
/-- java/lang/Record -/
def k2 : Class := { plain "java/lang/Record" (some 0) with
  accessFlags := 1057
  interfaces := #[]
  cf := some (fileOf pool2 7 #[] #[{ accessFlags := 4, nameIndex := 5, descriptorIndex := 6, attributes := #[] }] 1057 2 #[] #[])
  fields := #[]
  methods := #[k2m0]
  instanceTypes := #[]
  staticTypes := #[]
  resolved := Array.replicate 22 none
  statics := none }

def pool3 : Array CpInfo := pool [(1, .methodref 2 3), (0, .class_ 4), (0, .nameAndType 5 6), (0, u "java/lang/Record"), (0, u "<init>"), (0, u "()V"), (0, .string 8), (0, u "capacity"), (0, .class_ 10), (0, u "com/example/veilcommit/veilcommit/oram/TreeShape"), (0, .integer 16777216), (0, .methodref 9 13), (0, .nameAndType 14 15), (0, u "requireRange"), (0, u "(Ljava/lang/String;III)V"), (0, .string 17), (0, u "block size"), (0, .integer 65536), (0, .string 20), (0, u "z"), (0, .string 22), (0, u "s"), (0, .string 24), (0, u "a"), (0, .string 26), (0, u "z + s"), (0, .long 2), (1, .methodref 9 30), (0, .nameAndType 31 32), (0, u "leaves"), (0, u "(II)I"), (0, .long 134217728), (8, .methodref 9 43), (0, .nameAndType 44 45), (0, u "stashCapacity"), (0, u "(II)J"), (0, .long 1073741824), (3, .fieldref 9 51), (0, .nameAndType 8 52), (0, u "I"), (0, .fieldref 9 54), (0, .nameAndType 55 52), (0, u "blockSize"), (0, .fieldref 9 57), (0, .nameAndType 20 52), (0, .fieldref 9 59), (0, .nameAndType 22 52), (0, .fieldref 9 61), (0, .nameAndType 24 52), (0, .methodref 63 64), (0, .class_ 65), (0, .nameAndType 66 67), (0, u "java/lang/Integer"), (0, u "highestOneBit"), (0, u "(I)I"), (0, .methodref 9 69), (0, .nameAndType 31 70), (0, u "()I"), (7, .class_ 80), (1, u "java/lang/Math"), (0, u "min"), (7, u "slotsPerBucket"), (3, .long 256), (1, .methodref 78 96), (0, .nameAndType 81 97), (0, u "(JJ)J"), (82, u "DEFAULT_Z"), (2, u "DEFAULT_S"), (1, u "DEFAULT_A"), (1, u "MAX_KEY_BYTES"), (1, u "STASH_SLACK"), (1, u "MAX_BLOCK_SIZE"), (0, u "MAX_CAPACITY"), (0, u "MAX_SLOTS"), (1, u "MAX_TREE_SLOTS"), (0, u "J"), (0, u "MAX_STASH_BYTES"), (0, u "BLOCK_HEADER_BYTES"), (1, u "KEPT_LEVELS"), (1, u "(IIIII)V"), (4, u "buckets")] 50

def k3c0 : Code := { maxStack := 4, maxLocals := 6, code := prog_139_method_1_code, exceptionTable := #[], attributes := #[] }
def k3m0 : Method := { name := "<init>", desc := "(IIIII)V", sig := { parameters := [.int, .int, .int, .int, .int], returnType := none }, accessFlags := 1, code := some k3c0 }
def k3c1 : Code := { maxStack := 2, maxLocals := 1, code := prog_139_method_2_code, exceptionTable := #[], attributes := #[] }
def k3m1 : Method := { name := "leaves", desc := "()I", sig := { parameters := [], returnType := some .int }, accessFlags := 1, code := some k3c1 }
def k3c2 : Code := { maxStack := 2, maxLocals := 3, code := prog_139_method_3_code, exceptionTable := #[], attributes := #[] }
def k3m2 : Method := { name := "leaves", desc := "(II)I", sig := { parameters := [.int, .int], returnType := some .int }, accessFlags := 10, code := some k3c2 }
def k3c3 : Code := { maxStack := 2, maxLocals := 1, code := prog_139_method_5_code, exceptionTable := #[], attributes := #[] }
def k3m3 : Method := { name := "buckets", desc := "()I", sig := { parameters := [], returnType := some .int }, accessFlags := 1, code := some k3c3 }
def k3c4 : Code := { maxStack := 2, maxLocals := 1, code := prog_139_method_6_code, exceptionTable := #[], attributes := #[] }
def k3m4 : Method := { name := "slotsPerBucket", desc := "()I", sig := { parameters := [], returnType := some .int }, accessFlags := 1, code := some k3c4 }
def k3c5 : Code := { maxStack := 6, maxLocals := 2, code := prog_139_method_14_code, exceptionTable := #[], attributes := #[] }
def k3m5 : Method := { name := "stashCapacity", desc := "(II)J", sig := { parameters := [.int, .int], returnType := some .long }, accessFlags := 10, code := some k3c5 }
def k3c6 : Code := { maxStack := 6, maxLocals := 4, code := prog_139_method_21_code, exceptionTable := #[], attributes := #[] }
def k3m6 : Method := { name := "requireRange", desc := "(Ljava/lang/String;III)V", sig := { parameters := [(.object "java/lang/String"), .int, .int, .int], returnType := none }, accessFlags := 10, code := some k3c6 }
def k3c7 : Code := { maxStack := 1, maxLocals := 1, code := prog_139_method_25_code, exceptionTable := #[], attributes := #[] }
def k3m7 : Method := { name := "capacity", desc := "()I", sig := { parameters := [], returnType := some .int }, accessFlags := 1, code := some k3c7 }
def k3c8 : Code := { maxStack := 1, maxLocals := 1, code := prog_139_method_27_code, exceptionTable := #[], attributes := #[] }
def k3m8 : Method := { name := "z", desc := "()I", sig := { parameters := [], returnType := some .int }, accessFlags := 1, code := some k3c8 }
/-- com/example/veilcommit/veilcommit/oram/TreeShape -/
def k3 : Class := { plain "com/example/veilcommit/veilcommit/oram/TreeShape" (some 2) with
  accessFlags := 49
  interfaces := #[]
  cf := some (fileOf pool3 9 #[] #[{ accessFlags := 1, nameIndex := 5, descriptorIndex := 202, attributes := #[] }, { accessFlags := 1, nameIndex := 31, descriptorIndex := 70, attributes := #[] }, { accessFlags := 10, nameIndex := 31, descriptorIndex := 32, attributes := #[] }, { accessFlags := 1, nameIndex := 207, descriptorIndex := 70, attributes := #[] }, { accessFlags := 1, nameIndex := 89, descriptorIndex := 70, attributes := #[] }, { accessFlags := 10, nameIndex := 44, descriptorIndex := 45, attributes := #[] }, { accessFlags := 10, nameIndex := 14, descriptorIndex := 15, attributes := #[] }, { accessFlags := 1, nameIndex := 8, descriptorIndex := 70, attributes := #[] }, { accessFlags := 1, nameIndex := 20, descriptorIndex := 70, attributes := #[] }] 49 2 #[] #[{ accessFlags := 18, nameIndex := 8, descriptorIndex := 52, attributes := #[] }, { accessFlags := 18, nameIndex := 55, descriptorIndex := 52, attributes := #[] }, { accessFlags := 18, nameIndex := 20, descriptorIndex := 52, attributes := #[] }, { accessFlags := 18, nameIndex := 22, descriptorIndex := 52, attributes := #[] }, { accessFlags := 18, nameIndex := 24, descriptorIndex := 52, attributes := #[] }, { accessFlags := 25, nameIndex := 180, descriptorIndex := 52, attributes := #[] }, { accessFlags := 25, nameIndex := 183, descriptorIndex := 52, attributes := #[] }, { accessFlags := 25, nameIndex := 185, descriptorIndex := 52, attributes := #[] }, { accessFlags := 25, nameIndex := 187, descriptorIndex := 52, attributes := #[] }, { accessFlags := 25, nameIndex := 189, descriptorIndex := 52, attributes := #[] }, { accessFlags := 25, nameIndex := 191, descriptorIndex := 52, attributes := #[] }, { accessFlags := 26, nameIndex := 192, descriptorIndex := 52, attributes := #[] }, { accessFlags := 26, nameIndex := 193, descriptorIndex := 52, attributes := #[] }, { accessFlags := 26, nameIndex := 195, descriptorIndex := 196, attributes := #[] }, { accessFlags := 26, nameIndex := 197, descriptorIndex := 196, attributes := #[] }, { accessFlags := 26, nameIndex := 198, descriptorIndex := 52, attributes := #[] }, { accessFlags := 26, nameIndex := 200, descriptorIndex := 52, attributes := #[] }])
  fields := #[{ name := "capacity", type := .int, accessFlags := 18, slot := 0, constantValue := 0 }, { name := "blockSize", type := .int, accessFlags := 18, slot := 1, constantValue := 0 }, { name := "z", type := .int, accessFlags := 18, slot := 2, constantValue := 0 }, { name := "s", type := .int, accessFlags := 18, slot := 3, constantValue := 0 }, { name := "a", type := .int, accessFlags := 18, slot := 4, constantValue := 0 }, { name := "DEFAULT_Z", type := .int, accessFlags := 25, slot := 0, constantValue := 0 }, { name := "DEFAULT_S", type := .int, accessFlags := 25, slot := 1, constantValue := 0 }, { name := "DEFAULT_A", type := .int, accessFlags := 25, slot := 2, constantValue := 0 }, { name := "MAX_KEY_BYTES", type := .int, accessFlags := 25, slot := 3, constantValue := 0 }, { name := "STASH_SLACK", type := .int, accessFlags := 25, slot := 4, constantValue := 0 }, { name := "MAX_BLOCK_SIZE", type := .int, accessFlags := 25, slot := 5, constantValue := 0 }, { name := "MAX_CAPACITY", type := .int, accessFlags := 26, slot := 6, constantValue := 0 }, { name := "MAX_SLOTS", type := .int, accessFlags := 26, slot := 7, constantValue := 0 }, { name := "MAX_TREE_SLOTS", type := .long, accessFlags := 26, slot := 8, constantValue := 0 }, { name := "MAX_STASH_BYTES", type := .long, accessFlags := 26, slot := 9, constantValue := 0 }, { name := "BLOCK_HEADER_BYTES", type := .int, accessFlags := 26, slot := 10, constantValue := 0 }, { name := "KEPT_LEVELS", type := .int, accessFlags := 26, slot := 11, constantValue := 0 }]
  methods := #[k3m0, k3m1, k3m2, k3m3, k3m4, k3m5, k3m6, k3m7, k3m8]
  instanceTypes := #[.int, .int, .int, .int, .int]
  staticTypes := #[.int, .int, .int, .int, .int, .int, .int, .int, .long, .long, .int, .int]
  resolved := Array.replicate 258 none
  statics := none }

def pool4 : Array CpInfo := pool [(1, .class_ 2), (0, u "java/io/Serializable"), (0, .class_ 4), (0, u "java/lang/Object")] 2

/-- java/io/Serializable -/
def k4 : Class := { plain "java/io/Serializable" (some 0) with
  accessFlags := 1537
  interfaces := #[]
  cf := some (fileOf pool4 1 #[] #[] 1537 3 #[] #[])
  fields := #[]
  methods := #[]
  instanceTypes := #[]
  staticTypes := #[]
  resolved := Array.replicate 7 none
  statics := none }

def pool5 : Array CpInfo := pool [(1, .class_ 2), (0, u "java/lang/Comparable"), (0, .class_ 4), (0, u "java/lang/Object")] 7

/-- java/lang/Comparable -/
def k5 : Class := { plain "java/lang/Comparable" (some 0) with
  accessFlags := 1537
  interfaces := #[]
  cf := some (fileOf pool5 1 #[] #[] 1537 3 #[] #[])
  fields := #[]
  methods := #[]
  instanceTypes := #[]
  staticTypes := #[]
  resolved := Array.replicate 12 none
  statics := none }

def pool6 : Array CpInfo := pool [(2, .class_ 4), (1, u "java/lang/CharSequence"), (42, .class_ 48), (0, u "java/lang/CharSequence$1CodePointIterator"), (10, .class_ 60), (0, u "java/lang/CharSequence$1CharIterator"), (5, .class_ 67), (0, u "java/lang/Object")] 63

/-- java/lang/CharSequence -/
def k6 : Class := { plain "java/lang/CharSequence" (some 0) with
  accessFlags := 1537
  interfaces := #[]
  cf := some (fileOf pool6 2 #[.nestMembers #[47, 59]] #[] 1537 66 #[] #[])
  fields := #[]
  methods := #[]
  instanceTypes := #[]
  staticTypes := #[]
  resolved := Array.replicate 131 none
  statics := none }

def pool7 : Array CpInfo := pool [(1, .class_ 2), (0, u "java/lang/constant/Constable"), (0, .class_ 4), (0, u "java/lang/Object")] 6

/-- java/lang/constant/Constable -/
def k7 : Class := { plain "java/lang/constant/Constable" (some 0) with
  accessFlags := 1537
  interfaces := #[]
  cf := some (fileOf pool7 1 #[] #[] 1537 3 #[] #[])
  fields := #[]
  methods := #[]
  instanceTypes := #[]
  staticTypes := #[]
  resolved := Array.replicate 11 none
  statics := none }

def pool8 : Array CpInfo := pool [(1, .class_ 2), (0, u "java/lang/constant/ConstantDesc"), (0, .class_ 4), (0, u "java/lang/Object")] 32

/-- java/lang/constant/ConstantDesc -/
def k8 : Class := { plain "java/lang/constant/ConstantDesc" (some 0) with
  accessFlags := 1537
  interfaces := #[]
  cf := some (fileOf pool8 1 #[] #[] 1537 3 #[] #[])
  fields := #[]
  methods := #[]
  instanceTypes := #[]
  staticTypes := #[]
  resolved := Array.replicate 37 none
  statics := none }

def pool9 : Array CpInfo := pool [(2, .class_ 4), (1, u "java/lang/Object"), (0, u "<init>"), (0, u "()V"), (3, .class_ 12), (1, u "java/lang/String"), (0, u "value"), (0, u "[B"), (2, u "coder"), (0, u "B"), (2, u "hash"), (0, u "I"), (2, u "hashIsZero"), (0, u "Z"), (13, u "COMPACT_STRINGS"), (534, .class_ 576), (0, u "java/lang/CharSequence"), (22, u "CASE_INSENSITIVE_ORDER"), (0, u "Ljava/util/Comparator;"), (500, u "serialPersistentFields"), (0, u "[Ljava/io/ObjectStreamField;"), (0, .class_ 1104), (0, u "java/lang/String$CaseInsensitiveComparator"), (1, .class_ 1107), (0, u "java/io/Serializable"), (0, .class_ 1109), (0, u "java/lang/Comparable"), (0, .class_ 1111), (0, u "java/lang/constant/Constable"), (0, .class_ 1113), (0, u "java/lang/constant/ConstantDesc"), (2, u "serialVersionUID"), (0, u "J"), (3, u "REPL"), (0, u "C"), (2, u "LATIN1"), (1, u "UTF16")] 323

def k9m0 : Method := { name := "<init>", desc := "()V", sig := { parameters := [], returnType := none }, accessFlags := 1, code := none }
/-- java/lang/String -/
def k9 : Class := { plain "java/lang/String" (some 0) with
  accessFlags := 49
  interfaces := #[4, 5, 6, 7, 8]
  cf := some (fileOf pool9 10 #[.nestMembers #[1103]] #[{ accessFlags := 1, nameIndex := 5, descriptorIndex := 6, attributes := #[] }] 49 2 #[1106, 1108, 575, 1110, 1112] #[{ accessFlags := 18, nameIndex := 13, descriptorIndex := 14, attributes := #[] }, { accessFlags := 18, nameIndex := 17, descriptorIndex := 18, attributes := #[] }, { accessFlags := 2, nameIndex := 21, descriptorIndex := 22, attributes := #[] }, { accessFlags := 2, nameIndex := 25, descriptorIndex := 26, attributes := #[] }, { accessFlags := 26, nameIndex := 1116, descriptorIndex := 1117, attributes := #[] }, { accessFlags := 24, nameIndex := 40, descriptorIndex := 26, attributes := #[] }, { accessFlags := 26, nameIndex := 1101, descriptorIndex := 1102, attributes := #[] }, { accessFlags := 26, nameIndex := 1121, descriptorIndex := 1122, attributes := #[] }, { accessFlags := 25, nameIndex := 599, descriptorIndex := 600, attributes := #[] }, { accessFlags := 24, nameIndex := 1125, descriptorIndex := 18, attributes := #[] }, { accessFlags := 24, nameIndex := 1127, descriptorIndex := 18, attributes := #[] }])
  fields := #[{ name := "value", type := (.array .byte), accessFlags := 18, slot := 0, constantValue := 0 }, { name := "coder", type := .byte, accessFlags := 18, slot := 1, constantValue := 0 }, { name := "hash", type := .int, accessFlags := 2, slot := 2, constantValue := 0 }, { name := "hashIsZero", type := .boolean, accessFlags := 2, slot := 3, constantValue := 0 }, { name := "serialVersionUID", type := .long, accessFlags := 26, slot := 0, constantValue := 0 }, { name := "COMPACT_STRINGS", type := .boolean, accessFlags := 24, slot := 1, constantValue := 0 }, { name := "serialPersistentFields", type := (.array (.object "java/io/ObjectStreamField")), accessFlags := 26, slot := 2, constantValue := 0 }, { name := "REPL", type := .char, accessFlags := 26, slot := 3, constantValue := 0 }, { name := "CASE_INSENSITIVE_ORDER", type := (.object "java/util/Comparator"), accessFlags := 25, slot := 4, constantValue := 0 }, { name := "LATIN1", type := .byte, accessFlags := 24, slot := 5, constantValue := 0 }, { name := "UTF16", type := .byte, accessFlags := 24, slot := 6, constantValue := 0 }]
  methods := #[k9m0]
  instanceTypes := #[(.array .byte), .byte, .int, .boolean]
  staticTypes := #[.long, .boolean, (.array (.object "java/io/ObjectStreamField")), .char, (.object "java/util/Comparator"), .byte, .byte]
  resolved := Array.replicate 1451 none
  statics := none }

def pool10 : Array CpInfo := pool [(2, .class_ 4), (1, u "java/lang/Object"), (0, u "<init>"), (0, u "()V"), (1, .class_ 10), (1, u "java/lang/Number"), (2, .class_ 14), (0, u "java/io/Serializable"), (0, u "serialVersionUID"), (0, u "J")] 20

def k10m0 : Method := { name := "<init>", desc := "()V", sig := { parameters := [], returnType := none }, accessFlags := 1, code := none }
/-- java/lang/Number -/
def k10 : Class := { plain "java/lang/Number" (some 0) with
  accessFlags := 1057
  interfaces := #[4]
  cf := some (fileOf pool10 8 #[] #[{ accessFlags := 1, nameIndex := 5, descriptorIndex := 6, attributes := #[] }] 1057 2 #[13] #[{ accessFlags := 26, nameIndex := 15, descriptorIndex := 16, attributes := #[] }])
  fields := #[{ name := "serialVersionUID", type := .long, accessFlags := 26, slot := 0, constantValue := 0 }]
  methods := #[k10m0]
  instanceTypes := #[]
  staticTypes := #[.long]
  resolved := Array.replicate 37 none
  statics := none }

def pool11 : Array CpInfo := pool [(1, .class_ 2), (0, u "java/lang/Integer"), (16, u "digits"), (0, u "[C"), (30, .methodref 1 52), (0, .nameAndType 53 54), (0, u "numberOfLeadingZeros"), (0, u "(I)I"), (30, u "DigitOnes"), (0, u "[B"), (2, u "DigitTens"), (37, .integer 2147483648), (61, .class_ 190), (0, u "java/lang/Integer$IntegerCache"), (3, u "I"), (8, .class_ 204), (0, u "java/lang/Number"), (2, u "value"), (56, .integer 65536), (37, u "TYPE"), (0, u "Ljava/lang/Class;"), (0, .class_ 305), (0, u "java/lang/Comparable"), (0, .class_ 307), (0, u "java/lang/constant/Constable"), (0, .class_ 309), (0, u "java/lang/constant/ConstantDesc"), (0, u "MIN_VALUE"), (1, u "MAX_VALUE"), (3, u "SIZE"), (1, u "BYTES"), (1, u "serialVersionUID"), (0, u "J"), (81, u "highestOneBit")] 49

def k11c0 : Code := { maxStack := 3, maxLocals := 1, code := jdk_33_method_45_code, exceptionTable := #[], attributes := #[] }
def k11m0 : Method := { name := "highestOneBit", desc := "(I)I", sig := { parameters := [.int], returnType := some .int }, accessFlags := 9, code := some k11c0 }
def k11c1 : Code := { maxStack := 3, maxLocals := 2, code := jdk_33_method_47_code, exceptionTable := #[], attributes := #[] }
def k11m1 : Method := { name := "numberOfLeadingZeros", desc := "(I)I", sig := { parameters := [.int], returnType := some .int }, accessFlags := 9, code := some k11c1 }
/-- java/lang/Integer -/
def k11 : Class := { plain "java/lang/Integer" (some 10) with
  accessFlags := 49
  interfaces := #[5, 7, 8]
  cf := some (fileOf pool11 1 #[.nestMembers #[189]] #[{ accessFlags := 9, nameIndex := 403, descriptorIndex := 54, attributes := #[] }, { accessFlags := 9, nameIndex := 53, descriptorIndex := 54, attributes := #[] }] 49 203 #[304, 306, 308] #[{ accessFlags := 25, nameIndex := 310, descriptorIndex := 194, attributes := #[] }, { accessFlags := 25, nameIndex := 312, descriptorIndex := 194, attributes := #[] }, { accessFlags := 25, nameIndex := 302, descriptorIndex := 303, attributes := #[] }, { accessFlags := 24, nameIndex := 19, descriptorIndex := 20, attributes := #[] }, { accessFlags := 24, nameIndex := 89, descriptorIndex := 86, attributes := #[] }, { accessFlags := 24, nameIndex := 85, descriptorIndex := 86, attributes := #[] }, { accessFlags := 18, nameIndex := 207, descriptorIndex := 194, attributes := #[] }, { accessFlags := 25, nameIndex := 316, descriptorIndex := 194, attributes := #[] }, { accessFlags := 25, nameIndex := 318, descriptorIndex := 194, attributes := #[] }, { accessFlags := 26, nameIndex := 320, descriptorIndex := 321, attributes := #[] }])
  fields := #[{ name := "MIN_VALUE", type := .int, accessFlags := 25, slot := 0, constantValue := 0 }, { name := "MAX_VALUE", type := .int, accessFlags := 25, slot := 1, constantValue := 0 }, { name := "TYPE", type := (.object "java/lang/Class"), accessFlags := 25, slot := 2, constantValue := 0 }, { name := "digits", type := (.array .char), accessFlags := 24, slot := 3, constantValue := 0 }, { name := "DigitTens", type := (.array .byte), accessFlags := 24, slot := 4, constantValue := 0 }, { name := "DigitOnes", type := (.array .byte), accessFlags := 24, slot := 5, constantValue := 0 }, { name := "value", type := .int, accessFlags := 18, slot := 0, constantValue := 0 }, { name := "SIZE", type := .int, accessFlags := 25, slot := 6, constantValue := 0 }, { name := "BYTES", type := .int, accessFlags := 25, slot := 7, constantValue := 0 }, { name := "serialVersionUID", type := .long, accessFlags := 26, slot := 8, constantValue := 0 }]
  methods := #[k11m0, k11m1]
  instanceTypes := #[.int]
  staticTypes := #[.int, .int, (.object "java/lang/Class"), (.array .char), (.array .byte), (.array .byte), .int, .int, .long]
  resolved := Array.replicate 453 none
  statics := none }

def pool12 : Array CpInfo := pool [(1, .class_ 2), (0, u "java/lang/Math"), (1, .class_ 6), (1, u "java/lang/Object"), (0, u "<init>"), (0, u "()V"), (89, .class_ 100), (1, u "java/lang/Math$RandomNumberGeneratorHolder"), (20, u "(JJ)J"), (50, u "negativeZeroFloatBits"), (0, u "J"), (2, u "negativeZeroDoubleBits"), (21, u "max"), (2, u "min"), (43, u "$assertionsDisabled"), (0, u "Z"), (88, u "(II)I"), (2, u "twoToTheDoubleScaleDown"), (0, u "D"), (4, u "twoToTheDoubleScaleUp"), (9, u "E"), (3, u "PI"), (2, u "TAU"), (2, u "DEGREES_TO_RADIANS"), (0, u "RADIANS_TO_DEGREES")] 94

def k12m0 : Method := { name := "<init>", desc := "()V", sig := { parameters := [], returnType := none }, accessFlags := 2, code := none }
def k12c1 : Code := { maxStack := 2, maxLocals := 2, code := jdk_29_method_65_code, exceptionTable := #[], attributes := #[] }
def k12m1 : Method := { name := "max", desc := "(II)I", sig := { parameters := [.int, .int], returnType := some .int }, accessFlags := 9, code := some k12c1 }
def k12c2 : Code := { maxStack := 2, maxLocals := 2, code := jdk_29_method_69_code, exceptionTable := #[], attributes := #[] }
def k12m2 : Method := { name := "min", desc := "(II)I", sig := { parameters := [.int, .int], returnType := some .int }, accessFlags := 9, code := some k12c2 }
def k12c3 : Code := { maxStack := 4, maxLocals := 4, code := jdk_29_method_70_code, exceptionTable := #[], attributes := #[] }
def k12m3 : Method := { name := "min", desc := "(JJ)J", sig := { parameters := [.long, .long], returnType := some .long }, accessFlags := 9, code := some k12c3 }
/-- java/lang/Math -/
def k12 : Class := { plain "java/lang/Math" (some 0) with
  accessFlags := 49
  interfaces := #[]
  cf := some (fileOf pool12 1 #[.nestMembers #[98]] #[{ accessFlags := 2, nameIndex := 7, descriptorIndex := 8, attributes := #[] }, { accessFlags := 9, nameIndex := 198, descriptorIndex := 335, attributes := #[] }, { accessFlags := 9, nameIndex := 201, descriptorIndex := 335, attributes := #[] }, { accessFlags := 9, nameIndex := 201, descriptorIndex := 121, attributes := #[] }] 49 4 #[] #[{ accessFlags := 25, nameIndex := 354, descriptorIndex := 339, attributes := #[] }, { accessFlags := 25, nameIndex := 358, descriptorIndex := 339, attributes := #[] }, { accessFlags := 25, nameIndex := 361, descriptorIndex := 339, attributes := #[] }, { accessFlags := 26, nameIndex := 364, descriptorIndex := 339, attributes := #[] }, { accessFlags := 26, nameIndex := 365, descriptorIndex := 339, attributes := #[] }, { accessFlags := 26, nameIndex := 172, descriptorIndex := 173, attributes := #[] }, { accessFlags := 26, nameIndex := 176, descriptorIndex := 173, attributes := #[] }, { accessFlags := 8, nameIndex := 344, descriptorIndex := 339, attributes := #[] }, { accessFlags := 8, nameIndex := 338, descriptorIndex := 339, attributes := #[] }, { accessFlags := 4120, nameIndex := 245, descriptorIndex := 246, attributes := #[] }])
  fields := #[{ name := "E", type := .double, accessFlags := 25, slot := 0, constantValue := 0 }, { name := "PI", type := .double, accessFlags := 25, slot := 1, constantValue := 0 }, { name := "TAU", type := .double, accessFlags := 25, slot := 2, constantValue := 0 }, { name := "DEGREES_TO_RADIANS", type := .double, accessFlags := 26, slot := 3, constantValue := 0 }, { name := "RADIANS_TO_DEGREES", type := .double, accessFlags := 26, slot := 4, constantValue := 0 }, { name := "negativeZeroFloatBits", type := .long, accessFlags := 26, slot := 5, constantValue := 0 }, { name := "negativeZeroDoubleBits", type := .long, accessFlags := 26, slot := 6, constantValue := 0 }, { name := "twoToTheDoubleScaleUp", type := .double, accessFlags := 8, slot := 7, constantValue := 0 }, { name := "twoToTheDoubleScaleDown", type := .double, accessFlags := 8, slot := 8, constantValue := 0 }, { name := "$assertionsDisabled", type := .boolean, accessFlags := 4120, slot := 9, constantValue := 0 }]
  methods := #[k12m0, k12m1, k12m2, k12m3]
  instanceTypes := #[]
  staticTypes := #[.double, .double, .double, .double, .double, .long, .long, .double, .double, .boolean]
  resolved := Array.replicate 460 none
  statics := none }

def pool13 : Array CpInfo := pool [(1, .methodref 2 3), (0, .class_ 4), (0, .nameAndType 5 6), (0, u "java/lang/Object"), (0, u "<init>"), (0, u "()V"), (0, .fieldref 8 9), (0, .class_ 10), (0, .nameAndType 11 12), (0, u "com/example/veilcommit/veilcommit/oram/BucketTable"), (0, u "pathReads"), (0, u "[I"), (0, .class_ 14), (0, u "java/util/BitSet"), (0, .methodref 13 3), (0, .fieldref 8 17), (0, .nameAndType 18 19), (0, u "superseded"), (0, u "Ljava/util/BitSet;"), (0, .fieldref 8 21), (0, .nameAndType 22 19), (0, u "written"), (0, .fieldref 8 24), (0, .nameAndType 25 26), (0, u "shape"), (0, u "Lcom/example/veilcommit/veilcommit/oram/TreeShape;"), (0, .methodref 28 29), (0, .class_ 30), (0, .nameAndType 31 32), (0, u "com/example/veilcommit/veilcommit/oram/TreeShape"), (0, u "buckets"), (0, u "()I"), (0, .methodref 28 34), (0, .nameAndType 35 32), (0, u "z"), (0, .fieldref 8 37), (0, .nameAndType 38 12), (0, u "realSlots"), (0, .fieldref 8 40), (0, .nameAndType 41 12), (0, u "realIds"), (2, .fieldref 8 45), (0, .nameAndType 46 47), (0, u "older"), (0, u "[J"), (0, .methodref 28 49), (0, .nameAndType 50 32), (0, u "capacity"), (0, .fieldref 8 52), (0, .nameAndType 53 12), (0, u "currentEntries"), (0, .methodref 28 55), (0, .nameAndType 56 32), (0, u "slotsPerBucket"), (0, .fieldref 8 58), (0, .nameAndType 59 60), (0, u "words"), (0, u "I"), (0, .fieldref 8 62), (0, .nameAndType 63 47), (0, u "read"), (0, .fieldref 8 65), (0, .nameAndType 66 47), (0, u "listed"), (0, .fieldref 8 68), (0, .nameAndType 69 12), (0, u "readCounts"), (0, .fieldref 8 71), (0, .nameAndType 72 47), (0, u "writes"), (0, .fieldref 8 74), (0, .nameAndType 75 47), (0, u "tags"), (0, .methodref 77 78), (0, .class_ 79), (0, .nameAndType 80 81), (0, u "java/util/Arrays"), (0, u "fill"), (0, u "([II)V"), (0, .fieldref 8 83), (0, .nameAndType 84 85), (0, u "indexed"), (0, u "Z"), (3, u "(II)I"), (8, .methodref 8 99), (0, .nameAndType 100 89), (0, u "entryOf"), (30, .fieldref 8 132), (0, .nameAndType 133 60), (0, u "pathReadCount"), (0, .methodref 135 136), (0, .class_ 137), (0, .nameAndType 138 89), (0, u "java/lang/Math"), (0, u "max"), (0, .methodref 77 140), (0, .nameAndType 141 142), (0, u "copyOf"), (0, u "([II)[I"), (0, .methodref 8 144), (0, .nameAndType 145 146), (0, u "takeRead"), (0, u "(II)V"), (3, .long 18446744073709551615), (1, .class_ 153), (0, u "com/example/veilcommit/veilcommit/oram/BucketTable$Version"), (4, .class_ 160), (1, u "com/example/veilcommit/veilcommit/oram/BucketTable$ListedBlock"), (5, .class_ 167), (0, u "com/example/veilcommit/veilcommit/oram/BucketTable$RewriteRead"), (111, u "wasRead"), (0, u "(II)Z"), (63, u "NONE"), (2, u "(Lcom/example/veilcommit/veilcommit/oram/TreeShape;)V"), (9, u "markRead")] 63

def k13c0 : Code := { maxStack := 3, maxLocals := 2, code := prog_103_method_1_code, exceptionTable := #[], attributes := #[] }
def k13m0 : Method := { name := "<init>", desc := "(Lcom/example/veilcommit/veilcommit/oram/TreeShape;)V", sig := { parameters := [(.object "com/example/veilcommit/veilcommit/oram/TreeShape")], returnType := none }, accessFlags := 0, code := some k13c0 }
def k13c1 : Code := { maxStack := 5, maxLocals := 3, code := prog_103_method_7_code, exceptionTable := #[], attributes := #[] }
def k13m1 : Method := { name := "markRead", desc := "(II)V", sig := { parameters := [.int, .int], returnType := none }, accessFlags := 0, code := some k13c1 }
def k13c2 : Code := { maxStack := 8, maxLocals := 4, code := prog_103_method_8_code, exceptionTable := #[], attributes := #[] }
def k13m2 : Method := { name := "takeRead", desc := "(II)V", sig := { parameters := [.int, .int], returnType := none }, accessFlags := 2, code := some k13c2 }
def k13c3 : Code := { maxStack := 5, maxLocals := 3, code := prog_103_method_9_code, exceptionTable := #[], attributes := #[] }
def k13m3 : Method := { name := "wasRead", desc := "(II)Z", sig := { parameters := [.int, .int], returnType := some .boolean }, accessFlags := 0, code := some k13c3 }
def k13c4 : Code := { maxStack := 5, maxLocals := 4, code := prog_103_method_20_code, exceptionTable := #[], attributes := #[] }
def k13m4 : Method := { name := "entryOf", desc := "(II)I", sig := { parameters := [.int, .int], returnType := some .int }, accessFlags := 2, code := some k13c4 }
/-- com/example/veilcommit/veilcommit/oram/BucketTable -/
def k13 : Class := { plain "com/example/veilcommit/veilcommit/oram/BucketTable" (some 0) with
  accessFlags := 48
  interfaces := #[]
  cf := some (fileOf pool13 8 #[.nestMembers #[166, 158, 152]] #[{ accessFlags := 0, nameIndex := 5, descriptorIndex := 347, attributes := #[] }, { accessFlags := 0, nameIndex := 357, descriptorIndex := 146, attributes := #[] }, { accessFlags := 2, nameIndex := 145, descriptorIndex := 146, attributes := #[] }, { accessFlags := 0, nameIndex := 279, descriptorIndex := 280, attributes := #[] }, { accessFlags := 2, nameIndex := 100, descriptorIndex := 89, attributes := #[] }] 48 2 #[] #[{ accessFlags := 26, nameIndex := 344, descriptorIndex := 60, attributes := #[] }, { accessFlags := 18, nameIndex := 25, descriptorIndex := 26, attributes := #[] }, { accessFlags := 18, nameIndex := 38, descriptorIndex := 12, attributes := #[] }, { accessFlags := 18, nameIndex := 41, descriptorIndex := 12, attributes := #[] }, { accessFlags := 18, nameIndex := 46, descriptorIndex := 47, attributes := #[] }, { accessFlags := 18, nameIndex := 63, descriptorIndex := 47, attributes := #[] }, { accessFlags := 18, nameIndex := 66, descriptorIndex := 47, attributes := #[] }, { accessFlags := 18, nameIndex := 59, descriptorIndex := 60, attributes := #[] }, { accessFlags := 18, nameIndex := 69, descriptorIndex := 12, attributes := #[] }, { accessFlags := 18, nameIndex := 53, descriptorIndex := 12, attributes := #[] }, { accessFlags := 2, nameIndex := 84, descriptorIndex := 85, attributes := #[] }, { accessFlags := 18, nameIndex := 72, descriptorIndex := 47, attributes := #[] }, { accessFlags := 18, nameIndex := 75, descriptorIndex := 47, attributes := #[] }, { accessFlags := 2, nameIndex := 11, descriptorIndex := 12, attributes := #[] }, { accessFlags := 2, nameIndex := 133, descriptorIndex := 60, attributes := #[] }, { accessFlags := 18, nameIndex := 18, descriptorIndex := 19, attributes := #[] }, { accessFlags := 18, nameIndex := 22, descriptorIndex := 19, attributes := #[] }])
  fields := #[{ name := "NONE", type := .int, accessFlags := 26, slot := 0, constantValue := 0 }, { name := "shape", type := (.object "com/example/veilcommit/veilcommit/oram/TreeShape"), accessFlags := 18, slot := 0, constantValue := 0 }, { name := "realSlots", type := (.array .int), accessFlags := 18, slot := 1, constantValue := 0 }, { name := "realIds", type := (.array .int), accessFlags := 18, slot := 2, constantValue := 0 }, { name := "older", type := (.array .long), accessFlags := 18, slot := 3, constantValue := 0 }, { name := "read", type := (.array .long), accessFlags := 18, slot := 4, constantValue := 0 }, { name := "listed", type := (.array .long), accessFlags := 18, slot := 5, constantValue := 0 }, { name := "words", type := .int, accessFlags := 18, slot := 6, constantValue := 0 }, { name := "readCounts", type := (.array .int), accessFlags := 18, slot := 7, constantValue := 0 }, { name := "currentEntries", type := (.array .int), accessFlags := 18, slot := 8, constantValue := 0 }, { name := "indexed", type := .boolean, accessFlags := 2, slot := 9, constantValue := 0 }, { name := "writes", type := (.array .long), accessFlags := 18, slot := 10, constantValue := 0 }, { name := "tags", type := (.array .long), accessFlags := 18, slot := 11, constantValue := 0 }, { name := "pathReads", type := (.array .int), accessFlags := 2, slot := 12, constantValue := 0 }, { name := "pathReadCount", type := .int, accessFlags := 2, slot := 13, constantValue := 0 }, { name := "superseded", type := (.object "java/util/BitSet"), accessFlags := 18, slot := 14, constantValue := 0 }, { name := "written", type := (.object "java/util/BitSet"), accessFlags := 18, slot := 15, constantValue := 0 }]
  methods := #[k13m0, k13m1, k13m2, k13m3, k13m4]
  instanceTypes := #[(.object "com/example/veilcommit/veilcommit/oram/TreeShape"), (.array .int), (.array .int), (.array .long), (.array .long), (.array .long), .int, (.array .int), (.array .int), .boolean, (.array .long), (.array .long), (.array .int), .int, (.object "java/util/BitSet"), (.object "java/util/BitSet")]
  staticTypes := #[.int]
  resolved := Array.replicate 421 none
  statics := none }

def pool14 : Array CpInfo := pool [(1, .class_ 2), (0, u "java/lang/Cloneable"), (0, .class_ 4), (0, u "java/lang/Object")] 2

/-- java/lang/Cloneable -/
def k14 : Class := { plain "java/lang/Cloneable" (some 0) with
  accessFlags := 1537
  interfaces := #[]
  cf := some (fileOf pool14 1 #[] #[] 1537 3 #[] #[])
  fields := #[]
  methods := #[]
  instanceTypes := #[]
  staticTypes := #[]
  resolved := Array.replicate 7 none
  statics := none }

def pool15 : Array CpInfo := pool [(1, .class_ 2), (0, u "java/util/BitSet"), (2, u "$assertionsDisabled"), (0, u "Z"), (0, .fieldref 1 8), (0, .nameAndType 9 10), (0, u "wordsInUse"), (0, u "I"), (0, .fieldref 1 12), (0, .nameAndType 13 14), (0, u "words"), (0, u "[J"), (3, .nameAndType 19 20), (0, u "<init>"), (0, u "()V"), (0, .methodref 22 18), (0, .class_ 23), (0, u "java/lang/Object"), (0, .fieldref 1 25), (0, .nameAndType 26 6), (0, u "sizeIsSticky"), (0, .methodref 1 28), (0, .nameAndType 29 30), (0, u "initWords"), (0, u "(I)V"), (21, .methodref 1 53), (0, .nameAndType 54 55), (0, u "wordIndex"), (0, u "(I)I"), (213, .class_ 270), (0, u "java/util/BitSet$1BitSetSpliterator"), (22, u "serialPersistentFields"), (0, u "[Ljava/io/ObjectStreamField;"), (0, .class_ 296), (0, u "java/lang/Cloneable"), (0, .class_ 298), (0, u "java/io/Serializable"), (0, u "ADDRESS_BITS_PER_WORD"), (2, u "BITS_PER_WORD"), (1, u "BIT_INDEX_MASK"), (1, u "WORD_MASK"), (0, u "J"), (0, u "serialVersionUID")] 108

def k15c0 : Code := { maxStack := 2, maxLocals := 1, code := jdk_92_method_1_code, exceptionTable := #[], attributes := #[] }
def k15m0 : Method := { name := "wordIndex", desc := "(I)I", sig := { parameters := [.int], returnType := some .int }, accessFlags := 10, code := some k15c0 }
def k15c1 : Code := { maxStack := 2, maxLocals := 1, code := jdk_92_method_4_code, exceptionTable := #[], attributes := #[] }
def k15m1 : Method := { name := "<init>", desc := "()V", sig := { parameters := [], returnType := none }, accessFlags := 1, code := some k15c1 }
def k15c2 : Code := { maxStack := 3, maxLocals := 2, code := jdk_92_method_6_code, exceptionTable := #[], attributes := #[] }
def k15m2 : Method := { name := "initWords", desc := "(I)V", sig := { parameters := [.int], returnType := none }, accessFlags := 2, code := some k15c2 }
/-- java/util/BitSet -/
def k15 : Class := { plain "java/util/BitSet" (some 0) with
  accessFlags := 33
  interfaces := #[14, 4]
  cf := some (fileOf pool15 1 #[.nestMembers #[269]] #[{ accessFlags := 10, nameIndex := 54, descriptorIndex := 55, attributes := #[] }, { accessFlags := 1, nameIndex := 19, descriptorIndex := 20, attributes := #[] }, { accessFlags := 2, nameIndex := 29, descriptorIndex := 30, attributes := #[] }] 33 22 #[295, 297] #[{ accessFlags := 26, nameIndex := 299, descriptorIndex := 10, attributes := #[] }, { accessFlags := 26, nameIndex := 302, descriptorIndex := 10, attributes := #[] }, { accessFlags := 26, nameIndex := 304, descriptorIndex := 10, attributes := #[] }, { accessFlags := 26, nameIndex := 306, descriptorIndex := 307, attributes := #[] }, { accessFlags := 26, nameIndex := 293, descriptorIndex := 294, attributes := #[] }, { accessFlags := 2, nameIndex := 13, descriptorIndex := 14, attributes := #[] }, { accessFlags := 130, nameIndex := 9, descriptorIndex := 10, attributes := #[] }, { accessFlags := 130, nameIndex := 26, descriptorIndex := 6, attributes := #[] }, { accessFlags := 26, nameIndex := 308, descriptorIndex := 307, attributes := #[] }, { accessFlags := 4120, nameIndex := 5, descriptorIndex := 6, attributes := #[] }])
  fields := #[{ name := "ADDRESS_BITS_PER_WORD", type := .int, accessFlags := 26, slot := 0, constantValue := 0 }, { name := "BITS_PER_WORD", type := .int, accessFlags := 26, slot := 1, constantValue := 0 }, { name := "BIT_INDEX_MASK", type := .int, accessFlags := 26, slot := 2, constantValue := 0 }, { name := "WORD_MASK", type := .long, accessFlags := 26, slot := 3, constantValue := 0 }, { name := "serialPersistentFields", type := (.array (.object "java/io/ObjectStreamField")), accessFlags := 26, slot := 4, constantValue := 0 }, { name := "words", type := (.array .long), accessFlags := 2, slot := 0, constantValue := 0 }, { name := "wordsInUse", type := .int, accessFlags := 130, slot := 1, constantValue := 0 }, { name := "sizeIsSticky", type := .boolean, accessFlags := 130, slot := 2, constantValue := 0 }, { name := "serialVersionUID", type := .long, accessFlags := 26, slot := 5, constantValue := 0 }, { name := "$assertionsDisabled", type := .boolean, accessFlags := 4120, slot := 6, constantValue := 0 }]
  methods := #[k15m0, k15m1, k15m2]
  instanceTypes := #[(.array .long), .int, .boolean]
  staticTypes := #[.int, .int, .int, .long, (.array (.object "java/io/ObjectStreamField")), .long, .boolean]
  resolved := Array.replicate 417 none
  statics := none }

def pool16 : Array CpInfo := pool [(2, .class_ 4), (1, u "java/lang/Object"), (0, u "<init>"), (0, u "()V"), (7, .class_ 16), (1, u "java/util/Arrays"), (57, .class_ 76), (1, u "java/util/Arrays$NaturalOrder"), (36, .class_ 115), (1, u "java/util/Arrays$LegacyMergeSort"), (1, u "Z"), (32, .methodref 151 152), (0, .class_ 153), (0, .nameAndType 154 155), (0, u "java/lang/System"), (0, u "arraycopy"), (0, u "(Ljava/lang/Object;ILjava/lang/Object;II)V"), (146, u "copyOf"), (1, .methodref 305 306), (0, .class_ 307), (0, .nameAndType 308 309), (0, u "java/lang/Math"), (0, u "min"), (0, u "(II)I"), (65, .class_ 376), (0, u "java/util/Arrays$ArrayList"), (68, u "$assertionsDisabled"), (269, u "MIN_ARRAY_SORT_GRAN"), (0, u "I"), (2, u "INSERTIONSORT_THRESHOLD"), (120, u "fill"), (4, u "([II)V"), (25, u "([II)[I"), (103, .class_ 976), (0, u "java/util/Arrays$ArrayItr")] 52

def k16m0 : Method := { name := "<init>", desc := "()V", sig := { parameters := [], returnType := none }, accessFlags := 2, code := none }
def k16c1 : Code := { maxStack := 3, maxLocals := 4, code := jdk_65_method_103_code, exceptionTable := #[], attributes := #[] }
def k16m1 : Method := { name := "fill", desc := "([II)V", sig := { parameters := [(.array .int), .int], returnType := none }, accessFlags := 9, code := some k16c1 }
def k16c2 : Code := { maxStack := 6, maxLocals := 3, code := jdk_65_method_123_code, exceptionTable := #[], attributes := #[] }
def k16m2 : Method := { name := "copyOf", desc := "([II)[I", sig := { parameters := [(.array .int), .int], returnType := some (.array .int) }, accessFlags := 9, code := some k16c2 }
/-- java/util/Arrays -/
def k16 : Class := { plain "java/util/Arrays" (some 0) with
  accessFlags := 49
  interfaces := #[]
  cf := some (fileOf pool16 14 #[.nestMembers #[975, 375, 113, 74]] #[{ accessFlags := 2, nameIndex := 5, descriptorIndex := 6, attributes := #[] }, { accessFlags := 9, nameIndex := 840, descriptorIndex := 845, attributes := #[] }, { accessFlags := 9, nameIndex := 302, descriptorIndex := 871, attributes := #[] }] 49 2 #[] #[{ accessFlags := 26, nameIndex := 715, descriptorIndex := 716, attributes := #[] }, { accessFlags := 26, nameIndex := 719, descriptorIndex := 716, attributes := #[] }, { accessFlags := 4120, nameIndex := 445, descriptorIndex := 117, attributes := #[] }])
  fields := #[{ name := "MIN_ARRAY_SORT_GRAN", type := .int, accessFlags := 26, slot := 0, constantValue := 0 }, { name := "INSERTIONSORT_THRESHOLD", type := .int, accessFlags := 26, slot := 1, constantValue := 0 }, { name := "$assertionsDisabled", type := .boolean, accessFlags := 4120, slot := 2, constantValue := 0 }]
  methods := #[k16m0, k16m1, k16m2]
  instanceTypes := #[]
  staticTypes := #[.int, .int, .boolean]
  resolved := Array.replicate 1029 none
  statics := none }

def pool17 : Array CpInfo := pool [(2, .class_ 4), (1, u "java/lang/Object"), (0, u "<init>"), (0, u "()V"), (1, .class_ 10), (1, u "java/lang/System"), (0, u "allowSecurityManager"), (0, u "I"), (16, u "cons"), (0, u "Ljava/io/Console;"), (77, .class_ 110), (1, u "java/lang/System$CallersHolder"), (43, u "initialErrStream"), (0, u "Ljava/io/PrintStream;"), (19, u "security"), (0, u "Ljava/lang/SecurityManager;"), (31, .class_ 209), (0, u "java/lang/System$1"), (7, u "props"), (0, u "Ljava/util/Properties;"), (2, u "lineSeparator"), (0, u "Ljava/lang/String;"), (96, .class_ 321), (1, u "java/lang/System$LoggerFinder"), (5, .class_ 328), (0, u "java/lang/System$Logger"), (67, u "err"), (2, u "out"), (91, u "notSupportedJnuEncoding"), (15, u "in"), (17, u "initialIn"), (0, u "Ljava/io/InputStream;"), (35, u "bootLayer"), (0, u "Ljava/lang/ModuleLayer;"), (99, .class_ 664), (0, u "java/lang/System$2"), (9, u "NEVER"), (2, u "MAYBE"), (49, u "arraycopy"), (0, u "(Ljava/lang/Object;ILjava/lang/Object;II)V"), (72, .class_ 802), (0, u "java/lang/System$Logger$Level")] 31

def k17m0 : Method := { name := "<init>", desc := "()V", sig := { parameters := [], returnType := none }, accessFlags := 2, code := none }
def k17m1 : Method := { name := "arraycopy", desc := "(Ljava/lang/Object;ILjava/lang/Object;II)V", sig := { parameters := [(.object "java/lang/Object"), .int, (.object "java/lang/Object"), .int, .int], returnType := none }, accessFlags := 265, code := none }
/-- java/lang/System -/
def k17 : Class := { plain "java/lang/System" (some 0) with
  accessFlags := 49
  interfaces := #[]
  cf := some (fileOf pool17 8 #[.nestMembers #[319, 327, 801, 108, 663, 208]] #[{ accessFlags := 2, nameIndex := 5, descriptorIndex := 6, attributes := #[] }, { accessFlags := 265, nameIndex := 727, descriptorIndex := 728, attributes := #[] }] 49 2 #[] #[{ accessFlags := 25, nameIndex := 507, descriptorIndex := 526, attributes := #[] }, { accessFlags := 25, nameIndex := 399, descriptorIndex := 155, attributes := #[] }, { accessFlags := 25, nameIndex := 396, descriptorIndex := 155, attributes := #[] }, { accessFlags := 10, nameIndex := 525, descriptorIndex := 526, attributes := #[] }, { accessFlags := 26, nameIndex := 674, descriptorIndex := 12, attributes := #[] }, { accessFlags := 26, nameIndex := 677, descriptorIndex := 12, attributes := #[] }, { accessFlags := 10, nameIndex := 11, descriptorIndex := 12, attributes := #[] }, { accessFlags := 74, nameIndex := 175, descriptorIndex := 176, attributes := #[] }, { accessFlags := 10, nameIndex := 491, descriptorIndex := 222, attributes := #[] }, { accessFlags := 74, nameIndex := 29, descriptorIndex := 30, attributes := #[] }, { accessFlags := 74, nameIndex := 154, descriptorIndex := 155, attributes := #[] }, { accessFlags := 10, nameIndex := 217, descriptorIndex := 218, attributes := #[] }, { accessFlags := 10, nameIndex := 221, descriptorIndex := 222, attributes := #[] }, { accessFlags := 8, nameIndex := 562, descriptorIndex := 563, attributes := #[] }])
  fields := #[{ name := "in", type := (.object "java/io/InputStream"), accessFlags := 25, slot := 0, constantValue := 0 }, { name := "out", type := (.object "java/io/PrintStream"), accessFlags := 25, slot := 1, constantValue := 0 }, { name := "err", type := (.object "java/io/PrintStream"), accessFlags := 25, slot := 2, constantValue := 0 }, { name := "initialIn", type := (.object "java/io/InputStream"), accessFlags := 10, slot := 3, constantValue := 0 }, { name := "NEVER", type := .int, accessFlags := 26, slot := 4, constantValue := 0 }, { name := "MAYBE", type := .int, accessFlags := 26, slot := 5, constantValue := 0 }, { name := "allowSecurityManager", type := .int, accessFlags := 10, slot := 6, constantValue := 0 }, { name := "security", type := (.object "java/lang/SecurityManager"), accessFlags := 74, slot := 7, constantValue := 0 }, { name := "notSupportedJnuEncoding", type := (.object "java/lang/String"), accessFlags := 10, slot := 8, constantValue := 0 }, { name := "cons", type := (.object "java/io/Console"), accessFlags := 74, slot := 9, constantValue := 0 }, { name := "initialErrStream", type := (.object "java/io/PrintStream"), accessFlags := 74, slot := 10, constantValue := 0 }, { name := "props", type := (.object "java/util/Properties"), accessFlags := 10, slot := 11, constantValue := 0 }, { name := "lineSeparator", type := (.object "java/lang/String"), accessFlags := 10, slot := 12, constantValue := 0 }, { name := "bootLayer", type := (.object "java/lang/ModuleLayer"), accessFlags := 8, slot := 13, constantValue := 0 }]
  methods := #[k17m0, k17m1]
  instanceTypes := #[]
  staticTypes := #[(.object "java/io/InputStream"), (.object "java/io/PrintStream"), (.object "java/io/PrintStream"), (.object "java/io/InputStream"), .int, .int, .int, (.object "java/lang/SecurityManager"), (.object "java/lang/String"), (.object "java/io/Console"), (.object "java/io/PrintStream"), (.object "java/util/Properties"), (.object "java/lang/String"), (.object "java/lang/ModuleLayer")]
  resolved := Array.replicate 834 none
  statics := none }

/-- the primitive byte -/
def k18 : Class := { plain "byte" none with kind := .primitive 'B', accessFlags := 0x411 }
/-- [B -/
def k19 : Class := { plain "[B" (some 0) with kind := .array 18 .byte, interfaces := #[14, 4], accessFlags := 1041 }

/-- the primitive int -/
def k20 : Class := { plain "int" none with kind := .primitive 'I', accessFlags := 0x411 }
/-- [I -/
def k21 : Class := { plain "[I" (some 0) with kind := .array 20 .int, interfaces := #[14, 4], accessFlags := 1041 }

/-- the primitive long -/
def k22 : Class := { plain "long" none with kind := .primitive 'J', accessFlags := 0x411 }
/-- [J -/
def k23 : Class := { plain "[J" (some 0) with kind := .array 22 .long, interfaces := #[14, 4], accessFlags := 1041 }

def heap : Heap := #[]
def classes : Array Class := #[k0, k1, k2, k3, k4, k5, k6, k7, k8, k9, k10, k11, k12, k13, k14, k15, k16, k17, k18, k19, k20, k21, k22, k23]
def interned : List (Array UInt16 × Addr) := []
def slotsUsed : Nat := 0
def theMethod : MethodId := ⟨1, 1⟩
def args0 : Array Value := #[.int 97, .int 3, .int 1, .int 2, .int 5, .int 9]
def aboutOver (below : List Frame) : State where
  vm := { classes := classes, interned := interned.toArray }
  heap := heap
  slotsUsed := slotsUsed
  threads := #[{ frames := .invoking theMethod args0 :: below }]
def below0 : List Frame := [.native { method := ⟨0, 0⟩, args := #[] }]
def about1 : State := aboutOver below0
def p0 : Program := .bare "" "" ""
def e0 : Env := launch0.env 0 0 0
theorem w_frames : about1.frames = Frame.invoking theMethod args0 :: below0 := rfl
set_option maxRecDepth 65536 in
theorem w_args : argsFit about1.vm theMethod args0 = true := by decide +kernel
set_option maxRecDepth 65536 in
theorem w_heap : heapFits about1 = true := by decide +kernel
set_option maxRecDepth 65536 in
theorem w_runnable : about1.curStatus? = some .runnable := by decide +kernel
set_option maxRecDepth 65536 in
theorem w_alone : about1.alone = true := by decide +kernel
set_option maxRecDepth 65536 in
theorem w_named : about1.methodNamed? x = some theMethod := by decide +kernel
set_option maxRecDepth 65536 in
theorem w_hears : about1.hears theMethod below0 = true := by decide +kernel
set_option maxRecDepth 65536 in
theorem w_ripe : about1.ripe theMethod args0 below0 = true := by decide +kernel
theorem w_running : about1.status = .running := rfl
set_option maxRecDepth 65536 in
theorem w_room : about1.hasRoom e0.platform room_1 = true :=
  launch0.hasRoom_least _ room_1 (by decide +kernel) (by decide +kernel) (by decide +kernel) (by decide +kernel) (by decide +kernel) (by decide +kernel)
theorem allAtoms_all (ts : List Jvm.Cond) (a : Array Jvm.Value) (st : Jvm.State) : (allAtoms ts).before a st = ts.all (fun c => c.before a st) := by
  induction ts with
  | nil => rfl
  | cons c t ih =>
    show (Jvm.Cond.and c (allAtoms t)).before a st = _
    rw [Jvm.Cond.before_and, ih, List.all_cons]
def words1 : List Jvm.Cond := Jvm.Cond.code x code maxLocals ret :: tables_1
/-- a 'code' word, met by the world's own term for the bytes: nothing is compared byte by byte -/
theorem code_word {y : MethodName} {bytes : ByteArray} {mx : Nat} {rt : Option FieldType} {a : Array Value} {s : State} {m : MethodId} {meth : Method} {c : Code} (h1 : s.methodNamed? y = some m) (h2 : s.vm.method? m = some meth) (h3 : meth.code = some c) (h4 : c.code = bytes)
    (h5 : (c.maxLocals == mx && c.exceptionTable.isEmpty && decide (c.maxStack ≤ mostOperands) && decide (meth.sig.returnType = rt) && !meth.locks && decide (parseMethodDescriptor y.desc = some meth.sig)) = true) : (Jvm.Cond.code y bytes mx rt).before a s = true := by
  simp only [Bool.and_eq_true, beq_iff_eq, Bool.not_eq_true', decide_eq_true_eq] at h5
  obtain ⟨⟨⟨⟨⟨g1, g2⟩, g3⟩, g4⟩, g5⟩, g6⟩ := h5
  simp [Cond.before, Cond.holds, Cond.value, h1, h2, h3, h4, g1, g2, g3, g4, g5, g6]
def isCode : Jvm.Cond → Bool
  | .code _ _ _ _ => true
  | _ => false
theorem all_split {L : List Jvm.Cond} {P : Jvm.Cond → Bool} (h1 : L.all (fun c => isCode c || P c) = true) (h2 : ∀ c ∈ L.filter isCode, P c = true) : L.all P = true := by
  refine List.all_eq_true.mpr fun c hc => ?_
  have h := List.all_eq_true.mp h1 c hc
  rcases Bool.eq_false_or_eq_true (isCode c) with hi | hi
  · exact h2 c (List.mem_filter.mpr ⟨hc, hi⟩)
  · simpa [hi] using h
set_option maxRecDepth 65536 in
theorem w_c0 : (Jvm.Cond.code x code maxLocals ret).before args0 about1 = true := code_word (m := ⟨1, 1⟩) (meth := k1m1) (c := k1c1) (by decide +kernel) rfl rfl rfl (by decide +kernel)
set_option maxRecDepth 65536 in
theorem w_c1 : (Jvm.Cond.code ({ cls := "com/example/veilcommit/veilcommit/oram/TreeShape", name := "<init>", desc := "(IIIII)V" } : Jvm.MethodName) prog_139_method_1_code (6 : Nat) (Option.none : Option Jvm.ClassFile.FieldType)).before args0 about1 = true := code_word (m := ⟨3, 0⟩) (meth := k3m0) (c := k3c0) (by decide +kernel) rfl rfl rfl (by decide +kernel)
set_option maxRecDepth 65536 in
theorem w_c2 : (Jvm.Cond.code ({ cls := "java/lang/Record", name := "<init>", desc := "()V" } : Jvm.MethodName) jdk_30_method_1_code (1 : Nat) (Option.none : Option Jvm.ClassFile.FieldType)).before args0 about1 = true := code_word (m := ⟨2, 0⟩) (meth := k2m0) (c := k2c0) (by decide +kernel) rfl rfl rfl (by decide +kernel)
set_option maxRecDepth 65536 in
theorem w_c3 : (Jvm.Cond.code ({ cls := "java/lang/Object", name := "<init>", desc := "()V" } : Jvm.MethodName) object_method_1_code (1 : Nat) (Option.none : Option Jvm.ClassFile.FieldType)).before args0 about1 = true := code_word (m := ⟨0, 0⟩) (meth := k0m0) (c := k0c0) (by decide +kernel) rfl rfl rfl (by decide +kernel)
set_option maxRecDepth 65536 in
theorem w_c4 : (Jvm.Cond.code ({ cls := "com/example/veilcommit/veilcommit/oram/TreeShape", name := "requireRange", desc := "(Ljava/lang/String;III)V" } : Jvm.MethodName) prog_139_method_21_code (4 : Nat) (Option.none : Option Jvm.ClassFile.FieldType)).before args0 about1 = true := code_word (m := ⟨3, 6⟩) (meth := k3m6) (c := k3c6) (by decide +kernel) rfl rfl rfl (by decide +kernel)
set_option maxRecDepth 65536 in
theorem w_c5 : (Jvm.Cond.code ({ cls := "com/example/veilcommit/veilcommit/oram/TreeShape", name := "leaves", desc := "(II)I" } : Jvm.MethodName) prog_139_method_3_code (3 : Nat) (Option.some Jvm.ClassFile.FieldType.int)).before args0 about1 = true := code_word (m := ⟨3, 2⟩) (meth := k3m2) (c := k3c2) (by decide +kernel) rfl rfl rfl (by decide +kernel)
set_option maxRecDepth 65536 in
theorem w_c6 : (Jvm.Cond.code ({ cls := "java/lang/Integer", name := "highestOneBit", desc := "(I)I" } : Jvm.MethodName) jdk_33_method_45_code (1 : Nat) (Option.some Jvm.ClassFile.FieldType.int)).before args0 about1 = true := code_word (m := ⟨11, 0⟩) (meth := k11m0) (c := k11c0) (by decide +kernel) rfl rfl rfl (by decide +kernel)
set_option maxRecDepth 65536 in
theorem w_c7 : (Jvm.Cond.code ({ cls := "java/lang/Integer", name := "numberOfLeadingZeros", desc := "(I)I" } : Jvm.MethodName) jdk_33_method_47_code (2 : Nat) (Option.some Jvm.ClassFile.FieldType.int)).before args0 about1 = true := code_word (m := ⟨11, 1⟩) (meth := k11m1) (c := k11c1) (by decide +kernel) rfl rfl rfl (by decide +kernel)
set_option maxRecDepth 65536 in
theorem w_c8 : (Jvm.Cond.code ({ cls := "com/example/veilcommit/veilcommit/oram/TreeShape", name := "stashCapacity", desc := "(II)J" } : Jvm.MethodName) prog_139_method_14_code (2 : Nat) (Option.some Jvm.ClassFile.FieldType.long)).before args0 about1 = true := code_word (m := ⟨3, 5⟩) (meth := k3m5) (c := k3c5) (by decide +kernel) rfl rfl rfl (by decide +kernel)
set_option maxRecDepth 65536 in
theorem w_c9 : (Jvm.Cond.code ({ cls := "java/lang/Math", name := "min", desc := "(JJ)J" } : Jvm.MethodName) jdk_29_method_70_code (4 : Nat) (Option.some Jvm.ClassFile.FieldType.long)).before args0 about1 = true := code_word (m := ⟨12, 3⟩) (meth := k12m3) (c := k12c3) (by decide +kernel) rfl rfl rfl (by decide +kernel)
set_option maxRecDepth 65536 in
theorem w_c10 : (Jvm.Cond.code ({ cls := "com/example/veilcommit/veilcommit/oram/BucketTable", name := "<init>", desc := "(Lcom/example/veilcommit/veilcommit/oram/TreeShape;)V" } : Jvm.MethodName) prog_103_method_1_code (2 : Nat) (Option.none : Option Jvm.ClassFile.FieldType)).before args0 about1 = true := code_word (m := ⟨13, 0⟩) (meth := k13m0) (c := k13c0) (by decide +kernel) rfl rfl rfl (by decide +kernel)
set_option maxRecDepth 65536 in
theorem w_c11 : (Jvm.Cond.code ({ cls := "java/util/BitSet", name := "<init>", desc := "()V" } : Jvm.MethodName) jdk_92_method_4_code (1 : Nat) (Option.none : Option Jvm.ClassFile.FieldType)).before args0 about1 = true := code_word (m := ⟨15, 1⟩) (meth := k15m1) (c := k15c1) (by decide +kernel) rfl rfl rfl (by decide +kernel)
set_option maxRecDepth 65536 in
theorem w_c12 : (Jvm.Cond.code ({ cls := "java/util/BitSet", name := "initWords", desc := "(I)V" } : Jvm.MethodName) jdk_92_method_6_code (2 : Nat) (Option.none : Option Jvm.ClassFile.FieldType)).before args0 about1 = true := code_word (m := ⟨15, 2⟩) (meth := k15m2) (c := k15c2) (by decide +kernel) rfl rfl rfl (by decide +kernel)
set_option maxRecDepth 65536 in
theorem w_c13 : (Jvm.Cond.code ({ cls := "java/util/BitSet", name := "wordIndex", desc := "(I)I" } : Jvm.MethodName) jdk_92_method_1_code (1 : Nat) (Option.some Jvm.ClassFile.FieldType.int)).before args0 about1 = true := code_word (m := ⟨15, 0⟩) (meth := k15m0) (c := k15c0) (by decide +kernel) rfl rfl rfl (by decide +kernel)
set_option maxRecDepth 65536 in
theorem w_c14 : (Jvm.Cond.code ({ cls := "com/example/veilcommit/veilcommit/oram/TreeShape", name := "buckets", desc := "()I" } : Jvm.MethodName) prog_139_method_5_code (1 : Nat) (Option.some Jvm.ClassFile.FieldType.int)).before args0 about1 = true := code_word (m := ⟨3, 3⟩) (meth := k3m3) (c := k3c3) (by decide +kernel) rfl rfl rfl (by decide +kernel)
set_option maxRecDepth 65536 in
theorem w_c15 : (Jvm.Cond.code ({ cls := "com/example/veilcommit/veilcommit/oram/TreeShape", name := "leaves", desc := "()I" } : Jvm.MethodName) prog_139_method_2_code (1 : Nat) (Option.some Jvm.ClassFile.FieldType.int)).before args0 about1 = true := code_word (m := ⟨3, 1⟩) (meth := k3m1) (c := k3c1) (by decide +kernel) rfl rfl rfl (by decide +kernel)
set_option maxRecDepth 65536 in
theorem w_c16 : (Jvm.Cond.code ({ cls := "com/example/veilcommit/veilcommit/oram/TreeShape", name := "z", desc := "()I" } : Jvm.MethodName) prog_139_method_27_code (1 : Nat) (Option.some Jvm.ClassFile.FieldType.int)).before args0 about1 = true := code_word (m := ⟨3, 8⟩) (meth := k3m8) (c := k3c8) (by decide +kernel) rfl rfl rfl (by decide +kernel)
set_option maxRecDepth 65536 in
theorem w_c17 : (Jvm.Cond.code ({ cls := "com/example/veilcommit/veilcommit/oram/TreeShape", name := "capacity", desc := "()I" } : Jvm.MethodName) prog_139_method_25_code (1 : Nat) (Option.some Jvm.ClassFile.FieldType.int)).before args0 about1 = true := code_word (m := ⟨3, 7⟩) (meth := k3m7) (c := k3c7) (by decide +kernel) rfl rfl rfl (by decide +kernel)
set_option maxRecDepth 65536 in
theorem w_c18 : (Jvm.Cond.code ({ cls := "com/example/veilcommit/veilcommit/oram/TreeShape", name := "slotsPerBucket", desc := "()I" } : Jvm.MethodName) prog_139_method_6_code (1 : Nat) (Option.some Jvm.ClassFile.FieldType.int)).before args0 about1 = true := code_word (m := ⟨3, 4⟩) (meth := k3m4) (c := k3c4) (by decide +kernel) rfl rfl rfl (by decide +kernel)
set_option maxRecDepth 65536 in
theorem w_c19 : (Jvm.Cond.code ({ cls := "java/util/Arrays", name := "fill", desc := "([II)V" } : Jvm.MethodName) jdk_65_method_103_code (4 : Nat) (Option.none : Option Jvm.ClassFile.FieldType)).before args0 about1 = true := code_word (m := ⟨16, 1⟩) (meth := k16m1) (c := k16c1) (by decide +kernel) rfl rfl rfl (by decide +kernel)
set_option maxRecDepth 65536 in
theorem w_c20 : (Jvm.Cond.code ({ cls := "com/example/veilcommit/veilcommit/oram/BucketTable", name := "wasRead", desc := "(II)Z" } : Jvm.MethodName) prog_103_method_9_code (3 : Nat) (Option.some Jvm.ClassFile.FieldType.boolean)).before args0 about1 = true := code_word (m := ⟨13, 3⟩) (meth := k13m3) (c := k13c3) (by decide +kernel) rfl rfl rfl (by decide +kernel)
set_option maxRecDepth 65536 in
theorem w_c21 : (Jvm.Cond.code ({ cls := "com/example/veilcommit/veilcommit/oram/BucketTable", name := "markRead", desc := "(II)V" } : Jvm.MethodName) prog_103_method_7_code (3 : Nat) (Option.none : Option Jvm.ClassFile.FieldType)).before args0 about1 = true := code_word (m := ⟨13, 1⟩) (meth := k13m1) (c := k13c1) (by decide +kernel) rfl rfl rfl (by decide +kernel)
set_option maxRecDepth 65536 in
theorem w_c22 : (Jvm.Cond.code ({ cls := "java/lang/Math", name := "max", desc := "(II)I" } : Jvm.MethodName) jdk_29_method_65_code (2 : Nat) (Option.some Jvm.ClassFile.FieldType.int)).before args0 about1 = true := code_word (m := ⟨12, 1⟩) (meth := k12m1) (c := k12c1) (by decide +kernel) rfl rfl rfl (by decide +kernel)
set_option maxRecDepth 65536 in
theorem w_c23 : (Jvm.Cond.code ({ cls := "java/util/Arrays", name := "copyOf", desc := "([II)[I" } : Jvm.MethodName) jdk_65_method_123_code (3 : Nat) (Option.some (Jvm.ClassFile.FieldType.array Jvm.ClassFile.FieldType.int))).before args0 about1 = true := code_word (m := ⟨16, 2⟩) (meth := k16m2) (c := k16c2) (by decide +kernel) rfl rfl rfl (by decide +kernel)
set_option maxRecDepth 65536 in
theorem w_c24 : (Jvm.Cond.code ({ cls := "java/lang/Math", name := "min", desc := "(II)I" } : Jvm.MethodName) jdk_29_method_69_code (2 : Nat) (Option.some Jvm.ClassFile.FieldType.int)).before args0 about1 = true := code_word (m := ⟨12, 2⟩) (meth := k12m2) (c := k12c2) (by decide +kernel) rfl rfl rfl (by decide +kernel)
set_option maxRecDepth 65536 in
theorem w_c25 : (Jvm.Cond.code ({ cls := "com/example/veilcommit/veilcommit/oram/BucketTable", name := "takeRead", desc := "(II)V" } : Jvm.MethodName) prog_103_method_8_code (4 : Nat) (Option.none : Option Jvm.ClassFile.FieldType)).before args0 about1 = true := code_word (m := ⟨13, 2⟩) (meth := k13m2) (c := k13c2) (by decide +kernel) rfl rfl rfl (by decide +kernel)
set_option maxRecDepth 65536 in
theorem w_c26 : (Jvm.Cond.code ({ cls := "com/example/veilcommit/veilcommit/oram/BucketTable", name := "entryOf", desc := "(II)I" } : Jvm.MethodName) prog_103_method_20_code (4 : Nat) (Option.some Jvm.ClassFile.FieldType.int)).before args0 about1 = true := code_word (m := ⟨13, 4⟩) (meth := k13m4) (c := k13c4) (by decide +kernel) rfl rfl rfl (by decide +kernel)
def codes1 : List Jvm.Cond := [Jvm.Cond.code x code maxLocals ret, Jvm.Cond.code ({ cls := "com/example/veilcommit/veilcommit/oram/TreeShape", name := "<init>", desc := "(IIIII)V" } : Jvm.MethodName) prog_139_method_1_code (6 : Nat) (Option.none : Option Jvm.ClassFile.FieldType), Jvm.Cond.code ({ cls := "java/lang/Record", name := "<init>", desc := "()V" } : Jvm.MethodName) jdk_30_method_1_code (1 : Nat) (Option.none : Option Jvm.ClassFile.FieldType), Jvm.Cond.code ({ cls := "java/lang/Object", name := "<init>", desc := "()V" } : Jvm.MethodName) object_method_1_code (1 : Nat) (Option.none : Option Jvm.ClassFile.FieldType), Jvm.Cond.code ({ cls := "com/example/veilcommit/veilcommit/oram/TreeShape", name := "requireRange", desc := "(Ljava/lang/String;III)V" } : Jvm.MethodName) prog_139_method_21_code (4 : Nat) (Option.none : Option Jvm.ClassFile.FieldType), Jvm.Cond.code ({ cls := "com/example/veilcommit/veilcommit/oram/TreeShape", name := "leaves", desc := "(II)I" } : Jvm.MethodName) prog_139_method_3_code (3 : Nat) (Option.some Jvm.ClassFile.FieldType.int), Jvm.Cond.code ({ cls := "java/lang/Integer", name := "highestOneBit", desc := "(I)I" } : Jvm.MethodName) jdk_33_method_45_code (1 : Nat) (Option.some Jvm.ClassFile.FieldType.int), Jvm.Cond.code ({ cls := "java/lang/Integer", name := "numberOfLeadingZeros", desc := "(I)I" } : Jvm.MethodName) jdk_33_method_47_code (2 : Nat) (Option.some Jvm.ClassFile.FieldType.int), Jvm.Cond.code ({ cls := "com/example/veilcommit/veilcommit/oram/TreeShape", name := "stashCapacity", desc := "(II)J" } : Jvm.MethodName) prog_139_method_14_code (2 : Nat) (Option.some Jvm.ClassFile.FieldType.long), Jvm.Cond.code ({ cls := "java/lang/Math", name := "min", desc := "(JJ)J" } : Jvm.MethodName) jdk_29_method_70_code (4 : Nat) (Option.some Jvm.ClassFile.FieldType.long), Jvm.Cond.code ({ cls := "com/example/veilcommit/veilcommit/oram/BucketTable", name := "<init>", desc := "(Lcom/example/veilcommit/veilcommit/oram/TreeShape;)V" } : Jvm.MethodName) prog_103_method_1_code (2 : Nat) (Option.none : Option Jvm.ClassFile.FieldType), Jvm.Cond.code ({ cls := "java/util/BitSet", name := "<init>", desc := "()V" } : Jvm.MethodName) jdk_92_method_4_code (1 : Nat) (Option.none : Option Jvm.ClassFile.FieldType), Jvm.Cond.code ({ cls := "java/util/BitSet", name := "initWords", desc := "(I)V" } : Jvm.MethodName) jdk_92_method_6_code (2 : Nat) (Option.none : Option Jvm.ClassFile.FieldType), Jvm.Cond.code ({ cls := "java/util/BitSet", name := "wordIndex", desc := "(I)I" } : Jvm.MethodName) jdk_92_method_1_code (1 : Nat) (Option.some Jvm.ClassFile.FieldType.int), Jvm.Cond.code ({ cls := "com/example/veilcommit/veilcommit/oram/TreeShape", name := "buckets", desc := "()I" } : Jvm.MethodName) prog_139_method_5_code (1 : Nat) (Option.some Jvm.ClassFile.FieldType.int), Jvm.Cond.code ({ cls := "com/example/veilcommit/veilcommit/oram/TreeShape", name := "leaves", desc := "()I" } : Jvm.MethodName) prog_139_method_2_code (1 : Nat) (Option.some Jvm.ClassFile.FieldType.int), Jvm.Cond.code ({ cls := "com/example/veilcommit/veilcommit/oram/TreeShape", name := "z", desc := "()I" } : Jvm.MethodName) prog_139_method_27_code (1 : Nat) (Option.some Jvm.ClassFile.FieldType.int), Jvm.Cond.code ({ cls := "com/example/veilcommit/veilcommit/oram/TreeShape", name := "capacity", desc := "()I" } : Jvm.MethodName) prog_139_method_25_code (1 : Nat) (Option.some Jvm.ClassFile.FieldType.int), Jvm.Cond.code ({ cls := "com/example/veilcommit/veilcommit/oram/TreeShape", name := "slotsPerBucket", desc := "()I" } : Jvm.MethodName) prog_139_method_6_code (1 : Nat) (Option.some Jvm.ClassFile.FieldType.int), Jvm.Cond.code ({ cls := "java/util/Arrays", name := "fill", desc := "([II)V" } : Jvm.MethodName) jdk_65_method_103_code (4 : Nat) (Option.none : Option Jvm.ClassFile.FieldType), Jvm.Cond.code ({ cls := "com/example/veilcommit/veilcommit/oram/BucketTable", name := "wasRead", desc := "(II)Z" } : Jvm.MethodName) prog_103_method_9_code (3 : Nat) (Option.some Jvm.ClassFile.FieldType.boolean), Jvm.Cond.code ({ cls := "com/example/veilcommit/veilcommit/oram/BucketTable", name := "markRead", desc := "(II)V" } : Jvm.MethodName) prog_103_method_7_code (3 : Nat) (Option.none : Option Jvm.ClassFile.FieldType), Jvm.Cond.code ({ cls := "java/lang/Math", name := "max", desc := "(II)I" } : Jvm.MethodName) jdk_29_method_65_code (2 : Nat) (Option.some Jvm.ClassFile.FieldType.int), Jvm.Cond.code ({ cls := "java/util/Arrays", name := "copyOf", desc := "([II)[I" } : Jvm.MethodName) jdk_65_method_123_code (3 : Nat) (Option.some (Jvm.ClassFile.FieldType.array Jvm.ClassFile.FieldType.int)), Jvm.Cond.code ({ cls := "java/lang/Math", name := "min", desc := "(II)I" } : Jvm.MethodName) jdk_29_method_69_code (2 : Nat) (Option.some Jvm.ClassFile.FieldType.int), Jvm.Cond.code ({ cls := "com/example/veilcommit/veilcommit/oram/BucketTable", name := "takeRead", desc := "(II)V" } : Jvm.MethodName) prog_103_method_8_code (4 : Nat) (Option.none : Option Jvm.ClassFile.FieldType), Jvm.Cond.code ({ cls := "com/example/veilcommit/veilcommit/oram/BucketTable", name := "entryOf", desc := "(II)I" } : Jvm.MethodName) prog_103_method_20_code (4 : Nat) (Option.some Jvm.ClassFile.FieldType.int)]
set_option maxRecDepth 65536 in
theorem codes_eq : words1.filter isCode = codes1 := rfl
theorem w_codes : ∀ c ∈ words1.filter isCode, c.before args0 about1 = true := by
  rw [codes_eq]
  intro c hc
  simp only [codes1, List.mem_cons, List.not_mem_nil, or_false] at hc
  rcases hc with rfl | rfl | rfl | rfl | rfl | rfl | rfl | rfl | rfl | rfl | rfl | rfl | rfl | rfl | rfl | rfl | rfl | rfl | rfl | rfl | rfl | rfl | rfl | rfl | rfl | rfl | rfl
  · exact w_c0
  · exact w_c1
  · exact w_c2
  · exact w_c3
  · exact w_c4
  · exact w_c5
  · exact w_c6
  · exact w_c7
  · exact w_c8
  · exact w_c9
  · exact w_c10
  · exact w_c11
  · exact w_c12
  · exact w_c13
  · exact w_c14
  · exact w_c15
  · exact w_c16
  · exact w_c17
  · exact w_c18
  · exact w_c19
  · exact w_c20
  · exact w_c21
  · exact w_c22
  · exact w_c23
  · exact w_c24
  · exact w_c25
  · exact w_c26
set_option maxRecDepth 65536 in
theorem w_t1 : (words1.take 24).all (fun c => isCode c || c.before args0 about1) = true := by decide +kernel
set_option maxRecDepth 65536 in
theorem w_t2 : ((words1.drop 24).take 24).all (fun c => isCode c || c.before args0 about1) = true := by decide +kernel
set_option maxRecDepth 65536 in
theorem w_t3 : (((words1.drop 24).drop 24).take 24).all (fun c => isCode c || c.before args0 about1) = true := by decide +kernel
set_option maxRecDepth 65536 in
theorem w_t4 : ((((words1.drop 24).drop 24).drop 24).take 24).all (fun c => isCode c || c.before args0 about1) = true := by decide +kernel
set_option maxRecDepth 65536 in
theorem w_t5 : (((((words1.drop 24).drop 24).drop 24).drop 24).take 24).all (fun c => isCode c || c.before args0 about1) = true := by decide +kernel
set_option maxRecDepth 65536 in
theorem w_t6 : ((((((words1.drop 24).drop 24).drop 24).drop 24).drop 24).take 24).all (fun c => isCode c || c.before args0 about1) = true := by decide +kernel
set_option maxRecDepth 65536 in
theorem w_t7 : (((((((words1.drop 24).drop 24).drop 24).drop 24).drop 24).drop 24).take 24).all (fun c => isCode c || c.before args0 about1) = true := by decide +kernel
set_option maxRecDepth 65536 in
theorem w_t8 : (((((((words1.drop 24).drop 24).drop 24).drop 24).drop 24).drop 24).drop 24).all (fun c => isCode c || c.before args0 about1) = true := by decide +kernel
theorem w_tables : (allAtoms (Jvm.Cond.code x code maxLocals ret :: tables_1)).before args0 about1 = true := by
  rw [allAtoms_all]
  show words1.all (fun c => c.before args0 about1) = true
  refine all_split ?_ w_codes
  rw [← List.take_append_drop 24 words1, List.all_append, w_t1, ← List.take_append_drop 24 (words1.drop 24), List.all_append, w_t2, ← List.take_append_drop 24 ((words1.drop 24).drop 24), List.all_append, w_t3, ← List.take_append_drop 24 (((words1.drop 24).drop 24).drop 24), List.all_append, w_t4, ← List.take_append_drop 24 ((((words1.drop 24).drop 24).drop 24).drop 24), List.all_append, w_t5, ← List.take_append_drop 24 (((((words1.drop 24).drop 24).drop 24).drop 24).drop 24), List.all_append, w_t6, ← List.take_append_drop 24 ((((((words1.drop 24).drop 24).drop 24).drop 24).drop 24).drop 24), List.all_append, w_t7, w_t8]
  rfl
set_option maxRecDepth 65536 in
theorem w_case : (Jvm.Cond.and given_1 narrow_1).before args0 about1 = true := by decide +kernel
theorem w_applies : (headSpec (Jvm.Cond.code x code maxLocals ret :: tables_1) room_1).applies x e0.platform about1 = true :=
  (Spec.applies_iff w_frames).mpr ⟨w_running, w_runnable, w_alone, w_named, w_hears, w_ripe, w_room, w_tables⟩
theorem atStart : AtStart classFile x code maxLocals ret World_1 tables_1 room_1 Calls_1 rest_1 Pre_1 launch0 p0 e0 about1 theMethod args0 below0 :=
  ⟨lists_1, trivial, launch0.admits_env _ _ _, launch0.least_env, fairChoices_fair.cas, fairChoices_fair.clock, w_frames, w_args, w_heap, w_applies, trivial, trivial, w_case⟩
end start1
theorem witness_1 : WitnessClaimed_1 := ⟨start1.p0, start1.e0, start1.about1, start1.theMethod, start1.args0, start1.below0, start1.atStart⟩
end Jvm.Pilot.@@N@@
