import JvmDerived
import JvmDerived.Pilot.@@N@@Statement
import JvmDerived.Pilot.@@N@@Code
set_option linter.unusedVariables false
set_option linter.unusedSimpArgs false
namespace Jvm.Pilot.@@N@@
open Jvm Jvm.ClassFile Sem Op Lib Jvm.Free Jvm.Stand Jvm.LawKit Jvm.RoadKit Bundle Jvm.Pilot.@@N@@.Jvm.D
/-! ## THE W-KIT: W k n0 Q h cs sl pc L st: whoever stands (in the body that k tells of) over the heap h with locals L and stack st at pc comes to the body's end with Q -/
abbrev KT : Type := Program × Launch × Env × Room × State × MethodId × Array Value × List Frame × Method × Code
def Good (κ : KT) (R : Room) (Z : State) (own mnm : String) (bytes : ByteArray) (ml : Nat) (ret : Option FieldType) : Prop :=
  match κ with
  | (p, _, _, R', s, m, _, _, meth, c) => p.tables.exec = Jvm.exec ∧ Z.Warmed39 s.vm ∧ c.code = bytes ∧ c.maxLocals = ml ∧ s.vm.findClass own = some m.cls ∧ meth.sig.returnType = ret ∧ meth.locks = false ∧ meth.name = mnm ∧ R' = R
def W (κ : KT) (n0 : Nat) (Q : Option Value → Heap → Prop) (h : Heap) (cs sl pc : Nat) (L : List Slot) (st : List Value) : Prop :=
  match κ with
  | (p, l, e, R, s, m, args, below, meth, c) =>
    ∀ (T : State) (locs : List Loc), Stand p l e R s m args below meth c T locs cs sl → T.heap = h → Fr n0 locs → cs ≤ R.cells → sl ≤ R.slots →
      ∃ s₂ o, Steps p.tables e below (T.setTop (mkF m pc L.toArray st)) s₂ ∧ s₂.status = .running ∧ Ended s₂ below o ∧ ∃ v L', o = .returned v ∧ (Q v s₂.heap ∧ Fr n0 L') ∧ FrameEnd s o s₂ L' R.cells R.slots
/-- a callee's contract -/
def Con (Z : State) (y : MethodName) (bytes : ByteArray) (ml : Nat) (ret : Option FieldType) (rm : Room) (as' : List Value) (h0 : Heap) (n0 : Nat) (Q : Option Value → Heap → Prop) : Prop :=
  ∀ (l : Launch) (ws : List Jvm.Cond), MetFree l y (head1 (Jvm.Cond.code y bytes ml ret :: ws) rm) (fun a U => a = as'.toArray ∧ Z.Warmed39 U.vm ∧ U.heap = h0) (fun _ _ _ _ _ => True) (fun _ U o U' => ∃ v L, o = .returned v ∧ (Q v U'.heap ∧ Fr n0 L) ∧ FrameEnd U o U' L rm.cells rm.slots)
/-- an instruction: what stands at pc, its length, the pc behind -/
def Ins1 (b : ByteArray) (pc : Nat) (i : Instr) (len nx : Nat) : Prop := decode b pc = .ok (i, len) ∧ pc + len = nx
/-- a jump: what stands at pc, the pc behind, the pc to which it leads -/
def Jmp1 (b : ByteArray) (pc : Nat) (i : Instr) (o : Int) (nx tg : Nat) : Prop := decode b pc = .ok (i, 3) ∧ pc + 3 = nx ∧ 0 ≤ (pc : Int) + o ∧ ((pc : Int) + o).toNat = tg
def cmpP : ClassFile.Cond → Int32 → Int32 → Prop
  | .eq, x, y => x.toInt = y.toInt
  | .ne, x, y => ¬ x.toInt = y.toInt
  | .lt, x, y => x.toInt < y.toInt
  | .ge, x, y => y.toInt ≤ x.toInt
  | .gt, x, y => y.toInt < x.toInt
  | .le, x, y => x.toInt ≤ y.toInt
def cmp0 : ClassFile.Cond → Int32 → Prop
  | .eq, x => x.toInt = 0
  | .ne, x => ¬ x.toInt = 0
  | .lt, x => x.toInt < 0
  | .ge, x => 0 ≤ x.toInt
  | .gt, x => 0 < x.toInt
  | .le, x => x.toInt ≤ 0
def cmpL : ClassFile.Cond → Int64 → Int64 → Prop
  | .eq, x, y => x.toInt = y.toInt
  | .ne, x, y => ¬ x.toInt = y.toInt
  | .lt, x, y => x.toInt < y.toInt
  | .ge, x, y => y.toInt ≤ x.toInt
  | .gt, x, y => y.toInt < x.toInt
  | .le, x, y => x.toInt ≤ y.toInt
theorem cmpP_iff (cd : ClassFile.Cond) (x y : Int32) : if_icmp.holds cd x y = true ↔ cmpP cd x y := by
  cases cd <;> simp [if_icmp.holds, cmpP, Int32.lt_iff_toInt_lt, Int32.le_iff_toInt_le, Int32.toInt_inj]
theorem cmpP_no {cd : ClassFile.Cond} {x y : Int32} (h : ¬ cmpP cd x y) : if_icmp.holds cd x y = false := by
  cases q : if_icmp.holds cd x y with
  | false => rfl
  | true => exact absurd ((cmpP_iff _ _ _).mp q) h
theorem cmp0_iff (cd : ClassFile.Cond) (x : Int32) : cmpP cd x 0 ↔ cmp0 cd x := by
  cases cd <;> simp [cmpP, cmp0]
theorem cmpL_iff (cd : ClassFile.Cond) (x y : Int64) : cmp0 cd (if x > y then 1 else if x = y then 0 else -1) ↔ cmpL cd x y := by
  have hc := c_lcmp x y
  show cmp0 cd (lcmpW x y) ↔ _
  cases cd <;> simp only [cmp0, cmpL] <;> omega
section WKit
variable {κ : KT} {R : Room} {Z : State} {a0 : Array Value} {own mnm : String} {bytes : ByteArray} {ml : Nat} {ret : Option FieldType} {n0 : Nat} {Q : Option Value → Heap → Prop} {h : Heap} {cs sl pc nx tg : Nat} {L : List Slot} {st rest : List Value}
theorem W.pure {pc' : Nat} {L' : List Slot} {st' : List Value} (C : Good κ R Z own mnm bytes ml ret) (k : W κ n0 Q h cs sl pc' L' st')
    (hs : ∀ {p : Program} {e : Env} {below : List Frame} {T target : State} {m : MethodId} {c : Code}, At T m c below → p.tables.exec = Jvm.exec → c.code = bytes → Steps p.tables e below (T.setTop (mkF m pc' L'.toArray st')) target → Steps p.tables e below (T.setTop (mkF m pc L.toArray st)) target) : W κ n0 Q h cs sl pc L st := by
  obtain ⟨p, l, e, R', s, m, args, below, meth, c⟩ := κ
  obtain ⟨hx, -, hby, -⟩ := C
  intro T locs X eT N h1 h2
  obtain ⟨s₂, o, a, r⟩ := k T locs X eT N h1 h2
  exact ⟨s₂, o, hs X.here hx hby a, r⟩
/-- more room taken than made -/
theorem W.more {cs' sl' : Nat} (h1 : cs ≤ cs') (h2 : sl ≤ sl') (C : Good κ R Z own mnm bytes ml ret) (g1 : cs' ≤ R.cells) (g2 : sl' ≤ R.slots) (k : W κ n0 Q h cs' sl' pc L st) : W κ n0 Q h cs sl pc L st := by
  obtain ⟨p, l, e, R', s, m, args, below, meth, c⟩ := κ
  obtain ⟨-, -, -, -, -, -, -, -, rfl⟩ := C
  intro T locs X eT N _ _
  exact k T locs (X.more h1 h2) eT N g1 g2
theorem W.post {Q' : Option Value → Heap → Prop} (hq : ∀ v h, Q v h → Q' v h) (k : W κ n0 Q h cs sl pc L st) : W κ n0 Q' h cs sl pc L st := by
  obtain ⟨p, l, e, R', s, m, args, below, meth, c⟩ := κ
  intro T locs X eT N h1 h2
  obtain ⟨s₂, o, a, b, c, v, L', d, ⟨f, f'⟩, g⟩ := k T locs X eT N h1 h2
  exact ⟨s₂, o, a, b, c, v, L', d, ⟨hq _ _ f, f'⟩, g⟩

theorem W.iadd {x y z : Int32} (C : Good κ R Z own mnm bytes ml ret) (hd : Ins1 bytes pc .iadd 1 nx) (hz : x + y = z) (k : W κ n0 Q h cs sl nx L (.int z :: rest)) : W κ n0 Q h cs sl pc L (.int y :: .int x :: rest) := by
  obtain ⟨hd, rfl⟩ := hd
  subst hz
  exact W.pure C k fun hA hx hby hr => XS.iadd hA hx rfl (hb hby hd) rfl hr
theorem W.isub {x y z : Int32} (C : Good κ R Z own mnm bytes ml ret) (hd : Ins1 bytes pc .isub 1 nx) (hz : x - y = z) (k : W κ n0 Q h cs sl nx L (.int z :: rest)) : W κ n0 Q h cs sl pc L (.int y :: .int x :: rest) := by
  obtain ⟨hd, rfl⟩ := hd
  subst hz
  exact W.pure C k fun hA hx hby hr => XS.isub hA hx rfl (hb hby hd) rfl hr
theorem W.imul {x y z : Int32} (C : Good κ R Z own mnm bytes ml ret) (hd : Ins1 bytes pc .imul 1 nx) (hz : x * y = z) (k : W κ n0 Q h cs sl nx L (.int z :: rest)) : W κ n0 Q h cs sl pc L (.int y :: .int x :: rest) := by
  obtain ⟨hd, rfl⟩ := hd
  subst hz
  exact W.pure C k fun hA hx hby hr => XS.imul hA hx rfl (hb hby hd) rfl hr
theorem W.iand {x y z : Int32} (C : Good κ R Z own mnm bytes ml ret) (hd : Ins1 bytes pc .iand 1 nx) (hz : x &&& y = z) (k : W κ n0 Q h cs sl nx L (.int z :: rest)) : W κ n0 Q h cs sl pc L (.int y :: .int x :: rest) := by
  obtain ⟨hd, rfl⟩ := hd
  subst hz
  exact W.pure C k fun hA hx hby hr => XS.iand hA hx rfl (hb hby hd) rfl hr
theorem W.ior {x y z : Int32} (C : Good κ R Z own mnm bytes ml ret) (hd : Ins1 bytes pc .ior 1 nx) (hz : x ||| y = z) (k : W κ n0 Q h cs sl nx L (.int z :: rest)) : W κ n0 Q h cs sl pc L (.int y :: .int x :: rest) := by
  obtain ⟨hd, rfl⟩ := hd
  subst hz
  exact W.pure C k fun hA hx hby hr => XS.ior hA hx rfl (hb hby hd) rfl hr
theorem W.ixor {x y z : Int32} (C : Good κ R Z own mnm bytes ml ret) (hd : Ins1 bytes pc .ixor 1 nx) (hz : x ^^^ y = z) (k : W κ n0 Q h cs sl nx L (.int z :: rest)) : W κ n0 Q h cs sl pc L (.int y :: .int x :: rest) := by
  obtain ⟨hd, rfl⟩ := hd
  subst hz
  exact W.pure C k fun hA hx hby hr => XS.ixor hA hx rfl (hb hby hd) rfl hr
theorem W.ladd {x y z : Int64} (C : Good κ R Z own mnm bytes ml ret) (hd : Ins1 bytes pc .ladd 1 nx) (hz : x + y = z) (k : W κ n0 Q h cs sl nx L (.long z :: rest)) : W κ n0 Q h cs sl pc L (.long y :: .long x :: rest) := by
  obtain ⟨hd, rfl⟩ := hd
  subst hz
  exact W.pure C k fun hA hx hby hr => XS.ladd hA hx rfl (hb hby hd) rfl hr
theorem W.lsub {x y z : Int64} (C : Good κ R Z own mnm bytes ml ret) (hd : Ins1 bytes pc .lsub 1 nx) (hz : x - y = z) (k : W κ n0 Q h cs sl nx L (.long z :: rest)) : W κ n0 Q h cs sl pc L (.long y :: .long x :: rest) := by
  obtain ⟨hd, rfl⟩ := hd
  subst hz
  exact W.pure C k fun hA hx hby hr => XS.lsub hA hx rfl (hb hby hd) rfl hr
theorem W.lmul {x y z : Int64} (C : Good κ R Z own mnm bytes ml ret) (hd : Ins1 bytes pc .lmul 1 nx) (hz : x * y = z) (k : W κ n0 Q h cs sl nx L (.long z :: rest)) : W κ n0 Q h cs sl pc L (.long y :: .long x :: rest) := by
  obtain ⟨hd, rfl⟩ := hd
  subst hz
  exact W.pure C k fun hA hx hby hr => XS.lmul hA hx rfl (hb hby hd) rfl hr
theorem W.land {x y z : Int64} (C : Good κ R Z own mnm bytes ml ret) (hd : Ins1 bytes pc .land 1 nx) (hz : x &&& y = z) (k : W κ n0 Q h cs sl nx L (.long z :: rest)) : W κ n0 Q h cs sl pc L (.long y :: .long x :: rest) := by
  obtain ⟨hd, rfl⟩ := hd
  subst hz
  exact W.pure C k fun hA hx hby hr => XS.land hA hx rfl (hb hby hd) rfl hr
theorem W.lor {x y z : Int64} (C : Good κ R Z own mnm bytes ml ret) (hd : Ins1 bytes pc .lor 1 nx) (hz : x ||| y = z) (k : W κ n0 Q h cs sl nx L (.long z :: rest)) : W κ n0 Q h cs sl pc L (.long y :: .long x :: rest) := by
  obtain ⟨hd, rfl⟩ := hd
  subst hz
  exact W.pure C k fun hA hx hby hr => XS.lor hA hx rfl (hb hby hd) rfl hr
theorem W.lxor {x y z : Int64} (C : Good κ R Z own mnm bytes ml ret) (hd : Ins1 bytes pc .lxor 1 nx) (hz : x ^^^ y = z) (k : W κ n0 Q h cs sl nx L (.long z :: rest)) : W κ n0 Q h cs sl pc L (.long y :: .long x :: rest) := by
  obtain ⟨hd, rfl⟩ := hd
  subst hz
  exact W.pure C k fun hA hx hby hr => XS.lxor hA hx rfl (hb hby hd) rfl hr
theorem W.idiv {x y z : Int32} (C : Good κ R Z own mnm bytes ml ret) (hd : Ins1 bytes pc .idiv 1 nx) (hy : y ≠ 0) (hz : x / y = z) (k : W κ n0 Q h cs sl nx L (.int z :: rest)) : W κ n0 Q h cs sl pc L (.int y :: .int x :: rest) := by
  obtain ⟨hd, rfl⟩ := hd
  subst hz
  exact W.pure C k fun hA hx hby hr => XS.idiv hA hx rfl (hb hby hd) rfl hy hr
theorem W.irem {x y z : Int32} (C : Good κ R Z own mnm bytes ml ret) (hd : Ins1 bytes pc .irem 1 nx) (hy : y ≠ 0) (hz : x % y = z) (k : W κ n0 Q h cs sl nx L (.int z :: rest)) : W κ n0 Q h cs sl pc L (.int y :: .int x :: rest) := by
  obtain ⟨hd, rfl⟩ := hd
  subst hz
  exact W.pure C k fun hA hx hby hr => XS.irem hA hx rfl (hb hby hd) rfl hy (by rw [irem_eq_mod]; exact hr)
theorem W.ldiv {x y z : Int64} (C : Good κ R Z own mnm bytes ml ret) (hd : Ins1 bytes pc .ldiv 1 nx) (hy : y ≠ 0) (hz : x / y = z) (k : W κ n0 Q h cs sl nx L (.long z :: rest)) : W κ n0 Q h cs sl pc L (.long y :: .long x :: rest) := by
  obtain ⟨hd, rfl⟩ := hd
  subst hz
  exact W.pure C k fun hA hx hby hr => XS.ldiv hA hx rfl (hb hby hd) rfl hy hr
theorem W.lrem {x y z : Int64} (C : Good κ R Z own mnm bytes ml ret) (hd : Ins1 bytes pc .lrem 1 nx) (hy : y ≠ 0) (hz : x - (x / y) * y = z) (k : W κ n0 Q h cs sl nx L (.long z :: rest)) : W κ n0 Q h cs sl pc L (.long y :: .long x :: rest) := by
  obtain ⟨hd, rfl⟩ := hd
  subst hz
  exact W.pure C k fun hA hx hby hr => XS.lrem hA hx rfl (hb hby hd) rfl hy hr
theorem W.ishl {x y z : Int32} (C : Good κ R Z own mnm bytes ml ret) (hd : Ins1 bytes pc .ishl 1 nx) (hz : x <<< (y &&& 31) = z) (k : W κ n0 Q h cs sl nx L (.int z :: rest)) : W κ n0 Q h cs sl pc L (.int y :: .int x :: rest) := by
  obtain ⟨hd, rfl⟩ := hd
  subst hz
  exact W.pure C k fun hA hx hby hr => XS.ishl hA hx rfl (hb hby hd) rfl hr
theorem W.ishr {x y z : Int32} (C : Good κ R Z own mnm bytes ml ret) (hd : Ins1 bytes pc .ishr 1 nx) (hz : x >>> (y &&& 31) = z) (k : W κ n0 Q h cs sl nx L (.int z :: rest)) : W κ n0 Q h cs sl pc L (.int y :: .int x :: rest) := by
  obtain ⟨hd, rfl⟩ := hd
  subst hz
  exact W.pure C k fun hA hx hby hr => XS.ishr hA hx rfl (hb hby hd) rfl hr
theorem W.iushr {x y z : Int32} (C : Good κ R Z own mnm bytes ml ret) (hd : Ins1 bytes pc .iushr 1 nx) (hz : (x.toUInt32 >>> (y &&& 31).toUInt32).toInt32 = z) (k : W κ n0 Q h cs sl nx L (.int z :: rest)) : W κ n0 Q h cs sl pc L (.int y :: .int x :: rest) := by
  obtain ⟨hd, rfl⟩ := hd
  subst hz
  exact W.pure C k fun hA hx hby hr => XS.iushr hA hx rfl (hb hby hd) rfl hr
theorem W.lshl {x z : Int64} {y : Int32} (C : Good κ R Z own mnm bytes ml ret) (hd : Ins1 bytes pc .lshl 1 nx) (hz : x <<< (y &&& 0x3f).toInt64 = z) (k : W κ n0 Q h cs sl nx L (.long z :: rest)) : W κ n0 Q h cs sl pc L (.int y :: .long x :: rest) := by
  obtain ⟨hd, rfl⟩ := hd
  subst hz
  exact W.pure C k fun hA hx hby hr => XS.lshl hA hx rfl (hb hby hd) rfl hr
theorem W.lshr {x z : Int64} {y : Int32} (C : Good κ R Z own mnm bytes ml ret) (hd : Ins1 bytes pc .lshr 1 nx) (hz : x >>> (y &&& 0x3f).toInt64 = z) (k : W κ n0 Q h cs sl nx L (.long z :: rest)) : W κ n0 Q h cs sl pc L (.int y :: .long x :: rest) := by
  obtain ⟨hd, rfl⟩ := hd
  subst hz
  exact W.pure C k fun hA hx hby hr => XS.lshr hA hx rfl (hb hby hd) rfl hr
theorem W.lushr {x z : Int64} {y : Int32} (C : Good κ R Z own mnm bytes ml ret) (hd : Ins1 bytes pc .lushr 1 nx) (hz : (x.toUInt64 >>> (y &&& 0x3f).toInt64.toUInt64).toInt64 = z) (k : W κ n0 Q h cs sl nx L (.long z :: rest)) : W κ n0 Q h cs sl pc L (.int y :: .long x :: rest) := by
  obtain ⟨hd, rfl⟩ := hd
  subst hz
  exact W.pure C k fun hA hx hby hr => XS.lushr hA hx rfl (hb hby hd) rfl hr
theorem W.ineg {x : Int32} {z : Int32} (C : Good κ R Z own mnm bytes ml ret) (hd : Ins1 bytes pc .ineg 1 nx) (hz : -x = z) (k : W κ n0 Q h cs sl nx L (.int z :: rest)) : W κ n0 Q h cs sl pc L (.int x :: rest) := by
  obtain ⟨hd, rfl⟩ := hd
  subst hz
  exact W.pure C k fun hA hx hby hr => XS.ineg hA hx rfl (hb hby hd) rfl hr
theorem W.lneg {x : Int64} {z : Int64} (C : Good κ R Z own mnm bytes ml ret) (hd : Ins1 bytes pc .lneg 1 nx) (hz : -x = z) (k : W κ n0 Q h cs sl nx L (.long z :: rest)) : W κ n0 Q h cs sl pc L (.long x :: rest) := by
  obtain ⟨hd, rfl⟩ := hd
  subst hz
  exact W.pure C k fun hA hx hby hr => XS.lneg hA hx rfl (hb hby hd) rfl hr
theorem W.i2l {x : Int32} {z : Int64} (C : Good κ R Z own mnm bytes ml ret) (hd : Ins1 bytes pc .i2l 1 nx) (hz : x.toInt64 = z) (k : W κ n0 Q h cs sl nx L (.long z :: rest)) : W κ n0 Q h cs sl pc L (.int x :: rest) := by
  obtain ⟨hd, rfl⟩ := hd
  subst hz
  exact W.pure C k fun hA hx hby hr => XS.i2l hA hx rfl (hb hby hd) rfl hr
theorem W.l2i {x : Int64} {z : Int32} (C : Good κ R Z own mnm bytes ml ret) (hd : Ins1 bytes pc .l2i 1 nx) (hz : x.toInt32 = z) (k : W κ n0 Q h cs sl nx L (.int z :: rest)) : W κ n0 Q h cs sl pc L (.long x :: rest) := by
  obtain ⟨hd, rfl⟩ := hd
  subst hz
  exact W.pure C k fun hA hx hby hr => XS.l2i hA hx rfl (hb hby hd) rfl hr
theorem W.i2b {x : Int32} {z : Int32} (C : Good κ R Z own mnm bytes ml ret) (hd : Ins1 bytes pc .i2b 1 nx) (hz : x.toInt8.toInt32 = z) (k : W κ n0 Q h cs sl nx L (.int z :: rest)) : W κ n0 Q h cs sl pc L (.int x :: rest) := by
  obtain ⟨hd, rfl⟩ := hd
  subst hz
  exact W.pure C k fun hA hx hby hr => XS.i2b hA hx rfl (hb hby hd) rfl hr
theorem W.i2s {x : Int32} {z : Int32} (C : Good κ R Z own mnm bytes ml ret) (hd : Ins1 bytes pc .i2s 1 nx) (hz : x.toInt16.toInt32 = z) (k : W κ n0 Q h cs sl nx L (.int z :: rest)) : W κ n0 Q h cs sl pc L (.int x :: rest) := by
  obtain ⟨hd, rfl⟩ := hd
  subst hz
  exact W.pure C k fun hA hx hby hr => XS.i2s hA hx rfl (hb hby hd) rfl hr
theorem W.i2c {x : Int32} {z : Int32} (C : Good κ R Z own mnm bytes ml ret) (hd : Ins1 bytes pc .i2c 1 nx) (hz : x.toUInt32.toUInt16.toUInt32.toInt32 = z) (k : W κ n0 Q h cs sl nx L (.int z :: rest)) : W κ n0 Q h cs sl pc L (.int x :: rest) := by
  obtain ⟨hd, rfl⟩ := hd
  subst hz
  exact W.pure C k fun hA hx hby hr => XS.i2c hA hx rfl (hb hby hd) rfl hr
theorem W.iconst {i : Int} {z : Int32} (C : Good κ R Z own mnm bytes ml ret) (hd : Ins1 bytes pc (.iconst i) 1 nx) (hz : Int32.ofInt i = z) (k : W κ n0 Q h cs sl nx L (.int z :: st)) : W κ n0 Q h cs sl pc L st := by
  obtain ⟨hd, rfl⟩ := hd
  subst hz
  exact W.pure C k fun hA hx hby hr => XS.iconst hA hx rfl (hb hby hd) hr
theorem W.bipush {i : Int} {z : Int32} (C : Good κ R Z own mnm bytes ml ret) (hd : Ins1 bytes pc (.bipush i) 2 nx) (hz : (Int8.ofInt i).toInt32 = z) (k : W κ n0 Q h cs sl nx L (.int z :: st)) : W κ n0 Q h cs sl pc L st := by
  obtain ⟨hd, rfl⟩ := hd
  subst hz
  exact W.pure C k fun hA hx hby hr => XS.bipush hA hx rfl (hb hby hd) hr
theorem W.sipush {i : Int} {z : Int32} (C : Good κ R Z own mnm bytes ml ret) (hd : Ins1 bytes pc (.sipush i) 3 nx) (hz : (Int16.ofInt i).toInt32 = z) (k : W κ n0 Q h cs sl nx L (.int z :: st)) : W κ n0 Q h cs sl pc L st := by
  obtain ⟨hd, rfl⟩ := hd
  subst hz
  exact W.pure C k fun hA hx hby hr => XS.sipush hA hx rfl (hb hby hd) hr
theorem W.lconst {i : Fin 2} {z : Int64} (C : Good κ R Z own mnm bytes ml ret) (hd : Ins1 bytes pc (.lconst i) 1 nx) (hz : Int64.ofNat i = z) (k : W κ n0 Q h cs sl nx L (.long z :: st)) : W κ n0 Q h cs sl pc L st := by
  obtain ⟨hd, rfl⟩ := hd
  subst hz
  exact W.pure C k fun hA hx hby hr => XS.lconst hA hx rfl (hb hby hd) hr
theorem W.aconst_null (C : Good κ R Z own mnm bytes ml ret) (hd : Ins1 bytes pc .aconst_null 1 nx) (k : W κ n0 Q h cs sl nx L (.null :: st)) : W κ n0 Q h cs sl pc L st := by
  obtain ⟨hd, rfl⟩ := hd
  exact W.pure C k fun hA hx hby hr => XS.aconstNull hA hx rfl (hb hby hd) hr
theorem W.iload {i : Nat} {v : Int32} (C : Good κ R Z own mnm bytes ml ret) (hd : Ins1 bytes pc (.iload i) 2 nx) (hl : L[i]? = some (.val (.int v))) (k : W κ n0 Q h cs sl nx L ((.int v) :: st)) : W κ n0 Q h cs sl pc L st := by
  obtain ⟨hd, rfl⟩ := hd
  exact W.pure C k fun hA hx hby hr => XS.iload hA hx rfl (hb hby hd) (by simpa using hl) hr
theorem W.iloadN {i : Fin 4} {v : Int32} (C : Good κ R Z own mnm bytes ml ret) (hd : Ins1 bytes pc (.iload_n i) 1 nx) (hl : L[i.val]? = some (.val (.int v))) (k : W κ n0 Q h cs sl nx L ((.int v) :: st)) : W κ n0 Q h cs sl pc L st := by
  obtain ⟨hd, rfl⟩ := hd
  exact W.pure C k fun hA hx hby hr => XS.iloadN hA hx rfl (hb hby hd) (by simpa using hl) hr
theorem W.lload {i : Nat} {v : Int64} (C : Good κ R Z own mnm bytes ml ret) (hd : Ins1 bytes pc (.lload i) 2 nx) (hl : L[i]? = some (.val (.long v))) (k : W κ n0 Q h cs sl nx L ((.long v) :: st)) : W κ n0 Q h cs sl pc L st := by
  obtain ⟨hd, rfl⟩ := hd
  exact W.pure C k fun hA hx hby hr => XS.lload hA hx rfl (hb hby hd) (by simpa using hl) hr
theorem W.lloadN {i : Fin 4} {v : Int64} (C : Good κ R Z own mnm bytes ml ret) (hd : Ins1 bytes pc (.lload_n i) 1 nx) (hl : L[i.val]? = some (.val (.long v))) (k : W κ n0 Q h cs sl nx L ((.long v) :: st)) : W κ n0 Q h cs sl pc L st := by
  obtain ⟨hd, rfl⟩ := hd
  exact W.pure C k fun hA hx hby hr => XS.lloadN hA hx rfl (hb hby hd) (by simpa using hl) hr
theorem W.aload {i : Nat} {v : Value} (C : Good κ R Z own mnm bytes ml ret) (hd : Ins1 bytes pc (.aload i) 2 nx) (hl : L[i]? = some (.val (v))) (hv : v.isRef = true) (k : W κ n0 Q h cs sl nx L ((v) :: st)) : W κ n0 Q h cs sl pc L st := by
  obtain ⟨hd, rfl⟩ := hd
  exact W.pure C k fun hA hx hby hr => XS.aload hA hx rfl (hb hby hd) (by simpa using hl) hv hr
theorem W.aloadN {i : Fin 4} {v : Value} (C : Good κ R Z own mnm bytes ml ret) (hd : Ins1 bytes pc (.aload_n i) 1 nx) (hl : L[i.val]? = some (.val (v))) (hv : v.isRef = true) (k : W κ n0 Q h cs sl nx L ((v) :: st)) : W κ n0 Q h cs sl pc L st := by
  obtain ⟨hd, rfl⟩ := hd
  exact W.pure C k fun hA hx hby hr => XS.aloadN hA hx rfl (hb hby hd) (by simpa using hl) hv hr
theorem W.istore {i : Nat} {L' : List Slot} {v : Int32} (C : Good κ R Z own mnm bytes ml ret) (hd : Ins1 bytes pc (.istore i) 2 nx) (hl : storeLocals L.toArray i (.int v) = some L'.toArray) (k : W κ n0 Q h cs sl nx L' rest) : W κ n0 Q h cs sl pc L ((.int v) :: rest) := by
  obtain ⟨hd, rfl⟩ := hd
  exact W.pure C k fun hA hx hby hr => XS.istore hA hx rfl (hb hby hd) rfl hl hr
theorem W.istoreN {i : Fin 4} {L' : List Slot} {v : Int32} (C : Good κ R Z own mnm bytes ml ret) (hd : Ins1 bytes pc (.istore_n i) 1 nx) (hl : storeLocals L.toArray i.val (.int v) = some L'.toArray) (k : W κ n0 Q h cs sl nx L' rest) : W κ n0 Q h cs sl pc L ((.int v) :: rest) := by
  obtain ⟨hd, rfl⟩ := hd
  exact W.pure C k fun hA hx hby hr => XS.istoreN hA hx rfl (hb hby hd) rfl hl hr
theorem W.lstore {i : Nat} {L' : List Slot} {v : Int64} (C : Good κ R Z own mnm bytes ml ret) (hd : Ins1 bytes pc (.lstore i) 2 nx) (hl : storeLocals L.toArray i (.long v) = some L'.toArray) (k : W κ n0 Q h cs sl nx L' rest) : W κ n0 Q h cs sl pc L ((.long v) :: rest) := by
  obtain ⟨hd, rfl⟩ := hd
  exact W.pure C k fun hA hx hby hr => XS.lstore hA hx rfl (hb hby hd) rfl hl hr
theorem W.lstoreN {i : Fin 4} {L' : List Slot} {v : Int64} (C : Good κ R Z own mnm bytes ml ret) (hd : Ins1 bytes pc (.lstore_n i) 1 nx) (hl : storeLocals L.toArray i.val (.long v) = some L'.toArray) (k : W κ n0 Q h cs sl nx L' rest) : W κ n0 Q h cs sl pc L ((.long v) :: rest) := by
  obtain ⟨hd, rfl⟩ := hd
  exact W.pure C k fun hA hx hby hr => XS.lstoreN hA hx rfl (hb hby hd) rfl hl hr
theorem W.astore {i : Nat} {L' : List Slot} {v : Value} (C : Good κ R Z own mnm bytes ml ret) (hd : Ins1 bytes pc (.astore i) 2 nx) (hl : storeLocals L.toArray i (v) = some L'.toArray) (hv : v.isRef = true) (k : W κ n0 Q h cs sl nx L' rest) : W κ n0 Q h cs sl pc L ((v) :: rest) := by
  obtain ⟨hd, rfl⟩ := hd
  exact W.pure C k fun hA hx hby hr => XS.astore hA hx rfl (hb hby hd) rfl hv hl hr
theorem W.astoreN {i : Fin 4} {L' : List Slot} {v : Value} (C : Good κ R Z own mnm bytes ml ret) (hd : Ins1 bytes pc (.astore_n i) 1 nx) (hl : storeLocals L.toArray i.val (v) = some L'.toArray) (hv : v.isRef = true) (k : W κ n0 Q h cs sl nx L' rest) : W κ n0 Q h cs sl pc L ((v) :: rest) := by
  obtain ⟨hd, rfl⟩ := hd
  exact W.pure C k fun hA hx hby hr => XS.astoreN hA hx rfl (hb hby hd) rfl hv hl hr
theorem W.iinc {i : Nat} {d : Int} {v z : Int32} {L' : List Slot} (C : Good κ R Z own mnm bytes ml ret) (hd : Ins1 bytes pc (.iinc i d) 3 nx) (hl : L[i]? = some (.val (.int v))) (hz : v + Int32.ofInt d = z) (hl' : storeLocals L.toArray i (.int z) = some L'.toArray) (k : W κ n0 Q h cs sl nx L' st) : W κ n0 Q h cs sl pc L st := by
  obtain ⟨hd, rfl⟩ := hd
  subst hz
  exact W.pure C k fun hA hx hby hr => XS.iinc hA hx rfl (hb hby hd) (by simpa using hl) hl' hr
theorem W.dup {x : Value} (C : Good κ R Z own mnm bytes ml ret) (hd : Ins1 bytes pc .dup 1 nx) (hc : x.category = 1) (k : W κ n0 Q h cs sl nx L (x :: x :: rest)) : W κ n0 Q h cs sl pc L (x :: rest) := by
  obtain ⟨hd, rfl⟩ := hd
  exact W.pure C k fun hA hx hby hr => XS.dup hA hx rfl (hb hby hd) rfl hc hr
theorem W.pop {x : Value} (C : Good κ R Z own mnm bytes ml ret) (hd : Ins1 bytes pc .pop 1 nx) (hc : x.category = 1) (k : W κ n0 Q h cs sl nx L rest) : W κ n0 Q h cs sl pc L (x :: rest) := by
  obtain ⟨hd, rfl⟩ := hd
  exact W.pure C k fun hA hx hby hr => XS.pop hA hx rfl (hb hby hd) rfl hc hr
theorem W.dup_x1 {x y : Value} (C : Good κ R Z own mnm bytes ml ret) (hd : Ins1 bytes pc .dup_x1 1 nx) (hc : x.category = 1) (hc' : y.category = 1) (k : W κ n0 Q h cs sl nx L (x :: y :: x :: rest)) : W κ n0 Q h cs sl pc L (x :: y :: rest) := by
  obtain ⟨hd, rfl⟩ := hd
  exact W.pure C k fun hA hx hby hr => XS.dupX1 hA hx rfl (hb hby hd) rfl hc hc' hr
theorem W.dup2 {x y : Value} (C : Good κ R Z own mnm bytes ml ret) (hd : Ins1 bytes pc .dup2 1 nx) (hc : x.category = 1) (hc' : y.category = 1) (k : W κ n0 Q h cs sl nx L (x :: y :: x :: y :: rest)) : W κ n0 Q h cs sl pc L (x :: y :: rest) := by
  obtain ⟨hd, rfl⟩ := hd
  exact W.pure C k fun hA hx hby hr => XT.dup2 hA hx rfl (hb hby hd) rfl hc hc' hr
theorem W.dup2L {x : Int64} (C : Good κ R Z own mnm bytes ml ret) (hd : Ins1 bytes pc .dup2 1 nx) (k : W κ n0 Q h cs sl nx L (.long x :: .long x :: rest)) : W κ n0 Q h cs sl pc L (.long x :: rest) := by
  obtain ⟨hd, rfl⟩ := hd
  exact W.pure C k fun hA hx hby hr => XT.dup2L hA hx rfl (hb hby hd) rfl hr
theorem W.dup_x2 {x y z : Value} (C : Good κ R Z own mnm bytes ml ret) (hd : Ins1 bytes pc .dup_x2 1 nx) (hc : x.category = 1) (hc' : y.category = 1) (hc2 : z.category = 1) (k : W κ n0 Q h cs sl nx L (x :: y :: z :: x :: rest)) : W κ n0 Q h cs sl pc L (x :: y :: z :: rest) := by
  obtain ⟨hd, rfl⟩ := hd
  refine W.pure C k fun {p e below T target m c} hA hx hby hr => ?_
  have hd' := hb hby hd
  jvm_step hA [hA.top, hx, hd', hc, hc', hc2]
  exact hr
theorem W.goto {o : Int} (C : Good κ R Z own mnm bytes ml ret) (hd : Jmp1 bytes pc (.goto o) o nx tg) (k : W κ n0 Q h cs sl tg L st) : W κ n0 Q h cs sl pc L st := by
  obtain ⟨hd, rfl, h1, h2⟩ := hd
  exact W.pure C k fun hA hx hby hr => XS.goto hA hx rfl rfl (hb hby hd) h1 h2 hr
theorem W.icmpY {o : Int} {cd : ClassFile.Cond} {x y : Int32} (C : Good κ R Z own mnm bytes ml ret) (hd : Jmp1 bytes pc (.if_icmp cd o) o nx tg) (hc : cmpP cd x y) (k : W κ n0 Q h cs sl tg L rest) : W κ n0 Q h cs sl pc L (.int y :: .int x :: rest) := by
  obtain ⟨hd, rfl, h1, h2⟩ := hd
  exact W.pure C k fun hA hx hby hr => XS.icmpYes hA hx rfl rfl (hb hby hd) rfl ((cmpP_iff _ _ _).mpr hc) h1 h2 hr
theorem W.icmpN {o : Int} {cd : ClassFile.Cond} {x y : Int32} (C : Good κ R Z own mnm bytes ml ret) (hd : Jmp1 bytes pc (.if_icmp cd o) o nx tg) (hc : ¬ cmpP cd x y) (k : W κ n0 Q h cs sl nx L rest) : W κ n0 Q h cs sl pc L (.int y :: .int x :: rest) := by
  obtain ⟨hd, rfl, h1, h2⟩ := hd
  exact W.pure C k fun hA hx hby hr => XS.icmpNo hA hx rfl (hb hby hd) rfl (cmpP_no hc) hr
theorem W.icmp {o : Int} {cd : ClassFile.Cond} {x y : Int32} (C : Good κ R Z own mnm bytes ml ret) (hd : Jmp1 bytes pc (.if_icmp cd o) o nx tg) (ky : cmpP cd x y → W κ n0 Q h cs sl tg L rest) (kn : ¬ cmpP cd x y → W κ n0 Q h cs sl nx L rest) : W κ n0 Q h cs sl pc L (.int y :: .int x :: rest) := by
  by_cases hc : cmpP cd x y
  · exact W.icmpY C hd hc (ky hc)
  · exact W.icmpN C hd hc (kn hc)
theorem W.ifY {o : Int} {cd : ClassFile.Cond} {x : Int32} (C : Good κ R Z own mnm bytes ml ret) (hd : Jmp1 bytes pc (.ifCond cd o) o nx tg) (hc : cmp0 cd x) (k : W κ n0 Q h cs sl tg L rest) : W κ n0 Q h cs sl pc L (.int x :: rest) := by
  obtain ⟨hd, rfl, h1, h2⟩ := hd
  exact W.pure C k fun hA hx hby hr => XS.ifYes hA hx rfl rfl (hb hby hd) rfl ((if0 _ _).trans ((cmpP_iff _ _ _).mpr ((cmp0_iff _ _).mpr hc))) h1 h2 hr
theorem W.ifN {o : Int} {cd : ClassFile.Cond} {x : Int32} (C : Good κ R Z own mnm bytes ml ret) (hd : Jmp1 bytes pc (.ifCond cd o) o nx tg) (hc : ¬ cmp0 cd x) (k : W κ n0 Q h cs sl nx L rest) : W κ n0 Q h cs sl pc L (.int x :: rest) := by
  obtain ⟨hd, rfl, h1, h2⟩ := hd
  exact W.pure C k fun hA hx hby hr => XS.ifNo hA hx rfl (hb hby hd) rfl ((if0 _ _).trans (cmpP_no fun q => hc ((cmp0_iff _ _).mp q))) hr
theorem W.ifc {o : Int} {cd : ClassFile.Cond} {x : Int32} (C : Good κ R Z own mnm bytes ml ret) (hd : Jmp1 bytes pc (.ifCond cd o) o nx tg) (ky : cmp0 cd x → W κ n0 Q h cs sl tg L rest) (kn : ¬ cmp0 cd x → W κ n0 Q h cs sl nx L rest) : W κ n0 Q h cs sl pc L (.int x :: rest) := by
  by_cases hc : cmp0 cd x
  · exact W.ifY C hd hc (ky hc)
  · exact W.ifN C hd hc (kn hc)
theorem W.lcmp {x y : Int64} (C : Good κ R Z own mnm bytes ml ret) (hd : Ins1 bytes pc .lcmp 1 nx) (k : W κ n0 Q h cs sl nx L (.int (if x > y then 1 else if x = y then 0 else -1) :: rest)) : W κ n0 Q h cs sl pc L (.long y :: .long x :: rest) := by
  obtain ⟨hd, rfl⟩ := hd
  exact W.pure C k fun hA hx hby hr => XS.lcmp hA hx rfl (hb hby hd) rfl hr
theorem W.lcY {pc1 : Nat} {o : Int} {cd : ClassFile.Cond} {x y : Int64} (C : Good κ R Z own mnm bytes ml ret) (hd1 : Ins1 bytes pc .lcmp 1 pc1) (hd : Jmp1 bytes pc1 (.ifCond cd o) o nx tg) (hc : cmpL cd x y) (k : W κ n0 Q h cs sl tg L rest) : W κ n0 Q h cs sl pc L (.long y :: .long x :: rest) :=
  W.lcmp C hd1 (W.ifY C hd ((cmpL_iff _ _ _).mpr hc) k)
theorem W.lcN {pc1 : Nat} {o : Int} {cd : ClassFile.Cond} {x y : Int64} (C : Good κ R Z own mnm bytes ml ret) (hd1 : Ins1 bytes pc .lcmp 1 pc1) (hd : Jmp1 bytes pc1 (.ifCond cd o) o nx tg) (hc : ¬ cmpL cd x y) (k : W κ n0 Q h cs sl nx L rest) : W κ n0 Q h cs sl pc L (.long y :: .long x :: rest) :=
  W.lcmp C hd1 (W.ifN C hd (fun q => hc ((cmpL_iff _ _ _).mp q)) k)
theorem W.lc {pc1 : Nat} {o : Int} {cd : ClassFile.Cond} {x y : Int64} (C : Good κ R Z own mnm bytes ml ret) (hd1 : Ins1 bytes pc .lcmp 1 pc1) (hd : Jmp1 bytes pc1 (.ifCond cd o) o nx tg) (ky : cmpL cd x y → W κ n0 Q h cs sl tg L rest) (kn : ¬ cmpL cd x y → W κ n0 Q h cs sl nx L rest) : W κ n0 Q h cs sl pc L (.long y :: .long x :: rest) := by
  by_cases hc : cmpL cd x y
  · exact W.lcY C hd1 hd hc (ky hc)
  · exact W.lcN C hd1 hd hc (kn hc)
theorem W.ifnullY {o : Int} (C : Good κ R Z own mnm bytes ml ret) (hd : Jmp1 bytes pc (.ifnull o) o nx tg) (k : W κ n0 Q h cs sl tg L rest) : W κ n0 Q h cs sl pc L (.null :: rest) := by
  obtain ⟨hd, rfl, h1, h2⟩ := hd
  exact W.pure C k fun hA hx hby hr => XS.ifnullYes hA hx rfl rfl (hb hby hd) rfl h1 h2 hr
theorem W.ifnullN {o : Int} {b : Addr} (C : Good κ R Z own mnm bytes ml ret) (hd : Jmp1 bytes pc (.ifnull o) o nx tg) (k : W κ n0 Q h cs sl nx L rest) : W κ n0 Q h cs sl pc L (.ref b :: rest) := by
  obtain ⟨hd, rfl, h1, h2⟩ := hd
  exact W.pure C k fun hA hx hby hr => XS.ifnullNo hA hx rfl (hb hby hd) rfl hr
theorem W.ifnonnullY {o : Int} {b : Addr} (C : Good κ R Z own mnm bytes ml ret) (hd : Jmp1 bytes pc (.ifnonnull o) o nx tg) (k : W κ n0 Q h cs sl tg L rest) : W κ n0 Q h cs sl pc L (.ref b :: rest) := by
  obtain ⟨hd, rfl, h1, h2⟩ := hd
  exact W.pure C k fun hA hx hby hr => XS.ifnonnullYes hA hx rfl rfl (hb hby hd) rfl h1 h2 hr
theorem W.ifnonnullN {o : Int} (C : Good κ R Z own mnm bytes ml ret) (hd : Jmp1 bytes pc (.ifnonnull o) o nx tg) (k : W κ n0 Q h cs sl nx L rest) : W κ n0 Q h cs sl pc L (.null :: rest) := by
  obtain ⟨hd, rfl, h1, h2⟩ := hd
  exact W.pure C k fun hA hx hby hr => XS.ifnonnullNo hA hx rfl (hb hby hd) rfl hr
/-! ### steps that read the tables -/
theorem W.ldc {i : Nat} {v : Int32} (C : Good κ R Z own mnm bytes ml ret) (hd : Ins1 bytes pc (.ldc i) 2 nx) (w : (Jvm.Cond.constant own i v).before a0 Z = true) (k : W κ n0 Q h cs sl nx L (.int v :: st)) : W κ n0 Q h cs sl pc L st := by
  obtain ⟨hd, rfl⟩ := hd
  obtain ⟨p, l, e, R', s, m, args, below, meth, c⟩ := κ
  obtain ⟨hx, hZ, hby, hml, hown, hret, hlk, hnm, rfl⟩ := C
  intro T locs X eT N h1 h2
  obtain ⟨s₂, o, a, r⟩ := k T locs X eT N h1 h2
  exact ⟨s₂, o, X.ldcInt hx hown (mvT hZ w) (g := mkF m pc L.toArray st) rfl (hb hby hd) _ a, r⟩
theorem W.ldcw {i : Nat} {v : Int32} (C : Good κ R Z own mnm bytes ml ret) (hd : Ins1 bytes pc (.ldc_w i) 3 nx) (w : (Jvm.Cond.constant own i v).before a0 Z = true) (k : W κ n0 Q h cs sl nx L (.int v :: st)) : W κ n0 Q h cs sl pc L st := by
  obtain ⟨hd, rfl⟩ := hd
  obtain ⟨p, l, e, R', s, m, args, below, meth, c⟩ := κ
  obtain ⟨hx, hZ, hby, hml, hown, hret, hlk, hnm, rfl⟩ := C
  intro T locs X eT N h1 h2
  obtain ⟨s₂, o, a, r⟩ := k T locs X eT N h1 h2
  exact ⟨s₂, o, X.ldcwInt hx hown (mvT hZ w) (g := mkF m pc L.toArray st) rfl (hb hby hd) _ a, r⟩
theorem W.ldc2 {i : Nat} {v : Int64} (C : Good κ R Z own mnm bytes ml ret) (hd : Ins1 bytes pc (.ldc2_w i) 3 nx) (w : (Jvm.Cond.constantLong own i v).before a0 Z = true) (k : W κ n0 Q h cs sl nx L (.long v :: st)) : W κ n0 Q h cs sl pc L st := by
  obtain ⟨hd, rfl⟩ := hd
  obtain ⟨p, l, e, R', s, m, args, below, meth, c⟩ := κ
  obtain ⟨hx, hZ, hby, hml, hown, hret, hlk, hnm, rfl⟩ := C
  intro T locs X eT N h1 h2
  obtain ⟨s₂, o, a, r⟩ := k T locs X eT N h1 h2
  exact ⟨s₂, o, X.ldc2Long hx hown (mvT hZ w) (g := mkF m pc L.toArray st) rfl (hb hby hd) _ a, r⟩
/-! ### arrays -/
/-- at a lies an array of ty whose values are vs -/
def Av (Z : State) (h : Heap) (a : Addr) (ty : FieldType) (vs : List Value) : Prop := ∃ c : Cell, Arr Z h a c ty ∧ c.slots.toList = vs ∧ vs.length < 2147483648
theorem Av.lt {a : Addr} {ty : FieldType} {vs : List Value} (A : Av Z h a ty vs) : a < h.size := by obtain ⟨c, A, -⟩ := A; exact A.lt
theorem Av.ext {h' : Heap} {a : Addr} {ty : FieldType} {vs : List Value} (A : Av Z h a ty vs) (E : Ext h h') : Av Z h' a ty vs := by obtain ⟨c, A, r⟩ := A; exact ⟨c, A.ext E, r⟩
theorem Av.keep {h' : Heap} {ws : List Addr} {a : Addr} {ty : FieldType} {vs : List Value} (A : Av Z h a ty vs) (K : Keep h h' ws) (q : a ∉ ws) : Av Z h' a ty vs := by obtain ⟨c, A, r⟩ := A; exact ⟨c, ⟨K.2.1 a c A.1 q, A.2⟩, r⟩
theorem Av.other {h' : Heap} {a b : Addr} {sl : Nat} {v : Value} {ty : FieldType} {vs : List Value} (A : Av Z h b ty vs) (W : Wr h h' a sl v) (q : b ≠ a) : Av Z h' b ty vs := by obtain ⟨c, A, r⟩ := A; exact ⟨c, A.other W q, r⟩
theorem Av.set {h' : Heap} {a : Addr} {i : Nat} {v : Value} {ty : FieldType} {vs : List Value} (A : Av Z h a ty vs) (W : Wr h h' a i v) : Av Z h' a ty (vs.set i v) := by
  obtain ⟨c, A, rfl, r⟩ := A
  exact ⟨_, A.same W, by simp [Cell.setSlot], by simpa using r⟩
theorem Av.ne_exa {a b : Addr} {C' : String} {kk : Nat} {ty : FieldType} {vs : List Value} (A : Av Z h a ty vs) (E : Exa Z h b C') (wi : (Jvm.Cond.instantiable C' kk).before a0 Z = true) : a ≠ b := by obtain ⟨c, A, -⟩ := A; exact (ne_arr E wi A).symm
theorem clampNat {j : Int32} {i : Nat} (hj : j.toInt = i) : j.toNatClampNeg = i := by
  have e : j.toNatClampNeg = j.toInt.toNat := rfl
  omega
theorem inB {c : Cell} {vs : List Value} {j : Int32} {i : Nat} (e : c.slots.toList = vs) (hj : j.toInt = i) (hi : i < vs.length) : ¬ (j < 0 ∨ c.slots.size ≤ j.toNatClampNeg) := by
  have e1 := clampNat hj
  have e2 : c.slots.size = vs.length := by rw [← e]; simp
  rw [e1, e2, Int32.lt_iff_toInt_lt, hj, Int32.toInt_zero]
  omega
theorem inV {c : Cell} {vs : List Value} {j : Int32} {i : Nat} {v : Value} (e : c.slots.toList = vs) (hj : j.toInt = i) (hv : vs[i]? = some v) : c.slots[j.toNatClampNeg]? = some v := by
  rw [clampNat hj, ← hv, ← e]; simp
theorem ltOf {vs : List Value} {i : Nat} {v : Value} (hv : vs[i]? = some v) : i < vs.length := (List.getElem?_eq_some_iff.mp hv).1

theorem W.iaload {a : Addr} {vs : List Value} {j : Int32} {i : Nat} {v : Int32} (C : Good κ R Z own mnm bytes ml ret) (hd : Ins1 bytes pc .iaload 1 nx) (A : Av Z h a .int vs) (hj : j.toInt = i) (hv : vs[i]? = some (.int v)) (k : W κ n0 Q h cs sl nx L ((.int v) :: rest)) : W κ n0 Q h cs sl pc L (.int j :: .ref a :: rest) := by
  obtain ⟨hd, rfl⟩ := hd
  obtain ⟨p, l, e, R', s, m, args, below, meth, c⟩ := κ
  obtain ⟨hx, hZ, hby, hml, hown, hret, hlk, hnm, rfl⟩ := C
  intro T locs X eT N h1 h2
  obtain ⟨s₂, o, b, r⟩ := k T locs X eT N h1 h2
  obtain ⟨cl, Ar, q1, q2⟩ := A
  exact ⟨s₂, o, X.iaload hx (j := j) (by rw [eT]; exact Ar.1) (State.isArrayOf_alike hZ.alike Ar.2.1) Ar.2.2 (inB q1 hj (ltOf hv)) (inV q1 hj hv) (g := mkF m pc L.toArray (.int j :: .ref a :: rest)) rfl rfl (hb hby hd) _ b, r⟩
theorem W.baload {a : Addr} {vs : List Value} {j : Int32} {i : Nat} {v : Int32} (C : Good κ R Z own mnm bytes ml ret) (hd : Ins1 bytes pc .baload 1 nx) (A : Av Z h a .byte vs) (hj : j.toInt = i) (hv : vs[i]? = some (.int v)) (k : W κ n0 Q h cs sl nx L ((.int v) :: rest)) : W κ n0 Q h cs sl pc L (.int j :: .ref a :: rest) := by
  obtain ⟨hd, rfl⟩ := hd
  obtain ⟨p, l, e, R', s, m, args, below, meth, c⟩ := κ
  obtain ⟨hx, hZ, hby, hml, hown, hret, hlk, hnm, rfl⟩ := C
  intro T locs X eT N h1 h2
  obtain ⟨s₂, o, b, r⟩ := k T locs X eT N h1 h2
  obtain ⟨cl, Ar, q1, q2⟩ := A
  exact ⟨s₂, o, X.baloadBytes hx (j := j) (by rw [eT]; exact Ar.1) (State.isArrayOf_alike hZ.alike Ar.2.1) Ar.2.2 (inB q1 hj (ltOf hv)) (inV q1 hj hv) (g := mkF m pc L.toArray (.int j :: .ref a :: rest)) rfl rfl (hb hby hd) _ b, r⟩
theorem W.zaload {a : Addr} {vs : List Value} {j : Int32} {i : Nat} {v : Int32} (C : Good κ R Z own mnm bytes ml ret) (hd : Ins1 bytes pc .baload 1 nx) (A : Av Z h a .boolean vs) (hj : j.toInt = i) (hv : vs[i]? = some (.int v)) (k : W κ n0 Q h cs sl nx L ((.int v) :: rest)) : W κ n0 Q h cs sl pc L (.int j :: .ref a :: rest) := by
  obtain ⟨hd, rfl⟩ := hd
  obtain ⟨p, l, e, R', s, m, args, below, meth, c⟩ := κ
  obtain ⟨hx, hZ, hby, hml, hown, hret, hlk, hnm, rfl⟩ := C
  intro T locs X eT N h1 h2
  obtain ⟨s₂, o, b, r⟩ := k T locs X eT N h1 h2
  obtain ⟨cl, Ar, q1, q2⟩ := A
  exact ⟨s₂, o, X.baloadBooleans hx (j := j) (by rw [eT]; exact Ar.1) (State.isArrayOf_alike hZ.alike Ar.2.1) Ar.2.2 (inB q1 hj (ltOf hv)) (inV q1 hj hv) (g := mkF m pc L.toArray (.int j :: .ref a :: rest)) rfl rfl (hb hby hd) _ b, r⟩
theorem W.laload {a : Addr} {vs : List Value} {j : Int32} {i : Nat} {v : Int64} (C : Good κ R Z own mnm bytes ml ret) (hd : Ins1 bytes pc .laload 1 nx) (A : Av Z h a .long vs) (hj : j.toInt = i) (hv : vs[i]? = some (.long v)) (k : W κ n0 Q h cs sl nx L ((.long v) :: rest)) : W κ n0 Q h cs sl pc L (.int j :: .ref a :: rest) := by
  obtain ⟨hd, rfl⟩ := hd
  obtain ⟨p, l, e, R', s, m, args, below, meth, c⟩ := κ
  obtain ⟨hx, hZ, hby, hml, hown, hret, hlk, hnm, rfl⟩ := C
  intro T locs X eT N h1 h2
  obtain ⟨s₂, o, b, r⟩ := k T locs X eT N h1 h2
  obtain ⟨cl, Ar, q1, q2⟩ := A
  exact ⟨s₂, o, X.laload hx (j := j) (by rw [eT]; exact Ar.1) (State.isArrayOf_alike hZ.alike Ar.2.1) Ar.2.2 (inB q1 hj (ltOf hv)) (inV q1 hj hv) (g := mkF m pc L.toArray (.int j :: .ref a :: rest)) rfl rfl (hb hby hd) _ b, r⟩
theorem W.caload {a : Addr} {vs : List Value} {j : Int32} {i : Nat} {v : Int32} (C : Good κ R Z own mnm bytes ml ret) (hd : Ins1 bytes pc .caload 1 nx) (A : Av Z h a .char vs) (hj : j.toInt = i) (hv : vs[i]? = some (.int v)) (k : W κ n0 Q h cs sl nx L ((.int v) :: rest)) : W κ n0 Q h cs sl pc L (.int j :: .ref a :: rest) := by
  obtain ⟨hd, rfl⟩ := hd
  obtain ⟨p, l, e, R', s, m, args, below, meth, c⟩ := κ
  obtain ⟨hx, hZ, hby, hml, hown, hret, hlk, hnm, rfl⟩ := C
  intro T locs X eT N h1 h2
  obtain ⟨s₂, o, b, r⟩ := k T locs X eT N h1 h2
  obtain ⟨cl, Ar, q1, q2⟩ := A
  exact ⟨s₂, o, X.caload hx (j := j) (by rw [eT]; exact Ar.1) (State.isArrayOf_alike hZ.alike Ar.2.1) Ar.2.2 (inB q1 hj (ltOf hv)) (inV q1 hj hv) (g := mkF m pc L.toArray (.int j :: .ref a :: rest)) rfl rfl (hb hby hd) _ b, r⟩
theorem W.aaload {a : Addr} {ty : FieldType} {vs : List Value} {j : Int32} {i : Nat} {v : Value} (C : Good κ R Z own mnm bytes ml ret) (hd : Ins1 bytes pc .aaload 1 nx) (A : Av Z h a ty vs) (hty : ty.isReference = true) (hj : j.toInt = i) (hv : vs[i]? = some v) (k : W κ n0 Q h cs sl nx L (v :: rest)) : W κ n0 Q h cs sl pc L (.int j :: .ref a :: rest) := by
  obtain ⟨hd, rfl⟩ := hd
  obtain ⟨p, l, e, R', s, m, args, below, meth, c⟩ := κ
  obtain ⟨hx, hZ, hby, hml, hown, hret, hlk, hnm, rfl⟩ := C
  intro T locs X eT N h1 h2
  obtain ⟨s₂, o, b, r⟩ := k T locs X eT N h1 h2
  obtain ⟨cl, Ar, q1, q2⟩ := A
  exact ⟨s₂, o, X.aaload hx (j := j) (by rw [eT]; exact Ar.1) (State.isArrayOf_alike hZ.alike Ar.2.1) hty Ar.2.2 (inB q1 hj (ltOf hv)) (inV q1 hj hv) (g := mkF m pc L.toArray (.int j :: .ref a :: rest)) rfl rfl (hb hby hd) _ b, r⟩
theorem W.arraylength {a : Addr} {ty : FieldType} {vs : List Value} {z : Int32} (C : Good κ R Z own mnm bytes ml ret) (hd : Ins1 bytes pc .arraylength 1 nx) (A : Av Z h a ty vs) (hz : z.toInt = vs.length) (k : W κ n0 Q h cs sl nx L (.int z :: rest)) : W κ n0 Q h cs sl pc L (.ref a :: rest) := by
  obtain ⟨hd, rfl⟩ := hd
  obtain ⟨p, l, e, R', s, m, args, below, meth, c⟩ := κ
  obtain ⟨hx, hZ, hby, hml, hown, hret, hlk, hnm, rfl⟩ := C
  intro T locs X eT N h1 h2
  obtain ⟨s₂, o, b, r⟩ := k T locs X eT N h1 h2
  obtain ⟨cl, Ar, q1, q2⟩ := A
  have e2 : cl.slots.size = vs.length := by rw [← q1]; simp
  have e3 : cl.slots.size.toInt32 = z := Int32.toInt_inj.mp (by rw [hz, e2]; exact Int32.toInt_ofNat_of_lt q2)
  refine ⟨s₂, o, X.arraylength hx (by rw [eT]; exact Ar.1) (State.isArrayOf_alike hZ.alike Ar.2.1) (g := mkF m pc L.toArray (.ref a :: rest)) rfl rfl (hb hby hd) _ ?_, r⟩
  rw [e3]; exact b
theorem W.iastore {a : Addr} {vs : List Value} {j : Int32} {i : Nat} {x : Int32} (C : Good κ R Z own mnm bytes ml ret) (hd : Ins1 bytes pc .iastore 1 nx) (A : Av Z h a .int vs) (hj : j.toInt = i) (hi : i < vs.length) (hn : n0 ≤ a) (k : ∀ h', Wr h h' a i (.int x) → Av Z h' a .int (vs.set i (.int x)) → W κ n0 Q h' cs sl nx L rest) : W κ n0 Q h cs sl pc L ((.int x) :: .int j :: .ref a :: rest) := by
  obtain ⟨hd, rfl⟩ := hd
  obtain ⟨p, l, e, R', s, m, args, below, meth, c⟩ := κ
  obtain ⟨hx, hZ, hby, hml, hown, hret, hlk, hnm, rfl⟩ := C
  intro T locs X eT N h1 h2
  have A' := A
  obtain ⟨cl, Ar, q1, q2⟩ := A'
  obtain ⟨T', h', X', e', W', st'⟩ := stI X hx hZ eT Ar (j := j) (inB q1 hj hi) (g := mkF m pc L.toArray ((.int x) :: .int j :: .ref a :: rest)) rfl rfl (hb hby hd)
  have N' := Fr.snoc X' N hn
  rw [clampNat hj] at W'
  obtain ⟨s₂, o, b, r⟩ := k h' W' (A.set W') T' _ X' e' N' h1 h2
  exact ⟨s₂, o, st' _ b, r⟩
theorem W.bastore {a : Addr} {vs : List Value} {j : Int32} {i : Nat} {x : Int32} (C : Good κ R Z own mnm bytes ml ret) (hd : Ins1 bytes pc .bastore 1 nx) (A : Av Z h a .byte vs) (hj : j.toInt = i) (hi : i < vs.length) (hn : n0 ≤ a) (k : ∀ h', Wr h h' a i (.int x.toInt8.toInt32) → Av Z h' a .byte (vs.set i (.int x.toInt8.toInt32)) → W κ n0 Q h' cs sl nx L rest) : W κ n0 Q h cs sl pc L ((.int x) :: .int j :: .ref a :: rest) := by
  obtain ⟨hd, rfl⟩ := hd
  obtain ⟨p, l, e, R', s, m, args, below, meth, c⟩ := κ
  obtain ⟨hx, hZ, hby, hml, hown, hret, hlk, hnm, rfl⟩ := C
  intro T locs X eT N h1 h2
  have A' := A
  obtain ⟨cl, Ar, q1, q2⟩ := A'
  obtain ⟨T', h', X', e', W', st'⟩ := stB X hx hZ eT Ar (j := j) (inB q1 hj hi) (g := mkF m pc L.toArray ((.int x) :: .int j :: .ref a :: rest)) rfl rfl (hb hby hd)
  have N' := Fr.snoc X' N hn
  rw [clampNat hj] at W'
  obtain ⟨s₂, o, b, r⟩ := k h' W' (A.set W') T' _ X' e' N' h1 h2
  exact ⟨s₂, o, st' _ b, r⟩
theorem W.zastore {a : Addr} {vs : List Value} {j : Int32} {i : Nat} {x : Int32} (C : Good κ R Z own mnm bytes ml ret) (hd : Ins1 bytes pc .bastore 1 nx) (A : Av Z h a .boolean vs) (hj : j.toInt = i) (hi : i < vs.length) (hn : n0 ≤ a) (k : ∀ h', Wr h h' a i (.int (x &&& 1)) → Av Z h' a .boolean (vs.set i (.int (x &&& 1))) → W κ n0 Q h' cs sl nx L rest) : W κ n0 Q h cs sl pc L ((.int x) :: .int j :: .ref a :: rest) := by
  obtain ⟨hd, rfl⟩ := hd
  obtain ⟨p, l, e, R', s, m, args, below, meth, c⟩ := κ
  obtain ⟨hx, hZ, hby, hml, hown, hret, hlk, hnm, rfl⟩ := C
  intro T locs X eT N h1 h2
  have A' := A
  obtain ⟨cl, Ar, q1, q2⟩ := A'
  obtain ⟨T', h', X', e', W', st'⟩ := stZ X hx hZ eT Ar (j := j) (inB q1 hj hi) (g := mkF m pc L.toArray ((.int x) :: .int j :: .ref a :: rest)) rfl rfl (hb hby hd)
  have N' := Fr.snoc X' N hn
  rw [clampNat hj] at W'
  obtain ⟨s₂, o, b, r⟩ := k h' W' (A.set W') T' _ X' e' N' h1 h2
  exact ⟨s₂, o, st' _ b, r⟩
theorem W.lastore {a : Addr} {vs : List Value} {j : Int32} {i : Nat} {x : Int64} (C : Good κ R Z own mnm bytes ml ret) (hd : Ins1 bytes pc .lastore 1 nx) (A : Av Z h a .long vs) (hj : j.toInt = i) (hi : i < vs.length) (hn : n0 ≤ a) (k : ∀ h', Wr h h' a i (.long x) → Av Z h' a .long (vs.set i (.long x)) → W κ n0 Q h' cs sl nx L rest) : W κ n0 Q h cs sl pc L ((.long x) :: .int j :: .ref a :: rest) := by
  obtain ⟨hd, rfl⟩ := hd
  obtain ⟨p, l, e, R', s, m, args, below, meth, c⟩ := κ
  obtain ⟨hx, hZ, hby, hml, hown, hret, hlk, hnm, rfl⟩ := C
  intro T locs X eT N h1 h2
  have A' := A
  obtain ⟨cl, Ar, q1, q2⟩ := A'
  obtain ⟨T', h', X', e', W', st'⟩ := stJ X hx hZ eT Ar (j := j) (inB q1 hj hi) (g := mkF m pc L.toArray ((.long x) :: .int j :: .ref a :: rest)) rfl rfl (hb hby hd)
  have N' := Fr.snoc X' N hn
  rw [clampNat hj] at W'
  obtain ⟨s₂, o, b, r⟩ := k h' W' (A.set W') T' _ X' e' N' h1 h2
  exact ⟨s₂, o, st' _ b, r⟩
theorem W.castore {a : Addr} {vs : List Value} {j : Int32} {i : Nat} {x : Int32} (C : Good κ R Z own mnm bytes ml ret) (hd : Ins1 bytes pc .castore 1 nx) (A : Av Z h a .char vs) (hj : j.toInt = i) (hi : i < vs.length) (hn : n0 ≤ a) (k : ∀ h', Wr h h' a i (.int (nar .char x)) → Av Z h' a .char (vs.set i (.int (nar .char x))) → W κ n0 Q h' cs sl nx L rest) : W κ n0 Q h cs sl pc L ((.int x) :: .int j :: .ref a :: rest) := by
  obtain ⟨hd, rfl⟩ := hd
  obtain ⟨p, l, e, R', s, m, args, below, meth, c⟩ := κ
  obtain ⟨hx, hZ, hby, hml, hown, hret, hlk, hnm, rfl⟩ := C
  intro T locs X eT N h1 h2
  have A' := A
  obtain ⟨cl, Ar, q1, q2⟩ := A'
  obtain ⟨T', h', X', e', W', st'⟩ := stC X hx hZ eT Ar (j := j) (inB q1 hj hi) (g := mkF m pc L.toArray ((.int x) :: .int j :: .ref a :: rest)) rfl rfl (hb hby hd)
  have N' := Fr.snoc X' N hn
  rw [clampNat hj] at W'
  obtain ⟨s₂, o, b, r⟩ := k h' W' (A.set W') T' _ X' e' N' h1 h2
  exact ⟨s₂, o, st' _ b, r⟩
theorem Av.of_new {h' : Heap} {a : Addr} {cA : ClassId} {ty : FieldType} {n : Int32} (A : Arr Z h' a (newA cA ty n) ty) : Av Z h' a ty (List.replicate n.toNatClampNeg (defaultValue ty)) := by
  refine ⟨_, A, by simp [newA], ?_⟩
  have e : n.toNatClampNeg = n.toInt.toNat := rfl
  have := Int32.toInt_lt n
  rw [List.length_replicate]; omega
theorem W.newarray {aty : ArrayType} {ty : FieldType} {n : Int32} {vs : List Value} (cap : Nat) (C : Good κ R Z own mnm bytes ml ret) (hd : Ins1 bytes pc (.newarray aty) 2 nx) (hty : newarray.typeOf aty = ty) (w : (Jvm.Cond.arrayClass ty).before a0 Z = true) (hn : 0 ≤ n.toInt) (hcap : n.toInt ≤ cap) (hvs : List.replicate n.toNatClampNeg (defaultValue ty) = vs) (hb8 : cap * 8 ≤ 536870912) (hc : cs + 1 ≤ R.cells) (hl : sl + cap ≤ R.slots) (k : ∀ h' a, h.size = a → Ext h h' → Av Z h' a ty vs → W κ n0 Q h' (cs + 1) (sl + cap) nx L (.ref a :: rest)) : W κ n0 Q h cs sl pc L (.int n :: rest) := by
  subst hty
  obtain ⟨hd, rfl⟩ := hd
  obtain ⟨p, l, e, R', s, m, args, below, meth, c⟩ := κ
  obtain ⟨hx, hZ, hby, hml, hown, hret, hlk, hnm, rfl⟩ := C
  intro T locs X eT N h1 h2
  have hn' : ¬ n < 0 := by rw [Int32.lt_iff_toInt_lt, Int32.toInt_zero]; omega
  have hc' : n.toNatClampNeg ≤ cap := by have e : n.toNatClampNeg = n.toInt.toNat := rfl; omega
  obtain ⟨T', h', cA, X', e', E', A', st'⟩ := newP X hx hZ w eT (g := mkF m pc L.toArray (.int n :: rest)) rfl (hb hby hd) rfl hn' (cap := cap) hc' hb8 hc hl
  obtain ⟨s₂, o, b, r⟩ := k h' _ rfl E' (hvs ▸ Av.of_new A') T' _ X' e' N hc hl
  exact ⟨s₂, o, st' _ b, r⟩
/-! ### objects -/
theorem W.new {i : Nat} {C' : String} {nf : Nat} (C : Good κ R Z own mnm bytes ml ret) (hd : Ins1 bytes pc (.new i) 3 nx) (w1 : (Jvm.Cond.classLink own i C').before a0 Z = true) (w2 : (Jvm.Cond.instantiable C' nf).before a0 Z = true) (w3 : (Jvm.Cond.initialized C').before a0 Z = true) (hc : cs + 1 ≤ R.cells) (hl : sl + nf ≤ R.slots)
    (k : ∀ h' a, h.size = a → Ext h h' → Exa Z h' a C' → (∀ {O nm d : String} {ty : FieldType}, Laid Z a0 C' O nm d → parseFieldDescriptor d = some ty → Fld Z h' a O nm d (defaultValue ty)) → W κ n0 Q h' (cs + 1) (sl + nf) nx L (.ref a :: st)) : W κ n0 Q h cs sl pc L st := by
  obtain ⟨hd, rfl⟩ := hd
  obtain ⟨p, l, e, R', s, m, args, below, meth, c⟩ := κ
  obtain ⟨hx, hZ, hby, hml, hown, hret, hlk, hnm, rfl⟩ := C
  intro T locs X eT N h1 h2
  obtain ⟨T', h', X', e', E', A', D', -, st'⟩ := newO X hx hZ hown w1 w2 w3 eT (g := mkF m pc L.toArray st) rfl (hb hby hd) hc hl
  obtain ⟨s₂, o, b, r⟩ := k h' _ rfl E' A' D' T' _ X' e' N hc hl
  exact ⟨s₂, o, st' _ b, r⟩
theorem W.getfield {i : Nat} {R0 O nm d host : String} {a : Addr} {v : Value} (C : Good κ R Z own mnm bytes ml ret) (hd : Ins1 bytes pc (.getfield i) 3 nx) (w : (Jvm.Cond.fieldLink own i R0 nm d).before a0 Z = true ∨ (Jvm.Cond.fieldLinkNest own i R0 nm d host).before a0 Z = true) (via : Via Z R0 O nm d) (F : Fld Z h a O nm d v) (k : W κ n0 Q h cs sl nx L (v :: rest)) : W κ n0 Q h cs sl pc L (.ref a :: rest) := by
  obtain ⟨hd, rfl⟩ := hd
  obtain ⟨p, l, e, R', s, m, args, below, meth, c⟩ := κ
  obtain ⟨hx, hZ, hby, hml, hown, hret, hlk, hnm, rfl⟩ := C
  intro T locs X eT N h1 h2
  obtain ⟨T', X', e', st'⟩ := getF X hx hZ hown w via eT F (g := mkF m pc L.toArray (.ref a :: rest)) rfl rfl (hb hby hd)
  obtain ⟨s₂, o, b, r⟩ := k T' _ X' e' N h1 h2
  exact ⟨s₂, o, st' _ b, r⟩
theorem W.getstatic {i : Nat} {R0 O nm d host : String} {v : Value} (C : Good κ R Z own mnm bytes ml ret) (hd : Ins1 bytes pc (.getstatic i) 3 nx) (w : (Jvm.Cond.fieldLink own i R0 nm d).before a0 Z = true ∨ (Jvm.Cond.fieldLinkNest own i R0 nm d host).before a0 Z = true) (via : Via Z R0 O nm d) (F : Sta Z h O nm d v) (k : W κ n0 Q h cs sl nx L (v :: st)) : W κ n0 Q h cs sl pc L st := by
  obtain ⟨hd, rfl⟩ := hd
  obtain ⟨p, l, e, R', s, m, args, below, meth, c⟩ := κ
  obtain ⟨hx, hZ, hby, hml, hown, hret, hlk, hnm, rfl⟩ := C
  intro T locs X eT N h1 h2
  obtain ⟨T', X', e', st'⟩ := getS2 X hx hZ hown w via eT F (g := mkF m pc L.toArray st) rfl (hb hby hd)
  obtain ⟨s₂, o, b, r⟩ := k T' _ X' e' N h1 h2
  exact ⟨s₂, o, st' _ b, r⟩
theorem W.putfield {i kk : Nat} {R0 O nm d host C' : String} {ty : FieldType} {a : Addr} {v old : Value} (C : Good κ R Z own mnm bytes ml ret) (hd : Ins1 bytes pc (.putfield i) 3 nx) (w : (Jvm.Cond.fieldLink own i R0 nm d).before a0 Z = true ∨ (Jvm.Cond.fieldLinkNest own i R0 nm d host).before a0 Z = true) (via : Via Z R0 O nm d) (F : Fld Z h a O nm d old) (E : Exa Z h a C')
    (Ly : (Jvm.Cond.lays C' O nm d).before a0 Z = true ∨ ((Jvm.Cond.laysFinal C' O nm d).before a0 Z = true ∧ own = O ∧ mnm = "<init>")) (wi : (Jvm.Cond.instantiable C' kk).before a0 Z = true) (hty : parseFieldDescriptor d = some ty) (hnw : narrow ty v = v) (hf : fits ty v = true) (hn : n0 ≤ a)
    (k : ∀ h', Wr h h' a (Jvm.RoadKit.slotOf Z O nm d) v → Fld Z h' a O nm d v → W κ n0 Q h' cs sl nx L rest) : W κ n0 Q h cs sl pc L (v :: .ref a :: rest) := by
  obtain ⟨hd, rfl⟩ := hd
  obtain ⟨p, l, e, R', s, m, args, below, meth, c⟩ := κ
  obtain ⟨hx, hZ, hby, hml, hown, hret, hlk, hnm, rfl⟩ := C
  intro T locs X eT N h1 h2
  obtain ⟨T', h', X', e', W', st'⟩ := putF X hx hZ hown w via eT F E (Ly.imp id fun q => ⟨q.1, q.2.1, hnm.trans q.2.2⟩) wi hty hnw hf (g := mkF m pc L.toArray (v :: .ref a :: rest)) rfl rfl (hb hby hd)
  have N' := Fr.snoc X' N hn
  obtain ⟨s₂, o, b, r⟩ := k h' W' (F.same W') T' _ X' e' N' h1 h2
  exact ⟨s₂, o, st' _ b, r⟩
theorem W.putfieldN {i kk : Nat} {R0 O nm d C' : String} {ty : FieldType} {a : Addr} {v v' old : Value} (C : Good κ R Z own mnm bytes ml ret) (hd : Ins1 bytes pc (.putfield i) 3 nx) (w : (Jvm.Cond.fieldLink own i R0 nm d).before a0 Z = true) (via : Via Z R0 O nm d) (F : Fld Z h a O nm d old) (E : Exa Z h a C')
    (Ly : (Jvm.Cond.lays C' O nm d).before a0 Z = true ∨ ((Jvm.Cond.laysFinal C' O nm d).before a0 Z = true ∧ own = O ∧ mnm = "<init>")) (wi : (Jvm.Cond.instantiable C' kk).before a0 Z = true) (hty : parseFieldDescriptor d = some ty) (hnw : narrow ty v = v') (hf : fits ty v' = true) (hn : n0 ≤ a)
    (k : ∀ h', Wr h h' a (Jvm.RoadKit.slotOf Z O nm d) v' → Fld Z h' a O nm d v' → W κ n0 Q h' cs sl nx L rest) : W κ n0 Q h cs sl pc L (v :: .ref a :: rest) := by
  obtain ⟨hd, rfl⟩ := hd
  obtain ⟨p, l, e, R', s, m, args, below, meth, c⟩ := κ
  obtain ⟨hx, hZ, hby, hml, hown, hret, hlk, hnm, rfl⟩ := C
  intro T locs X eT N h1 h2
  obtain ⟨T', h', X', e', W', st'⟩ := putFN X hx hZ hown w via eT F E (Ly.imp id fun q => ⟨q.1, q.2.1, hnm.trans q.2.2⟩) wi hty hnw hf (g := mkF m pc L.toArray (v :: .ref a :: rest)) rfl rfl (hb hby hd)
  have N' := Fr.snoc X' N hn
  obtain ⟨s₂, o, b, r⟩ := k h' W' (F.same W') T' _ X' e' N' h1 h2
  exact ⟨s₂, o, st' _ b, r⟩
/-! ### returns -/
theorem W.ireturn {z : Int32} (C : Good κ R Z own mnm bytes ml (some .int)) (hd : Ins1 bytes pc .ireturn 1 nx) (hq : Q (some (.int z)) h) : W κ n0 Q h cs sl pc L (.int z :: rest) := by
  obtain ⟨p, l, e, R', s, m, args, below, meth, c⟩ := κ
  obtain ⟨hx, hZ, hby, hml, hown, hret, hlk, hnm, rfl⟩ := C
  intro T locs X eT N h1 h2
  obtain ⟨fs, hr, hrun, hended, hW, hsame⟩ := X.leave (v := some (.int z)) (fun h => by rw [hret] at h; cases h) hlk
  refine ⟨_, _, retOut X hx hret rfl (Or.inl ⟨rfl, Or.inl rfl, z, rfl⟩) (hb hby hd.1) hr, hrun, hended, _, _, rfl, ⟨?_, N⟩, ⟨_, rfl⟩, hW, hsame.mono h1 h2⟩
  show Q _ T.heap
  rw [eT]; exact hq
theorem W.nreturn {t : FieldType} {z : Int32} (C : Good κ R Z own mnm bytes ml (some t)) (ht : t = .boolean ∨ t = .byte ∨ t = .char ∨ t = .short) (hd : Ins1 bytes pc .ireturn 1 nx) (hq : Q (some (.int (nar t z))) h) : W κ n0 Q h cs sl pc L (.int z :: rest) := by
  obtain ⟨p, l, e, R', s, m, args, below, meth, c⟩ := κ
  obtain ⟨hx, hZ, hby, hml, hown, hret, hlk, hnm, rfl⟩ := C
  intro T locs X eT N h1 h2
  obtain ⟨fs, hr, hrun, hended, hW, hsame⟩ := X.leave (v := some (.int (nar t z))) (fun h => by rw [hret] at h; cases h) hlk
  refine ⟨_, _, retN X hx hret ht (hb hby hd.1) hr, hrun, hended, _, _, rfl, ⟨?_, N⟩, ⟨_, rfl⟩, hW, hsame.mono h1 h2⟩
  show Q _ T.heap
  rw [eT]; exact hq
theorem W.zreturn {z : Int32} (C : Good κ R Z own mnm bytes ml (some .boolean)) (hd : Ins1 bytes pc .ireturn 1 nx) (hq : Q (some (.int (z &&& 1))) h) : W κ n0 Q h cs sl pc L (.int z :: rest) := W.nreturn C (Or.inl rfl) hd hq
theorem W.lreturn {z : Int64} (C : Good κ R Z own mnm bytes ml (some .long)) (hd : Ins1 bytes pc .lreturn 1 nx) (hq : Q (some (.long z)) h) : W κ n0 Q h cs sl pc L (.long z :: rest) := by
  obtain ⟨p, l, e, R', s, m, args, below, meth, c⟩ := κ
  obtain ⟨hx, hZ, hby, hml, hown, hret, hlk, hnm, rfl⟩ := C
  intro T locs X eT N h1 h2
  obtain ⟨fs, hr, hrun, hended, hW, hsame⟩ := X.leave (v := some (.long z)) (fun h => by rw [hret] at h; cases h) hlk
  refine ⟨_, _, retOut X hx hret rfl (Or.inr (Or.inl ⟨rfl, rfl, z, rfl⟩)) (hb hby hd.1) hr, hrun, hended, _, _, rfl, ⟨?_, N⟩, ⟨_, rfl⟩, hW, hsame.mono h1 h2⟩
  show Q _ T.heap
  rw [eT]; exact hq
theorem W.areturn {t : FieldType} {v : Value} (C : Good κ R Z own mnm bytes ml (some t)) (ht : t.isReference = true) (hv : v.isRef = true) (hd : Ins1 bytes pc .areturn 1 nx) (hq : Q (some v) h) : W κ n0 Q h cs sl pc L (v :: rest) := by
  obtain ⟨p, l, e, R', s, m, args, below, meth, c⟩ := κ
  obtain ⟨hx, hZ, hby, hml, hown, hret, hlk, hnm, rfl⟩ := C
  intro T locs X eT N h1 h2
  obtain ⟨fs, hr, hrun, hended, hW, hsame⟩ := X.leave (v := some v) (fun h => by rw [hret] at h; cases h) hlk
  have hnw : narrow t v = v := by cases t <;> first | (cases ht; done) | (cases v <;> first | rfl | (cases hv; done))
  refine ⟨_, _, retOut X hx hret hnw (Or.inr (Or.inr (Or.inr (Or.inr ⟨rfl, ht, hv⟩)))) (hb hby hd.1) hr, hrun, hended, _, _, rfl, ⟨?_, N⟩, ⟨_, rfl⟩, hW, hsame.mono h1 h2⟩
  show Q _ T.heap
  rw [eT]; exact hq
theorem W.vreturn (C : Good κ R Z own mnm bytes ml none) (hd : Ins1 bytes pc .return_ 1 nx) (hq : Q none h) : W κ n0 Q h cs sl pc L [] := by
  obtain ⟨p, l, e, R', s, m, args, below, meth, c⟩ := κ
  obtain ⟨hx, hZ, hby, hml, hown, hret, hlk, hnm, rfl⟩ := C
  intro T locs X eT N h1 h2
  obtain ⟨fs, hr, hrun, hended, hW, hsame⟩ := X.leave (v := none) (fun _ => rfl) hlk
  refine ⟨_, _, X.returnOut hx hret (hb hby hd.1) hr, hrun, hended, _, _, rfl, ⟨?_, N⟩, ⟨_, rfl⟩, hW, hsame.mono h1 h2⟩
  show Q _ T.heap
  rw [eT]; exact hq
/-! ### calls -/
theorem Con.of {y : MethodName} {cb : ByteArray} {cml : Nat} {cret : Option FieldType} {rm : Room} {as' : List Value} {h0 : Heap} {L : List Slot} (hy : plainFor y = true) (hef : ∀ m, entryFrame m as'.toArray cml = mkF m 0 L.toArray []) (k : ∀ κ (Qx : Option Value → Heap → Prop), (∀ v h', Q v h' → Qx v h') → Good κ rm Z y.cls y.name cb cml cret → W κ n0 Qx h0 0 0 0 L []) : Con Z y cb cml cret rm as' h0 n0 Q := by
  intro l ws
  refine MetFree.of_bodySF hy hisR ?_
  intro p e s m args below meth c s₁ Bd hml0 hP hK
  obtain ⟨rfl, hZ, hh⟩ := hP
  have X0 : Stand p l e rm s m as'.toArray below meth c s₁ [] 0 0 := Stand.of_body Bd
  have e0 : s₁.heap = h0 := by rw [← hh, Bd.state]; rfl
  rw [hef m]
  exact k (p, l, e, rm, s, m, as'.toArray, below, meth, c) Q (fun _ _ q => q) ⟨Bd.exec, hZ, Bd.bytes, hml0, findClass_of_methodNamed Bd.named, Bd.returns, BodyLoose.notSynchronized Bd, (name_of_methodNamed Bd.named Bd.method).1, rfl⟩ s₁ [] X0 e0 (Fr.nil n0) (Nat.zero_le _) (Nat.zero_le _)
theorem Con.post {y : MethodName} {cb : ByteArray} {cml : Nat} {cret : Option FieldType} {rm : Room} {as' : List Value} {h0 : Heap} {Q' : Option Value → Heap → Prop} (hq : ∀ v h, Q v h → Q' v h) (k : Con Z y cb cml cret rm as' h0 n0 Q) : Con Z y cb cml cret rm as' h0 n0 Q' := by
  intro l ws p e h1 h2 h3 s m args below h4 h5 h6 h7
  obtain ⟨n, o, g1, g2, g3, v, L, e1, ⟨e2, e3⟩, e4⟩ := k l ws p e h1 h2 h3 s m args below h4 h5 h6 h7
  exact ⟨n, o, g1, g2, g3, v, L, e1, ⟨hq _ _ e2, e3⟩, e4⟩
theorem W.callS {i : Nat} {y : MethodName} {cb : ByteArray} {cml wt : Nat} {cret : Option FieldType} {rm : Room} {as' : List Value} {Qc : Option Value → Heap → Prop} {ps : List FieldType} {rt : Option FieldType} (C : Good κ R Z own mnm bytes ml ret) (hd : Ins1 bytes pc (.invokestatic i) 3 nx)
    (w1 : (Jvm.Cond.methodLink own i y).before a0 Z = true) (w2 : (Jvm.Cond.static y).before a0 Z = true) (w3 : (Jvm.Cond.initialized y.cls).before a0 Z = true) (w4 : (Jvm.Cond.code y cb cml cret).before a0 Z = true) (hy : y.cls ≠ "java/lang/invoke/MethodHandle" ∧ y.cls ≠ "java/lang/invoke/VarHandle")
    (hpd : parseMethodDescriptor y.desc = some ⟨ps, rt⟩) (hlen : as'.length = ps.length) (hM : Con Z y cb cml cret rm as' h n0 Qc) (hst : st = as'.reverse ++ rest) (hL : L.length = ml) (hwt : 2 * 0 + (rest.map fun v => v.category).sum ≤ wt)
    (hfr : rm.frames + 1 ≤ R.frames) (hlo : wt + (cml + 11) + rm.locals ≤ R.locals) (hcs : cs + rm.cells ≤ R.cells) (hsl : sl + rm.slots ≤ R.slots)
    (k : ∀ v h', Qc v h' → W κ n0 Q h' (cs + rm.cells) (sl + rm.slots) nx L (v.toList ++ rest)) : W κ n0 Q h cs sl pc L st := by
  obtain ⟨hd, rfl⟩ := hd
  obtain ⟨p, l, e, R', s, m, args, below, meth, c⟩ := κ
  obtain ⟨hx, hZ, hby, hml, hown, hret, hlk, hnm, rfl⟩ := C
  intro T locs X eT N h1 h2
  obtain ⟨v, _, ⟨T2, L2, k2, n2⟩, -, X2, ⟨Lc, hQ, l2, y2, z2⟩, st2⟩ := Jvm.LawKit.callS X hx (y := y) hown (mvT hZ w1) (mvT hZ w2) (mvT hZ w3) (mvT hZ w4) hy (backOf (W := wt) (Q := fun v h L => Qc v h ∧ Fr n0 L) (hM l []) hZ w4 w3 hfr hlo) (g := mkF m pc L.toArray st) rfl (by show L.toArray.size = _; rw [hml, ← hL]; simp) (argsL := as') (rest := rest) (lenOf hpd hlen) hst hwt (hb hby hd) (fun _ _ => ⟨rfl, eT, hcs, hsl⟩)
  dsimp only [Pt.U, Pt.locs, Pt.cells, Pt.slots] at X2 l2 y2 z2 st2 hQ
  subst l2 y2 z2
  obtain ⟨s₂, o, b, r⟩ := k v T2.heap hQ.1 T2 _ X2 rfl (Fr.app N hQ.2) hcs hsl
  exact ⟨s₂, o, st2 _ b, r⟩
theorem W.callC {i : Nat} {y : MethodName} {cb : ByteArray} {cml wt : Nat} {rm : Room} {a : Addr} {as' : List Value} {Qc : Option Value → Heap → Prop} {ps : List FieldType} {rt : Option FieldType} (C : Good κ R Z own mnm bytes ml ret) (hd : Ins1 bytes pc (.invokespecial i) 3 nx) (hy1 : y.name = "<init>")
    (w1 : (Jvm.Cond.methodLink own i y).before a0 Z = true) (w2 : (Jvm.Cond.instanceMethod y).before a0 Z = true) (w3 : (Jvm.Cond.initialized y.cls).before a0 Z = true) (w4 : (Jvm.Cond.code y cb cml none).before a0 Z = true) (hy : y.cls ≠ "java/lang/invoke/MethodHandle" ∧ y.cls ≠ "java/lang/invoke/VarHandle")
    (hpd : parseMethodDescriptor y.desc = some ⟨ps, rt⟩) (hlen : as'.length = ps.length) (hM : Con Z y cb cml none rm (.ref a :: as') h n0 Qc) (hst : st = as'.reverse ++ .ref a :: rest) (hL : L.length = ml) (hwt : 2 * 0 + (rest.map fun v => v.category).sum ≤ wt)
    (hfr : rm.frames + 1 ≤ R.frames) (hlo : wt + (cml + 11) + rm.locals ≤ R.locals) (hcs : cs + rm.cells ≤ R.cells) (hsl : sl + rm.slots ≤ R.slots)
    (k : ∀ v h', Qc v h' → W κ n0 Q h' (cs + rm.cells) (sl + rm.slots) nx L (v.toList ++ rest)) : W κ n0 Q h cs sl pc L st := by
  obtain ⟨hd, rfl⟩ := hd
  obtain ⟨p, l, e, R', s, m, args, below, meth, c⟩ := κ
  obtain ⟨hx, hZ, hby, hml, hown, hret, hlk, hnm, rfl⟩ := C
  intro T locs X eT N h1 h2
  obtain ⟨v, _, ⟨T2, L2, k2, n2⟩, -, X2, ⟨Lc, hQ, l2, y2, z2⟩, st2⟩ := X.specialBack hx (y := y) hy1 hown (mvT hZ w1) (mvT hZ w2) (mvT hZ w4) hy (backOf (W := wt) (Q := fun v h L => Qc v h ∧ Fr n0 L) (hM l []) hZ w4 w3 hfr hlo) (g := mkF m pc L.toArray st) rfl (by show L.toArray.size = _; rw [hml, ← hL]; simp) (Steps.refl _) (a := a) (argsL := as') (rest := rest) (lenOf hpd hlen) hst hwt (hb hby hd) (fun _ _ => ⟨rfl, eT, hcs, hsl⟩)
  dsimp only [Pt.U, Pt.locs, Pt.cells, Pt.slots] at X2 l2 y2 z2 st2 hQ
  subst l2 y2 z2
  obtain ⟨s₂, o, b, r⟩ := k v T2.heap hQ.1 T2 _ X2 rfl (Fr.app N hQ.2) hcs hsl
  exact ⟨s₂, o, st2.trans b, r⟩
theorem W.callV {i : Nat} {C' : String} {y : MethodName} {cb : ByteArray} {cml wt : Nat} {cret : Option FieldType} {rm : Room} {a : Addr} {as' : List Value} {Qc : Option Value → Heap → Prop} {ps : List FieldType} {rt : Option FieldType} (C : Good κ R Z own mnm bytes ml ret) (hd : Ins1 bytes pc (.invokevirtual i) 3 nx)
    (w1 : (Jvm.Cond.methodLink own i y).before a0 Z = true) (w2 : (Jvm.Cond.declares y).before a0 Z = true) (w5 : (Jvm.Cond.selects C' y y).before a0 Z = true) (w6 : (Jvm.Cond.instanceMethod y).before a0 Z = true) (w3 : (Jvm.Cond.initialized y.cls).before a0 Z = true) (w4 : (Jvm.Cond.code y cb cml cret).before a0 Z = true) (hy : y.cls ≠ "java/lang/invoke/MethodHandle" ∧ y.cls ≠ "java/lang/invoke/VarHandle")
    (E : Exa Z h a C') (hpd : parseMethodDescriptor y.desc = some ⟨ps, rt⟩) (hlen : as'.length = ps.length) (hM : Con Z y cb cml cret rm (.ref a :: as') h n0 Qc) (hst : st = as'.reverse ++ .ref a :: rest) (hL : L.length = ml) (hwt : 2 * 0 + (rest.map fun v => v.category).sum ≤ wt)
    (hfr : rm.frames + 1 ≤ R.frames) (hlo : wt + (cml + 11) + rm.locals ≤ R.locals) (hcs : cs + rm.cells ≤ R.cells) (hsl : sl + rm.slots ≤ R.slots)
    (k : ∀ v h', Qc v h' → W κ n0 Q h' (cs + rm.cells) (sl + rm.slots) nx L (v.toList ++ rest)) : W κ n0 Q h cs sl pc L st := by
  obtain ⟨hd, rfl⟩ := hd
  obtain ⟨p, l, e, R', s, m, args, below, meth, c⟩ := κ
  obtain ⟨hx, hZ, hby, hml, hown, hret, hlk, hnm, rfl⟩ := C
  intro T locs X eT N h1 h2
  obtain ⟨cq, kq, qa, qb, qc⟩ := isOf hZ eT E
  obtain ⟨v, _, ⟨T2, L2, k2, n2⟩, -, X2, ⟨Lc, hQ, l2, y2, z2⟩, st2⟩ := X.virtualBack hx (y := y) (z := y) hown (mvT hZ w1) (mvT hZ w2) (notFace_of_selects (args := #[]) (mvT hZ w5)) (mvT hZ w5) (mvT hZ w6) hy (backOf (W := wt) (Q := fun v h L => Qc v h ∧ Fr n0 L) (hM l []) hZ w4 w3 hfr hlo) qa qc (g := mkF m pc L.toArray st) rfl (by show L.toArray.size = _; rw [hml, ← hL]; simp) (Steps.refl _) (argsL := as') (rest := rest) (lenOf hpd hlen) hst hwt (hb hby hd) (fun _ _ => ⟨rfl, eT, hcs, hsl⟩)
  dsimp only [Pt.U, Pt.locs, Pt.cells, Pt.slots] at X2 l2 y2 z2 st2 hQ
  subst l2 y2 z2
  obtain ⟨s₂, o, b, r⟩ := k v T2.heap hQ.1 T2 _ X2 rfl (Fr.app N hQ.2) hcs hsl
  exact ⟨s₂, o, st2.trans b, r⟩
theorem W.callP {i kk : Nat} {y : MethodName} {cb : ByteArray} {cml wt : Nat} {cret : Option FieldType} {rm : Room} {a : Addr} {as' : List Value} {Qc : Option Value → Heap → Prop} {ps : List FieldType} {rt : Option FieldType} (C : Good κ R Z own mnm bytes ml ret) (hd : Ins1 bytes pc (.invokevirtual i) 3 nx)
    (w1 : (Jvm.Cond.methodLink own i y).before a0 Z = true) (w6 : (Jvm.Cond.instanceMethod y).before a0 Z = true) (wi : (Jvm.Cond.instantiable y.cls kk).before a0 Z = true) (w7 : (Jvm.Cond.privateMethod y).before a0 Z = true) (w3 : (Jvm.Cond.initialized y.cls).before a0 Z = true) (w4 : (Jvm.Cond.code y cb cml cret).before a0 Z = true) (hy : y.cls ≠ "java/lang/invoke/MethodHandle" ∧ y.cls ≠ "java/lang/invoke/VarHandle")
    (E : Exa Z h a y.cls) (hpd : parseMethodDescriptor y.desc = some ⟨ps, rt⟩) (hlen : as'.length = ps.length) (hM : Con Z y cb cml cret rm (.ref a :: as') h n0 Qc) (hst : st = as'.reverse ++ .ref a :: rest) (hL : L.length = ml) (hwt : 2 * 0 + (rest.map fun v => v.category).sum ≤ wt)
    (hfr : rm.frames + 1 ≤ R.frames) (hlo : wt + (cml + 11) + rm.locals ≤ R.locals) (hcs : cs + rm.cells ≤ R.cells) (hsl : sl + rm.slots ≤ R.slots)
    (k : ∀ v h', Qc v h' → W κ n0 Q h' (cs + rm.cells) (sl + rm.slots) nx L (v.toList ++ rest)) : W κ n0 Q h cs sl pc L st := by
  obtain ⟨hd, rfl⟩ := hd
  obtain ⟨p, l, e, R', s, m, args, below, meth, c⟩ := κ
  obtain ⟨hx, hZ, hby, hml, hown, hret, hlk, hnm, rfl⟩ := C
  intro T locs X eT N h1 h2
  obtain ⟨cq, q1, q2⟩ := E.cell
  have hpr := Cond.privateMethod_at (mvP hZ w7 (args := args))
  have hin : (Jvm.Cond.instanceMethod y).before args s = true := mvT hZ w6
  obtain ⟨cc, kc, c1, c2, -, c4, -⟩ := Cond.instantiable_spec (mvT (args := args) hZ wi)
  have hse := selects_self_of_private c1 c2 (Bool.or_eq_false_iff.mp c4).1 hpr hin hy
  obtain ⟨v, _, ⟨T2, L2, k2, n2⟩, -, X2, ⟨Lc, hQ, l2, y2, z2⟩, st2⟩ := X.privateBack hx (y := y) hown (mvT hZ w1) hin hse hpr (mvT hZ w4) hy (backOf (W := wt) (Q := fun v h L => Qc v h ∧ Fr n0 L) (hM l []) hZ w4 w3 hfr hlo) (g := mkF m pc L.toArray st) rfl (by show L.toArray.size = _; rw [hml, ← hL]; simp) (Steps.refl _) (a := a) (by rw [eT]; exact q1) q2 (argsL := as') (rest := rest) (lenOf hpd hlen) hst hwt (hb hby hd) (fun _ _ => ⟨rfl, eT, hcs, hsl⟩)
  dsimp only [Pt.U, Pt.locs, Pt.cells, Pt.slots] at X2 l2 y2 z2 st2 hQ
  subst l2 y2 z2
  obtain ⟨s₂, o, b, r⟩ := k v T2.heap hQ.1 T2 _ X2 rfl (Fr.app N hQ.2) hcs hsl
  exact ⟨s₂, o, st2.trans b, r⟩
theorem W.initO {i : Nat} {a : Addr} {wt : Nat} (C : Good κ R Z own mnm bytes ml ret) (hd : Ins1 bytes pc (.invokespecial i) 3 nx) (w1 : (Jvm.Cond.methodLink own i Lib.objectInit).before a0 Z = true) (w2 : (Jvm.Cond.instanceMethod Lib.objectInit).before a0 Z = true) (w3 : (Jvm.Cond.code Lib.objectInit ⟨#[0xb1]⟩ 1 none).before a0 Z = true)
    (hL : L.length = ml) (hfr : 1 ≤ R.frames) (hwt : 2 * 0 + (rest.map fun v => v.category).sum ≤ wt) (hlo : wt + 12 ≤ R.locals) (k : W κ n0 Q h cs sl nx L rest) : W κ n0 Q h cs sl pc L (.ref a :: rest) := by
  obtain ⟨hd, rfl⟩ := hd
  obtain ⟨p, l, e, R', s, m, args, below, meth, c⟩ := κ
  obtain ⟨hx, hZ, hby, hml, hown, hret, hlk, hnm, rfl⟩ := C
  intro T locs X eT N h1 h2
  obtain ⟨T', X', e', st'⟩ := initO X hx hZ hown w1 w2 w3 eT (g := mkF m pc L.toArray (.ref a :: rest)) rfl (by show L.toArray.size = _; rw [hml, ← hL]; simp) rfl (hb hby hd) hfr hwt hlo
  obtain ⟨s₂, o, b, r⟩ := k T' _ X' e' N h1 h2
  exact ⟨s₂, o, st' _ b, r⟩
end WKit
/-- a value of one word stored over one word -/
theorem st1 {L : List Slot} {k : Nat} {o : Slot} {v : Value} (hold : L[k]? = some o) (ho : One o) (hv : v.category = 1) : storeLocals L.toArray k v = some (L.set k (.val v)).toArray := by
  have := XS.store1 (l := L.toArray) (i := k) (v := v) (o := o) (by simpa using hold) ho hv
  rw [this]; simp
theorem ofNat_toInt {n : Nat} (h : n < 2147483648) : (Int32.ofNat n).toInt = n := Int32.toInt_ofNat_of_lt h
theorem natOf {x : Int32} (h : 0 ≤ x.toInt) : ∃ n : Nat, x = Int32.ofNat n ∧ n < 2147483648 ∧ x.toInt = n := by
  have h2 := Int32.toInt_lt x
  refine ⟨x.toInt.toNat, Int32.toInt_inj.mp ?_, by omega, by omega⟩
  rw [ofNat_toInt (by omega)]; omega
set_option linter.unusedVariables false
set_option maxHeartbeats 4000000
def own_all (n : Nat) (f : Nat → Bool) : Bool := (List.range n).all f
theorem own_allG {n : Nat} {f : Nat → Bool} (h : own_all n f = true) {i : Nat} (hi : i < n) : f i = true := List.all_eq_true.mp h i (List.mem_range.mpr hi)
def own_bit (J s : Nat) : Nat := J / 2 ^ s % 2
def own_js (J : Nat) : List Nat := [own_bit J 0, own_bit J 1, own_bit J 2, own_bit J 3]
theorem own_bit2 (J s : Nat) : own_bit J s = 0 ∨ own_bit J s = 1 := by unfold own_bit; omega
theorem own_jget {J s : Nat} (h : s < 4) : (own_js J)[s]? = some (own_bit J s) := by
  rcases (by omega : s = 0 ∨ s = 1 ∨ s = 2 ∨ s = 3) with rfl | rfl | rfl | rfl <;> rfl
theorem own_jset : ∀ J, J < 16 → ∀ s, s < 4 → (own_js J).set s 1 = own_js (J ||| 2 ^ s) := by decide +kernel
theorem own_jlt : ∀ J, J < 16 → ∀ s, s < 4 → J ||| 2 ^ s < 16 := by decide +kernel
def own_f1 (J : Nat) : Option Nat → List Nat → Nat × Nat → Nat × Nat
  | _, [], a => a
  | p, s :: r, a => own_f1 J (some s) r (if p = some s then a else (a.1 + 1, a.2 + own_bit J s))
def own_f2 : List Nat → Nat × Nat → Nat × Nat
  | [], a => a
  | s :: r, a => own_f2 r (a.1 ||| 2 ^ s, a.2 + (1 - own_bit a.1 s))
def own_key (H : Nat) (l : List Nat) (a : Nat × Nat) : Nat × Nat :=
  if a.2 < H ∧ (2 ≤ (own_f1 a.1 none l (0, 0)).2 ∨ a.2 = 0 ∧ 2 ≤ (own_f1 a.1 none l (0, 0)).1) then own_f2 l a else a
def own_walk (H : Nat) (l0 l1 l2 : List Nat) (a : Nat × Nat) : Nat × Nat := own_key H l2 (own_key H l1 (own_key H l0 a))
def own_run (H : Nat) (l0 l1 l2 : List Nat) : Nat → Int → Nat × Nat → Nat × Nat
  | 0, _, a => a
  | n + 1, b, a => if b < (a.2 : Int) ∧ a.2 < H then own_run H l0 l1 l2 n a.2 (own_walk H l0 l1 l2 a) else a
theorem own_key_ge {H : Nat} {l : List Nat} {a : Nat × Nat} (h : ¬ a.2 < H) : own_key H l a = a := by unfold own_key; rw [if_neg (fun q => h q.1)]
theorem own_f2lt {r : List Nat} (hr : ∀ s ∈ r, s < 4) : ∀ {a : Nat × Nat}, a.1 < 16 → (own_f2 r a).1 < 16 ∧ (own_f2 r a).2 ≤ a.2 + r.length := by
  induction r with
  | nil => intro a h; exact ⟨h, Nat.le_refl _⟩
  | cons s r ih =>
    intro a h
    have := ih (fun s hs => hr s (List.mem_cons_of_mem _ hs)) (a := (a.1 ||| 2 ^ s, a.2 + (1 - own_bit a.1 s))) (own_jlt _ h _ (hr s (List.mem_cons_self ..)))
    refine ⟨this.1, Nat.le_trans this.2 ?_⟩
    simp only [List.length_cons]; omega
theorem own_f2add {r : List Nat} : ∀ {J n : Nat}, own_f2 r (J, n) = ((own_f2 r (J, 0)).1, n + (own_f2 r (J, 0)).2) := by
  induction r with
  | nil => intro J n; rfl
  | cons s r ih =>
    intro J n
    show own_f2 r (J ||| 2 ^ s, n + (1 - own_bit J s)) = ((own_f2 r (J ||| 2 ^ s, 0 + (1 - own_bit J s))).1, n + (own_f2 r (J ||| 2 ^ s, 0 + (1 - own_bit J s))).2)
    rw [ih (n := n + _), ih (n := 0 + _)]
    simp only [Prod.mk.injEq, true_and]; omega
/-! the arrays -/
def own_ap (B c T : Nat) : List Nat := (if 0 < c ∧ B % 2 = 1 then [T] else []) ++ (if 1 < c ∧ B / 2 % 2 = 1 then [T + 1] else [])
def own_pad (ts : List Nat) : List Nat := ts ++ List.replicate (24 - ts.length) 0
def own_fl (xs : List Nat) (S c T : Nat) : List Nat := if 1 < c then (xs.set T S).set (T + 1) S else if 0 < c then xs.set T S else xs
def own_so (c0 c1 c2 c3 : Nat) : List Nat := own_fl (own_fl (own_fl (own_fl (List.replicate 8 0) 0 c0 0) 1 c1 c0) 2 c2 (c0 + c1)) 3 c3 (c0 + c1 + c2)
def own_rel (so : List Nat) : List Nat → List Nat → Prop
  | [], [] => True
  | t :: ts, s :: ss => (so[t]? = some s ∧ s < 4 ∧ t < 100) ∧ own_rel so ts ss
  | _, _ => False
theorem own_rel_app {so : List Nat} : ∀ {t1 s1 t2 s2 : List Nat}, own_rel so t1 s1 → own_rel so t2 s2 → own_rel so (t1 ++ t2) (s1 ++ s2)
  | [], [], _, _, _, h => h
  | t :: t1, s :: s1, _, _, h1, h2 => ⟨h1.1, own_rel_app h1.2 h2⟩
  | [], _ :: _, _, _, h, _ => h.elim
  | _ :: _, [], _, _, h, _ => h.elim
theorem own_rel_get {so : List Nat} : ∀ {ts sl : List Nat}, own_rel so ts sl → ∀ {i s : Nat}, sl[i]? = some s → ∃ t, ts[i]? = some t ∧ so[t]? = some s ∧ s < 4 ∧ t < 100
  | [], [], _, i, s, h => by simp at h
  | t :: ts, s' :: sl, h, 0, s, e => by
    obtain rfl : s' = s := by simpa using e
    exact ⟨t, rfl, h.1⟩
  | t :: ts, s' :: sl, h, i + 1, s, e => by
    obtain ⟨t', a, b⟩ := own_rel_get h.2 (i := i) (s := s) (by simpa using e)
    exact ⟨t', by simpa using a, b⟩
  | [], _ :: _, h, _, _, _ => h.elim
  | _ :: _, [], h, _, _, _ => h.elim
theorem own_rel_len {so : List Nat} : ∀ {ts sl : List Nat}, own_rel so ts sl → ts.length = sl.length
  | [], [], _ => rfl
  | t :: ts, s' :: sl, h => by simp [own_rel_len h.2]
  | [], _ :: _, h => h.elim
  | _ :: _, [], h => h.elim
theorem own_padget {ts : List Nat} {i t : Nat} (h : ts[i]? = some t) : (own_pad ts)[i]? = some t := by
  unfold own_pad
  have : i < ts.length := by
    rcases Nat.lt_or_ge i ts.length with h1 | h1
    · exact h1
    · rw [List.getElem?_eq_none h1] at h; cases h
  rw [List.getElem?_append_left this]; exact h
theorem own_padlen {ts : List Nat} (h : ts.length ≤ 24) : (own_pad ts).length = 24 := by unfold own_pad; simp; omega
theorem own_push {ts : List Nat} (h : ts.length < 24) (T : Nat) : (own_pad ts).set ts.length T = own_pad (ts ++ [T]) := by
  unfold own_pad
  have e : 24 - ts.length = (24 - (ts ++ [T]).length) + 1 := by simp; omega
  rw [e, List.replicate_succ, List.set_append_right _ _ (Nat.le_refl _), Nat.sub_self, List.set_cons_zero, List.append_assoc]
  rfl
theorem own_fllen {xs : List Nat} {S c T : Nat} : (own_fl xs S c T).length = xs.length := by unfold own_fl; split <;> (try split) <;> simp
theorem own_aplen {B c T : Nat} : (own_ap B c T).length ≤ 2 := by unfold own_ap; split <;> split <;> simp
def own_m (B c : Nat) : Nat := (own_ap B c 0).length
theorem own_apm {B c T : Nat} : (own_ap B c T).length = own_m B c := by unfold own_m own_ap; split <;> split <;> rfl
theorem own_mle {B c : Nat} : own_m B c ≤ 2 := own_aplen
def own_S (m0 m1 m2 m3 : Nat) : List Nat := List.replicate m0 0 ++ List.replicate m1 1 ++ List.replicate m2 2 ++ List.replicate m3 3
instance own_reldec (so : List Nat) : (ts ss : List Nat) → Decidable (own_rel so ts ss)
  | [], [] => isTrue trivial
  | t :: ts, s :: ss => @instDecidableAnd _ _ inferInstance (own_reldec so ts ss)
  | [], _ :: _ => isFalse id
  | _ :: _, [] => isFalse id
theorem own_relk : ∀ c0, c0 < 3 → ∀ c1, c1 < 3 → ∀ c2, c2 < 3 → ∀ c3, c3 < 3 → ∀ B, B < 4 → own_rel (own_so c0 c1 c2 c3) (own_ap B c0 0) (List.replicate (own_m B c0) 0) ∧ own_rel (own_so c0 c1 c2 c3) (own_ap B c1 c0) (List.replicate (own_m B c1) 1) ∧ own_rel (own_so c0 c1 c2 c3) (own_ap B c2 (c0 + c1)) (List.replicate (own_m B c2) 2) ∧ own_rel (own_so c0 c1 c2 c3) (own_ap B c3 (c0 + c1 + c2)) (List.replicate (own_m B c3) 3) := by
  have q : (own_all 3 fun c0 => own_all 3 fun c1 => own_all 3 fun c2 => own_all 3 fun c3 => own_all 4 fun B => decide (own_rel (own_so c0 c1 c2 c3) (own_ap B c0 0) (List.replicate (own_m B c0) 0) ∧ own_rel (own_so c0 c1 c2 c3) (own_ap B c1 c0) (List.replicate (own_m B c1) 1) ∧ own_rel (own_so c0 c1 c2 c3) (own_ap B c2 (c0 + c1)) (List.replicate (own_m B c2) 2) ∧ own_rel (own_so c0 c1 c2 c3) (own_ap B c3 (c0 + c1 + c2)) (List.replicate (own_m B c3) 3))) = true := by decide +kernel
  intro c0 hc0 c1 hc1 c2 hc2 c3 hc3 B hB
  exact of_decide_eq_true (own_allG (own_allG (own_allG (own_allG (own_allG q hc0) hc1) hc2) hc3) hB)
/-! masks -/
def own_pop (x : Nat) : Nat := own_bit x 0 + own_bit x 1 + own_bit x 2 + own_bit x 3
def own_g (m s : Nat) : Nat := if 0 < m then 2 ^ s else 0
def own_M (m0 m1 m2 m3 : Nat) : Nat := own_g m0 0 ||| own_g m1 1 ||| own_g m2 2 ||| own_g m3 3
theorem own_f1S : ∀ J, J < 16 → ∀ m0, m0 < 3 → ∀ m1, m1 < 3 → ∀ m2, m2 < 3 → ∀ m3, m3 < 3 → own_f1 J none (own_S m0 m1 m2 m3) (0, 0) = (own_pop (own_M m0 m1 m2 m3), own_pop (J &&& own_M m0 m1 m2 m3)) := by
  have q : (own_all 16 fun J => own_all 3 fun m0 => own_all 3 fun m1 => own_all 3 fun m2 => own_all 3 fun m3 => decide (own_f1 J none (own_S m0 m1 m2 m3) (0, 0) = (own_pop (own_M m0 m1 m2 m3), own_pop (J &&& own_M m0 m1 m2 m3)))) = true := by decide +kernel
  intro J hJ m0 hm0 m1 hm1 m2 hm2 m3 hm3
  exact of_decide_eq_true (own_allG (own_allG (own_allG (own_allG (own_allG q hJ) hm0) hm1) hm2) hm3)
theorem own_f2S : ∀ J, J < 16 → ∀ m0, m0 < 3 → ∀ m1, m1 < 3 → ∀ m2, m2 < 3 → ∀ m3, m3 < 3 → own_f2 (own_S m0 m1 m2 m3) (J, 0) = (J ||| own_M m0 m1 m2 m3, own_pop ((15 - J) &&& own_M m0 m1 m2 m3)) := by
  have q : (own_all 16 fun J => own_all 3 fun m0 => own_all 3 fun m1 => own_all 3 fun m2 => own_all 3 fun m3 => decide (own_f2 (own_S m0 m1 m2 m3) (J, 0) = (J ||| own_M m0 m1 m2 m3, own_pop ((15 - J) &&& own_M m0 m1 m2 m3)))) = true := by decide +kernel
  intro J hJ m0 hm0 m1 hm1 m2 hm2 m3 hm3
  exact of_decide_eq_true (own_allG (own_allG (own_allG (own_allG (own_allG q hJ) hm0) hm1) hm2) hm3)
def own_keyM (H M : Nat) (a : Nat × Nat) : Nat × Nat :=
  if a.2 < H ∧ (2 ≤ own_pop (a.1 &&& M) ∨ a.2 = 0 ∧ 2 ≤ own_pop M) then (a.1 ||| M, a.2 + own_pop ((15 - a.1) &&& M)) else a
def own_runM (H M0 M1 M2 : Nat) : Nat → Int → Nat × Nat → Nat × Nat
  | 0, _, a => a
  | n + 1, b, a => if b < (a.2 : Int) ∧ a.2 < H then own_runM H M0 M1 M2 n a.2 (own_keyM H M2 (own_keyM H M1 (own_keyM H M0 a))) else a
theorem own_Mlt : ∀ m0, m0 < 3 → ∀ m1, m1 < 3 → ∀ m2, m2 < 3 → ∀ m3, m3 < 3 → own_M m0 m1 m2 m3 < 16 := by
  have q : (own_all 3 fun m0 => own_all 3 fun m1 => own_all 3 fun m2 => own_all 3 fun m3 => decide (own_M m0 m1 m2 m3 < 16)) = true := by decide +kernel
  intro m0 hm0 m1 hm1 m2 hm2 m3 hm3
  exact of_decide_eq_true (own_allG (own_allG (own_allG (own_allG q hm0) hm1) hm2) hm3)
theorem own_orlt : ∀ J, J < 16 → ∀ M, M < 16 → J ||| M < 16 := by decide +kernel
theorem own_keyMlt {H M : Nat} {a : Nat × Nat} (hM : M < 16) (ha : a.1 < 16) : (own_keyM H M a).1 < 16 := by
  unfold own_keyM; split
  · exact own_orlt _ ha _ hM
  · exact ha
/-- a key's writers, given as the sessions' numbers -/
def own_KS (l : List Nat) (M : Nat) : Prop := M < 16 ∧ (∀ J, J < 16 → own_f1 J none l (0, 0) = (own_pop M, own_pop (J &&& M))) ∧ (∀ J, J < 16 → own_f2 l (J, 0) = (J ||| M, own_pop ((15 - J) &&& M)))
theorem own_KS_of {m0 m1 m2 m3 : Nat} (h0 : m0 ≤ 2) (h1 : m1 ≤ 2) (h2 : m2 ≤ 2) (h3 : m3 ≤ 2) : own_KS (own_S m0 m1 m2 m3) (own_M m0 m1 m2 m3) :=
  ⟨own_Mlt _ (by omega) _ (by omega) _ (by omega) _ (by omega), fun J hJ => own_f1S J hJ _ (by omega) _ (by omega) _ (by omega) _ (by omega), fun J hJ => own_f2S J hJ _ (by omega) _ (by omega) _ (by omega) _ (by omega)⟩
theorem own_key_eq {l : List Nat} {M H : Nat} (K : own_KS l M) {a : Nat × Nat} (ha : a.1 < 16) : own_key H l a = own_keyM H M a := by
  obtain ⟨J, n⟩ := a
  unfold own_key own_keyM
  rw [K.2.1 J ha, own_f2add, K.2.2 J ha]
theorem own_run_eq {l0 l1 l2 : List Nat} {M0 M1 M2 H : Nat} (K0 : own_KS l0 M0) (K1 : own_KS l1 M1) (K2 : own_KS l2 M2) : ∀ (n : Nat) (b : Int) (a : Nat × Nat), a.1 < 16 → own_run H l0 l1 l2 n b a = own_runM H M0 M1 M2 n b a
  | 0, _, _, _ => rfl
  | n + 1, b, a, ha => by
    unfold own_run own_runM own_walk
    have h0 := own_keyMlt (H := H) K0.1 ha
    have h1 := own_keyMlt (H := H) K1.1 h0
    have h2 := own_keyMlt (H := H) K2.1 h1
    rw [own_key_eq K0 ha, own_key_eq K1 h0, own_key_eq K2 h1, own_run_eq K0 K1 K2 n _ _ h2]
/-! the law's own side -/
def own_join (a b : Nat) : Nat := if own_pop (a &&& b) < 2 then a else a ||| b
def own_round (a x y z : Nat) : Nat := own_join (own_join (own_join a x) y) z
def own_first (x y z : Nat) : Nat := if own_pop x < 2 then (if own_pop y < 2 then (if own_pop z < 2 then 0 else z) else y) else x
def own_set3 (x y z : Nat) : Nat := own_round (own_round (own_round (own_first x y z) x y z) x y z) x y z
theorem own_final : ∀ H, H < 16 → ∀ x, x < 16 → x &&& H = x → ∀ y, y < 16 → y &&& H = y → ∀ z, z < 16 → z &&& H = z → ((own_pop H ≤ 1 ∨ (own_runM (own_pop H) x y z 3 (-1) (0, 0)).2 = own_pop H) ↔ (own_pop H ≤ 1 ∨ own_set3 x y z = H)) := by
  have q : (own_all 16 fun H => own_all 16 fun x => !(x &&& H == x) || own_all 16 fun y => !(y &&& H == y) || own_all 16 fun z => !(z &&& H == z) || decide ((own_pop H ≤ 1 ∨ (own_runM (own_pop H) x y z 3 (-1) (0, 0)).2 = own_pop H) ↔ (own_pop H ≤ 1 ∨ own_set3 x y z = H))) = true := by decide +kernel
  intro H hH x hx ex y hy ey z hz ez
  have q1 := own_allG (own_allG q hH) hx
  rw [ex, beq_self_eq_true, Bool.not_true, Bool.false_or] at q1
  have q2 := own_allG q1 hy
  rw [ey, beq_self_eq_true, Bool.not_true, Bool.false_or] at q2
  have q3 := own_allG q2 hz
  rw [ez, beq_self_eq_true, Bool.not_true, Bool.false_or] at q3
  exact of_decide_eq_true q3
def own_wi (K s c : Nat) : Nat := if K / 4 ^ s % 4 &&& (2 ^ c - 1) = 0 then 0 else 2 ^ s
theorem own_wim : ∀ B, B < 4 → ∀ c, c < 3 → (B &&& (2 ^ c - 1) = 0 ↔ ¬ 0 < own_m B c) := by decide +kernel
theorem own_wig {K s c : Nat} (hc : c ≤ 2) : own_wi K s c = own_g (own_m (K / 4 ^ s % 4) c) s := by
  unfold own_wi own_g
  have h := own_wim (K / 4 ^ s % 4) (by omega) c (by omega)
  by_cases q : K / 4 ^ s % 4 &&& (2 ^ c - 1) = 0
  · rw [if_pos q, if_neg (h.mp q)]
  · rw [if_neg q, if_pos (by rcases Nat.eq_zero_or_pos (own_m (K / 4 ^ s % 4) c) with z | z
                             · exact absurd (h.mpr (by omega)) q
                             · exact z)]
theorem own_gp {m c : Nat} (h : m ≤ c) (s : Nat) : (own_g m s = 0 ∧ own_g c s = 0) ∨ (own_g m s = 0 ∧ own_g c s = 2 ^ s) ∨ (own_g m s = 2 ^ s ∧ own_g c s = 2 ^ s) := by
  unfold own_g
  by_cases h1 : 0 < m
  · rw [if_pos h1, if_pos (by omega : 0 < c)]; exact Or.inr (Or.inr ⟨rfl, rfl⟩)
  · by_cases h2 : 0 < c
    · rw [if_neg h1, if_pos h2]; exact Or.inr (Or.inl ⟨rfl, rfl⟩)
    · rw [if_neg h1, if_neg h2]; exact Or.inl ⟨rfl, rfl⟩
theorem own_sub {m0 m1 m2 m3 c0 c1 c2 c3 : Nat} (h0 : m0 ≤ c0) (h1 : m1 ≤ c1) (h2 : m2 ≤ c2) (h3 : m3 ≤ c3) : own_M m0 m1 m2 m3 &&& own_M c0 c1 c2 c3 = own_M m0 m1 m2 m3 := by
  unfold own_M
  rcases own_gp h0 0 with ⟨a0, b0⟩ | ⟨a0, b0⟩ | ⟨a0, b0⟩ <;> rcases own_gp h1 1 with ⟨a1, b1⟩ | ⟨a1, b1⟩ | ⟨a1, b1⟩ <;> rcases own_gp h2 2 with ⟨a2, b2⟩ | ⟨a2, b2⟩ | ⟨a2, b2⟩ <;> rcases own_gp h3 3 with ⟨a3, b3⟩ | ⟨a3, b3⟩ | ⟨a3, b3⟩ <;> rw [a0, b0, a1, b1, a2, b2, a3, b3] <;> rfl
theorem own_mc : ∀ B, B < 4 → ∀ c, c < 3 → own_m B c ≤ c := by decide +kernel

def own_v (l : List Nat) : List Value := l.map fun t => .int (Int32.ofNat t)
theorem own_get {l : List Nat} {i t : Nat} (h : l[i]? = some t) : (own_v l)[i]? = some (.int (Int32.ofNat t)) := by simp [own_v, h]
theorem own_vset (l : List Nat) (i t : Nat) : (own_v l).set i (.int (Int32.ofNat t)) = own_v (l.set i t) := by simp [own_v, List.map_set]
theorem own_vlen {l : List Nat} : (own_v l).length = l.length := by simp [own_v]
theorem own_inc {x : Int32} {k : Nat} (h : x.toInt = k) (hk : k ≤ 300) : (x + (1 : Int32)).toInt = ((k + 1 : Nat) : Int) := by
  have e1 := c_iadd x (1 : Int32)
  have e2 := rng32 (x + (1 : Int32))
  have e3 : (1 : Int32).toInt = 1 := rfl
  omega
theorem own_add0 {x : Int32} {k : Nat} (h : x.toInt = k) : (x + (0 : Int32)).toInt = (k : Int) := by
  have e1 := c_iadd x (0 : Int32)
  have e2 := rng32 (x + (0 : Int32))
  have e3 := rng32 x
  have e4 : (0 : Int32).toInt = 0 := rfl
  omega
theorem own_dec {x : Int32} {k : Nat} (h : x.toInt = k) (hk : 0 < k) : (x - (1 : Int32)).toInt = ((k - 1 : Nat) : Int) := by
  have e1 := c_isub x (1 : Int32)
  have e2 := rng32 (x - (1 : Int32))
  have e3 := rng32 x
  have e4 : (1 : Int32).toInt = 1 := rfl
  omega
abbrev mY5 : MethodName := ⟨"com/example/isolens/isolens/SessionBlocks", "oneByWriters", "([I[I[I[I)Z"⟩
theorem m5_118 : Ins1 prog_128_method_3_code 118 (.iload 13) 2 120 := ⟨by decide +kernel, rfl⟩
theorem m5_120 : Ins1 prog_128_method_3_code 120 (.aload_n 2) 1 121 := ⟨by decide +kernel, rfl⟩
theorem m5_121 : Ins1 prog_128_method_3_code 121 (.iload 10) 2 123 := ⟨by decide +kernel, rfl⟩
theorem m5_123 : Ins1 prog_128_method_3_code 123 (.iconst 1) 1 124 := ⟨by decide +kernel, rfl⟩
theorem m5_124 : Ins1 prog_128_method_3_code 124 (.iadd) 1 125 := ⟨by decide +kernel, rfl⟩
theorem m5_125 : Ins1 prog_128_method_3_code 125 (.iaload) 1 126 := ⟨by decide +kernel, rfl⟩
theorem m5_126 : Jmp1 prog_128_method_3_code 126 (.if_icmp .ge 60) 60 129 186 := ⟨by decide +kernel, rfl, by decide, by decide⟩
theorem m5_129 : Ins1 prog_128_method_3_code 129 (.aload_n 1) 1 130 := ⟨by decide +kernel, rfl⟩
theorem m5_130 : Ins1 prog_128_method_3_code 130 (.aload_n 3) 1 131 := ⟨by decide +kernel, rfl⟩
theorem m5_131 : Ins1 prog_128_method_3_code 131 (.iload 13) 2 133 := ⟨by decide +kernel, rfl⟩
theorem m5_133 : Ins1 prog_128_method_3_code 133 (.iaload) 1 134 := ⟨by decide +kernel, rfl⟩
theorem m5_134 : Ins1 prog_128_method_3_code 134 (.iaload) 1 135 := ⟨by decide +kernel, rfl⟩
theorem m5_135 : Ins1 prog_128_method_3_code 135 (.istore 14) 2 137 := ⟨by decide +kernel, rfl⟩
theorem m5_137 : Ins1 prog_128_method_3_code 137 (.iload 13) 2 139 := ⟨by decide +kernel, rfl⟩
theorem m5_139 : Ins1 prog_128_method_3_code 139 (.aload_n 2) 1 140 := ⟨by decide +kernel, rfl⟩
theorem m5_140 : Ins1 prog_128_method_3_code 140 (.iload 10) 2 142 := ⟨by decide +kernel, rfl⟩
theorem m5_142 : Ins1 prog_128_method_3_code 142 (.iaload) 1 143 := ⟨by decide +kernel, rfl⟩
theorem m5_143 : Jmp1 prog_128_method_3_code 143 (.if_icmp .eq 16) 16 146 159 := ⟨by decide +kernel, rfl, by decide, by decide⟩
theorem m5_146 : Ins1 prog_128_method_3_code 146 (.iload 14) 2 148 := ⟨by decide +kernel, rfl⟩
theorem m5_148 : Ins1 prog_128_method_3_code 148 (.aload_n 1) 1 149 := ⟨by decide +kernel, rfl⟩
theorem m5_149 : Ins1 prog_128_method_3_code 149 (.aload_n 3) 1 150 := ⟨by decide +kernel, rfl⟩
theorem m5_150 : Ins1 prog_128_method_3_code 150 (.iload 13) 2 152 := ⟨by decide +kernel, rfl⟩
theorem m5_152 : Ins1 prog_128_method_3_code 152 (.iconst 1) 1 153 := ⟨by decide +kernel, rfl⟩
theorem m5_153 : Ins1 prog_128_method_3_code 153 (.isub) 1 154 := ⟨by decide +kernel, rfl⟩
theorem m5_154 : Ins1 prog_128_method_3_code 154 (.iaload) 1 155 := ⟨by decide +kernel, rfl⟩
theorem m5_155 : Ins1 prog_128_method_3_code 155 (.iaload) 1 156 := ⟨by decide +kernel, rfl⟩
theorem m5_156 : Jmp1 prog_128_method_3_code 156 (.if_icmp .eq 24) 24 159 180 := ⟨by decide +kernel, rfl, by decide, by decide⟩
theorem m5_159 : Ins1 prog_128_method_3_code 159 (.iinc 11 1) 3 162 := ⟨by decide +kernel, rfl⟩
theorem m5_162 : Ins1 prog_128_method_3_code 162 (.iload 12) 2 164 := ⟨by decide +kernel, rfl⟩
theorem m5_164 : Ins1 prog_128_method_3_code 164 (.aload 6) 2 166 := ⟨by decide +kernel, rfl⟩
theorem m5_166 : Ins1 prog_128_method_3_code 166 (.iload 14) 2 168 := ⟨by decide +kernel, rfl⟩
theorem m5_168 : Ins1 prog_128_method_3_code 168 (.baload) 1 169 := ⟨by decide +kernel, rfl⟩
theorem m5_169 : Jmp1 prog_128_method_3_code 169 (.ifCond .eq 7) 7 172 176 := ⟨by decide +kernel, rfl, by decide, by decide⟩
theorem m5_172 : Ins1 prog_128_method_3_code 172 (.iconst 1) 1 173 := ⟨by decide +kernel, rfl⟩
theorem m5_173 : Jmp1 prog_128_method_3_code 173 (.goto 4) 4 176 177 := ⟨by decide +kernel, rfl, by decide, by decide⟩
theorem m5_176 : Ins1 prog_128_method_3_code 176 (.iconst 0) 1 177 := ⟨by decide +kernel, rfl⟩
theorem m5_177 : Ins1 prog_128_method_3_code 177 (.iadd) 1 178 := ⟨by decide +kernel, rfl⟩
theorem m5_178 : Ins1 prog_128_method_3_code 178 (.istore 12) 2 180 := ⟨by decide +kernel, rfl⟩
theorem m5_180 : Ins1 prog_128_method_3_code 180 (.iinc 13 1) 3 183 := ⟨by decide +kernel, rfl⟩
theorem m5_183 : Jmp1 prog_128_method_3_code 183 (.goto (-65)) (-65) 186 118 := ⟨by decide +kernel, rfl, by decide, by decide⟩
theorem pl5 : plainFor mY5 = true := plainFor_of_name (show plainName "com/example/isolens/isolens/SessionBlocks" = true by first | (simp [plainName, overriddenIn]; done) | decide +kernel)
theorem pd5 : parseMethodDescriptor "([I[I[I[I)Z" = some ⟨[(.array .int), (.array .int), (.array .int), (.array .int)], some .boolean⟩ := by decide +kernel
set_option maxRecDepth 65536 in
set_option maxHeartbeats 4000000 in
theorem own_L1 (Z : State) (a0 : Array Value) (κ : KT) (n0 : Nat) (Qx : Option Value → Heap → Prop) (C : Good κ ({ frames := 0, cells := 1, slots := 4, locals := 0 } : Room) Z "com/example/isolens/isolens/SessionBlocks" "oneByWriters" prog_128_method_3_code 15 (some .boolean)) (a b c d j : Addr) (cs sl : Nat) (so wr ws SL : List Nat) (hS : ∀ (i s : Nat), SL[i]? = some s → ∃ t, wr[i]? = some t ∧ so[t]? = some s ∧ s < 4 ∧ t < 100) (hold jb wk key : Int32) (kn e e1 : Nat) (hkey : key.toInt = kn) (hkn : kn ≤ 2) (hw0 : ws[kn]? = some e) (hw1 : ws[kn + 1]? = some e1) (he : e1 ≤ 100) (he0 : e ≤ 100) (cnt : Int32) (J : Nat) (h : Heap) (Ab : Av Z h b .int (own_v so)) (Ac : Av Z h c .int (own_v ws)) (Ad : Av Z h d .int (own_v wr)) (Aj : Av Z h j .boolean (own_v (own_js J))) :
    ∀ (r : List Nat) (p : Option Nat) (w jw i : Int32) (I A B : Nat) (s14 : Slot) (os14 : One s14) (hi : i.toInt = I) (hr : ∀ (n s : Nat), r[n]? = some s → SL[I + n]? = some s) (hl : I + r.length = e1) (hp : (p = none ∧ I = e) ∨ ∃ q, p = some q ∧ e < I ∧ SL[I - 1]? = some q) (hw : w.toInt = A) (hjw : jw.toInt = B) (hA : A ≤ I) (hB : B ≤ I) (k : ∀ (w' jw' i' : Int32) (t14 : Slot), One t14 → w'.toInt = ((own_f1 J p r (A, B)).1 : Nat) → jw'.toInt = ((own_f1 J p r (A, B)).2 : Nat) → W κ n0 Qx h cs sl 186 [.val (.ref a), .val (.ref b), .val (.ref c), .val (.ref d), .val (.int (4 : Int32)), .val (.int hold), .val (.ref j), .val (.int cnt), .val (.int jb), .val (.int wk), .val (.int key), .val (.int w'), .val (.int jw'), .val (.int i'), t14] []), W κ n0 Qx h cs sl 118 [.val (.ref a), .val (.ref b), .val (.ref c), .val (.ref d), .val (.int (4 : Int32)), .val (.int hold), .val (.ref j), .val (.int cnt), .val (.int jb), .val (.int wk), .val (.int key), .val (.int w), .val (.int jw), .val (.int i), s14] [] := by
  have eE1 : (Int32.ofNat e1).toInt = e1 := ofNat_toInt (by omega)
  have eE0 : (Int32.ofNat e).toInt = e := ofNat_toInt (by omega)
  intro r
  induction r with
  | nil =>
    intro p w jw i I A B s14 os14 hi hr hl hp hw hjw hA hB k
    rw [List.length_nil] at hl
    refine W.iload C m5_118 rfl ?_
    refine W.aloadN C m5_120 rfl rfl ?_
    refine W.iload C m5_121 rfl ?_
    refine W.iconst C m5_123 (z := (1 : Int32)) rfl ?_
    refine W.iadd C m5_124 rfl ?_
    refine W.iaload C m5_125 Ac (i := kn + 1) (own_inc hkey (by omega)) (own_get hw1) ?_
    refine W.icmpY C m5_126 (show ((Int32.ofNat e1)).toInt ≤ i.toInt from (by omega)) ?_
    exact k _ _ _ _ os14 hw hjw
  | cons s r ih =>
    intro p w jw i I A B s14 os14 hi hr hl hp hw hjw hA hB k
    rw [List.length_cons] at hl
    obtain ⟨t, ht, hs, hs4, ht1⟩ := hS I s (hr 0 s rfl)
    have eT : (Int32.ofNat t).toInt = t := ofNat_toInt (by omega)
    have eS : (Int32.ofNat s).toInt = s := ofNat_toInt (by omega)
    have hr' : ∀ (n s : Nat), r[n]? = some s → SL[I + 1 + n]? = some s := fun n s q => by rw [show I + 1 + n = I + (n + 1) by omega]; exact hr (n + 1) s (by simpa using q)
    have hs0 : SL[I + 1 - 1]? = some s := hr 0 s rfl
    rcases hp with ⟨rfl, hIe⟩ | ⟨q, rfl, hIe, hq⟩
    · rcases own_bit2 J s with hb | hb
      · skip
        have heq : own_f1 J none (s :: r) (A, B) = own_f1 J (some s) r (A + 1, B + 0) := by simp [own_f1, hb]
        rw [heq] at k
        refine W.iload C m5_118 rfl ?_
        refine W.aloadN C m5_120 rfl rfl ?_
        refine W.iload C m5_121 rfl ?_
        refine W.iconst C m5_123 (z := (1 : Int32)) rfl ?_
        refine W.iadd C m5_124 rfl ?_
        refine W.iaload C m5_125 Ac (i := kn + 1) (own_inc hkey (by omega)) (own_get hw1) ?_
        refine W.icmpN C m5_126 (show ¬ (((Int32.ofNat e1)).toInt ≤ i.toInt) from (by omega)) ?_
        refine W.aloadN C m5_129 rfl rfl ?_
        refine W.aloadN C m5_130 rfl rfl ?_
        refine W.iload C m5_131 rfl ?_
        refine W.iaload C m5_133 Ad (i := I) hi (own_get ht) ?_
        refine W.iaload C m5_134 Ab (i := t) eT (own_get hs) ?_
        refine W.istore C m5_135 (L' := [.val (.ref a), .val (.ref b), .val (.ref c), .val (.ref d), .val (.int (4 : Int32)), .val (.int hold), .val (.ref j), .val (.int cnt), .val (.int jb), .val (.int wk), .val (.int key), .val (.int w), .val (.int jw), .val (.int i), .val (.int (Int32.ofNat s))]) (st1 rfl os14 rfl) ?_
        refine W.iload C m5_137 rfl ?_
        refine W.aloadN C m5_139 rfl rfl ?_
        refine W.iload C m5_140 rfl ?_
        refine W.iaload C m5_142 Ac (i := kn) hkey (own_get hw0) ?_
        refine W.icmpY C m5_143 (show i.toInt = ((Int32.ofNat e)).toInt from (by omega)) ?_
        refine W.iinc C m5_159 rfl (z := (w + (1 : Int32))) rfl (L' := [.val (.ref a), .val (.ref b), .val (.ref c), .val (.ref d), .val (.int (4 : Int32)), .val (.int hold), .val (.ref j), .val (.int cnt), .val (.int jb), .val (.int wk), .val (.int key), .val (.int (w + (1 : Int32))), .val (.int jw), .val (.int i), .val (.int (Int32.ofNat s))]) rfl ?_
        refine W.iload C m5_162 rfl ?_
        refine W.aload C m5_164 rfl rfl ?_
        refine W.iload C m5_166 rfl ?_
        refine W.zaload C m5_168 Aj (i := s) eS (by rw [own_get (own_jget hs4), hb] <;> rfl) ?_
        refine W.ifY C m5_169 (show (0 : Int) = (0 : Int) from (by decide)) ?_
        refine W.iconst C m5_176 (z := (0 : Int32)) rfl ?_
        refine W.iadd C m5_177 rfl ?_
        refine W.istore C m5_178 (L' := [.val (.ref a), .val (.ref b), .val (.ref c), .val (.ref d), .val (.int (4 : Int32)), .val (.int hold), .val (.ref j), .val (.int cnt), .val (.int jb), .val (.int wk), .val (.int key), .val (.int (w + (1 : Int32))), .val (.int (jw + (0 : Int32))), .val (.int i), .val (.int (Int32.ofNat s))]) rfl ?_
        refine W.iinc C m5_180 rfl (z := (i + (1 : Int32))) rfl (L' := [.val (.ref a), .val (.ref b), .val (.ref c), .val (.ref d), .val (.int (4 : Int32)), .val (.int hold), .val (.ref j), .val (.int cnt), .val (.int jb), .val (.int wk), .val (.int key), .val (.int (w + (1 : Int32))), .val (.int (jw + (0 : Int32))), .val (.int (i + (1 : Int32))), .val (.int (Int32.ofNat s))]) rfl ?_
        refine W.goto C m5_183 ?_
        exact ih _ _ _ _ (I + 1) _ _ _ (One.val rfl) (own_inc hi (by omega)) hr' (by omega) (Or.inr ⟨_, rfl, by omega, hs0⟩) (own_inc hw (by omega)) (own_add0 hjw) (by omega) (by omega) k
      · skip
        have heq : own_f1 J none (s :: r) (A, B) = own_f1 J (some s) r (A + 1, B + 1) := by simp [own_f1, hb]
        rw [heq] at k
        refine W.iload C m5_118 rfl ?_
        refine W.aloadN C m5_120 rfl rfl ?_
        refine W.iload C m5_121 rfl ?_
        refine W.iconst C m5_123 (z := (1 : Int32)) rfl ?_
        refine W.iadd C m5_124 rfl ?_
        refine W.iaload C m5_125 Ac (i := kn + 1) (own_inc hkey (by omega)) (own_get hw1) ?_
        refine W.icmpN C m5_126 (show ¬ (((Int32.ofNat e1)).toInt ≤ i.toInt) from (by omega)) ?_
        refine W.aloadN C m5_129 rfl rfl ?_
        refine W.aloadN C m5_130 rfl rfl ?_
        refine W.iload C m5_131 rfl ?_
        refine W.iaload C m5_133 Ad (i := I) hi (own_get ht) ?_
        refine W.iaload C m5_134 Ab (i := t) eT (own_get hs) ?_
        refine W.istore C m5_135 (L' := [.val (.ref a), .val (.ref b), .val (.ref c), .val (.ref d), .val (.int (4 : Int32)), .val (.int hold), .val (.ref j), .val (.int cnt), .val (.int jb), .val (.int wk), .val (.int key), .val (.int w), .val (.int jw), .val (.int i), .val (.int (Int32.ofNat s))]) (st1 rfl os14 rfl) ?_
        refine W.iload C m5_137 rfl ?_
        refine W.aloadN C m5_139 rfl rfl ?_
        refine W.iload C m5_140 rfl ?_
        refine W.iaload C m5_142 Ac (i := kn) hkey (own_get hw0) ?_
        refine W.icmpY C m5_143 (show i.toInt = ((Int32.ofNat e)).toInt from (by omega)) ?_
        refine W.iinc C m5_159 rfl (z := (w + (1 : Int32))) rfl (L' := [.val (.ref a), .val (.ref b), .val (.ref c), .val (.ref d), .val (.int (4 : Int32)), .val (.int hold), .val (.ref j), .val (.int cnt), .val (.int jb), .val (.int wk), .val (.int key), .val (.int (w + (1 : Int32))), .val (.int jw), .val (.int i), .val (.int (Int32.ofNat s))]) rfl ?_
        refine W.iload C m5_162 rfl ?_
        refine W.aload C m5_164 rfl rfl ?_
        refine W.iload C m5_166 rfl ?_
        refine W.zaload C m5_168 Aj (i := s) eS (by rw [own_get (own_jget hs4), hb] <;> rfl) ?_
        refine W.ifN C m5_169 (show ¬ ((1 : Int) = (0 : Int)) from (by decide)) ?_
        refine W.iconst C m5_172 (z := (1 : Int32)) rfl ?_
        refine W.goto C m5_173 ?_
        refine W.iadd C m5_177 rfl ?_
        refine W.istore C m5_178 (L' := [.val (.ref a), .val (.ref b), .val (.ref c), .val (.ref d), .val (.int (4 : Int32)), .val (.int hold), .val (.ref j), .val (.int cnt), .val (.int jb), .val (.int wk), .val (.int key), .val (.int (w + (1 : Int32))), .val (.int (jw + (1 : Int32))), .val (.int i), .val (.int (Int32.ofNat s))]) rfl ?_
        refine W.iinc C m5_180 rfl (z := (i + (1 : Int32))) rfl (L' := [.val (.ref a), .val (.ref b), .val (.ref c), .val (.ref d), .val (.int (4 : Int32)), .val (.int hold), .val (.ref j), .val (.int cnt), .val (.int jb), .val (.int wk), .val (.int key), .val (.int (w + (1 : Int32))), .val (.int (jw + (1 : Int32))), .val (.int (i + (1 : Int32))), .val (.int (Int32.ofNat s))]) rfl ?_
        refine W.goto C m5_183 ?_
        exact ih _ _ _ _ (I + 1) _ _ _ (One.val rfl) (own_inc hi (by omega)) hr' (by omega) (Or.inr ⟨_, rfl, by omega, hs0⟩) (own_inc hw (by omega)) (own_inc hjw (by omega)) (by omega) (by omega) k
    · obtain ⟨tq, htq, hsq, hq4, htq1⟩ := hS (I - 1) q hq
      have eTq : (Int32.ofNat tq).toInt = tq := ofNat_toInt (by omega)
      have eQ : (Int32.ofNat q).toInt = q := ofNat_toInt (by omega)
      by_cases hqs : q = s
      · subst hqs
        have heq : own_f1 J (some q) (q :: r) (A, B) = own_f1 J (some q) r (A, B) := by simp [own_f1]
        rw [heq] at k
        refine W.iload C m5_118 rfl ?_
        refine W.aloadN C m5_120 rfl rfl ?_
        refine W.iload C m5_121 rfl ?_
        refine W.iconst C m5_123 (z := (1 : Int32)) rfl ?_
        refine W.iadd C m5_124 rfl ?_
        refine W.iaload C m5_125 Ac (i := kn + 1) (own_inc hkey (by omega)) (own_get hw1) ?_
        refine W.icmpN C m5_126 (show ¬ (((Int32.ofNat e1)).toInt ≤ i.toInt) from (by omega)) ?_
        refine W.aloadN C m5_129 rfl rfl ?_
        refine W.aloadN C m5_130 rfl rfl ?_
        refine W.iload C m5_131 rfl ?_
        refine W.iaload C m5_133 Ad (i := I) hi (own_get ht) ?_
        refine W.iaload C m5_134 Ab (i := t) eT (own_get hs) ?_
        refine W.istore C m5_135 (L' := [.val (.ref a), .val (.ref b), .val (.ref c), .val (.ref d), .val (.int (4 : Int32)), .val (.int hold), .val (.ref j), .val (.int cnt), .val (.int jb), .val (.int wk), .val (.int key), .val (.int w), .val (.int jw), .val (.int i), .val (.int (Int32.ofNat q))]) (st1 rfl os14 rfl) ?_
        refine W.iload C m5_137 rfl ?_
        refine W.aloadN C m5_139 rfl rfl ?_
        refine W.iload C m5_140 rfl ?_
        refine W.iaload C m5_142 Ac (i := kn) hkey (own_get hw0) ?_
        refine W.icmpN C m5_143 (show ¬ (i.toInt = ((Int32.ofNat e)).toInt) from (by omega)) ?_
        refine W.iload C m5_146 rfl ?_
        refine W.aloadN C m5_148 rfl rfl ?_
        refine W.aloadN C m5_149 rfl rfl ?_
        refine W.iload C m5_150 rfl ?_
        refine W.iconst C m5_152 (z := (1 : Int32)) rfl ?_
        refine W.isub C m5_153 rfl ?_
        refine W.iaload C m5_154 Ad (i := I - 1) (own_dec hi (by omega)) (own_get htq) ?_
        refine W.iaload C m5_155 Ab (i := tq) eTq (own_get hsq) ?_
        refine W.icmpY C m5_156 (show ((Int32.ofNat q)).toInt = ((Int32.ofNat q)).toInt from rfl) ?_
        refine W.iinc C m5_180 rfl (z := (i + (1 : Int32))) rfl (L' := [.val (.ref a), .val (.ref b), .val (.ref c), .val (.ref d), .val (.int (4 : Int32)), .val (.int hold), .val (.ref j), .val (.int cnt), .val (.int jb), .val (.int wk), .val (.int key), .val (.int w), .val (.int jw), .val (.int (i + (1 : Int32))), .val (.int (Int32.ofNat q))]) rfl ?_
        refine W.goto C m5_183 ?_
        exact ih _ _ _ _ (I + 1) _ _ _ (One.val rfl) (own_inc hi (by omega)) hr' (by omega) (Or.inr ⟨_, rfl, by omega, hs0⟩) hw hjw (by omega) (by omega) k
      · rcases own_bit2 J s with hb | hb
        · skip
          have heq : own_f1 J (some q) (s :: r) (A, B) = own_f1 J (some s) r (A + 1, B + 0) := by simp [own_f1, hb, hqs]
          rw [heq] at k
          refine W.iload C m5_118 rfl ?_
          refine W.aloadN C m5_120 rfl rfl ?_
          refine W.iload C m5_121 rfl ?_
          refine W.iconst C m5_123 (z := (1 : Int32)) rfl ?_
          refine W.iadd C m5_124 rfl ?_
          refine W.iaload C m5_125 Ac (i := kn + 1) (own_inc hkey (by omega)) (own_get hw1) ?_
          refine W.icmpN C m5_126 (show ¬ (((Int32.ofNat e1)).toInt ≤ i.toInt) from (by omega)) ?_
          refine W.aloadN C m5_129 rfl rfl ?_
          refine W.aloadN C m5_130 rfl rfl ?_
          refine W.iload C m5_131 rfl ?_
          refine W.iaload C m5_133 Ad (i := I) hi (own_get ht) ?_
          refine W.iaload C m5_134 Ab (i := t) eT (own_get hs) ?_
          refine W.istore C m5_135 (L' := [.val (.ref a), .val (.ref b), .val (.ref c), .val (.ref d), .val (.int (4 : Int32)), .val (.int hold), .val (.ref j), .val (.int cnt), .val (.int jb), .val (.int wk), .val (.int key), .val (.int w), .val (.int jw), .val (.int i), .val (.int (Int32.ofNat s))]) (st1 rfl os14 rfl) ?_
          refine W.iload C m5_137 rfl ?_
          refine W.aloadN C m5_139 rfl rfl ?_
          refine W.iload C m5_140 rfl ?_
          refine W.iaload C m5_142 Ac (i := kn) hkey (own_get hw0) ?_
          refine W.icmpN C m5_143 (show ¬ (i.toInt = ((Int32.ofNat e)).toInt) from (by omega)) ?_
          refine W.iload C m5_146 rfl ?_
          refine W.aloadN C m5_148 rfl rfl ?_
          refine W.aloadN C m5_149 rfl rfl ?_
          refine W.iload C m5_150 rfl ?_
          refine W.iconst C m5_152 (z := (1 : Int32)) rfl ?_
          refine W.isub C m5_153 rfl ?_
          refine W.iaload C m5_154 Ad (i := I - 1) (own_dec hi (by omega)) (own_get htq) ?_
          refine W.iaload C m5_155 Ab (i := tq) eTq (own_get hsq) ?_
          refine W.icmpN C m5_156 (show ¬ (((Int32.ofNat s)).toInt = ((Int32.ofNat q)).toInt) from (by omega)) ?_
          refine W.iinc C m5_159 rfl (z := (w + (1 : Int32))) rfl (L' := [.val (.ref a), .val (.ref b), .val (.ref c), .val (.ref d), .val (.int (4 : Int32)), .val (.int hold), .val (.ref j), .val (.int cnt), .val (.int jb), .val (.int wk), .val (.int key), .val (.int (w + (1 : Int32))), .val (.int jw), .val (.int i), .val (.int (Int32.ofNat s))]) rfl ?_
          refine W.iload C m5_162 rfl ?_
          refine W.aload C m5_164 rfl rfl ?_
          refine W.iload C m5_166 rfl ?_
          refine W.zaload C m5_168 Aj (i := s) eS (by rw [own_get (own_jget hs4), hb] <;> rfl) ?_
          refine W.ifY C m5_169 (show (0 : Int) = (0 : Int) from (by decide)) ?_
          refine W.iconst C m5_176 (z := (0 : Int32)) rfl ?_
          refine W.iadd C m5_177 rfl ?_
          refine W.istore C m5_178 (L' := [.val (.ref a), .val (.ref b), .val (.ref c), .val (.ref d), .val (.int (4 : Int32)), .val (.int hold), .val (.ref j), .val (.int cnt), .val (.int jb), .val (.int wk), .val (.int key), .val (.int (w + (1 : Int32))), .val (.int (jw + (0 : Int32))), .val (.int i), .val (.int (Int32.ofNat s))]) rfl ?_
          refine W.iinc C m5_180 rfl (z := (i + (1 : Int32))) rfl (L' := [.val (.ref a), .val (.ref b), .val (.ref c), .val (.ref d), .val (.int (4 : Int32)), .val (.int hold), .val (.ref j), .val (.int cnt), .val (.int jb), .val (.int wk), .val (.int key), .val (.int (w + (1 : Int32))), .val (.int (jw + (0 : Int32))), .val (.int (i + (1 : Int32))), .val (.int (Int32.ofNat s))]) rfl ?_
          refine W.goto C m5_183 ?_
          exact ih _ _ _ _ (I + 1) _ _ _ (One.val rfl) (own_inc hi (by omega)) hr' (by omega) (Or.inr ⟨_, rfl, by omega, hs0⟩) (own_inc hw (by omega)) (own_add0 hjw) (by omega) (by omega) k
        · skip
          have heq : own_f1 J (some q) (s :: r) (A, B) = own_f1 J (some s) r (A + 1, B + 1) := by simp [own_f1, hb, hqs]
          rw [heq] at k
          refine W.iload C m5_118 rfl ?_
          refine W.aloadN C m5_120 rfl rfl ?_
          refine W.iload C m5_121 rfl ?_
          refine W.iconst C m5_123 (z := (1 : Int32)) rfl ?_
          refine W.iadd C m5_124 rfl ?_
          refine W.iaload C m5_125 Ac (i := kn + 1) (own_inc hkey (by omega)) (own_get hw1) ?_
          refine W.icmpN C m5_126 (show ¬ (((Int32.ofNat e1)).toInt ≤ i.toInt) from (by omega)) ?_
          refine W.aloadN C m5_129 rfl rfl ?_
          refine W.aloadN C m5_130 rfl rfl ?_
          refine W.iload C m5_131 rfl ?_
          refine W.iaload C m5_133 Ad (i := I) hi (own_get ht) ?_
          refine W.iaload C m5_134 Ab (i := t) eT (own_get hs) ?_
          refine W.istore C m5_135 (L' := [.val (.ref a), .val (.ref b), .val (.ref c), .val (.ref d), .val (.int (4 : Int32)), .val (.int hold), .val (.ref j), .val (.int cnt), .val (.int jb), .val (.int wk), .val (.int key), .val (.int w), .val (.int jw), .val (.int i), .val (.int (Int32.ofNat s))]) (st1 rfl os14 rfl) ?_
          refine W.iload C m5_137 rfl ?_
          refine W.aloadN C m5_139 rfl rfl ?_
          refine W.iload C m5_140 rfl ?_
          refine W.iaload C m5_142 Ac (i := kn) hkey (own_get hw0) ?_
          refine W.icmpN C m5_143 (show ¬ (i.toInt = ((Int32.ofNat e)).toInt) from (by omega)) ?_
          refine W.iload C m5_146 rfl ?_
          refine W.aloadN C m5_148 rfl rfl ?_
          refine W.aloadN C m5_149 rfl rfl ?_
          refine W.iload C m5_150 rfl ?_
          refine W.iconst C m5_152 (z := (1 : Int32)) rfl ?_
          refine W.isub C m5_153 rfl ?_
          refine W.iaload C m5_154 Ad (i := I - 1) (own_dec hi (by omega)) (own_get htq) ?_
          refine W.iaload C m5_155 Ab (i := tq) eTq (own_get hsq) ?_
          refine W.icmpN C m5_156 (show ¬ (((Int32.ofNat s)).toInt = ((Int32.ofNat q)).toInt) from (by omega)) ?_
          refine W.iinc C m5_159 rfl (z := (w + (1 : Int32))) rfl (L' := [.val (.ref a), .val (.ref b), .val (.ref c), .val (.ref d), .val (.int (4 : Int32)), .val (.int hold), .val (.ref j), .val (.int cnt), .val (.int jb), .val (.int wk), .val (.int key), .val (.int (w + (1 : Int32))), .val (.int jw), .val (.int i), .val (.int (Int32.ofNat s))]) rfl ?_
          refine W.iload C m5_162 rfl ?_
          refine W.aload C m5_164 rfl rfl ?_
          refine W.iload C m5_166 rfl ?_
          refine W.zaload C m5_168 Aj (i := s) eS (by rw [own_get (own_jget hs4), hb] <;> rfl) ?_
          refine W.ifN C m5_169 (show ¬ ((1 : Int) = (0 : Int)) from (by decide)) ?_
          refine W.iconst C m5_172 (z := (1 : Int32)) rfl ?_
          refine W.goto C m5_173 ?_
          refine W.iadd C m5_177 rfl ?_
          refine W.istore C m5_178 (L' := [.val (.ref a), .val (.ref b), .val (.ref c), .val (.ref d), .val (.int (4 : Int32)), .val (.int hold), .val (.ref j), .val (.int cnt), .val (.int jb), .val (.int wk), .val (.int key), .val (.int (w + (1 : Int32))), .val (.int (jw + (1 : Int32))), .val (.int i), .val (.int (Int32.ofNat s))]) rfl ?_
          refine W.iinc C m5_180 rfl (z := (i + (1 : Int32))) rfl (L' := [.val (.ref a), .val (.ref b), .val (.ref c), .val (.ref d), .val (.int (4 : Int32)), .val (.int hold), .val (.ref j), .val (.int cnt), .val (.int jb), .val (.int wk), .val (.int key), .val (.int (w + (1 : Int32))), .val (.int (jw + (1 : Int32))), .val (.int (i + (1 : Int32))), .val (.int (Int32.ofNat s))]) rfl ?_
          refine W.goto C m5_183 ?_
          exact ih _ _ _ _ (I + 1) _ _ _ (One.val rfl) (own_inc hi (by omega)) hr' (by omega) (Or.inr ⟨_, rfl, by omega, hs0⟩) (own_inc hw (by omega)) (own_inc hjw (by omega)) (by omega) (by omega) k
theorem m5_209 : Ins1 prog_128_method_3_code 209 (.iload 13) 2 211 := ⟨by decide +kernel, rfl⟩
theorem m5_211 : Ins1 prog_128_method_3_code 211 (.aload_n 2) 1 212 := ⟨by decide +kernel, rfl⟩
theorem m5_212 : Ins1 prog_128_method_3_code 212 (.iload 10) 2 214 := ⟨by decide +kernel, rfl⟩
theorem m5_214 : Ins1 prog_128_method_3_code 214 (.iconst 1) 1 215 := ⟨by decide +kernel, rfl⟩
theorem m5_215 : Ins1 prog_128_method_3_code 215 (.iadd) 1 216 := ⟨by decide +kernel, rfl⟩
theorem m5_216 : Ins1 prog_128_method_3_code 216 (.iaload) 1 217 := ⟨by decide +kernel, rfl⟩
theorem m5_217 : Jmp1 prog_128_method_3_code 217 (.if_icmp .ge 41) 41 220 258 := ⟨by decide +kernel, rfl, by decide, by decide⟩
theorem m5_220 : Ins1 prog_128_method_3_code 220 (.aload_n 1) 1 221 := ⟨by decide +kernel, rfl⟩
theorem m5_221 : Ins1 prog_128_method_3_code 221 (.aload_n 3) 1 222 := ⟨by decide +kernel, rfl⟩
theorem m5_222 : Ins1 prog_128_method_3_code 222 (.iload 13) 2 224 := ⟨by decide +kernel, rfl⟩
theorem m5_224 : Ins1 prog_128_method_3_code 224 (.iaload) 1 225 := ⟨by decide +kernel, rfl⟩
theorem m5_225 : Ins1 prog_128_method_3_code 225 (.iaload) 1 226 := ⟨by decide +kernel, rfl⟩
theorem m5_226 : Ins1 prog_128_method_3_code 226 (.istore 14) 2 228 := ⟨by decide +kernel, rfl⟩
theorem m5_228 : Ins1 prog_128_method_3_code 228 (.iload 7) 2 230 := ⟨by decide +kernel, rfl⟩
theorem m5_230 : Ins1 prog_128_method_3_code 230 (.aload 6) 2 232 := ⟨by decide +kernel, rfl⟩
theorem m5_232 : Ins1 prog_128_method_3_code 232 (.iload 14) 2 234 := ⟨by decide +kernel, rfl⟩
theorem m5_234 : Ins1 prog_128_method_3_code 234 (.baload) 1 235 := ⟨by decide +kernel, rfl⟩
theorem m5_235 : Jmp1 prog_128_method_3_code 235 (.ifCond .eq 7) 7 238 242 := ⟨by decide +kernel, rfl, by decide, by decide⟩
theorem m5_238 : Ins1 prog_128_method_3_code 238 (.iconst 0) 1 239 := ⟨by decide +kernel, rfl⟩
theorem m5_239 : Jmp1 prog_128_method_3_code 239 (.goto 4) 4 242 243 := ⟨by decide +kernel, rfl, by decide, by decide⟩
theorem m5_242 : Ins1 prog_128_method_3_code 242 (.iconst 1) 1 243 := ⟨by decide +kernel, rfl⟩
theorem m5_243 : Ins1 prog_128_method_3_code 243 (.iadd) 1 244 := ⟨by decide +kernel, rfl⟩
theorem m5_244 : Ins1 prog_128_method_3_code 244 (.istore 7) 2 246 := ⟨by decide +kernel, rfl⟩
theorem m5_246 : Ins1 prog_128_method_3_code 246 (.aload 6) 2 248 := ⟨by decide +kernel, rfl⟩
theorem m5_248 : Ins1 prog_128_method_3_code 248 (.iload 14) 2 250 := ⟨by decide +kernel, rfl⟩
theorem m5_250 : Ins1 prog_128_method_3_code 250 (.iconst 1) 1 251 := ⟨by decide +kernel, rfl⟩
theorem m5_251 : Ins1 prog_128_method_3_code 251 (.bastore) 1 252 := ⟨by decide +kernel, rfl⟩
theorem m5_252 : Ins1 prog_128_method_3_code 252 (.iinc 13 1) 3 255 := ⟨by decide +kernel, rfl⟩
theorem m5_255 : Jmp1 prog_128_method_3_code 255 (.goto (-46)) (-46) 258 209 := ⟨by decide +kernel, rfl, by decide, by decide⟩
set_option maxRecDepth 65536 in
set_option maxHeartbeats 4000000 in
theorem own_L2 (Z : State) (a0 : Array Value) (κ : KT) (n0 : Nat) (Qx : Option Value → Heap → Prop) (C : Good κ ({ frames := 0, cells := 1, slots := 4, locals := 0 } : Room) Z "com/example/isolens/isolens/SessionBlocks" "oneByWriters" prog_128_method_3_code 15 (some .boolean)) (a b c d j : Addr) (cs sl : Nat) (so wr ws SL : List Nat) (hS : ∀ (i s : Nat), SL[i]? = some s → ∃ t, wr[i]? = some t ∧ so[t]? = some s ∧ s < 4 ∧ t < 100) (hold jb wk key : Int32) (kn e e1 : Nat) (hkey : key.toInt = kn) (hkn : kn ≤ 2) (hw0 : ws[kn]? = some e) (hw1 : ws[kn + 1]? = some e1) (he : e1 ≤ 100) (he0 : e ≤ 100) (s11 s12 : Slot) (nb : b ≠ j) (nc : c ≠ j) (nd : d ≠ j) (gj : n0 ≤ j) :
    ∀ (r : List Nat) (h : Heap) (cnt i : Int32) (J I A : Nat) (s14 : Slot) (Ab : Av Z h b .int (own_v so)) (Ac : Av Z h c .int (own_v ws)) (Ad : Av Z h d .int (own_v wr)) (Aj : Av Z h j .boolean (own_v (own_js J))) (os14 : One s14) (hJ : J < 16) (hi : i.toInt = I) (hr : ∀ (n s : Nat), r[n]? = some s → SL[I + n]? = some s) (hl : I + r.length = e1) (hc : cnt.toInt = A) (hA : A ≤ 200 + I) (k : ∀ (h' : Heap) (cnt' i' : Int32) (t14 : Slot), One t14 → cnt'.toInt = ((own_f2 r (J, A)).2 : Nat) → Av Z h' b .int (own_v so) → Av Z h' c .int (own_v ws) → Av Z h' d .int (own_v wr) → Av Z h' j .boolean (own_v (own_js (own_f2 r (J, A)).1)) → W κ n0 Qx h' cs sl 258 [.val (.ref a), .val (.ref b), .val (.ref c), .val (.ref d), .val (.int (4 : Int32)), .val (.int hold), .val (.ref j), .val (.int cnt'), .val (.int jb), .val (.int wk), .val (.int key), s11, s12, .val (.int i'), t14] []), W κ n0 Qx h cs sl 209 [.val (.ref a), .val (.ref b), .val (.ref c), .val (.ref d), .val (.int (4 : Int32)), .val (.int hold), .val (.ref j), .val (.int cnt), .val (.int jb), .val (.int wk), .val (.int key), s11, s12, .val (.int i), s14] [] := by
  have eE1 : (Int32.ofNat e1).toInt = e1 := ofNat_toInt (by omega)
  intro r
  induction r with
  | nil =>
    intro h cnt i J I A s14 Ab Ac Ad Aj os14 hJ hi hr hl hc hA k
    rw [List.length_nil] at hl
    refine W.iload C m5_209 rfl ?_
    refine W.aloadN C m5_211 rfl rfl ?_
    refine W.iload C m5_212 rfl ?_
    refine W.iconst C m5_214 (z := (1 : Int32)) rfl ?_
    refine W.iadd C m5_215 rfl ?_
    refine W.iaload C m5_216 Ac (i := kn + 1) (own_inc hkey (by omega)) (own_get hw1) ?_
    refine W.icmpY C m5_217 (show ((Int32.ofNat e1)).toInt ≤ i.toInt from (by omega)) ?_
    exact k _ _ _ _ os14 hc Ab Ac Ad Aj
  | cons s r ih =>
    intro h cnt i J I A s14 Ab Ac Ad Aj os14 hJ hi hr hl hc hA k
    rw [List.length_cons] at hl
    obtain ⟨t, ht, hs, hs4, ht1⟩ := hS I s (hr 0 s rfl)
    have eT : (Int32.ofNat t).toInt = t := ofNat_toInt (by omega)
    have eS : (Int32.ofNat s).toInt = s := ofNat_toInt (by omega)
    have hr' : ∀ (n s : Nat), r[n]? = some s → SL[I + 1 + n]? = some s := fun n s q => by rw [show I + 1 + n = I + (n + 1) by omega]; exact hr (n + 1) s (by simpa using q)
    rcases own_bit2 J s with hb | hb
    · skip
      have heq : own_f2 (s :: r) (J, A) = own_f2 r (J ||| 2 ^ s, A + 1) := by simp [own_f2, hb]
      rw [heq] at k
      refine W.iload C m5_209 rfl ?_
      refine W.aloadN C m5_211 rfl rfl ?_
      refine W.iload C m5_212 rfl ?_
      refine W.iconst C m5_214 (z := (1 : Int32)) rfl ?_
      refine W.iadd C m5_215 rfl ?_
      refine W.iaload C m5_216 Ac (i := kn + 1) (own_inc hkey (by omega)) (own_get hw1) ?_
      refine W.icmpN C m5_217 (show ¬ (((Int32.ofNat e1)).toInt ≤ i.toInt) from (by omega)) ?_
      refine W.aloadN C m5_220 rfl rfl ?_
      refine W.aloadN C m5_221 rfl rfl ?_
      refine W.iload C m5_222 rfl ?_
      refine W.iaload C m5_224 Ad (i := I) hi (own_get ht) ?_
      refine W.iaload C m5_225 Ab (i := t) eT (own_get hs) ?_
      refine W.istore C m5_226 (L' := [.val (.ref a), .val (.ref b), .val (.ref c), .val (.ref d), .val (.int (4 : Int32)), .val (.int hold), .val (.ref j), .val (.int cnt), .val (.int jb), .val (.int wk), .val (.int key), s11, s12, .val (.int i), .val (.int (Int32.ofNat s))]) (st1 rfl os14 rfl) ?_
      refine W.iload C m5_228 rfl ?_
      refine W.aload C m5_230 rfl rfl ?_
      refine W.iload C m5_232 rfl ?_
      refine W.zaload C m5_234 Aj (i := s) eS (by rw [own_get (own_jget hs4), hb] <;> rfl) ?_
      refine W.ifY C m5_235 (show (0 : Int) = (0 : Int) from (by decide)) ?_
      refine W.iconst C m5_242 (z := (1 : Int32)) rfl ?_
      refine W.iadd C m5_243 rfl ?_
      refine W.istore C m5_244 (L' := [.val (.ref a), .val (.ref b), .val (.ref c), .val (.ref d), .val (.int (4 : Int32)), .val (.int hold), .val (.ref j), .val (.int (cnt + (1 : Int32))), .val (.int jb), .val (.int wk), .val (.int key), s11, s12, .val (.int i), .val (.int (Int32.ofNat s))]) rfl ?_
      refine W.aload C m5_246 rfl rfl ?_
      refine W.iload C m5_248 rfl ?_
      refine W.iconst C m5_250 (z := (1 : Int32)) rfl ?_
      refine W.zastore C m5_251 Aj (i := s) eS (by rw [own_vlen]; exact hs4) gj ?_
      intro h1 W2 A3
      have A4 := Ab.other W2 nb
      have A5 := Ac.other W2 nc
      have A6 := Ad.other W2 nd
      have A7 : Av Z h1 j .boolean (own_v (own_js (J ||| 2 ^ s))) := by rw [← own_jset J hJ s hs4, ← own_vset]; exact A3
      refine W.iinc C m5_252 rfl (z := (i + (1 : Int32))) rfl (L' := [.val (.ref a), .val (.ref b), .val (.ref c), .val (.ref d), .val (.int (4 : Int32)), .val (.int hold), .val (.ref j), .val (.int (cnt + (1 : Int32))), .val (.int jb), .val (.int wk), .val (.int key), s11, s12, .val (.int (i + (1 : Int32))), .val (.int (Int32.ofNat s))]) rfl ?_
      refine W.goto C m5_255 ?_
      exact ih _ _ _ _ (I + 1) _ _ A4 A5 A6 A7 (One.val rfl) (own_jlt J hJ s hs4) (own_inc hi (by omega)) hr' (by omega) (own_inc hc (by omega)) (by omega) k
    · skip
      have heq : own_f2 (s :: r) (J, A) = own_f2 r (J ||| 2 ^ s, A + 0) := by simp [own_f2, hb]
      rw [heq] at k
      refine W.iload C m5_209 rfl ?_
      refine W.aloadN C m5_211 rfl rfl ?_
      refine W.iload C m5_212 rfl ?_
      refine W.iconst C m5_214 (z := (1 : Int32)) rfl ?_
      refine W.iadd C m5_215 rfl ?_
      refine W.iaload C m5_216 Ac (i := kn + 1) (own_inc hkey (by omega)) (own_get hw1) ?_
      refine W.icmpN C m5_217 (show ¬ (((Int32.ofNat e1)).toInt ≤ i.toInt) from (by omega)) ?_
      refine W.aloadN C m5_220 rfl rfl ?_
      refine W.aloadN C m5_221 rfl rfl ?_
      refine W.iload C m5_222 rfl ?_
      refine W.iaload C m5_224 Ad (i := I) hi (own_get ht) ?_
      refine W.iaload C m5_225 Ab (i := t) eT (own_get hs) ?_
      refine W.istore C m5_226 (L' := [.val (.ref a), .val (.ref b), .val (.ref c), .val (.ref d), .val (.int (4 : Int32)), .val (.int hold), .val (.ref j), .val (.int cnt), .val (.int jb), .val (.int wk), .val (.int key), s11, s12, .val (.int i), .val (.int (Int32.ofNat s))]) (st1 rfl os14 rfl) ?_
      refine W.iload C m5_228 rfl ?_
      refine W.aload C m5_230 rfl rfl ?_
      refine W.iload C m5_232 rfl ?_
      refine W.zaload C m5_234 Aj (i := s) eS (by rw [own_get (own_jget hs4), hb] <;> rfl) ?_
      refine W.ifN C m5_235 (show ¬ ((1 : Int) = (0 : Int)) from (by decide)) ?_
      refine W.iconst C m5_238 (z := (0 : Int32)) rfl ?_
      refine W.goto C m5_239 ?_
      refine W.iadd C m5_243 rfl ?_
      refine W.istore C m5_244 (L' := [.val (.ref a), .val (.ref b), .val (.ref c), .val (.ref d), .val (.int (4 : Int32)), .val (.int hold), .val (.ref j), .val (.int (cnt + (0 : Int32))), .val (.int jb), .val (.int wk), .val (.int key), s11, s12, .val (.int i), .val (.int (Int32.ofNat s))]) rfl ?_
      refine W.aload C m5_246 rfl rfl ?_
      refine W.iload C m5_248 rfl ?_
      refine W.iconst C m5_250 (z := (1 : Int32)) rfl ?_
      refine W.zastore C m5_251 Aj (i := s) eS (by rw [own_vlen]; exact hs4) gj ?_
      intro h8 W9 A10
      have A11 := Ab.other W9 nb
      have A12 := Ac.other W9 nc
      have A13 := Ad.other W9 nd
      have A14 : Av Z h8 j .boolean (own_v (own_js (J ||| 2 ^ s))) := by rw [← own_jset J hJ s hs4, ← own_vset]; exact A10
      refine W.iinc C m5_252 rfl (z := (i + (1 : Int32))) rfl (L' := [.val (.ref a), .val (.ref b), .val (.ref c), .val (.ref d), .val (.int (4 : Int32)), .val (.int hold), .val (.ref j), .val (.int (cnt + (0 : Int32))), .val (.int jb), .val (.int wk), .val (.int key), s11, s12, .val (.int (i + (1 : Int32))), .val (.int (Int32.ofNat s))]) rfl ?_
      refine W.goto C m5_255 ?_
      exact ih _ _ _ _ (I + 1) _ _ A11 A12 A13 A14 (One.val rfl) (own_jlt J hJ s hs4) (own_inc hi (by omega)) hr' (by omega) (own_add0 hc) (by omega) k
theorem own_pop4 (J : Nat) : own_pop J ≤ 4 := by unfold own_pop own_bit; omega
theorem own_popst : ∀ J, J < 16 → ∀ s, s < 4 → own_pop J + (1 - own_bit J s) = own_pop (J ||| 2 ^ s) := by decide +kernel
theorem own_f2pop {r : List Nat} (hr : ∀ s ∈ r, s < 4) : ∀ {a : Nat × Nat}, a.1 < 16 → a.2 = own_pop a.1 → (own_f2 r a).1 < 16 ∧ (own_f2 r a).2 = own_pop (own_f2 r a).1 := by
  induction r with
  | nil => intro a h1 h2; exact ⟨h1, h2⟩
  | cons s r ih =>
    intro a h1 h2
    have hs := hr s (List.mem_cons_self ..)
    exact ih (fun s hs => hr s (List.mem_cons_of_mem _ hs)) (a := (a.1 ||| 2 ^ s, a.2 + (1 - own_bit a.1 s))) (own_jlt _ h1 _ hs) (by show a.2 + _ = _; rw [h2]; exact own_popst _ h1 _ hs)
theorem own_keypop {H : Nat} {l : List Nat} {a : Nat × Nat} (hl : ∀ s ∈ l, s < 4) (h1 : a.1 < 16) (h2 : a.2 = own_pop a.1) : (own_key H l a).1 < 16 ∧ (own_key H l a).2 = own_pop (own_key H l a).1 := by
  unfold own_key; split
  · exact own_f2pop hl h1 h2
  · exact ⟨h1, h2⟩
theorem m5_90 : Ins1 prog_128_method_3_code 90 (.iload 10) 2 92 := ⟨by decide +kernel, rfl⟩
theorem m5_92 : Ins1 prog_128_method_3_code 92 (.iconst 1) 1 93 := ⟨by decide +kernel, rfl⟩
theorem m5_93 : Ins1 prog_128_method_3_code 93 (.iadd) 1 94 := ⟨by decide +kernel, rfl⟩
theorem m5_94 : Ins1 prog_128_method_3_code 94 (.aload_n 2) 1 95 := ⟨by decide +kernel, rfl⟩
theorem m5_95 : Ins1 prog_128_method_3_code 95 (.arraylength) 1 96 := ⟨by decide +kernel, rfl⟩
theorem m5_96 : Jmp1 prog_128_method_3_code 96 (.if_icmp .ge 168) 168 99 264 := ⟨by decide +kernel, rfl, by decide, by decide⟩
theorem m5_99 : Ins1 prog_128_method_3_code 99 (.iload 7) 2 101 := ⟨by decide +kernel, rfl⟩
theorem m5_101 : Ins1 prog_128_method_3_code 101 (.iload 5) 2 103 := ⟨by decide +kernel, rfl⟩
theorem m5_103 : Jmp1 prog_128_method_3_code 103 (.if_icmp .ge 161) 161 106 264 := ⟨by decide +kernel, rfl, by decide, by decide⟩
theorem m5_106 : Ins1 prog_128_method_3_code 106 (.iconst 0) 1 107 := ⟨by decide +kernel, rfl⟩
theorem m5_107 : Ins1 prog_128_method_3_code 107 (.istore 11) 2 109 := ⟨by decide +kernel, rfl⟩
theorem m5_109 : Ins1 prog_128_method_3_code 109 (.iconst 0) 1 110 := ⟨by decide +kernel, rfl⟩
theorem m5_110 : Ins1 prog_128_method_3_code 110 (.istore 12) 2 112 := ⟨by decide +kernel, rfl⟩
theorem m5_112 : Ins1 prog_128_method_3_code 112 (.aload_n 2) 1 113 := ⟨by decide +kernel, rfl⟩
theorem m5_113 : Ins1 prog_128_method_3_code 113 (.iload 10) 2 115 := ⟨by decide +kernel, rfl⟩
theorem m5_115 : Ins1 prog_128_method_3_code 115 (.iaload) 1 116 := ⟨by decide +kernel, rfl⟩
theorem m5_116 : Ins1 prog_128_method_3_code 116 (.istore 13) 2 118 := ⟨by decide +kernel, rfl⟩
theorem m5_186 : Ins1 prog_128_method_3_code 186 (.iload 12) 2 188 := ⟨by decide +kernel, rfl⟩
theorem m5_188 : Ins1 prog_128_method_3_code 188 (.iconst 2) 1 189 := ⟨by decide +kernel, rfl⟩
theorem m5_189 : Jmp1 prog_128_method_3_code 189 (.if_icmp .ge 14) 14 192 203 := ⟨by decide +kernel, rfl, by decide, by decide⟩
theorem m5_192 : Ins1 prog_128_method_3_code 192 (.iload 7) 2 194 := ⟨by decide +kernel, rfl⟩
theorem m5_194 : Jmp1 prog_128_method_3_code 194 (.ifCond .ne 64) 64 197 258 := ⟨by decide +kernel, rfl, by decide, by decide⟩
theorem m5_197 : Ins1 prog_128_method_3_code 197 (.iload 11) 2 199 := ⟨by decide +kernel, rfl⟩
theorem m5_199 : Ins1 prog_128_method_3_code 199 (.iconst 2) 1 200 := ⟨by decide +kernel, rfl⟩
theorem m5_200 : Jmp1 prog_128_method_3_code 200 (.if_icmp .lt 58) 58 203 258 := ⟨by decide +kernel, rfl, by decide, by decide⟩
theorem m5_203 : Ins1 prog_128_method_3_code 203 (.aload_n 2) 1 204 := ⟨by decide +kernel, rfl⟩
theorem m5_204 : Ins1 prog_128_method_3_code 204 (.iload 10) 2 206 := ⟨by decide +kernel, rfl⟩
theorem m5_206 : Ins1 prog_128_method_3_code 206 (.iaload) 1 207 := ⟨by decide +kernel, rfl⟩
theorem m5_207 : Ins1 prog_128_method_3_code 207 (.istore 13) 2 209 := ⟨by decide +kernel, rfl⟩
theorem m5_258 : Ins1 prog_128_method_3_code 258 (.iinc 10 1) 3 261 := ⟨by decide +kernel, rfl⟩
theorem m5_261 : Jmp1 prog_128_method_3_code 261 (.goto (-171)) (-171) 264 90 := ⟨by decide +kernel, rfl, by decide, by decide⟩
set_option maxRecDepth 65536 in
set_option maxHeartbeats 4000000 in
theorem own_K (Z : State) (a0 : Array Value) (κ : KT) (n0 : Nat) (Qx : Option Value → Heap → Prop) (C : Good κ ({ frames := 0, cells := 1, slots := 4, locals := 0 } : Room) Z "com/example/isolens/isolens/SessionBlocks" "oneByWriters" prog_128_method_3_code 15 (some .boolean)) (a b c d j : Addr) (cs sl : Nat) (so wr ws SL : List Nat) (hS : ∀ (i s : Nat), SL[i]? = some s → ∃ t, wr[i]? = some t ∧ so[t]? = some s ∧ s < 4 ∧ t < 100) (hold jb wk key : Int32) (kn e e1 : Nat) (hkey : key.toInt = kn) (hkn : kn ≤ 2) (hw0 : ws[kn]? = some e) (hw1 : ws[kn + 1]? = some e1) (he : e1 ≤ 100) (he0 : e ≤ 100) (nb : b ≠ j) (nc : c ≠ j) (nd : d ≠ j) (gj : n0 ≤ j) (hwl : ws.length = 4) (l : List Nat) (hr : ∀ (n s : Nat), l[n]? = some s → SL[e + n]? = some s) (hl : e + l.length = e1) (h : Heap) (cnt : Int32) (J A H : Nat) (Ab : Av Z h b .int (own_v so)) (Ac : Av Z h c .int (own_v ws)) (Ad : Av Z h d .int (own_v wr)) (Aj : Av Z h j .boolean (own_v (own_js J))) (s11 s12 s13 s14 : Slot) (os11 : One s11) (os12 : One s12) (os13 : One s13) (os14 : One s14) (hJ : J < 16) (hA : A ≤ 4) (hc : cnt.toInt = A) (hH : hold.toInt = H)
    (k1 : ¬ A < H → W κ n0 Qx h cs sl 264 [.val (.ref a), .val (.ref b), .val (.ref c), .val (.ref d), .val (.int (4 : Int32)), .val (.int hold), .val (.ref j), .val (.int cnt), .val (.int jb), .val (.int wk), .val (.int key), s11, s12, s13, s14] [])
    (k2 : ∀ (h' : Heap) (cnt' : Int32) (t11 t12 t13 t14 : Slot), One t11 → One t12 → One t13 → One t14 → cnt'.toInt = ((own_key H l (J, A)).2 : Nat) → Av Z h' b .int (own_v so) → Av Z h' c .int (own_v ws) → Av Z h' d .int (own_v wr) → Av Z h' j .boolean (own_v (own_js (own_key H l (J, A)).1)) → W κ n0 Qx h' cs sl 90 [.val (.ref a), .val (.ref b), .val (.ref c), .val (.ref d), .val (.int (4 : Int32)), .val (.int hold), .val (.ref j), .val (.int cnt'), .val (.int jb), .val (.int wk), .val (.int (key + (1 : Int32))), t11, t12, t13, t14] []) :
    W κ n0 Qx h cs sl 90 [.val (.ref a), .val (.ref b), .val (.ref c), .val (.ref d), .val (.int (4 : Int32)), .val (.int hold), .val (.ref j), .val (.int cnt), .val (.int jb), .val (.int wk), .val (.int key), s11, s12, s13, s14] [] := by
  have eE1 : (Int32.ofNat e1).toInt = e1 := ofNat_toInt (by omega)
  have eE0 : (Int32.ofNat e).toInt = e := ofNat_toInt (by omega)
  have ek := own_inc hkey (by omega)
  by_cases hAH : A < H
  · skip
    refine W.iload C m5_90 rfl ?_
    refine W.iconst C m5_92 (z := (1 : Int32)) rfl ?_
    refine W.iadd C m5_93 rfl ?_
    refine W.aloadN C m5_94 rfl rfl ?_
    refine W.arraylength C m5_95 Ac (z := (4 : Int32)) (by rw [own_vlen, hwl] <;> rfl) ?_
    refine W.icmpN C m5_96 (show ¬ ((4 : Int) ≤ ((key + (1 : Int32))).toInt) from (by omega)) ?_
    refine W.iload C m5_99 rfl ?_
    refine W.iload C m5_101 rfl ?_
    refine W.icmpN C m5_103 (show ¬ (hold.toInt ≤ cnt.toInt) from (by omega)) ?_
    refine W.iconst C m5_106 (z := (0 : Int32)) rfl ?_
    refine W.istore C m5_107 (L' := [.val (.ref a), .val (.ref b), .val (.ref c), .val (.ref d), .val (.int (4 : Int32)), .val (.int hold), .val (.ref j), .val (.int cnt), .val (.int jb), .val (.int wk), .val (.int key), .val (.int (0 : Int32)), s12, s13, s14]) (st1 rfl os11 rfl) ?_
    refine W.iconst C m5_109 (z := (0 : Int32)) rfl ?_
    refine W.istore C m5_110 (L' := [.val (.ref a), .val (.ref b), .val (.ref c), .val (.ref d), .val (.int (4 : Int32)), .val (.int hold), .val (.ref j), .val (.int cnt), .val (.int jb), .val (.int wk), .val (.int key), .val (.int (0 : Int32)), .val (.int (0 : Int32)), s13, s14]) (st1 rfl os12 rfl) ?_
    refine W.aloadN C m5_112 rfl rfl ?_
    refine W.iload C m5_113 rfl ?_
    refine W.iaload C m5_115 Ac (i := kn) hkey (own_get hw0) ?_
    refine W.istore C m5_116 (L' := [.val (.ref a), .val (.ref b), .val (.ref c), .val (.ref d), .val (.int (4 : Int32)), .val (.int hold), .val (.ref j), .val (.int cnt), .val (.int jb), .val (.int wk), .val (.int key), .val (.int (0 : Int32)), .val (.int (0 : Int32)), .val (.int (Int32.ofNat e)), s14]) (st1 rfl os13 rfl) ?_
    refine own_L1 Z a0 κ n0 Qx C a b c d j cs sl so wr ws SL hS hold jb wk key kn e e1 hkey hkn hw0 hw1 he he0 cnt J h Ab Ac Ad Aj l none _ _ _ e 0 0 _ os14 eE0 hr hl (Or.inl ⟨rfl, rfl⟩) rfl rfl (by omega) (by omega) ?_
    intro w' jw' i' t14 ot14 hw' hjw'
    refine W.iload C m5_186 rfl ?_
    refine W.iconst C m5_188 (z := (2 : Int32)) rfl ?_
    refine W.icmp C m5_189 ?_ ?_
    · intro (h189 : (2 : Int) ≤ jw'.toInt)
      refine W.aloadN C m5_203 rfl rfl ?_
      refine W.iload C m5_204 rfl ?_
      refine W.iaload C m5_206 Ac (i := kn) hkey (own_get hw0) ?_
      refine W.istore C m5_207 (L' := [.val (.ref a), .val (.ref b), .val (.ref c), .val (.ref d), .val (.int (4 : Int32)), .val (.int hold), .val (.ref j), .val (.int cnt), .val (.int jb), .val (.int wk), .val (.int key), .val (.int w'), .val (.int jw'), .val (.int (Int32.ofNat e)), t14]) rfl ?_
      have heq : own_key H l (J, A) = own_f2 l (J, A) := if_pos ⟨hAH, (by omega : 2 ≤ (own_f1 J none l (0, 0)).2 ∨ A = 0 ∧ 2 ≤ (own_f1 J none l (0, 0)).1)⟩
      rw [heq] at k2
      refine own_L2 Z a0 κ n0 Qx C a b c d j cs sl so wr ws SL hS hold jb wk key kn e e1 hkey hkn hw0 hw1 he he0 _ _ nb nc nd gj l h cnt _ J e A _ Ab Ac Ad Aj ot14 hJ eE0 hr hl hc (by omega) ?_
      intro h' cnt' i'' t14' ot14' hc' Ab' Ac' Ad' Aj'
      refine W.iinc C m5_258 rfl (z := (key + (1 : Int32))) rfl (L' := [.val (.ref a), .val (.ref b), .val (.ref c), .val (.ref d), .val (.int (4 : Int32)), .val (.int hold), .val (.ref j), .val (.int cnt'), .val (.int jb), .val (.int wk), .val (.int (key + (1 : Int32))), .val (.int w'), .val (.int jw'), .val (.int i''), t14']) rfl ?_
      refine W.goto C m5_261 ?_
      exact k2 _ _ _ _ _ _ (One.val rfl) (One.val rfl) (One.val rfl) ot14' hc' Ab' Ac' Ad' Aj'
    · intro (h189 : ¬ ((2 : Int) ≤ jw'.toInt))
      replace h189 : jw'.toInt < (2 : Int) := by omega
      refine W.iload C m5_192 rfl ?_
      refine W.ifc C m5_194 ?_ ?_
      · intro (h194 : ¬ cnt.toInt = (0 : Int))
        refine W.iinc C m5_258 rfl (z := (key + (1 : Int32))) rfl (L' := [.val (.ref a), .val (.ref b), .val (.ref c), .val (.ref d), .val (.int (4 : Int32)), .val (.int hold), .val (.ref j), .val (.int cnt), .val (.int jb), .val (.int wk), .val (.int (key + (1 : Int32))), .val (.int w'), .val (.int jw'), .val (.int i'), t14]) rfl ?_
        refine W.goto C m5_261 ?_
        have heq : own_key H l (J, A) = (J, A) := if_neg (fun q => (by omega : ¬ (A < H ∧ (2 ≤ (own_f1 J none l (0, 0)).2 ∨ A = 0 ∧ 2 ≤ (own_f1 J none l (0, 0)).1))) q)
        rw [heq] at k2
        exact k2 _ _ _ _ _ _ (One.val rfl) (One.val rfl) (One.val rfl) ot14 hc Ab Ac Ad Aj
      · intro (h194 : ¬ ¬ cnt.toInt = (0 : Int))
        replace h194 := Decidable.not_not.mp h194
        refine W.iload C m5_197 rfl ?_
        refine W.iconst C m5_199 (z := (2 : Int32)) rfl ?_
        refine W.icmp C m5_200 ?_ ?_
        · intro (h200 : w'.toInt < (2 : Int))
          refine W.iinc C m5_258 rfl (z := (key + (1 : Int32))) rfl (L' := [.val (.ref a), .val (.ref b), .val (.ref c), .val (.ref d), .val (.int (4 : Int32)), .val (.int hold), .val (.ref j), .val (.int cnt), .val (.int jb), .val (.int wk), .val (.int (key + (1 : Int32))), .val (.int w'), .val (.int jw'), .val (.int i'), t14]) rfl ?_
          refine W.goto C m5_261 ?_
          have heq : own_key H l (J, A) = (J, A) := if_neg (fun q => (by omega : ¬ (A < H ∧ (2 ≤ (own_f1 J none l (0, 0)).2 ∨ A = 0 ∧ 2 ≤ (own_f1 J none l (0, 0)).1))) q)
          rw [heq] at k2
          exact k2 _ _ _ _ _ _ (One.val rfl) (One.val rfl) (One.val rfl) ot14 hc Ab Ac Ad Aj
        · intro (h200 : ¬ (w'.toInt < (2 : Int)))
          replace h200 : (2 : Int) ≤ w'.toInt := by omega
          refine W.aloadN C m5_203 rfl rfl ?_
          refine W.iload C m5_204 rfl ?_
          refine W.iaload C m5_206 Ac (i := kn) hkey (own_get hw0) ?_
          refine W.istore C m5_207 (L' := [.val (.ref a), .val (.ref b), .val (.ref c), .val (.ref d), .val (.int (4 : Int32)), .val (.int hold), .val (.ref j), .val (.int cnt), .val (.int jb), .val (.int wk), .val (.int key), .val (.int w'), .val (.int jw'), .val (.int (Int32.ofNat e)), t14]) rfl ?_
          have heq : own_key H l (J, A) = own_f2 l (J, A) := if_pos ⟨hAH, (by omega : 2 ≤ (own_f1 J none l (0, 0)).2 ∨ A = 0 ∧ 2 ≤ (own_f1 J none l (0, 0)).1)⟩
          rw [heq] at k2
          refine own_L2 Z a0 κ n0 Qx C a b c d j cs sl so wr ws SL hS hold jb wk key kn e e1 hkey hkn hw0 hw1 he he0 _ _ nb nc nd gj l h cnt _ J e A _ Ab Ac Ad Aj ot14 hJ eE0 hr hl hc (by omega) ?_
          intro h' cnt' i'' t14' ot14' hc' Ab' Ac' Ad' Aj'
          refine W.iinc C m5_258 rfl (z := (key + (1 : Int32))) rfl (L' := [.val (.ref a), .val (.ref b), .val (.ref c), .val (.ref d), .val (.int (4 : Int32)), .val (.int hold), .val (.ref j), .val (.int cnt'), .val (.int jb), .val (.int wk), .val (.int (key + (1 : Int32))), .val (.int w'), .val (.int jw'), .val (.int i''), t14']) rfl ?_
          refine W.goto C m5_261 ?_
          exact k2 _ _ _ _ _ _ (One.val rfl) (One.val rfl) (One.val rfl) ot14' hc' Ab' Ac' Ad' Aj'
  · skip
    refine W.iload C m5_90 rfl ?_
    refine W.iconst C m5_92 (z := (1 : Int32)) rfl ?_
    refine W.iadd C m5_93 rfl ?_
    refine W.aloadN C m5_94 rfl rfl ?_
    refine W.arraylength C m5_95 Ac (z := (4 : Int32)) (by rw [own_vlen, hwl] <;> rfl) ?_
    refine W.icmpN C m5_96 (show ¬ ((4 : Int) ≤ ((key + (1 : Int32))).toInt) from (by omega)) ?_
    refine W.iload C m5_99 rfl ?_
    refine W.iload C m5_101 rfl ?_
    refine W.icmpY C m5_103 (show hold.toInt ≤ cnt.toInt from (by omega)) ?_
    exact k1 hAH
theorem own_seg {SL l0 l1 l2 : List Nat} (hSL : SL = l0 ++ l1 ++ l2) : (∀ (n s : Nat), l0[n]? = some s → SL[0 + n]? = some s) ∧ (∀ (n s : Nat), l1[n]? = some s → SL[l0.length + n]? = some s) ∧ (∀ (n s : Nat), l2[n]? = some s → SL[l0.length + l1.length + n]? = some s) := by
  have lt : ∀ {l : List Nat} {n s : Nat}, l[n]? = some s → n < l.length := fun {l n s} h => by
    rcases Nat.lt_or_ge n l.length with h1 | h1
    · exact h1
    · rw [List.getElem?_eq_none h1] at h; cases h
  subst hSL
  refine ⟨fun n s h => ?_, fun n s h => ?_, fun n s h => ?_⟩
  · have := lt h
    rw [Nat.zero_add, List.append_assoc, List.getElem?_append_left this]; exact h
  · have := lt h
    rw [List.append_assoc, List.getElem?_append_right (by omega), List.getElem?_append_left (by omega), show l0.length + n - l0.length = n by omega]; exact h
  · rw [List.getElem?_append_right (by simp <;> omega), show l0.length + l1.length + n - (l0 ++ l1).length = n by simp <;> omega]; exact h
theorem own_lt4 {SL so wr l : List Nat} {e : Nat} (hS : ∀ (i s : Nat), SL[i]? = some s → ∃ t, wr[i]? = some t ∧ so[t]? = some s ∧ s < 4 ∧ t < 100) (hr : ∀ (n s : Nat), l[n]? = some s → SL[e + n]? = some s) : ∀ s ∈ l, s < 4 := by
  intro s hs
  obtain ⟨n, hn⟩ := List.mem_iff_getElem?.mp hs
  obtain ⟨t, -, -, h, -⟩ := hS _ _ (hr n s hn)
  exact h

set_option maxRecDepth 65536 in
set_option maxHeartbeats 4000000 in
theorem own_WK (Z : State) (a0 : Array Value) (κ : KT) (n0 : Nat) (Qx : Option Value → Heap → Prop) (C : Good κ ({ frames := 0, cells := 1, slots := 4, locals := 0 } : Room) Z "com/example/isolens/isolens/SessionBlocks" "oneByWriters" prog_128_method_3_code 15 (some .boolean)) (a b c d j : Addr) (cs sl : Nat) (so wr SL : List Nat) (hS : ∀ (i s : Nat), SL[i]? = some s → ∃ t, wr[i]? = some t ∧ so[t]? = some s ∧ s < 4 ∧ t < 100) (hold : Int32) (H : Nat) (hH : hold.toInt = H) (l0 l1 l2 : List Nat) (hSL : SL = l0 ++ l1 ++ l2) (hlen : SL.length ≤ 24) (nb : b ≠ j) (nc : c ≠ j) (nd : d ≠ j) (gj : n0 ≤ j) (jb wk : Int32) (h : Heap) (cnt : Int32) (J A : Nat) (Ab : Av Z h b .int (own_v so)) (Ac : Av Z h c .int (own_v [0, l0.length, l0.length + l1.length, l0.length + l1.length + l2.length])) (Ad : Av Z h d .int (own_v wr)) (Aj : Av Z h j .boolean (own_v (own_js J))) (s11 s12 s13 s14 : Slot) (os11 : One s11) (os12 : One s12) (os13 : One s13) (os14 : One s14) (hJ : J < 16) (hA : A = own_pop J) (hc : cnt.toInt = A)
    (k : ∀ (h' : Heap) (cnt' : Int32) (x10 x11 x12 x13 x14 : Slot), One x10 → One x11 → One x12 → One x13 → One x14 → cnt'.toInt = ((own_walk H l0 l1 l2 (J, A)).2 : Nat) → Av Z h' b .int (own_v so) → Av Z h' c .int (own_v [0, l0.length, l0.length + l1.length, l0.length + l1.length + l2.length]) → Av Z h' d .int (own_v wr) → Av Z h' j .boolean (own_v (own_js (own_walk H l0 l1 l2 (J, A)).1)) → W κ n0 Qx h' cs sl 264 [.val (.ref a), .val (.ref b), .val (.ref c), .val (.ref d), .val (.int (4 : Int32)), .val (.int hold), .val (.ref j), .val (.int cnt'), .val (.int jb), .val (.int wk), x10, x11, x12, x13, x14] []) :
    W κ n0 Qx h cs sl 90 [.val (.ref a), .val (.ref b), .val (.ref c), .val (.ref d), .val (.int (4 : Int32)), .val (.int hold), .val (.ref j), .val (.int cnt), .val (.int jb), .val (.int wk), .val (.int (0 : Int32)), s11, s12, s13, s14] [] := by
  obtain ⟨hr0, hr1, hr2⟩ := own_seg hSL
  have hle : l0.length + l1.length + l2.length ≤ 24 := by rw [hSL] at hlen; simp at hlen; omega
  have p4 := own_pop4 J
  obtain ⟨q1, q2⟩ := own_keypop (H := H) (own_lt4 hS hr0) (a := (J, A)) hJ hA
  obtain ⟨q3, q4⟩ := own_keypop (H := H) (own_lt4 hS hr1) q1 q2
  have p5 := own_pop4 (own_key H l0 (J, A)).1
  have p6 := own_pop4 (own_key H l1 (own_key H l0 (J, A))).1
  have e1k : ((0 : Int32) + (1 : Int32)).toInt = ((1 : Nat) : Int) := rfl
  have e2k : ((0 : Int32) + (1 : Int32) + (1 : Int32)).toInt = ((2 : Nat) : Int) := rfl
  have e3k : ((0 : Int32) + (1 : Int32) + (1 : Int32) + (1 : Int32)).toInt = 3 := rfl
  refine own_K Z a0 κ n0 Qx C a b c d j cs sl so wr [0, l0.length, l0.length + l1.length, l0.length + l1.length + l2.length] SL hS hold jb wk (0 : Int32) 0 0 l0.length rfl (by omega) rfl rfl (by omega) (by omega) nb nc nd gj rfl l0 hr0 (by omega) h cnt J A H Ab Ac Ad Aj s11 s12 s13 s14 os11 os12 os13 os14 hJ (by omega) hc hH ?_ ?_
  · intro hge
    have z0 : own_key H l0 (J, A) = (J, A) := own_key_ge hge
    have z1 : own_key H l1 (J, A) = (J, A) := own_key_ge hge
    have z2 : own_key H l2 (J, A) = (J, A) := own_key_ge hge
    have zz : own_walk H l0 l1 l2 (J, A) = (J, A) := by unfold own_walk; rw [z0, z1, z2]
    rw [zz] at k
    exact k _ _ _ _ _ _ _ (One.val rfl) os11 os12 os13 os14 hc Ab Ac Ad Aj
  · intro h0 cnt0 t11 t12 t13 t14 ot11 ot12 ot13 ot14 hc0 Ab0 Ac0 Ad0 Aj0
    refine own_K Z a0 κ n0 Qx C a b c d j cs sl so wr [0, l0.length, l0.length + l1.length, l0.length + l1.length + l2.length] SL hS hold jb wk ((0 : Int32) + (1 : Int32)) 1 l0.length (l0.length + l1.length) e1k (by omega) rfl rfl (by omega) (by omega) nb nc nd gj rfl l1 hr1 (by omega) h0 cnt0 (own_key H l0 (J, A)).1 (own_key H l0 (J, A)).2 H Ab0 Ac0 Ad0 Aj0 t11 t12 t13 t14 ot11 ot12 ot13 ot14 q1 (by omega) hc0 hH ?_ ?_
    · intro hge
      have z1 : own_key H l1 (own_key H l0 (J, A)) = (own_key H l0 (J, A)) := own_key_ge hge
      have z2 : own_key H l2 (own_key H l0 (J, A)) = (own_key H l0 (J, A)) := own_key_ge hge
      have zz : own_walk H l0 l1 l2 (J, A) = (own_key H l0 (J, A)) := by unfold own_walk; rw [z1, z2]
      rw [zz] at k
      exact k _ _ _ _ _ _ _ (One.val rfl) ot11 ot12 ot13 ot14 hc0 Ab0 Ac0 Ad0 Aj0
    · intro h1 cnt1 u11 u12 u13 u14 ou11 ou12 ou13 ou14 hc1 Ab1 Ac1 Ad1 Aj1
      refine own_K Z a0 κ n0 Qx C a b c d j cs sl so wr [0, l0.length, l0.length + l1.length, l0.length + l1.length + l2.length] SL hS hold jb wk ((0 : Int32) + (1 : Int32) + (1 : Int32)) 2 (l0.length + l1.length) (l0.length + l1.length + l2.length) e2k (by omega) rfl rfl (by omega) (by omega) nb nc nd gj rfl l2 hr2 (by omega) h1 cnt1 (own_key H l1 (own_key H l0 (J, A))).1 (own_key H l1 (own_key H l0 (J, A))).2 H Ab1 Ac1 Ad1 Aj1 u11 u12 u13 u14 ou11 ou12 ou13 ou14 q3 (by omega) hc1 hH ?_ ?_
      · intro hge
        have z2 : own_key H l2 (own_key H l1 (own_key H l0 (J, A))) = (own_key H l1 (own_key H l0 (J, A))) := own_key_ge hge
        have zz : own_walk H l0 l1 l2 (J, A) = (own_key H l1 (own_key H l0 (J, A))) := by unfold own_walk; rw [z2]
        rw [zz] at k
        exact k _ _ _ _ _ _ _ (One.val rfl) ou11 ou12 ou13 ou14 hc1 Ab1 Ac1 Ad1 Aj1
      · intro h2 cnt2 v11 v12 v13 v14 ov11 ov12 ov13 ov14 hc2 Ab2 Ac2 Ad2 Aj2
        refine W.iload C m5_90 rfl ?_
        refine W.iconst C m5_92 (z := (1 : Int32)) rfl ?_
        refine W.iadd C m5_93 rfl ?_
        refine W.aloadN C m5_94 rfl rfl ?_
        refine W.arraylength C m5_95 Ac2 (z := (4 : Int32)) rfl ?_
        refine W.icmpY C m5_96 (show (4 : Int) ≤ ((((0 : Int32) + (1 : Int32) + (1 : Int32) + (1 : Int32)) + (1 : Int32))).toInt from (by decide)) ?_
        exact k _ _ _ _ _ _ _ (One.val rfl) ov11 ov12 ov13 ov14 hc2 Ab2 Ac2 Ad2 Aj2
theorem m5_63 : Ins1 prog_128_method_3_code 63 (.iload 9) 2 65 := ⟨by decide +kernel, rfl⟩
theorem m5_65 : Ins1 prog_128_method_3_code 65 (.iconst 3) 1 66 := ⟨by decide +kernel, rfl⟩
theorem m5_66 : Jmp1 prog_128_method_3_code 66 (.if_icmp .ge 204) 204 69 270 := ⟨by decide +kernel, rfl, by decide, by decide⟩
theorem m5_69 : Ins1 prog_128_method_3_code 69 (.iload 7) 2 71 := ⟨by decide +kernel, rfl⟩
theorem m5_71 : Ins1 prog_128_method_3_code 71 (.iload 8) 2 73 := ⟨by decide +kernel, rfl⟩
theorem m5_73 : Jmp1 prog_128_method_3_code 73 (.if_icmp .le 197) 197 76 270 := ⟨by decide +kernel, rfl, by decide, by decide⟩
theorem m5_76 : Ins1 prog_128_method_3_code 76 (.iload 7) 2 78 := ⟨by decide +kernel, rfl⟩
theorem m5_78 : Ins1 prog_128_method_3_code 78 (.iload 5) 2 80 := ⟨by decide +kernel, rfl⟩
theorem m5_80 : Jmp1 prog_128_method_3_code 80 (.if_icmp .ge 190) 190 83 270 := ⟨by decide +kernel, rfl, by decide, by decide⟩
theorem m5_83 : Ins1 prog_128_method_3_code 83 (.iload 7) 2 85 := ⟨by decide +kernel, rfl⟩
theorem m5_85 : Ins1 prog_128_method_3_code 85 (.istore 8) 2 87 := ⟨by decide +kernel, rfl⟩
theorem m5_87 : Ins1 prog_128_method_3_code 87 (.iconst 0) 1 88 := ⟨by decide +kernel, rfl⟩
theorem m5_88 : Ins1 prog_128_method_3_code 88 (.istore 10) 2 90 := ⟨by decide +kernel, rfl⟩
theorem m5_264 : Ins1 prog_128_method_3_code 264 (.iinc 9 1) 3 267 := ⟨by decide +kernel, rfl⟩
theorem m5_267 : Jmp1 prog_128_method_3_code 267 (.goto (-204)) (-204) 270 63 := ⟨by decide +kernel, rfl, by decide, by decide⟩
set_option maxRecDepth 65536 in
set_option maxHeartbeats 4000000 in
theorem own_OUT (Z : State) (a0 : Array Value) (κ : KT) (n0 : Nat) (Qx : Option Value → Heap → Prop) (C : Good κ ({ frames := 0, cells := 1, slots := 4, locals := 0 } : Room) Z "com/example/isolens/isolens/SessionBlocks" "oneByWriters" prog_128_method_3_code 15 (some .boolean)) (a b c d j : Addr) (cs sl : Nat) (so wr SL : List Nat) (hS : ∀ (i s : Nat), SL[i]? = some s → ∃ t, wr[i]? = some t ∧ so[t]? = some s ∧ s < 4 ∧ t < 100) (hold : Int32) (H : Nat) (hH : hold.toInt = H) (l0 l1 l2 : List Nat) (hSL : SL = l0 ++ l1 ++ l2) (hlen : SL.length ≤ 24) (nb : b ≠ j) (nc : c ≠ j) (nd : d ≠ j) (gj : n0 ≤ j) :
    ∀ (n : Nat) (jb wk : Int32) (h : Heap) (cnt : Int32) (J A : Nat) (B : Int) (Ab : Av Z h b .int (own_v so)) (Ac : Av Z h c .int (own_v [0, l0.length, l0.length + l1.length, l0.length + l1.length + l2.length])) (Ad : Av Z h d .int (own_v wr)) (Aj : Av Z h j .boolean (own_v (own_js J))) (s10 s11 s12 s13 s14 : Slot) (os10 : One s10) (os11 : One s11) (os12 : One s12) (os13 : One s13) (os14 : One s14) (hJ : J < 16) (hA : A = own_pop J) (hc : cnt.toInt = A) (hB : jb.toInt = B) (hwk : wk.toInt + n = 3) (hn : n ≤ 3)
    (k : ∀ (h' : Heap) (cnt' jb' wk' : Int32) (x10 x11 x12 x13 x14 : Slot), One x10 → One x11 → One x12 → One x13 → One x14 → cnt'.toInt = ((own_run H l0 l1 l2 n B (J, A)).2 : Nat) → W κ n0 Qx h' cs sl 270 [.val (.ref a), .val (.ref b), .val (.ref c), .val (.ref d), .val (.int (4 : Int32)), .val (.int hold), .val (.ref j), .val (.int cnt'), .val (.int jb'), .val (.int wk'), x10, x11, x12, x13, x14] []),
    W κ n0 Qx h cs sl 63 [.val (.ref a), .val (.ref b), .val (.ref c), .val (.ref d), .val (.int (4 : Int32)), .val (.int hold), .val (.ref j), .val (.int cnt), .val (.int jb), .val (.int wk), s10, s11, s12, s13, s14] [] := by
  intro n
  induction n with
  | zero =>
    intro jb wk h cnt J A B Ab Ac Ad Aj s10 s11 s12 s13 s14 os10 os11 os12 os13 os14 hJ hA hc hB hwk hn k
    refine W.iload C m5_63 rfl ?_
    refine W.iconst C m5_65 (z := (3 : Int32)) rfl ?_
    refine W.icmpY C m5_66 (show (3 : Int) ≤ wk.toInt from (by omega)) ?_
    exact k _ _ _ _ _ _ _ _ _ os10 os11 os12 os13 os14 hc
  | succ n ih =>
    intro jb wk h cnt J A B Ab Ac Ad Aj s10 s11 s12 s13 s14 os10 os11 os12 os13 os14 hJ hA hc hB hwk hn k
    have p4 := own_pop4 J
    by_cases h1 : B < (A : Int)
    · by_cases h2 : A < H
      · skip
        have heq : own_run H l0 l1 l2 (n + 1) B (J, A) = own_run H l0 l1 l2 n (A : Int) (own_walk H l0 l1 l2 (J, A)) := if_pos ⟨h1, h2⟩
        rw [heq] at k
        obtain ⟨hr0, hr1, hr2⟩ := own_seg hSL
        obtain ⟨q1, q2⟩ := own_keypop (H := H) (own_lt4 hS hr0) (a := (J, A)) hJ hA
        obtain ⟨q3, q4⟩ := own_keypop (H := H) (own_lt4 hS hr1) q1 q2
        obtain ⟨q5, q6⟩ := own_keypop (H := H) (own_lt4 hS hr2) q3 q4
        refine W.iload C m5_63 rfl ?_
        refine W.iconst C m5_65 (z := (3 : Int32)) rfl ?_
        refine W.icmpN C m5_66 (show ¬ ((3 : Int) ≤ wk.toInt) from (by omega)) ?_
        refine W.iload C m5_69 rfl ?_
        refine W.iload C m5_71 rfl ?_
        refine W.icmpN C m5_73 (show ¬ (cnt.toInt ≤ jb.toInt) from (by omega)) ?_
        refine W.iload C m5_76 rfl ?_
        refine W.iload C m5_78 rfl ?_
        refine W.icmpN C m5_80 (show ¬ (hold.toInt ≤ cnt.toInt) from (by omega)) ?_
        refine W.iload C m5_83 rfl ?_
        refine W.istore C m5_85 (L' := [.val (.ref a), .val (.ref b), .val (.ref c), .val (.ref d), .val (.int (4 : Int32)), .val (.int hold), .val (.ref j), .val (.int cnt), .val (.int cnt), .val (.int wk), s10, s11, s12, s13, s14]) rfl ?_
        refine W.iconst C m5_87 (z := (0 : Int32)) rfl ?_
        refine W.istore C m5_88 (L' := [.val (.ref a), .val (.ref b), .val (.ref c), .val (.ref d), .val (.int (4 : Int32)), .val (.int hold), .val (.ref j), .val (.int cnt), .val (.int cnt), .val (.int wk), .val (.int (0 : Int32)), s11, s12, s13, s14]) (st1 rfl os10 rfl) ?_
        refine own_WK Z a0 κ n0 Qx C a b c d j cs sl so wr SL hS hold H hH l0 l1 l2 hSL hlen nb nc nd gj cnt wk h cnt J A Ab Ac Ad Aj _ _ _ _ os11 os12 os13 os14 hJ hA hc ?_
        intro h' cnt' x10 x11 x12 x13 x14 ox10 ox11 ox12 ox13 ox14 hc' Ab' Ac' Ad' Aj'
        refine W.iinc C m5_264 rfl (z := (wk + (1 : Int32))) rfl (L' := [.val (.ref a), .val (.ref b), .val (.ref c), .val (.ref d), .val (.int (4 : Int32)), .val (.int hold), .val (.ref j), .val (.int cnt'), .val (.int cnt), .val (.int (wk + (1 : Int32))), x10, x11, x12, x13, x14]) rfl ?_
        refine W.goto C m5_267 ?_
        exact ih cnt _ h' cnt' _ _ _ Ab' Ac' Ad' Aj' _ _ _ _ _ ox10 ox11 ox12 ox13 ox14 q5 q6 hc' hc (by have := own_inc (x := wk) (k := 2 - n) (by omega) (by omega); omega) (by omega) k
      · skip
        have heq : own_run H l0 l1 l2 (n + 1) B (J, A) = (J, A) := if_neg (fun q => (by omega : ¬ (B < (A : Int) ∧ A < H)) q)
        rw [heq] at k
        refine W.iload C m5_63 rfl ?_
        refine W.iconst C m5_65 (z := (3 : Int32)) rfl ?_
        refine W.icmpN C m5_66 (show ¬ ((3 : Int) ≤ wk.toInt) from (by omega)) ?_
        refine W.iload C m5_69 rfl ?_
        refine W.iload C m5_71 rfl ?_
        refine W.icmpN C m5_73 (show ¬ (cnt.toInt ≤ jb.toInt) from (by omega)) ?_
        refine W.iload C m5_76 rfl ?_
        refine W.iload C m5_78 rfl ?_
        refine W.icmpY C m5_80 (show hold.toInt ≤ cnt.toInt from (by omega)) ?_
        exact k _ _ _ _ _ _ _ _ _ os10 os11 os12 os13 os14 hc
    · skip
      have heq : own_run H l0 l1 l2 (n + 1) B (J, A) = (J, A) := if_neg (fun q => (by omega : ¬ (B < (A : Int) ∧ A < H)) q)
      rw [heq] at k
      refine W.iload C m5_63 rfl ?_
      refine W.iconst C m5_65 (z := (3 : Int32)) rfl ?_
      refine W.icmpN C m5_66 (show ¬ ((3 : Int) ≤ wk.toInt) from (by omega)) ?_
      refine W.iload C m5_69 rfl ?_
      refine W.iload C m5_71 rfl ?_
      refine W.icmpY C m5_73 (show cnt.toInt ≤ jb.toInt from (by omega)) ?_
      exact k _ _ _ _ _ _ _ _ _ os10 os11 os12 os13 os14 hc
def own_res (H : Nat) (l0 l1 l2 : List Nat) : Nat := if H ≤ 1 ∨ (own_run H l0 l1 l2 3 (-1) (0, 0)).2 = H then 1 else 0
theorem m5_0 : Ins1 prog_128_method_3_code 0 (.aload_n 0) 1 1 := ⟨by decide +kernel, rfl⟩
theorem m5_1 : Ins1 prog_128_method_3_code 1 (.arraylength) 1 2 := ⟨by decide +kernel, rfl⟩
theorem m5_2 : Ins1 prog_128_method_3_code 2 (.iconst 1) 1 3 := ⟨by decide +kernel, rfl⟩
theorem m5_3 : Ins1 prog_128_method_3_code 3 (.isub) 1 4 := ⟨by decide +kernel, rfl⟩
theorem m5_4 : Ins1 prog_128_method_3_code 4 (.istore 4) 2 6 := ⟨by decide +kernel, rfl⟩
theorem m5_6 : Ins1 prog_128_method_3_code 6 (.iconst 0) 1 7 := ⟨by decide +kernel, rfl⟩
theorem m5_7 : Ins1 prog_128_method_3_code 7 (.istore 5) 2 9 := ⟨by decide +kernel, rfl⟩
theorem m5_9 : Ins1 prog_128_method_3_code 9 (.iconst 0) 1 10 := ⟨by decide +kernel, rfl⟩
theorem m5_10 : Ins1 prog_128_method_3_code 10 (.istore 6) 2 12 := ⟨by decide +kernel, rfl⟩
theorem m5_12 : Ins1 prog_128_method_3_code 12 (.iload 6) 2 14 := ⟨by decide +kernel, rfl⟩
theorem m5_14 : Ins1 prog_128_method_3_code 14 (.iload 4) 2 16 := ⟨by decide +kernel, rfl⟩
theorem m5_16 : Jmp1 prog_128_method_3_code 16 (.if_icmp .ge 32) 32 19 48 := ⟨by decide +kernel, rfl, by decide, by decide⟩
theorem m5_19 : Ins1 prog_128_method_3_code 19 (.iload 5) 2 21 := ⟨by decide +kernel, rfl⟩
theorem m5_21 : Ins1 prog_128_method_3_code 21 (.aload_n 0) 1 22 := ⟨by decide +kernel, rfl⟩
theorem m5_22 : Ins1 prog_128_method_3_code 22 (.iload 6) 2 24 := ⟨by decide +kernel, rfl⟩
theorem m5_24 : Ins1 prog_128_method_3_code 24 (.iaload) 1 25 := ⟨by decide +kernel, rfl⟩
theorem m5_25 : Ins1 prog_128_method_3_code 25 (.aload_n 0) 1 26 := ⟨by decide +kernel, rfl⟩
theorem m5_26 : Ins1 prog_128_method_3_code 26 (.iload 6) 2 28 := ⟨by decide +kernel, rfl⟩
theorem m5_28 : Ins1 prog_128_method_3_code 28 (.iconst 1) 1 29 := ⟨by decide +kernel, rfl⟩
theorem m5_29 : Ins1 prog_128_method_3_code 29 (.iadd) 1 30 := ⟨by decide +kernel, rfl⟩
theorem m5_30 : Ins1 prog_128_method_3_code 30 (.iaload) 1 31 := ⟨by decide +kernel, rfl⟩
theorem m5_31 : Jmp1 prog_128_method_3_code 31 (.if_icmp .ge 7) 7 34 38 := ⟨by decide +kernel, rfl, by decide, by decide⟩
theorem m5_34 : Ins1 prog_128_method_3_code 34 (.iconst 1) 1 35 := ⟨by decide +kernel, rfl⟩
theorem m5_35 : Jmp1 prog_128_method_3_code 35 (.goto 4) 4 38 39 := ⟨by decide +kernel, rfl, by decide, by decide⟩
theorem m5_38 : Ins1 prog_128_method_3_code 38 (.iconst 0) 1 39 := ⟨by decide +kernel, rfl⟩
theorem m5_39 : Ins1 prog_128_method_3_code 39 (.iadd) 1 40 := ⟨by decide +kernel, rfl⟩
theorem m5_40 : Ins1 prog_128_method_3_code 40 (.istore 5) 2 42 := ⟨by decide +kernel, rfl⟩
theorem m5_42 : Ins1 prog_128_method_3_code 42 (.iinc 6 1) 3 45 := ⟨by decide +kernel, rfl⟩
theorem m5_45 : Jmp1 prog_128_method_3_code 45 (.goto (-33)) (-33) 48 12 := ⟨by decide +kernel, rfl, by decide, by decide⟩
theorem m5_48 : Ins1 prog_128_method_3_code 48 (.iload 4) 2 50 := ⟨by decide +kernel, rfl⟩
theorem m5_50 : Ins1 prog_128_method_3_code 50 (.newarray .boolean) 2 52 := ⟨by decide +kernel, rfl⟩
theorem m5_52 : Ins1 prog_128_method_3_code 52 (.astore 6) 2 54 := ⟨by decide +kernel, rfl⟩
theorem m5_54 : Ins1 prog_128_method_3_code 54 (.iconst 0) 1 55 := ⟨by decide +kernel, rfl⟩
theorem m5_55 : Ins1 prog_128_method_3_code 55 (.istore 7) 2 57 := ⟨by decide +kernel, rfl⟩
theorem m5_57 : Ins1 prog_128_method_3_code 57 (.iconst (-1)) 1 58 := ⟨by decide +kernel, rfl⟩
theorem m5_58 : Ins1 prog_128_method_3_code 58 (.istore 8) 2 60 := ⟨by decide +kernel, rfl⟩
theorem m5_60 : Ins1 prog_128_method_3_code 60 (.iconst 0) 1 61 := ⟨by decide +kernel, rfl⟩
theorem m5_61 : Ins1 prog_128_method_3_code 61 (.istore 9) 2 63 := ⟨by decide +kernel, rfl⟩
theorem m5_270 : Ins1 prog_128_method_3_code 270 (.iload 5) 2 272 := ⟨by decide +kernel, rfl⟩
theorem m5_272 : Ins1 prog_128_method_3_code 272 (.iconst 1) 1 273 := ⟨by decide +kernel, rfl⟩
theorem m5_273 : Jmp1 prog_128_method_3_code 273 (.if_icmp .le 10) 10 276 283 := ⟨by decide +kernel, rfl, by decide, by decide⟩
theorem m5_276 : Ins1 prog_128_method_3_code 276 (.iload 7) 2 278 := ⟨by decide +kernel, rfl⟩
theorem m5_278 : Ins1 prog_128_method_3_code 278 (.iload 5) 2 280 := ⟨by decide +kernel, rfl⟩
theorem m5_280 : Jmp1 prog_128_method_3_code 280 (.if_icmp .ne 7) 7 283 287 := ⟨by decide +kernel, rfl, by decide, by decide⟩
theorem m5_283 : Ins1 prog_128_method_3_code 283 (.iconst 1) 1 284 := ⟨by decide +kernel, rfl⟩
theorem m5_284 : Jmp1 prog_128_method_3_code 284 (.goto 4) 4 287 288 := ⟨by decide +kernel, rfl, by decide, by decide⟩
theorem m5_287 : Ins1 prog_128_method_3_code 287 (.iconst 0) 1 288 := ⟨by decide +kernel, rfl⟩
theorem m5_288 : Ins1 prog_128_method_3_code 288 (.ireturn) 1 289 := ⟨by decide +kernel, rfl⟩
set_option maxRecDepth 65536 in
set_option maxHeartbeats 4000000 in
theorem own_one (Z : State) (a0 : Array Value) (hw : ∀ d ∈ tables_1, d.before a0 Z = true) (a : Addr) (b : Addr) (c : Addr) (d : Addr) (p0 p1 p2 p3 p4 g0 g1 g2 g3 H : Nat) (so wr SL l0 l1 l2 : List Nat) (h : Heap) (n0 : Nat) (z0 : n0 ≤ h.size) (Aa : Av Z h a .int (own_v [p0, p1, p2, p3, p4])) (Ab : Av Z h b .int (own_v so)) (Ac : Av Z h c .int (own_v [0, l0.length, l0.length + l1.length, l0.length + l1.length + l2.length])) (Ad : Av Z h d .int (own_v wr)) (hS : ∀ (i s : Nat), SL[i]? = some s → ∃ t, wr[i]? = some t ∧ so[t]? = some s ∧ s < 4 ∧ t < 100) (hSL : SL = l0 ++ l1 ++ l2) (hlen : SL.length ≤ 24) (hp : p0 ≤ 100 ∧ p1 ≤ 100 ∧ p2 ≤ 100 ∧ p3 ≤ 100 ∧ p4 ≤ 100) (hg0 : (p0 < p1 ∧ g0 = 1) ∨ (p1 ≤ p0 ∧ g0 = 0)) (hg1 : (p1 < p2 ∧ g1 = 1) ∨ (p2 ≤ p1 ∧ g1 = 0)) (hg2 : (p2 < p3 ∧ g2 = 1) ∨ (p3 ≤ p2 ∧ g2 = 0)) (hg3 : (p3 < p4 ∧ g3 = 1) ∨ (p4 ≤ p3 ∧ g3 = 0)) (hg : H = g0 + g1 + g2 + g3) :
    Con Z mY5 prog_128_method_3_code 15 (some .boolean) ({ frames := 0, cells := 1, slots := 4, locals := 0 } : Room) [(.ref a), (.ref b), (.ref c), (.ref d)] h n0 (fun v h' => v = some (.int (Int32.ofNat (own_res H l0 l1 l2)))) := by
  refine Con.of pl5 (L := [.val (.ref a), .val (.ref b), .val (.ref c), .val (.ref d), .unset, .unset, .unset, .unset, .unset, .unset, .unset, .unset, .unset, .unset, .unset]) (fun m => by first | (simp [entryFrame, mkF, argsToLocals, Value.category]; done) | rfl) ?_
  intro κ Qx hQ C
  have eP0 : (Int32.ofNat p0).toInt = p0 := ofNat_toInt (by omega)
  have eP1 : (Int32.ofNat p1).toInt = p1 := ofNat_toInt (by omega)
  have eP2 : (Int32.ofNat p2).toInt = p2 := ofNat_toInt (by omega)
  have eP3 : (Int32.ofNat p3).toInt = p3 := ofNat_toInt (by omega)
  have eP4 : (Int32.ofNat p4).toInt = p4 := ofNat_toInt (by omega)
  refine W.aloadN C m5_0 rfl rfl ?_
  refine W.arraylength C m5_1 Aa (z := (5 : Int32)) rfl ?_
  refine W.iconst C m5_2 (z := (1 : Int32)) rfl ?_
  refine W.isub C m5_3 (z := (4 : Int32)) rfl ?_
  refine W.istore C m5_4 (L' := [.val (.ref a), .val (.ref b), .val (.ref c), .val (.ref d), .val (.int (4 : Int32)), .unset, .unset, .unset, .unset, .unset, .unset, .unset, .unset, .unset, .unset]) rfl ?_
  refine W.iconst C m5_6 (z := (0 : Int32)) rfl ?_
  refine W.istore C m5_7 (L' := [.val (.ref a), .val (.ref b), .val (.ref c), .val (.ref d), .val (.int (4 : Int32)), .val (.int (0 : Int32)), .unset, .unset, .unset, .unset, .unset, .unset, .unset, .unset, .unset]) rfl ?_
  refine W.iconst C m5_9 (z := (0 : Int32)) rfl ?_
  refine W.istore C m5_10 (L' := [.val (.ref a), .val (.ref b), .val (.ref c), .val (.ref d), .val (.int (4 : Int32)), .val (.int (0 : Int32)), .val (.int (0 : Int32)), .unset, .unset, .unset, .unset, .unset, .unset, .unset, .unset]) rfl ?_
  refine W.iload C m5_12 rfl ?_
  refine W.iload C m5_14 rfl ?_
  refine W.icmpN C m5_16 (show ¬ ((4 : Int) ≤ (0 : Int)) from (by decide)) ?_
  refine W.iload C m5_19 rfl ?_
  refine W.aloadN C m5_21 rfl rfl ?_
  refine W.iload C m5_22 rfl ?_
  refine W.iaload C m5_24 Aa (i := 0) rfl rfl ?_
  refine W.aloadN C m5_25 rfl rfl ?_
  refine W.iload C m5_26 rfl ?_
  refine W.iconst C m5_28 (z := (1 : Int32)) rfl ?_
  refine W.iadd C m5_29 (z := (1 : Int32)) rfl ?_
  refine W.iaload C m5_30 Aa (i := 1) rfl rfl ?_
  refine W.icmp C m5_31 ?_ ?_
  · intro (h31 : ((Int32.ofNat p1)).toInt ≤ ((Int32.ofNat p0)).toInt)
    refine W.iconst C m5_38 (z := (0 : Int32)) rfl ?_
    refine W.iadd C m5_39 (z := (0 : Int32)) rfl ?_
    refine W.istore C m5_40 (L' := [.val (.ref a), .val (.ref b), .val (.ref c), .val (.ref d), .val (.int (4 : Int32)), .val (.int (0 : Int32)), .val (.int (0 : Int32)), .unset, .unset, .unset, .unset, .unset, .unset, .unset, .unset]) rfl ?_
    refine W.iinc C m5_42 rfl (z := (1 : Int32)) rfl (L' := [.val (.ref a), .val (.ref b), .val (.ref c), .val (.ref d), .val (.int (4 : Int32)), .val (.int (0 : Int32)), .val (.int (1 : Int32)), .unset, .unset, .unset, .unset, .unset, .unset, .unset, .unset]) rfl ?_
    refine W.goto C m5_45 ?_
    refine W.iload C m5_12 rfl ?_
    refine W.iload C m5_14 rfl ?_
    refine W.icmpN C m5_16 (show ¬ ((4 : Int) ≤ (1 : Int)) from (by decide)) ?_
    refine W.iload C m5_19 rfl ?_
    refine W.aloadN C m5_21 rfl rfl ?_
    refine W.iload C m5_22 rfl ?_
    refine W.iaload C m5_24 Aa (i := 1) rfl rfl ?_
    refine W.aloadN C m5_25 rfl rfl ?_
    refine W.iload C m5_26 rfl ?_
    refine W.iconst C m5_28 (z := (1 : Int32)) rfl ?_
    refine W.iadd C m5_29 (z := (2 : Int32)) rfl ?_
    refine W.iaload C m5_30 Aa (i := 2) rfl rfl ?_
    refine W.icmp C m5_31 ?_ ?_
    · intro (h31 : ((Int32.ofNat p2)).toInt ≤ ((Int32.ofNat p1)).toInt)
      refine W.iconst C m5_38 (z := (0 : Int32)) rfl ?_
      refine W.iadd C m5_39 (z := (0 : Int32)) rfl ?_
      refine W.istore C m5_40 (L' := [.val (.ref a), .val (.ref b), .val (.ref c), .val (.ref d), .val (.int (4 : Int32)), .val (.int (0 : Int32)), .val (.int (1 : Int32)), .unset, .unset, .unset, .unset, .unset, .unset, .unset, .unset]) rfl ?_
      refine W.iinc C m5_42 rfl (z := (2 : Int32)) rfl (L' := [.val (.ref a), .val (.ref b), .val (.ref c), .val (.ref d), .val (.int (4 : Int32)), .val (.int (0 : Int32)), .val (.int (2 : Int32)), .unset, .unset, .unset, .unset, .unset, .unset, .unset, .unset]) rfl ?_
      refine W.goto C m5_45 ?_
      refine W.iload C m5_12 rfl ?_
      refine W.iload C m5_14 rfl ?_
      refine W.icmpN C m5_16 (show ¬ ((4 : Int) ≤ (2 : Int)) from (by decide)) ?_
      refine W.iload C m5_19 rfl ?_
      refine W.aloadN C m5_21 rfl rfl ?_
      refine W.iload C m5_22 rfl ?_
      refine W.iaload C m5_24 Aa (i := 2) rfl rfl ?_
      refine W.aloadN C m5_25 rfl rfl ?_
      refine W.iload C m5_26 rfl ?_
      refine W.iconst C m5_28 (z := (1 : Int32)) rfl ?_
      refine W.iadd C m5_29 (z := (3 : Int32)) rfl ?_
      refine W.iaload C m5_30 Aa (i := 3) rfl rfl ?_
      refine W.icmp C m5_31 ?_ ?_
      · intro (h31 : ((Int32.ofNat p3)).toInt ≤ ((Int32.ofNat p2)).toInt)
        refine W.iconst C m5_38 (z := (0 : Int32)) rfl ?_
        refine W.iadd C m5_39 (z := (0 : Int32)) rfl ?_
        refine W.istore C m5_40 (L' := [.val (.ref a), .val (.ref b), .val (.ref c), .val (.ref d), .val (.int (4 : Int32)), .val (.int (0 : Int32)), .val (.int (2 : Int32)), .unset, .unset, .unset, .unset, .unset, .unset, .unset, .unset]) rfl ?_
        refine W.iinc C m5_42 rfl (z := (3 : Int32)) rfl (L' := [.val (.ref a), .val (.ref b), .val (.ref c), .val (.ref d), .val (.int (4 : Int32)), .val (.int (0 : Int32)), .val (.int (3 : Int32)), .unset, .unset, .unset, .unset, .unset, .unset, .unset, .unset]) rfl ?_
        refine W.goto C m5_45 ?_
        refine W.iload C m5_12 rfl ?_
        refine W.iload C m5_14 rfl ?_
        refine W.icmpN C m5_16 (show ¬ ((4 : Int) ≤ (3 : Int)) from (by decide)) ?_
        refine W.iload C m5_19 rfl ?_
        refine W.aloadN C m5_21 rfl rfl ?_
        refine W.iload C m5_22 rfl ?_
        refine W.iaload C m5_24 Aa (i := 3) rfl rfl ?_
        refine W.aloadN C m5_25 rfl rfl ?_
        refine W.iload C m5_26 rfl ?_
        refine W.iconst C m5_28 (z := (1 : Int32)) rfl ?_
        refine W.iadd C m5_29 (z := (4 : Int32)) rfl ?_
        refine W.iaload C m5_30 Aa (i := 4) rfl rfl ?_
        refine W.icmp C m5_31 ?_ ?_
        · intro (h31 : ((Int32.ofNat p4)).toInt ≤ ((Int32.ofNat p3)).toInt)
          refine W.iconst C m5_38 (z := (0 : Int32)) rfl ?_
          refine W.iadd C m5_39 (z := (0 : Int32)) rfl ?_
          refine W.istore C m5_40 (L' := [.val (.ref a), .val (.ref b), .val (.ref c), .val (.ref d), .val (.int (4 : Int32)), .val (.int (0 : Int32)), .val (.int (3 : Int32)), .unset, .unset, .unset, .unset, .unset, .unset, .unset, .unset]) rfl ?_
          refine W.iinc C m5_42 rfl (z := (4 : Int32)) rfl (L' := [.val (.ref a), .val (.ref b), .val (.ref c), .val (.ref d), .val (.int (4 : Int32)), .val (.int (0 : Int32)), .val (.int (4 : Int32)), .unset, .unset, .unset, .unset, .unset, .unset, .unset, .unset]) rfl ?_
          refine W.goto C m5_45 ?_
          refine W.iload C m5_12 rfl ?_
          refine W.iload C m5_14 rfl ?_
          refine W.icmpY C m5_16 (show (4 : Int) ≤ (4 : Int) from (by decide)) ?_
          refine W.iload C m5_48 rfl ?_
          refine W.newarray (a0 := a0) (vs := [(.int (0 : Int32)), (.int (0 : Int32)), (.int (0 : Int32)), (.int (0 : Int32))]) 4 C m5_50 rfl (hw _ (List.mem_of_getElem? (i := 19) rfl)) (by decide) (by decide) rfl (by decide) (by decide) (by decide) ?_
          intro h1 a2 g3 E4 A5
          have ne6 : a ≠ a2 := Nat.ne_of_lt (Nat.lt_of_lt_of_eq Aa.lt g3)
          have ne7 : b ≠ a2 := Nat.ne_of_lt (Nat.lt_of_lt_of_eq Ab.lt g3)
          have ne8 : c ≠ a2 := Nat.ne_of_lt (Nat.lt_of_lt_of_eq Ac.lt g3)
          have ne9 : d ≠ a2 := Nat.ne_of_lt (Nat.lt_of_lt_of_eq Ad.lt g3)
          have g10 : n0 ≤ a2 := Nat.le_trans z0 (Nat.le_of_eq g3)
          have A11 := Aa.ext E4
          have A12 := Ab.ext E4
          have A13 := Ac.ext E4
          have A14 := Ad.ext E4
          have z15 : n0 ≤ h1.size := Nat.le_trans z0 E4.1
          show W κ n0 Qx h1 1 4 52 [.val (.ref a), .val (.ref b), .val (.ref c), .val (.ref d), .val (.int (4 : Int32)), .val (.int (0 : Int32)), .val (.int (4 : Int32)), .unset, .unset, .unset, .unset, .unset, .unset, .unset, .unset] [(.ref a2)]
          refine W.astore C m5_52 (L' := [.val (.ref a), .val (.ref b), .val (.ref c), .val (.ref d), .val (.int (4 : Int32)), .val (.int (0 : Int32)), .val (.ref a2), .unset, .unset, .unset, .unset, .unset, .unset, .unset, .unset]) rfl rfl ?_
          refine W.iconst C m5_54 (z := (0 : Int32)) rfl ?_
          refine W.istore C m5_55 (L' := [.val (.ref a), .val (.ref b), .val (.ref c), .val (.ref d), .val (.int (4 : Int32)), .val (.int (0 : Int32)), .val (.ref a2), .val (.int (0 : Int32)), .unset, .unset, .unset, .unset, .unset, .unset, .unset]) rfl ?_
          refine W.iconst C m5_57 (z := (-1 : Int32)) rfl ?_
          refine W.istore C m5_58 (L' := [.val (.ref a), .val (.ref b), .val (.ref c), .val (.ref d), .val (.int (4 : Int32)), .val (.int (0 : Int32)), .val (.ref a2), .val (.int (0 : Int32)), .val (.int (-1 : Int32)), .unset, .unset, .unset, .unset, .unset, .unset]) rfl ?_
          refine W.iconst C m5_60 (z := (0 : Int32)) rfl ?_
          refine W.istore C m5_61 (L' := [.val (.ref a), .val (.ref b), .val (.ref c), .val (.ref d), .val (.int (4 : Int32)), .val (.int (0 : Int32)), .val (.ref a2), .val (.int (0 : Int32)), .val (.int (-1 : Int32)), .val (.int (0 : Int32)), .unset, .unset, .unset, .unset, .unset]) rfl ?_
          have hH : (0 : Int32).toInt = (H : Int) := by show (0 : Int) = H; omega
          refine own_OUT Z a0 κ n0 Qx C a b c d a2 1 4 so wr SL hS (0 : Int32) H hH l0 l1 l2 hSL hlen ne7 ne8 ne9 g10 3 (-1 : Int32) (0 : Int32) h1 (0 : Int32) 0 0 (-1) A12 A13 A14 A5 _ _ _ _ _ One.u One.u One.u One.u One.u (by decide) rfl rfl rfl rfl (Nat.le_refl _) ?_
          intro h' cnt' jb' wk' x10 x11 x12 x13 x14 ox10 ox11 ox12 ox13 ox14 hc'
          refine W.iload C m5_270 rfl ?_
          refine W.iconst C m5_272 (z := (1 : Int32)) rfl ?_
          refine W.icmpY C m5_273 (show (0 : Int) ≤ (1 : Int) from (by decide)) ?_
          refine W.iconst C m5_283 (z := (1 : Int32)) rfl ?_
          refine W.goto C m5_284 ?_
          refine W.zreturn C m5_288 (hQ _ _ ?_)
          have hr : own_res H l0 l1 l2 = 1 := by unfold own_res; exact if_pos (by omega)
          rw [hr]; rfl
        · intro (h31 : ¬ (((Int32.ofNat p4)).toInt ≤ ((Int32.ofNat p3)).toInt))
          replace h31 : ((Int32.ofNat p3)).toInt < ((Int32.ofNat p4)).toInt := by omega
          refine W.iconst C m5_34 (z := (1 : Int32)) rfl ?_
          refine W.goto C m5_35 ?_
          refine W.iadd C m5_39 (z := (1 : Int32)) rfl ?_
          refine W.istore C m5_40 (L' := [.val (.ref a), .val (.ref b), .val (.ref c), .val (.ref d), .val (.int (4 : Int32)), .val (.int (1 : Int32)), .val (.int (3 : Int32)), .unset, .unset, .unset, .unset, .unset, .unset, .unset, .unset]) rfl ?_
          refine W.iinc C m5_42 rfl (z := (4 : Int32)) rfl (L' := [.val (.ref a), .val (.ref b), .val (.ref c), .val (.ref d), .val (.int (4 : Int32)), .val (.int (1 : Int32)), .val (.int (4 : Int32)), .unset, .unset, .unset, .unset, .unset, .unset, .unset, .unset]) rfl ?_
          refine W.goto C m5_45 ?_
          refine W.iload C m5_12 rfl ?_
          refine W.iload C m5_14 rfl ?_
          refine W.icmpY C m5_16 (show (4 : Int) ≤ (4 : Int) from (by decide)) ?_
          refine W.iload C m5_48 rfl ?_
          refine W.newarray (a0 := a0) (vs := [(.int (0 : Int32)), (.int (0 : Int32)), (.int (0 : Int32)), (.int (0 : Int32))]) 4 C m5_50 rfl (hw _ (List.mem_of_getElem? (i := 19) rfl)) (by decide) (by decide) rfl (by decide) (by decide) (by decide) ?_
          intro h1 a2 g3 E4 A5
          have ne6 : a ≠ a2 := Nat.ne_of_lt (Nat.lt_of_lt_of_eq Aa.lt g3)
          have ne7 : b ≠ a2 := Nat.ne_of_lt (Nat.lt_of_lt_of_eq Ab.lt g3)
          have ne8 : c ≠ a2 := Nat.ne_of_lt (Nat.lt_of_lt_of_eq Ac.lt g3)
          have ne9 : d ≠ a2 := Nat.ne_of_lt (Nat.lt_of_lt_of_eq Ad.lt g3)
          have g10 : n0 ≤ a2 := Nat.le_trans z0 (Nat.le_of_eq g3)
          have A11 := Aa.ext E4
          have A12 := Ab.ext E4
          have A13 := Ac.ext E4
          have A14 := Ad.ext E4
          have z15 : n0 ≤ h1.size := Nat.le_trans z0 E4.1
          show W κ n0 Qx h1 1 4 52 [.val (.ref a), .val (.ref b), .val (.ref c), .val (.ref d), .val (.int (4 : Int32)), .val (.int (1 : Int32)), .val (.int (4 : Int32)), .unset, .unset, .unset, .unset, .unset, .unset, .unset, .unset] [(.ref a2)]
          refine W.astore C m5_52 (L' := [.val (.ref a), .val (.ref b), .val (.ref c), .val (.ref d), .val (.int (4 : Int32)), .val (.int (1 : Int32)), .val (.ref a2), .unset, .unset, .unset, .unset, .unset, .unset, .unset, .unset]) rfl rfl ?_
          refine W.iconst C m5_54 (z := (0 : Int32)) rfl ?_
          refine W.istore C m5_55 (L' := [.val (.ref a), .val (.ref b), .val (.ref c), .val (.ref d), .val (.int (4 : Int32)), .val (.int (1 : Int32)), .val (.ref a2), .val (.int (0 : Int32)), .unset, .unset, .unset, .unset, .unset, .unset, .unset]) rfl ?_
          refine W.iconst C m5_57 (z := (-1 : Int32)) rfl ?_
          refine W.istore C m5_58 (L' := [.val (.ref a), .val (.ref b), .val (.ref c), .val (.ref d), .val (.int (4 : Int32)), .val (.int (1 : Int32)), .val (.ref a2), .val (.int (0 : Int32)), .val (.int (-1 : Int32)), .unset, .unset, .unset, .unset, .unset, .unset]) rfl ?_
          refine W.iconst C m5_60 (z := (0 : Int32)) rfl ?_
          refine W.istore C m5_61 (L' := [.val (.ref a), .val (.ref b), .val (.ref c), .val (.ref d), .val (.int (4 : Int32)), .val (.int (1 : Int32)), .val (.ref a2), .val (.int (0 : Int32)), .val (.int (-1 : Int32)), .val (.int (0 : Int32)), .unset, .unset, .unset, .unset, .unset]) rfl ?_
          have hH : (1 : Int32).toInt = (H : Int) := by show (1 : Int) = H; omega
          refine own_OUT Z a0 κ n0 Qx C a b c d a2 1 4 so wr SL hS (1 : Int32) H hH l0 l1 l2 hSL hlen ne7 ne8 ne9 g10 3 (-1 : Int32) (0 : Int32) h1 (0 : Int32) 0 0 (-1) A12 A13 A14 A5 _ _ _ _ _ One.u One.u One.u One.u One.u (by decide) rfl rfl rfl rfl (Nat.le_refl _) ?_
          intro h' cnt' jb' wk' x10 x11 x12 x13 x14 ox10 ox11 ox12 ox13 ox14 hc'
          refine W.iload C m5_270 rfl ?_
          refine W.iconst C m5_272 (z := (1 : Int32)) rfl ?_
          refine W.icmpY C m5_273 (show (1 : Int) ≤ (1 : Int) from (by decide)) ?_
          refine W.iconst C m5_283 (z := (1 : Int32)) rfl ?_
          refine W.goto C m5_284 ?_
          refine W.zreturn C m5_288 (hQ _ _ ?_)
          have hr : own_res H l0 l1 l2 = 1 := by unfold own_res; exact if_pos (by omega)
          rw [hr]; rfl
      · intro (h31 : ¬ (((Int32.ofNat p3)).toInt ≤ ((Int32.ofNat p2)).toInt))
        replace h31 : ((Int32.ofNat p2)).toInt < ((Int32.ofNat p3)).toInt := by omega
        refine W.iconst C m5_34 (z := (1 : Int32)) rfl ?_
        refine W.goto C m5_35 ?_
        refine W.iadd C m5_39 (z := (1 : Int32)) rfl ?_
        refine W.istore C m5_40 (L' := [.val (.ref a), .val (.ref b), .val (.ref c), .val (.ref d), .val (.int (4 : Int32)), .val (.int (1 : Int32)), .val (.int (2 : Int32)), .unset, .unset, .unset, .unset, .unset, .unset, .unset, .unset]) rfl ?_
        refine W.iinc C m5_42 rfl (z := (3 : Int32)) rfl (L' := [.val (.ref a), .val (.ref b), .val (.ref c), .val (.ref d), .val (.int (4 : Int32)), .val (.int (1 : Int32)), .val (.int (3 : Int32)), .unset, .unset, .unset, .unset, .unset, .unset, .unset, .unset]) rfl ?_
        refine W.goto C m5_45 ?_
        refine W.iload C m5_12 rfl ?_
        refine W.iload C m5_14 rfl ?_
        refine W.icmpN C m5_16 (show ¬ ((4 : Int) ≤ (3 : Int)) from (by decide)) ?_
        refine W.iload C m5_19 rfl ?_
        refine W.aloadN C m5_21 rfl rfl ?_
        refine W.iload C m5_22 rfl ?_
        refine W.iaload C m5_24 Aa (i := 3) rfl rfl ?_
        refine W.aloadN C m5_25 rfl rfl ?_
        refine W.iload C m5_26 rfl ?_
        refine W.iconst C m5_28 (z := (1 : Int32)) rfl ?_
        refine W.iadd C m5_29 (z := (4 : Int32)) rfl ?_
        refine W.iaload C m5_30 Aa (i := 4) rfl rfl ?_
        refine W.icmp C m5_31 ?_ ?_
        · intro (h31 : ((Int32.ofNat p4)).toInt ≤ ((Int32.ofNat p3)).toInt)
          refine W.iconst C m5_38 (z := (0 : Int32)) rfl ?_
          refine W.iadd C m5_39 (z := (1 : Int32)) rfl ?_
          refine W.istore C m5_40 (L' := [.val (.ref a), .val (.ref b), .val (.ref c), .val (.ref d), .val (.int (4 : Int32)), .val (.int (1 : Int32)), .val (.int (3 : Int32)), .unset, .unset, .unset, .unset, .unset, .unset, .unset, .unset]) rfl ?_
          refine W.iinc C m5_42 rfl (z := (4 : Int32)) rfl (L' := [.val (.ref a), .val (.ref b), .val (.ref c), .val (.ref d), .val (.int (4 : Int32)), .val (.int (1 : Int32)), .val (.int (4 : Int32)), .unset, .unset, .unset, .unset, .unset, .unset, .unset, .unset]) rfl ?_
          refine W.goto C m5_45 ?_
          refine W.iload C m5_12 rfl ?_
          refine W.iload C m5_14 rfl ?_
          refine W.icmpY C m5_16 (show (4 : Int) ≤ (4 : Int) from (by decide)) ?_
          refine W.iload C m5_48 rfl ?_
          refine W.newarray (a0 := a0) (vs := [(.int (0 : Int32)), (.int (0 : Int32)), (.int (0 : Int32)), (.int (0 : Int32))]) 4 C m5_50 rfl (hw _ (List.mem_of_getElem? (i := 19) rfl)) (by decide) (by decide) rfl (by decide) (by decide) (by decide) ?_
          intro h1 a2 g3 E4 A5
          have ne6 : a ≠ a2 := Nat.ne_of_lt (Nat.lt_of_lt_of_eq Aa.lt g3)
          have ne7 : b ≠ a2 := Nat.ne_of_lt (Nat.lt_of_lt_of_eq Ab.lt g3)
          have ne8 : c ≠ a2 := Nat.ne_of_lt (Nat.lt_of_lt_of_eq Ac.lt g3)
          have ne9 : d ≠ a2 := Nat.ne_of_lt (Nat.lt_of_lt_of_eq Ad.lt g3)
          have g10 : n0 ≤ a2 := Nat.le_trans z0 (Nat.le_of_eq g3)
          have A11 := Aa.ext E4
          have A12 := Ab.ext E4
          have A13 := Ac.ext E4
          have A14 := Ad.ext E4
          have z15 : n0 ≤ h1.size := Nat.le_trans z0 E4.1
          show W κ n0 Qx h1 1 4 52 [.val (.ref a), .val (.ref b), .val (.ref c), .val (.ref d), .val (.int (4 : Int32)), .val (.int (1 : Int32)), .val (.int (4 : Int32)), .unset, .unset, .unset, .unset, .unset, .unset, .unset, .unset] [(.ref a2)]
          refine W.astore C m5_52 (L' := [.val (.ref a), .val (.ref b), .val (.ref c), .val (.ref d), .val (.int (4 : Int32)), .val (.int (1 : Int32)), .val (.ref a2), .unset, .unset, .unset, .unset, .unset, .unset, .unset, .unset]) rfl rfl ?_
          refine W.iconst C m5_54 (z := (0 : Int32)) rfl ?_
          refine W.istore C m5_55 (L' := [.val (.ref a), .val (.ref b), .val (.ref c), .val (.ref d), .val (.int (4 : Int32)), .val (.int (1 : Int32)), .val (.ref a2), .val (.int (0 : Int32)), .unset, .unset, .unset, .unset, .unset, .unset, .unset]) rfl ?_
          refine W.iconst C m5_57 (z := (-1 : Int32)) rfl ?_
          refine W.istore C m5_58 (L' := [.val (.ref a), .val (.ref b), .val (.ref c), .val (.ref d), .val (.int (4 : Int32)), .val (.int (1 : Int32)), .val (.ref a2), .val (.int (0 : Int32)), .val (.int (-1 : Int32)), .unset, .unset, .unset, .unset, .unset, .unset]) rfl ?_
          refine W.iconst C m5_60 (z := (0 : Int32)) rfl ?_
          refine W.istore C m5_61 (L' := [.val (.ref a), .val (.ref b), .val (.ref c), .val (.ref d), .val (.int (4 : Int32)), .val (.int (1 : Int32)), .val (.ref a2), .val (.int (0 : Int32)), .val (.int (-1 : Int32)), .val (.int (0 : Int32)), .unset, .unset, .unset, .unset, .unset]) rfl ?_
          have hH : (1 : Int32).toInt = (H : Int) := by show (1 : Int) = H; omega
          refine own_OUT Z a0 κ n0 Qx C a b c d a2 1 4 so wr SL hS (1 : Int32) H hH l0 l1 l2 hSL hlen ne7 ne8 ne9 g10 3 (-1 : Int32) (0 : Int32) h1 (0 : Int32) 0 0 (-1) A12 A13 A14 A5 _ _ _ _ _ One.u One.u One.u One.u One.u (by decide) rfl rfl rfl rfl (Nat.le_refl _) ?_
          intro h' cnt' jb' wk' x10 x11 x12 x13 x14 ox10 ox11 ox12 ox13 ox14 hc'
          refine W.iload C m5_270 rfl ?_
          refine W.iconst C m5_272 (z := (1 : Int32)) rfl ?_
          refine W.icmpY C m5_273 (show (1 : Int) ≤ (1 : Int) from (by decide)) ?_
          refine W.iconst C m5_283 (z := (1 : Int32)) rfl ?_
          refine W.goto C m5_284 ?_
          refine W.zreturn C m5_288 (hQ _ _ ?_)
          have hr : own_res H l0 l1 l2 = 1 := by unfold own_res; exact if_pos (by omega)
          rw [hr]; rfl
        · intro (h31 : ¬ (((Int32.ofNat p4)).toInt ≤ ((Int32.ofNat p3)).toInt))
          replace h31 : ((Int32.ofNat p3)).toInt < ((Int32.ofNat p4)).toInt := by omega
          refine W.iconst C m5_34 (z := (1 : Int32)) rfl ?_
          refine W.goto C m5_35 ?_
          refine W.iadd C m5_39 (z := (2 : Int32)) rfl ?_
          refine W.istore C m5_40 (L' := [.val (.ref a), .val (.ref b), .val (.ref c), .val (.ref d), .val (.int (4 : Int32)), .val (.int (2 : Int32)), .val (.int (3 : Int32)), .unset, .unset, .unset, .unset, .unset, .unset, .unset, .unset]) rfl ?_
          refine W.iinc C m5_42 rfl (z := (4 : Int32)) rfl (L' := [.val (.ref a), .val (.ref b), .val (.ref c), .val (.ref d), .val (.int (4 : Int32)), .val (.int (2 : Int32)), .val (.int (4 : Int32)), .unset, .unset, .unset, .unset, .unset, .unset, .unset, .unset]) rfl ?_
          refine W.goto C m5_45 ?_
          refine W.iload C m5_12 rfl ?_
          refine W.iload C m5_14 rfl ?_
          refine W.icmpY C m5_16 (show (4 : Int) ≤ (4 : Int) from (by decide)) ?_
          refine W.iload C m5_48 rfl ?_
          refine W.newarray (a0 := a0) (vs := [(.int (0 : Int32)), (.int (0 : Int32)), (.int (0 : Int32)), (.int (0 : Int32))]) 4 C m5_50 rfl (hw _ (List.mem_of_getElem? (i := 19) rfl)) (by decide) (by decide) rfl (by decide) (by decide) (by decide) ?_
          intro h1 a2 g3 E4 A5
          have ne6 : a ≠ a2 := Nat.ne_of_lt (Nat.lt_of_lt_of_eq Aa.lt g3)
          have ne7 : b ≠ a2 := Nat.ne_of_lt (Nat.lt_of_lt_of_eq Ab.lt g3)
          have ne8 : c ≠ a2 := Nat.ne_of_lt (Nat.lt_of_lt_of_eq Ac.lt g3)
          have ne9 : d ≠ a2 := Nat.ne_of_lt (Nat.lt_of_lt_of_eq Ad.lt g3)
          have g10 : n0 ≤ a2 := Nat.le_trans z0 (Nat.le_of_eq g3)
          have A11 := Aa.ext E4
          have A12 := Ab.ext E4
          have A13 := Ac.ext E4
          have A14 := Ad.ext E4
          have z15 : n0 ≤ h1.size := Nat.le_trans z0 E4.1
          show W κ n0 Qx h1 1 4 52 [.val (.ref a), .val (.ref b), .val (.ref c), .val (.ref d), .val (.int (4 : Int32)), .val (.int (2 : Int32)), .val (.int (4 : Int32)), .unset, .unset, .unset, .unset, .unset, .unset, .unset, .unset] [(.ref a2)]
          refine W.astore C m5_52 (L' := [.val (.ref a), .val (.ref b), .val (.ref c), .val (.ref d), .val (.int (4 : Int32)), .val (.int (2 : Int32)), .val (.ref a2), .unset, .unset, .unset, .unset, .unset, .unset, .unset, .unset]) rfl rfl ?_
          refine W.iconst C m5_54 (z := (0 : Int32)) rfl ?_
          refine W.istore C m5_55 (L' := [.val (.ref a), .val (.ref b), .val (.ref c), .val (.ref d), .val (.int (4 : Int32)), .val (.int (2 : Int32)), .val (.ref a2), .val (.int (0 : Int32)), .unset, .unset, .unset, .unset, .unset, .unset, .unset]) rfl ?_
          refine W.iconst C m5_57 (z := (-1 : Int32)) rfl ?_
          refine W.istore C m5_58 (L' := [.val (.ref a), .val (.ref b), .val (.ref c), .val (.ref d), .val (.int (4 : Int32)), .val (.int (2 : Int32)), .val (.ref a2), .val (.int (0 : Int32)), .val (.int (-1 : Int32)), .unset, .unset, .unset, .unset, .unset, .unset]) rfl ?_
          refine W.iconst C m5_60 (z := (0 : Int32)) rfl ?_
          refine W.istore C m5_61 (L' := [.val (.ref a), .val (.ref b), .val (.ref c), .val (.ref d), .val (.int (4 : Int32)), .val (.int (2 : Int32)), .val (.ref a2), .val (.int (0 : Int32)), .val (.int (-1 : Int32)), .val (.int (0 : Int32)), .unset, .unset, .unset, .unset, .unset]) rfl ?_
          have hH : (2 : Int32).toInt = (H : Int) := by show (2 : Int) = H; omega
          refine own_OUT Z a0 κ n0 Qx C a b c d a2 1 4 so wr SL hS (2 : Int32) H hH l0 l1 l2 hSL hlen ne7 ne8 ne9 g10 3 (-1 : Int32) (0 : Int32) h1 (0 : Int32) 0 0 (-1) A12 A13 A14 A5 _ _ _ _ _ One.u One.u One.u One.u One.u (by decide) rfl rfl rfl rfl (Nat.le_refl _) ?_
          intro h' cnt' jb' wk' x10 x11 x12 x13 x14 ox10 ox11 ox12 ox13 ox14 hc'
          refine W.iload C m5_270 rfl ?_
          refine W.iconst C m5_272 (z := (1 : Int32)) rfl ?_
          refine W.icmpN C m5_273 (show ¬ ((2 : Int) ≤ (1 : Int)) from (by decide)) ?_
          refine W.iload C m5_276 rfl ?_
          refine W.iload C m5_278 rfl ?_
          refine W.icmp C m5_280 ?_ ?_
          · intro (h280 : ¬ cnt'.toInt = (2 : Int))
            refine W.iconst C m5_287 (z := (0 : Int32)) rfl ?_
            refine W.zreturn C m5_288 (hQ _ _ ?_)
            have hr : own_res H l0 l1 l2 = 0 := by unfold own_res; exact if_neg (by omega)
            rw [hr]; rfl
          · intro (h280 : ¬ ¬ cnt'.toInt = (2 : Int))
            replace h280 := Decidable.not_not.mp h280
            refine W.iconst C m5_283 (z := (1 : Int32)) rfl ?_
            refine W.goto C m5_284 ?_
            refine W.zreturn C m5_288 (hQ _ _ ?_)
            have hr : own_res H l0 l1 l2 = 1 := by unfold own_res; exact if_pos (by omega)
            rw [hr]; rfl
    · intro (h31 : ¬ (((Int32.ofNat p2)).toInt ≤ ((Int32.ofNat p1)).toInt))
      replace h31 : ((Int32.ofNat p1)).toInt < ((Int32.ofNat p2)).toInt := by omega
      refine W.iconst C m5_34 (z := (1 : Int32)) rfl ?_
      refine W.goto C m5_35 ?_
      refine W.iadd C m5_39 (z := (1 : Int32)) rfl ?_
      refine W.istore C m5_40 (L' := [.val (.ref a), .val (.ref b), .val (.ref c), .val (.ref d), .val (.int (4 : Int32)), .val (.int (1 : Int32)), .val (.int (1 : Int32)), .unset, .unset, .unset, .unset, .unset, .unset, .unset, .unset]) rfl ?_
      refine W.iinc C m5_42 rfl (z := (2 : Int32)) rfl (L' := [.val (.ref a), .val (.ref b), .val (.ref c), .val (.ref d), .val (.int (4 : Int32)), .val (.int (1 : Int32)), .val (.int (2 : Int32)), .unset, .unset, .unset, .unset, .unset, .unset, .unset, .unset]) rfl ?_
      refine W.goto C m5_45 ?_
      refine W.iload C m5_12 rfl ?_
      refine W.iload C m5_14 rfl ?_
      refine W.icmpN C m5_16 (show ¬ ((4 : Int) ≤ (2 : Int)) from (by decide)) ?_
      refine W.iload C m5_19 rfl ?_
      refine W.aloadN C m5_21 rfl rfl ?_
      refine W.iload C m5_22 rfl ?_
      refine W.iaload C m5_24 Aa (i := 2) rfl rfl ?_
      refine W.aloadN C m5_25 rfl rfl ?_
      refine W.iload C m5_26 rfl ?_
      refine W.iconst C m5_28 (z := (1 : Int32)) rfl ?_
      refine W.iadd C m5_29 (z := (3 : Int32)) rfl ?_
      refine W.iaload C m5_30 Aa (i := 3) rfl rfl ?_
      refine W.icmp C m5_31 ?_ ?_
      · intro (h31 : ((Int32.ofNat p3)).toInt ≤ ((Int32.ofNat p2)).toInt)
        refine W.iconst C m5_38 (z := (0 : Int32)) rfl ?_
        refine W.iadd C m5_39 (z := (1 : Int32)) rfl ?_
        refine W.istore C m5_40 (L' := [.val (.ref a), .val (.ref b), .val (.ref c), .val (.ref d), .val (.int (4 : Int32)), .val (.int (1 : Int32)), .val (.int (2 : Int32)), .unset, .unset, .unset, .unset, .unset, .unset, .unset, .unset]) rfl ?_
        refine W.iinc C m5_42 rfl (z := (3 : Int32)) rfl (L' := [.val (.ref a), .val (.ref b), .val (.ref c), .val (.ref d), .val (.int (4 : Int32)), .val (.int (1 : Int32)), .val (.int (3 : Int32)), .unset, .unset, .unset, .unset, .unset, .unset, .unset, .unset]) rfl ?_
        refine W.goto C m5_45 ?_
        refine W.iload C m5_12 rfl ?_
        refine W.iload C m5_14 rfl ?_
        refine W.icmpN C m5_16 (show ¬ ((4 : Int) ≤ (3 : Int)) from (by decide)) ?_
        refine W.iload C m5_19 rfl ?_
        refine W.aloadN C m5_21 rfl rfl ?_
        refine W.iload C m5_22 rfl ?_
        refine W.iaload C m5_24 Aa (i := 3) rfl rfl ?_
        refine W.aloadN C m5_25 rfl rfl ?_
        refine W.iload C m5_26 rfl ?_
        refine W.iconst C m5_28 (z := (1 : Int32)) rfl ?_
        refine W.iadd C m5_29 (z := (4 : Int32)) rfl ?_
        refine W.iaload C m5_30 Aa (i := 4) rfl rfl ?_
        refine W.icmp C m5_31 ?_ ?_
        · intro (h31 : ((Int32.ofNat p4)).toInt ≤ ((Int32.ofNat p3)).toInt)
          refine W.iconst C m5_38 (z := (0 : Int32)) rfl ?_
          refine W.iadd C m5_39 (z := (1 : Int32)) rfl ?_
          refine W.istore C m5_40 (L' := [.val (.ref a), .val (.ref b), .val (.ref c), .val (.ref d), .val (.int (4 : Int32)), .val (.int (1 : Int32)), .val (.int (3 : Int32)), .unset, .unset, .unset, .unset, .unset, .unset, .unset, .unset]) rfl ?_
          refine W.iinc C m5_42 rfl (z := (4 : Int32)) rfl (L' := [.val (.ref a), .val (.ref b), .val (.ref c), .val (.ref d), .val (.int (4 : Int32)), .val (.int (1 : Int32)), .val (.int (4 : Int32)), .unset, .unset, .unset, .unset, .unset, .unset, .unset, .unset]) rfl ?_
          refine W.goto C m5_45 ?_
          refine W.iload C m5_12 rfl ?_
          refine W.iload C m5_14 rfl ?_
          refine W.icmpY C m5_16 (show (4 : Int) ≤ (4 : Int) from (by decide)) ?_
          refine W.iload C m5_48 rfl ?_
          refine W.newarray (a0 := a0) (vs := [(.int (0 : Int32)), (.int (0 : Int32)), (.int (0 : Int32)), (.int (0 : Int32))]) 4 C m5_50 rfl (hw _ (List.mem_of_getElem? (i := 19) rfl)) (by decide) (by decide) rfl (by decide) (by decide) (by decide) ?_
          intro h1 a2 g3 E4 A5
          have ne6 : a ≠ a2 := Nat.ne_of_lt (Nat.lt_of_lt_of_eq Aa.lt g3)
          have ne7 : b ≠ a2 := Nat.ne_of_lt (Nat.lt_of_lt_of_eq Ab.lt g3)
          have ne8 : c ≠ a2 := Nat.ne_of_lt (Nat.lt_of_lt_of_eq Ac.lt g3)
          have ne9 : d ≠ a2 := Nat.ne_of_lt (Nat.lt_of_lt_of_eq Ad.lt g3)
          have g10 : n0 ≤ a2 := Nat.le_trans z0 (Nat.le_of_eq g3)
          have A11 := Aa.ext E4
          have A12 := Ab.ext E4
          have A13 := Ac.ext E4
          have A14 := Ad.ext E4
          have z15 : n0 ≤ h1.size := Nat.le_trans z0 E4.1
          show W κ n0 Qx h1 1 4 52 [.val (.ref a), .val (.ref b), .val (.ref c), .val (.ref d), .val (.int (4 : Int32)), .val (.int (1 : Int32)), .val (.int (4 : Int32)), .unset, .unset, .unset, .unset, .unset, .unset, .unset, .unset] [(.ref a2)]
          refine W.astore C m5_52 (L' := [.val (.ref a), .val (.ref b), .val (.ref c), .val (.ref d), .val (.int (4 : Int32)), .val (.int (1 : Int32)), .val (.ref a2), .unset, .unset, .unset, .unset, .unset, .unset, .unset, .unset]) rfl rfl ?_
          refine W.iconst C m5_54 (z := (0 : Int32)) rfl ?_
          refine W.istore C m5_55 (L' := [.val (.ref a), .val (.ref b), .val (.ref c), .val (.ref d), .val (.int (4 : Int32)), .val (.int (1 : Int32)), .val (.ref a2), .val (.int (0 : Int32)), .unset, .unset, .unset, .unset, .unset, .unset, .unset]) rfl ?_
          refine W.iconst C m5_57 (z := (-1 : Int32)) rfl ?_
          refine W.istore C m5_58 (L' := [.val (.ref a), .val (.ref b), .val (.ref c), .val (.ref d), .val (.int (4 : Int32)), .val (.int (1 : Int32)), .val (.ref a2), .val (.int (0 : Int32)), .val (.int (-1 : Int32)), .unset, .unset, .unset, .unset, .unset, .unset]) rfl ?_
          refine W.iconst C m5_60 (z := (0 : Int32)) rfl ?_
          refine W.istore C m5_61 (L' := [.val (.ref a), .val (.ref b), .val (.ref c), .val (.ref d), .val (.int (4 : Int32)), .val (.int (1 : Int32)), .val (.ref a2), .val (.int (0 : Int32)), .val (.int (-1 : Int32)), .val (.int (0 : Int32)), .unset, .unset, .unset, .unset, .unset]) rfl ?_
          have hH : (1 : Int32).toInt = (H : Int) := by show (1 : Int) = H; omega
          refine own_OUT Z a0 κ n0 Qx C a b c d a2 1 4 so wr SL hS (1 : Int32) H hH l0 l1 l2 hSL hlen ne7 ne8 ne9 g10 3 (-1 : Int32) (0 : Int32) h1 (0 : Int32) 0 0 (-1) A12 A13 A14 A5 _ _ _ _ _ One.u One.u One.u One.u One.u (by decide) rfl rfl rfl rfl (Nat.le_refl _) ?_
          intro h' cnt' jb' wk' x10 x11 x12 x13 x14 ox10 ox11 ox12 ox13 ox14 hc'
          refine W.iload C m5_270 rfl ?_
          refine W.iconst C m5_272 (z := (1 : Int32)) rfl ?_
          refine W.icmpY C m5_273 (show (1 : Int) ≤ (1 : Int) from (by decide)) ?_
          refine W.iconst C m5_283 (z := (1 : Int32)) rfl ?_
          refine W.goto C m5_284 ?_
          refine W.zreturn C m5_288 (hQ _ _ ?_)
          have hr : own_res H l0 l1 l2 = 1 := by unfold own_res; exact if_pos (by omega)
          rw [hr]; rfl
        · intro (h31 : ¬ (((Int32.ofNat p4)).toInt ≤ ((Int32.ofNat p3)).toInt))
          replace h31 : ((Int32.ofNat p3)).toInt < ((Int32.ofNat p4)).toInt := by omega
          refine W.iconst C m5_34 (z := (1 : Int32)) rfl ?_
          refine W.goto C m5_35 ?_
          refine W.iadd C m5_39 (z := (2 : Int32)) rfl ?_
          refine W.istore C m5_40 (L' := [.val (.ref a), .val (.ref b), .val (.ref c), .val (.ref d), .val (.int (4 : Int32)), .val (.int (2 : Int32)), .val (.int (3 : Int32)), .unset, .unset, .unset, .unset, .unset, .unset, .unset, .unset]) rfl ?_
          refine W.iinc C m5_42 rfl (z := (4 : Int32)) rfl (L' := [.val (.ref a), .val (.ref b), .val (.ref c), .val (.ref d), .val (.int (4 : Int32)), .val (.int (2 : Int32)), .val (.int (4 : Int32)), .unset, .unset, .unset, .unset, .unset, .unset, .unset, .unset]) rfl ?_
          refine W.goto C m5_45 ?_
          refine W.iload C m5_12 rfl ?_
          refine W.iload C m5_14 rfl ?_
          refine W.icmpY C m5_16 (show (4 : Int) ≤ (4 : Int) from (by decide)) ?_
          refine W.iload C m5_48 rfl ?_
          refine W.newarray (a0 := a0) (vs := [(.int (0 : Int32)), (.int (0 : Int32)), (.int (0 : Int32)), (.int (0 : Int32))]) 4 C m5_50 rfl (hw _ (List.mem_of_getElem? (i := 19) rfl)) (by decide) (by decide) rfl (by decide) (by decide) (by decide) ?_
          intro h1 a2 g3 E4 A5
          have ne6 : a ≠ a2 := Nat.ne_of_lt (Nat.lt_of_lt_of_eq Aa.lt g3)
          have ne7 : b ≠ a2 := Nat.ne_of_lt (Nat.lt_of_lt_of_eq Ab.lt g3)
          have ne8 : c ≠ a2 := Nat.ne_of_lt (Nat.lt_of_lt_of_eq Ac.lt g3)
          have ne9 : d ≠ a2 := Nat.ne_of_lt (Nat.lt_of_lt_of_eq Ad.lt g3)
          have g10 : n0 ≤ a2 := Nat.le_trans z0 (Nat.le_of_eq g3)
          have A11 := Aa.ext E4
          have A12 := Ab.ext E4
          have A13 := Ac.ext E4
          have A14 := Ad.ext E4
          have z15 : n0 ≤ h1.size := Nat.le_trans z0 E4.1
          show W κ n0 Qx h1 1 4 52 [.val (.ref a), .val (.ref b), .val (.ref c), .val (.ref d), .val (.int (4 : Int32)), .val (.int (2 : Int32)), .val (.int (4 : Int32)), .unset, .unset, .unset, .unset, .unset, .unset, .unset, .unset] [(.ref a2)]
          refine W.astore C m5_52 (L' := [.val (.ref a), .val (.ref b), .val (.ref c), .val (.ref d), .val (.int (4 : Int32)), .val (.int (2 : Int32)), .val (.ref a2), .unset, .unset, .unset, .unset, .unset, .unset, .unset, .unset]) rfl rfl ?_
          refine W.iconst C m5_54 (z := (0 : Int32)) rfl ?_
          refine W.istore C m5_55 (L' := [.val (.ref a), .val (.ref b), .val (.ref c), .val (.ref d), .val (.int (4 : Int32)), .val (.int (2 : Int32)), .val (.ref a2), .val (.int (0 : Int32)), .unset, .unset, .unset, .unset, .unset, .unset, .unset]) rfl ?_
          refine W.iconst C m5_57 (z := (-1 : Int32)) rfl ?_
          refine W.istore C m5_58 (L' := [.val (.ref a), .val (.ref b), .val (.ref c), .val (.ref d), .val (.int (4 : Int32)), .val (.int (2 : Int32)), .val (.ref a2), .val (.int (0 : Int32)), .val (.int (-1 : Int32)), .unset, .unset, .unset, .unset, .unset, .unset]) rfl ?_
          refine W.iconst C m5_60 (z := (0 : Int32)) rfl ?_
          refine W.istore C m5_61 (L' := [.val (.ref a), .val (.ref b), .val (.ref c), .val (.ref d), .val (.int (4 : Int32)), .val (.int (2 : Int32)), .val (.ref a2), .val (.int (0 : Int32)), .val (.int (-1 : Int32)), .val (.int (0 : Int32)), .unset, .unset, .unset, .unset, .unset]) rfl ?_
          have hH : (2 : Int32).toInt = (H : Int) := by show (2 : Int) = H; omega
          refine own_OUT Z a0 κ n0 Qx C a b c d a2 1 4 so wr SL hS (2 : Int32) H hH l0 l1 l2 hSL hlen ne7 ne8 ne9 g10 3 (-1 : Int32) (0 : Int32) h1 (0 : Int32) 0 0 (-1) A12 A13 A14 A5 _ _ _ _ _ One.u One.u One.u One.u One.u (by decide) rfl rfl rfl rfl (Nat.le_refl _) ?_
          intro h' cnt' jb' wk' x10 x11 x12 x13 x14 ox10 ox11 ox12 ox13 ox14 hc'
          refine W.iload C m5_270 rfl ?_
          refine W.iconst C m5_272 (z := (1 : Int32)) rfl ?_
          refine W.icmpN C m5_273 (show ¬ ((2 : Int) ≤ (1 : Int)) from (by decide)) ?_
          refine W.iload C m5_276 rfl ?_
          refine W.iload C m5_278 rfl ?_
          refine W.icmp C m5_280 ?_ ?_
          · intro (h280 : ¬ cnt'.toInt = (2 : Int))
            refine W.iconst C m5_287 (z := (0 : Int32)) rfl ?_
            refine W.zreturn C m5_288 (hQ _ _ ?_)
            have hr : own_res H l0 l1 l2 = 0 := by unfold own_res; exact if_neg (by omega)
            rw [hr]; rfl
          · intro (h280 : ¬ ¬ cnt'.toInt = (2 : Int))
            replace h280 := Decidable.not_not.mp h280
            refine W.iconst C m5_283 (z := (1 : Int32)) rfl ?_
            refine W.goto C m5_284 ?_
            refine W.zreturn C m5_288 (hQ _ _ ?_)
            have hr : own_res H l0 l1 l2 = 1 := by unfold own_res; exact if_pos (by omega)
            rw [hr]; rfl
      · intro (h31 : ¬ (((Int32.ofNat p3)).toInt ≤ ((Int32.ofNat p2)).toInt))
        replace h31 : ((Int32.ofNat p2)).toInt < ((Int32.ofNat p3)).toInt := by omega
        refine W.iconst C m5_34 (z := (1 : Int32)) rfl ?_
        refine W.goto C m5_35 ?_
        refine W.iadd C m5_39 (z := (2 : Int32)) rfl ?_
        refine W.istore C m5_40 (L' := [.val (.ref a), .val (.ref b), .val (.ref c), .val (.ref d), .val (.int (4 : Int32)), .val (.int (2 : Int32)), .val (.int (2 : Int32)), .unset, .unset, .unset, .unset, .unset, .unset, .unset, .unset]) rfl ?_
        refine W.iinc C m5_42 rfl (z := (3 : Int32)) rfl (L' := [.val (.ref a), .val (.ref b), .val (.ref c), .val (.ref d), .val (.int (4 : Int32)), .val (.int (2 : Int32)), .val (.int (3 : Int32)), .unset, .unset, .unset, .unset, .unset, .unset, .unset, .unset]) rfl ?_
        refine W.goto C m5_45 ?_
        refine W.iload C m5_12 rfl ?_
        refine W.iload C m5_14 rfl ?_
        refine W.icmpN C m5_16 (show ¬ ((4 : Int) ≤ (3 : Int)) from (by decide)) ?_
        refine W.iload C m5_19 rfl ?_
        refine W.aloadN C m5_21 rfl rfl ?_
        refine W.iload C m5_22 rfl ?_
        refine W.iaload C m5_24 Aa (i := 3) rfl rfl ?_
        refine W.aloadN C m5_25 rfl rfl ?_
        refine W.iload C m5_26 rfl ?_
        refine W.iconst C m5_28 (z := (1 : Int32)) rfl ?_
        refine W.iadd C m5_29 (z := (4 : Int32)) rfl ?_
        refine W.iaload C m5_30 Aa (i := 4) rfl rfl ?_
        refine W.icmp C m5_31 ?_ ?_
        · intro (h31 : ((Int32.ofNat p4)).toInt ≤ ((Int32.ofNat p3)).toInt)
          refine W.iconst C m5_38 (z := (0 : Int32)) rfl ?_
          refine W.iadd C m5_39 (z := (2 : Int32)) rfl ?_
          refine W.istore C m5_40 (L' := [.val (.ref a), .val (.ref b), .val (.ref c), .val (.ref d), .val (.int (4 : Int32)), .val (.int (2 : Int32)), .val (.int (3 : Int32)), .unset, .unset, .unset, .unset, .unset, .unset, .unset, .unset]) rfl ?_
          refine W.iinc C m5_42 rfl (z := (4 : Int32)) rfl (L' := [.val (.ref a), .val (.ref b), .val (.ref c), .val (.ref d), .val (.int (4 : Int32)), .val (.int (2 : Int32)), .val (.int (4 : Int32)), .unset, .unset, .unset, .unset, .unset, .unset, .unset, .unset]) rfl ?_
          refine W.goto C m5_45 ?_
          refine W.iload C m5_12 rfl ?_
          refine W.iload C m5_14 rfl ?_
          refine W.icmpY C m5_16 (show (4 : Int) ≤ (4 : Int) from (by decide)) ?_
          refine W.iload C m5_48 rfl ?_
          refine W.newarray (a0 := a0) (vs := [(.int (0 : Int32)), (.int (0 : Int32)), (.int (0 : Int32)), (.int (0 : Int32))]) 4 C m5_50 rfl (hw _ (List.mem_of_getElem? (i := 19) rfl)) (by decide) (by decide) rfl (by decide) (by decide) (by decide) ?_
          intro h1 a2 g3 E4 A5
          have ne6 : a ≠ a2 := Nat.ne_of_lt (Nat.lt_of_lt_of_eq Aa.lt g3)
          have ne7 : b ≠ a2 := Nat.ne_of_lt (Nat.lt_of_lt_of_eq Ab.lt g3)
          have ne8 : c ≠ a2 := Nat.ne_of_lt (Nat.lt_of_lt_of_eq Ac.lt g3)
          have ne9 : d ≠ a2 := Nat.ne_of_lt (Nat.lt_of_lt_of_eq Ad.lt g3)
          have g10 : n0 ≤ a2 := Nat.le_trans z0 (Nat.le_of_eq g3)
          have A11 := Aa.ext E4
          have A12 := Ab.ext E4
          have A13 := Ac.ext E4
          have A14 := Ad.ext E4
          have z15 : n0 ≤ h1.size := Nat.le_trans z0 E4.1
          show W κ n0 Qx h1 1 4 52 [.val (.ref a), .val (.ref b), .val (.ref c), .val (.ref d), .val (.int (4 : Int32)), .val (.int (2 : Int32)), .val (.int (4 : Int32)), .unset, .unset, .unset, .unset, .unset, .unset, .unset, .unset] [(.ref a2)]
          refine W.astore C m5_52 (L' := [.val (.ref a), .val (.ref b), .val (.ref c), .val (.ref d), .val (.int (4 : Int32)), .val (.int (2 : Int32)), .val (.ref a2), .unset, .unset, .unset, .unset, .unset, .unset, .unset, .unset]) rfl rfl ?_
          refine W.iconst C m5_54 (z := (0 : Int32)) rfl ?_
          refine W.istore C m5_55 (L' := [.val (.ref a), .val (.ref b), .val (.ref c), .val (.ref d), .val (.int (4 : Int32)), .val (.int (2 : Int32)), .val (.ref a2), .val (.int (0 : Int32)), .unset, .unset, .unset, .unset, .unset, .unset, .unset]) rfl ?_
          refine W.iconst C m5_57 (z := (-1 : Int32)) rfl ?_
          refine W.istore C m5_58 (L' := [.val (.ref a), .val (.ref b), .val (.ref c), .val (.ref d), .val (.int (4 : Int32)), .val (.int (2 : Int32)), .val (.ref a2), .val (.int (0 : Int32)), .val (.int (-1 : Int32)), .unset, .unset, .unset, .unset, .unset, .unset]) rfl ?_
          refine W.iconst C m5_60 (z := (0 : Int32)) rfl ?_
          refine W.istore C m5_61 (L' := [.val (.ref a), .val (.ref b), .val (.ref c), .val (.ref d), .val (.int (4 : Int32)), .val (.int (2 : Int32)), .val (.ref a2), .val (.int (0 : Int32)), .val (.int (-1 : Int32)), .val (.int (0 : Int32)), .unset, .unset, .unset, .unset, .unset]) rfl ?_
          have hH : (2 : Int32).toInt = (H : Int) := by show (2 : Int) = H; omega
          refine own_OUT Z a0 κ n0 Qx C a b c d a2 1 4 so wr SL hS (2 : Int32) H hH l0 l1 l2 hSL hlen ne7 ne8 ne9 g10 3 (-1 : Int32) (0 : Int32) h1 (0 : Int32) 0 0 (-1) A12 A13 A14 A5 _ _ _ _ _ One.u One.u One.u One.u One.u (by decide) rfl rfl rfl rfl (Nat.le_refl _) ?_
          intro h' cnt' jb' wk' x10 x11 x12 x13 x14 ox10 ox11 ox12 ox13 ox14 hc'
          refine W.iload C m5_270 rfl ?_
          refine W.iconst C m5_272 (z := (1 : Int32)) rfl ?_
          refine W.icmpN C m5_273 (show ¬ ((2 : Int) ≤ (1 : Int)) from (by decide)) ?_
          refine W.iload C m5_276 rfl ?_
          refine W.iload C m5_278 rfl ?_
          refine W.icmp C m5_280 ?_ ?_
          · intro (h280 : ¬ cnt'.toInt = (2 : Int))
            refine W.iconst C m5_287 (z := (0 : Int32)) rfl ?_
            refine W.zreturn C m5_288 (hQ _ _ ?_)
            have hr : own_res H l0 l1 l2 = 0 := by unfold own_res; exact if_neg (by omega)
            rw [hr]; rfl
          · intro (h280 : ¬ ¬ cnt'.toInt = (2 : Int))
            replace h280 := Decidable.not_not.mp h280
            refine W.iconst C m5_283 (z := (1 : Int32)) rfl ?_
            refine W.goto C m5_284 ?_
            refine W.zreturn C m5_288 (hQ _ _ ?_)
            have hr : own_res H l0 l1 l2 = 1 := by unfold own_res; exact if_pos (by omega)
            rw [hr]; rfl
        · intro (h31 : ¬ (((Int32.ofNat p4)).toInt ≤ ((Int32.ofNat p3)).toInt))
          replace h31 : ((Int32.ofNat p3)).toInt < ((Int32.ofNat p4)).toInt := by omega
          refine W.iconst C m5_34 (z := (1 : Int32)) rfl ?_
          refine W.goto C m5_35 ?_
          refine W.iadd C m5_39 (z := (3 : Int32)) rfl ?_
          refine W.istore C m5_40 (L' := [.val (.ref a), .val (.ref b), .val (.ref c), .val (.ref d), .val (.int (4 : Int32)), .val (.int (3 : Int32)), .val (.int (3 : Int32)), .unset, .unset, .unset, .unset, .unset, .unset, .unset, .unset]) rfl ?_
          refine W.iinc C m5_42 rfl (z := (4 : Int32)) rfl (L' := [.val (.ref a), .val (.ref b), .val (.ref c), .val (.ref d), .val (.int (4 : Int32)), .val (.int (3 : Int32)), .val (.int (4 : Int32)), .unset, .unset, .unset, .unset, .unset, .unset, .unset, .unset]) rfl ?_
          refine W.goto C m5_45 ?_
          refine W.iload C m5_12 rfl ?_
          refine W.iload C m5_14 rfl ?_
          refine W.icmpY C m5_16 (show (4 : Int) ≤ (4 : Int) from (by decide)) ?_
          refine W.iload C m5_48 rfl ?_
          refine W.newarray (a0 := a0) (vs := [(.int (0 : Int32)), (.int (0 : Int32)), (.int (0 : Int32)), (.int (0 : Int32))]) 4 C m5_50 rfl (hw _ (List.mem_of_getElem? (i := 19) rfl)) (by decide) (by decide) rfl (by decide) (by decide) (by decide) ?_
          intro h1 a2 g3 E4 A5
          have ne6 : a ≠ a2 := Nat.ne_of_lt (Nat.lt_of_lt_of_eq Aa.lt g3)
          have ne7 : b ≠ a2 := Nat.ne_of_lt (Nat.lt_of_lt_of_eq Ab.lt g3)
          have ne8 : c ≠ a2 := Nat.ne_of_lt (Nat.lt_of_lt_of_eq Ac.lt g3)
          have ne9 : d ≠ a2 := Nat.ne_of_lt (Nat.lt_of_lt_of_eq Ad.lt g3)
          have g10 : n0 ≤ a2 := Nat.le_trans z0 (Nat.le_of_eq g3)
          have A11 := Aa.ext E4
          have A12 := Ab.ext E4
          have A13 := Ac.ext E4
          have A14 := Ad.ext E4
          have z15 : n0 ≤ h1.size := Nat.le_trans z0 E4.1
          show W κ n0 Qx h1 1 4 52 [.val (.ref a), .val (.ref b), .val (.ref c), .val (.ref d), .val (.int (4 : Int32)), .val (.int (3 : Int32)), .val (.int (4 : Int32)), .unset, .unset, .unset, .unset, .unset, .unset, .unset, .unset] [(.ref a2)]
          refine W.astore C m5_52 (L' := [.val (.ref a), .val (.ref b), .val (.ref c), .val (.ref d), .val (.int (4 : Int32)), .val (.int (3 : Int32)), .val (.ref a2), .unset, .unset, .unset, .unset, .unset, .unset, .unset, .unset]) rfl rfl ?_
          refine W.iconst C m5_54 (z := (0 : Int32)) rfl ?_
          refine W.istore C m5_55 (L' := [.val (.ref a), .val (.ref b), .val (.ref c), .val (.ref d), .val (.int (4 : Int32)), .val (.int (3 : Int32)), .val (.ref a2), .val (.int (0 : Int32)), .unset, .unset, .unset, .unset, .unset, .unset, .unset]) rfl ?_
          refine W.iconst C m5_57 (z := (-1 : Int32)) rfl ?_
          refine W.istore C m5_58 (L' := [.val (.ref a), .val (.ref b), .val (.ref c), .val (.ref d), .val (.int (4 : Int32)), .val (.int (3 : Int32)), .val (.ref a2), .val (.int (0 : Int32)), .val (.int (-1 : Int32)), .unset, .unset, .unset, .unset, .unset, .unset]) rfl ?_
          refine W.iconst C m5_60 (z := (0 : Int32)) rfl ?_
          refine W.istore C m5_61 (L' := [.val (.ref a), .val (.ref b), .val (.ref c), .val (.ref d), .val (.int (4 : Int32)), .val (.int (3 : Int32)), .val (.ref a2), .val (.int (0 : Int32)), .val (.int (-1 : Int32)), .val (.int (0 : Int32)), .unset, .unset, .unset, .unset, .unset]) rfl ?_
          have hH : (3 : Int32).toInt = (H : Int) := by show (3 : Int) = H; omega
          refine own_OUT Z a0 κ n0 Qx C a b c d a2 1 4 so wr SL hS (3 : Int32) H hH l0 l1 l2 hSL hlen ne7 ne8 ne9 g10 3 (-1 : Int32) (0 : Int32) h1 (0 : Int32) 0 0 (-1) A12 A13 A14 A5 _ _ _ _ _ One.u One.u One.u One.u One.u (by decide) rfl rfl rfl rfl (Nat.le_refl _) ?_
          intro h' cnt' jb' wk' x10 x11 x12 x13 x14 ox10 ox11 ox12 ox13 ox14 hc'
          refine W.iload C m5_270 rfl ?_
          refine W.iconst C m5_272 (z := (1 : Int32)) rfl ?_
          refine W.icmpN C m5_273 (show ¬ ((3 : Int) ≤ (1 : Int)) from (by decide)) ?_
          refine W.iload C m5_276 rfl ?_
          refine W.iload C m5_278 rfl ?_
          refine W.icmp C m5_280 ?_ ?_
          · intro (h280 : ¬ cnt'.toInt = (3 : Int))
            refine W.iconst C m5_287 (z := (0 : Int32)) rfl ?_
            refine W.zreturn C m5_288 (hQ _ _ ?_)
            have hr : own_res H l0 l1 l2 = 0 := by unfold own_res; exact if_neg (by omega)
            rw [hr]; rfl
          · intro (h280 : ¬ ¬ cnt'.toInt = (3 : Int))
            replace h280 := Decidable.not_not.mp h280
            refine W.iconst C m5_283 (z := (1 : Int32)) rfl ?_
            refine W.goto C m5_284 ?_
            refine W.zreturn C m5_288 (hQ _ _ ?_)
            have hr : own_res H l0 l1 l2 = 1 := by unfold own_res; exact if_pos (by omega)
            rw [hr]; rfl
  · intro (h31 : ¬ (((Int32.ofNat p1)).toInt ≤ ((Int32.ofNat p0)).toInt))
    replace h31 : ((Int32.ofNat p0)).toInt < ((Int32.ofNat p1)).toInt := by omega
    refine W.iconst C m5_34 (z := (1 : Int32)) rfl ?_
    refine W.goto C m5_35 ?_
    refine W.iadd C m5_39 (z := (1 : Int32)) rfl ?_
    refine W.istore C m5_40 (L' := [.val (.ref a), .val (.ref b), .val (.ref c), .val (.ref d), .val (.int (4 : Int32)), .val (.int (1 : Int32)), .val (.int (0 : Int32)), .unset, .unset, .unset, .unset, .unset, .unset, .unset, .unset]) rfl ?_
    refine W.iinc C m5_42 rfl (z := (1 : Int32)) rfl (L' := [.val (.ref a), .val (.ref b), .val (.ref c), .val (.ref d), .val (.int (4 : Int32)), .val (.int (1 : Int32)), .val (.int (1 : Int32)), .unset, .unset, .unset, .unset, .unset, .unset, .unset, .unset]) rfl ?_
    refine W.goto C m5_45 ?_
    refine W.iload C m5_12 rfl ?_
    refine W.iload C m5_14 rfl ?_
    refine W.icmpN C m5_16 (show ¬ ((4 : Int) ≤ (1 : Int)) from (by decide)) ?_
    refine W.iload C m5_19 rfl ?_
    refine W.aloadN C m5_21 rfl rfl ?_
    refine W.iload C m5_22 rfl ?_
    refine W.iaload C m5_24 Aa (i := 1) rfl rfl ?_
    refine W.aloadN C m5_25 rfl rfl ?_
    refine W.iload C m5_26 rfl ?_
    refine W.iconst C m5_28 (z := (1 : Int32)) rfl ?_
    refine W.iadd C m5_29 (z := (2 : Int32)) rfl ?_
    refine W.iaload C m5_30 Aa (i := 2) rfl rfl ?_
    refine W.icmp C m5_31 ?_ ?_
    · intro (h31 : ((Int32.ofNat p2)).toInt ≤ ((Int32.ofNat p1)).toInt)
      refine W.iconst C m5_38 (z := (0 : Int32)) rfl ?_
      refine W.iadd C m5_39 (z := (1 : Int32)) rfl ?_
      refine W.istore C m5_40 (L' := [.val (.ref a), .val (.ref b), .val (.ref c), .val (.ref d), .val (.int (4 : Int32)), .val (.int (1 : Int32)), .val (.int (1 : Int32)), .unset, .unset, .unset, .unset, .unset, .unset, .unset, .unset]) rfl ?_
      refine W.iinc C m5_42 rfl (z := (2 : Int32)) rfl (L' := [.val (.ref a), .val (.ref b), .val (.ref c), .val (.ref d), .val (.int (4 : Int32)), .val (.int (1 : Int32)), .val (.int (2 : Int32)), .unset, .unset, .unset, .unset, .unset, .unset, .unset, .unset]) rfl ?_
      refine W.goto C m5_45 ?_
      refine W.iload C m5_12 rfl ?_
      refine W.iload C m5_14 rfl ?_
      refine W.icmpN C m5_16 (show ¬ ((4 : Int) ≤ (2 : Int)) from (by decide)) ?_
      refine W.iload C m5_19 rfl ?_
      refine W.aloadN C m5_21 rfl rfl ?_
      refine W.iload C m5_22 rfl ?_
      refine W.iaload C m5_24 Aa (i := 2) rfl rfl ?_
      refine W.aloadN C m5_25 rfl rfl ?_
      refine W.iload C m5_26 rfl ?_
      refine W.iconst C m5_28 (z := (1 : Int32)) rfl ?_
      refine W.iadd C m5_29 (z := (3 : Int32)) rfl ?_
      refine W.iaload C m5_30 Aa (i := 3) rfl rfl ?_
      refine W.icmp C m5_31 ?_ ?_
      · intro (h31 : ((Int32.ofNat p3)).toInt ≤ ((Int32.ofNat p2)).toInt)
        refine W.iconst C m5_38 (z := (0 : Int32)) rfl ?_
        refine W.iadd C m5_39 (z := (1 : Int32)) rfl ?_
        refine W.istore C m5_40 (L' := [.val (.ref a), .val (.ref b), .val (.ref c), .val (.ref d), .val (.int (4 : Int32)), .val (.int (1 : Int32)), .val (.int (2 : Int32)), .unset, .unset, .unset, .unset, .unset, .unset, .unset, .unset]) rfl ?_
        refine W.iinc C m5_42 rfl (z := (3 : Int32)) rfl (L' := [.val (.ref a), .val (.ref b), .val (.ref c), .val (.ref d), .val (.int (4 : Int32)), .val (.int (1 : Int32)), .val (.int (3 : Int32)), .unset, .unset, .unset, .unset, .unset, .unset, .unset, .unset]) rfl ?_
        refine W.goto C m5_45 ?_
        refine W.iload C m5_12 rfl ?_
        refine W.iload C m5_14 rfl ?_
        refine W.icmpN C m5_16 (show ¬ ((4 : Int) ≤ (3 : Int)) from (by decide)) ?_
        refine W.iload C m5_19 rfl ?_
        refine W.aloadN C m5_21 rfl rfl ?_
        refine W.iload C m5_22 rfl ?_
        refine W.iaload C m5_24 Aa (i := 3) rfl rfl ?_
        refine W.aloadN C m5_25 rfl rfl ?_
        refine W.iload C m5_26 rfl ?_
        refine W.iconst C m5_28 (z := (1 : Int32)) rfl ?_
        refine W.iadd C m5_29 (z := (4 : Int32)) rfl ?_
        refine W.iaload C m5_30 Aa (i := 4) rfl rfl ?_
        refine W.icmp C m5_31 ?_ ?_
        · intro (h31 : ((Int32.ofNat p4)).toInt ≤ ((Int32.ofNat p3)).toInt)
          refine W.iconst C m5_38 (z := (0 : Int32)) rfl ?_
          refine W.iadd C m5_39 (z := (1 : Int32)) rfl ?_
          refine W.istore C m5_40 (L' := [.val (.ref a), .val (.ref b), .val (.ref c), .val (.ref d), .val (.int (4 : Int32)), .val (.int (1 : Int32)), .val (.int (3 : Int32)), .unset, .unset, .unset, .unset, .unset, .unset, .unset, .unset]) rfl ?_
          refine W.iinc C m5_42 rfl (z := (4 : Int32)) rfl (L' := [.val (.ref a), .val (.ref b), .val (.ref c), .val (.ref d), .val (.int (4 : Int32)), .val (.int (1 : Int32)), .val (.int (4 : Int32)), .unset, .unset, .unset, .unset, .unset, .unset, .unset, .unset]) rfl ?_
          refine W.goto C m5_45 ?_
          refine W.iload C m5_12 rfl ?_
          refine W.iload C m5_14 rfl ?_
          refine W.icmpY C m5_16 (show (4 : Int) ≤ (4 : Int) from (by decide)) ?_
          refine W.iload C m5_48 rfl ?_
          refine W.newarray (a0 := a0) (vs := [(.int (0 : Int32)), (.int (0 : Int32)), (.int (0 : Int32)), (.int (0 : Int32))]) 4 C m5_50 rfl (hw _ (List.mem_of_getElem? (i := 19) rfl)) (by decide) (by decide) rfl (by decide) (by decide) (by decide) ?_
          intro h1 a2 g3 E4 A5
          have ne6 : a ≠ a2 := Nat.ne_of_lt (Nat.lt_of_lt_of_eq Aa.lt g3)
          have ne7 : b ≠ a2 := Nat.ne_of_lt (Nat.lt_of_lt_of_eq Ab.lt g3)
          have ne8 : c ≠ a2 := Nat.ne_of_lt (Nat.lt_of_lt_of_eq Ac.lt g3)
          have ne9 : d ≠ a2 := Nat.ne_of_lt (Nat.lt_of_lt_of_eq Ad.lt g3)
          have g10 : n0 ≤ a2 := Nat.le_trans z0 (Nat.le_of_eq g3)
          have A11 := Aa.ext E4
          have A12 := Ab.ext E4
          have A13 := Ac.ext E4
          have A14 := Ad.ext E4
          have z15 : n0 ≤ h1.size := Nat.le_trans z0 E4.1
          show W κ n0 Qx h1 1 4 52 [.val (.ref a), .val (.ref b), .val (.ref c), .val (.ref d), .val (.int (4 : Int32)), .val (.int (1 : Int32)), .val (.int (4 : Int32)), .unset, .unset, .unset, .unset, .unset, .unset, .unset, .unset] [(.ref a2)]
          refine W.astore C m5_52 (L' := [.val (.ref a), .val (.ref b), .val (.ref c), .val (.ref d), .val (.int (4 : Int32)), .val (.int (1 : Int32)), .val (.ref a2), .unset, .unset, .unset, .unset, .unset, .unset, .unset, .unset]) rfl rfl ?_
          refine W.iconst C m5_54 (z := (0 : Int32)) rfl ?_
          refine W.istore C m5_55 (L' := [.val (.ref a), .val (.ref b), .val (.ref c), .val (.ref d), .val (.int (4 : Int32)), .val (.int (1 : Int32)), .val (.ref a2), .val (.int (0 : Int32)), .unset, .unset, .unset, .unset, .unset, .unset, .unset]) rfl ?_
          refine W.iconst C m5_57 (z := (-1 : Int32)) rfl ?_
          refine W.istore C m5_58 (L' := [.val (.ref a), .val (.ref b), .val (.ref c), .val (.ref d), .val (.int (4 : Int32)), .val (.int (1 : Int32)), .val (.ref a2), .val (.int (0 : Int32)), .val (.int (-1 : Int32)), .unset, .unset, .unset, .unset, .unset, .unset]) rfl ?_
          refine W.iconst C m5_60 (z := (0 : Int32)) rfl ?_
          refine W.istore C m5_61 (L' := [.val (.ref a), .val (.ref b), .val (.ref c), .val (.ref d), .val (.int (4 : Int32)), .val (.int (1 : Int32)), .val (.ref a2), .val (.int (0 : Int32)), .val (.int (-1 : Int32)), .val (.int (0 : Int32)), .unset, .unset, .unset, .unset, .unset]) rfl ?_
          have hH : (1 : Int32).toInt = (H : Int) := by show (1 : Int) = H; omega
          refine own_OUT Z a0 κ n0 Qx C a b c d a2 1 4 so wr SL hS (1 : Int32) H hH l0 l1 l2 hSL hlen ne7 ne8 ne9 g10 3 (-1 : Int32) (0 : Int32) h1 (0 : Int32) 0 0 (-1) A12 A13 A14 A5 _ _ _ _ _ One.u One.u One.u One.u One.u (by decide) rfl rfl rfl rfl (Nat.le_refl _) ?_
          intro h' cnt' jb' wk' x10 x11 x12 x13 x14 ox10 ox11 ox12 ox13 ox14 hc'
          refine W.iload C m5_270 rfl ?_
          refine W.iconst C m5_272 (z := (1 : Int32)) rfl ?_
          refine W.icmpY C m5_273 (show (1 : Int) ≤ (1 : Int) from (by decide)) ?_
          refine W.iconst C m5_283 (z := (1 : Int32)) rfl ?_
          refine W.goto C m5_284 ?_
          refine W.zreturn C m5_288 (hQ _ _ ?_)
          have hr : own_res H l0 l1 l2 = 1 := by unfold own_res; exact if_pos (by omega)
          rw [hr]; rfl
        · intro (h31 : ¬ (((Int32.ofNat p4)).toInt ≤ ((Int32.ofNat p3)).toInt))
          replace h31 : ((Int32.ofNat p3)).toInt < ((Int32.ofNat p4)).toInt := by omega
          refine W.iconst C m5_34 (z := (1 : Int32)) rfl ?_
          refine W.goto C m5_35 ?_
          refine W.iadd C m5_39 (z := (2 : Int32)) rfl ?_
          refine W.istore C m5_40 (L' := [.val (.ref a), .val (.ref b), .val (.ref c), .val (.ref d), .val (.int (4 : Int32)), .val (.int (2 : Int32)), .val (.int (3 : Int32)), .unset, .unset, .unset, .unset, .unset, .unset, .unset, .unset]) rfl ?_
          refine W.iinc C m5_42 rfl (z := (4 : Int32)) rfl (L' := [.val (.ref a), .val (.ref b), .val (.ref c), .val (.ref d), .val (.int (4 : Int32)), .val (.int (2 : Int32)), .val (.int (4 : Int32)), .unset, .unset, .unset, .unset, .unset, .unset, .unset, .unset]) rfl ?_
          refine W.goto C m5_45 ?_
          refine W.iload C m5_12 rfl ?_
          refine W.iload C m5_14 rfl ?_
          refine W.icmpY C m5_16 (show (4 : Int) ≤ (4 : Int) from (by decide)) ?_
          refine W.iload C m5_48 rfl ?_
          refine W.newarray (a0 := a0) (vs := [(.int (0 : Int32)), (.int (0 : Int32)), (.int (0 : Int32)), (.int (0 : Int32))]) 4 C m5_50 rfl (hw _ (List.mem_of_getElem? (i := 19) rfl)) (by decide) (by decide) rfl (by decide) (by decide) (by decide) ?_
          intro h1 a2 g3 E4 A5
          have ne6 : a ≠ a2 := Nat.ne_of_lt (Nat.lt_of_lt_of_eq Aa.lt g3)
          have ne7 : b ≠ a2 := Nat.ne_of_lt (Nat.lt_of_lt_of_eq Ab.lt g3)
          have ne8 : c ≠ a2 := Nat.ne_of_lt (Nat.lt_of_lt_of_eq Ac.lt g3)
          have ne9 : d ≠ a2 := Nat.ne_of_lt (Nat.lt_of_lt_of_eq Ad.lt g3)
          have g10 : n0 ≤ a2 := Nat.le_trans z0 (Nat.le_of_eq g3)
          have A11 := Aa.ext E4
          have A12 := Ab.ext E4
          have A13 := Ac.ext E4
          have A14 := Ad.ext E4
          have z15 : n0 ≤ h1.size := Nat.le_trans z0 E4.1
          show W κ n0 Qx h1 1 4 52 [.val (.ref a), .val (.ref b), .val (.ref c), .val (.ref d), .val (.int (4 : Int32)), .val (.int (2 : Int32)), .val (.int (4 : Int32)), .unset, .unset, .unset, .unset, .unset, .unset, .unset, .unset] [(.ref a2)]
          refine W.astore C m5_52 (L' := [.val (.ref a), .val (.ref b), .val (.ref c), .val (.ref d), .val (.int (4 : Int32)), .val (.int (2 : Int32)), .val (.ref a2), .unset, .unset, .unset, .unset, .unset, .unset, .unset, .unset]) rfl rfl ?_
          refine W.iconst C m5_54 (z := (0 : Int32)) rfl ?_
          refine W.istore C m5_55 (L' := [.val (.ref a), .val (.ref b), .val (.ref c), .val (.ref d), .val (.int (4 : Int32)), .val (.int (2 : Int32)), .val (.ref a2), .val (.int (0 : Int32)), .unset, .unset, .unset, .unset, .unset, .unset, .unset]) rfl ?_
          refine W.iconst C m5_57 (z := (-1 : Int32)) rfl ?_
          refine W.istore C m5_58 (L' := [.val (.ref a), .val (.ref b), .val (.ref c), .val (.ref d), .val (.int (4 : Int32)), .val (.int (2 : Int32)), .val (.ref a2), .val (.int (0 : Int32)), .val (.int (-1 : Int32)), .unset, .unset, .unset, .unset, .unset, .unset]) rfl ?_
          refine W.iconst C m5_60 (z := (0 : Int32)) rfl ?_
          refine W.istore C m5_61 (L' := [.val (.ref a), .val (.ref b), .val (.ref c), .val (.ref d), .val (.int (4 : Int32)), .val (.int (2 : Int32)), .val (.ref a2), .val (.int (0 : Int32)), .val (.int (-1 : Int32)), .val (.int (0 : Int32)), .unset, .unset, .unset, .unset, .unset]) rfl ?_
          have hH : (2 : Int32).toInt = (H : Int) := by show (2 : Int) = H; omega
          refine own_OUT Z a0 κ n0 Qx C a b c d a2 1 4 so wr SL hS (2 : Int32) H hH l0 l1 l2 hSL hlen ne7 ne8 ne9 g10 3 (-1 : Int32) (0 : Int32) h1 (0 : Int32) 0 0 (-1) A12 A13 A14 A5 _ _ _ _ _ One.u One.u One.u One.u One.u (by decide) rfl rfl rfl rfl (Nat.le_refl _) ?_
          intro h' cnt' jb' wk' x10 x11 x12 x13 x14 ox10 ox11 ox12 ox13 ox14 hc'
          refine W.iload C m5_270 rfl ?_
          refine W.iconst C m5_272 (z := (1 : Int32)) rfl ?_
          refine W.icmpN C m5_273 (show ¬ ((2 : Int) ≤ (1 : Int)) from (by decide)) ?_
          refine W.iload C m5_276 rfl ?_
          refine W.iload C m5_278 rfl ?_
          refine W.icmp C m5_280 ?_ ?_
          · intro (h280 : ¬ cnt'.toInt = (2 : Int))
            refine W.iconst C m5_287 (z := (0 : Int32)) rfl ?_
            refine W.zreturn C m5_288 (hQ _ _ ?_)
            have hr : own_res H l0 l1 l2 = 0 := by unfold own_res; exact if_neg (by omega)
            rw [hr]; rfl
          · intro (h280 : ¬ ¬ cnt'.toInt = (2 : Int))
            replace h280 := Decidable.not_not.mp h280
            refine W.iconst C m5_283 (z := (1 : Int32)) rfl ?_
            refine W.goto C m5_284 ?_
            refine W.zreturn C m5_288 (hQ _ _ ?_)
            have hr : own_res H l0 l1 l2 = 1 := by unfold own_res; exact if_pos (by omega)
            rw [hr]; rfl
      · intro (h31 : ¬ (((Int32.ofNat p3)).toInt ≤ ((Int32.ofNat p2)).toInt))
        replace h31 : ((Int32.ofNat p2)).toInt < ((Int32.ofNat p3)).toInt := by omega
        refine W.iconst C m5_34 (z := (1 : Int32)) rfl ?_
        refine W.goto C m5_35 ?_
        refine W.iadd C m5_39 (z := (2 : Int32)) rfl ?_
        refine W.istore C m5_40 (L' := [.val (.ref a), .val (.ref b), .val (.ref c), .val (.ref d), .val (.int (4 : Int32)), .val (.int (2 : Int32)), .val (.int (2 : Int32)), .unset, .unset, .unset, .unset, .unset, .unset, .unset, .unset]) rfl ?_
        refine W.iinc C m5_42 rfl (z := (3 : Int32)) rfl (L' := [.val (.ref a), .val (.ref b), .val (.ref c), .val (.ref d), .val (.int (4 : Int32)), .val (.int (2 : Int32)), .val (.int (3 : Int32)), .unset, .unset, .unset, .unset, .unset, .unset, .unset, .unset]) rfl ?_
        refine W.goto C m5_45 ?_
        refine W.iload C m5_12 rfl ?_
        refine W.iload C m5_14 rfl ?_
        refine W.icmpN C m5_16 (show ¬ ((4 : Int) ≤ (3 : Int)) from (by decide)) ?_
        refine W.iload C m5_19 rfl ?_
        refine W.aloadN C m5_21 rfl rfl ?_
        refine W.iload C m5_22 rfl ?_
        refine W.iaload C m5_24 Aa (i := 3) rfl rfl ?_
        refine W.aloadN C m5_25 rfl rfl ?_
        refine W.iload C m5_26 rfl ?_
        refine W.iconst C m5_28 (z := (1 : Int32)) rfl ?_
        refine W.iadd C m5_29 (z := (4 : Int32)) rfl ?_
        refine W.iaload C m5_30 Aa (i := 4) rfl rfl ?_
        refine W.icmp C m5_31 ?_ ?_
        · intro (h31 : ((Int32.ofNat p4)).toInt ≤ ((Int32.ofNat p3)).toInt)
          refine W.iconst C m5_38 (z := (0 : Int32)) rfl ?_
          refine W.iadd C m5_39 (z := (2 : Int32)) rfl ?_
          refine W.istore C m5_40 (L' := [.val (.ref a), .val (.ref b), .val (.ref c), .val (.ref d), .val (.int (4 : Int32)), .val (.int (2 : Int32)), .val (.int (3 : Int32)), .unset, .unset, .unset, .unset, .unset, .unset, .unset, .unset]) rfl ?_
          refine W.iinc C m5_42 rfl (z := (4 : Int32)) rfl (L' := [.val (.ref a), .val (.ref b), .val (.ref c), .val (.ref d), .val (.int (4 : Int32)), .val (.int (2 : Int32)), .val (.int (4 : Int32)), .unset, .unset, .unset, .unset, .unset, .unset, .unset, .unset]) rfl ?_
          refine W.goto C m5_45 ?_
          refine W.iload C m5_12 rfl ?_
          refine W.iload C m5_14 rfl ?_
          refine W.icmpY C m5_16 (show (4 : Int) ≤ (4 : Int) from (by decide)) ?_
          refine W.iload C m5_48 rfl ?_
          refine W.newarray (a0 := a0) (vs := [(.int (0 : Int32)), (.int (0 : Int32)), (.int (0 : Int32)), (.int (0 : Int32))]) 4 C m5_50 rfl (hw _ (List.mem_of_getElem? (i := 19) rfl)) (by decide) (by decide) rfl (by decide) (by decide) (by decide) ?_
          intro h1 a2 g3 E4 A5
          have ne6 : a ≠ a2 := Nat.ne_of_lt (Nat.lt_of_lt_of_eq Aa.lt g3)
          have ne7 : b ≠ a2 := Nat.ne_of_lt (Nat.lt_of_lt_of_eq Ab.lt g3)
          have ne8 : c ≠ a2 := Nat.ne_of_lt (Nat.lt_of_lt_of_eq Ac.lt g3)
          have ne9 : d ≠ a2 := Nat.ne_of_lt (Nat.lt_of_lt_of_eq Ad.lt g3)
          have g10 : n0 ≤ a2 := Nat.le_trans z0 (Nat.le_of_eq g3)
          have A11 := Aa.ext E4
          have A12 := Ab.ext E4
          have A13 := Ac.ext E4
          have A14 := Ad.ext E4
          have z15 : n0 ≤ h1.size := Nat.le_trans z0 E4.1
          show W κ n0 Qx h1 1 4 52 [.val (.ref a), .val (.ref b), .val (.ref c), .val (.ref d), .val (.int (4 : Int32)), .val (.int (2 : Int32)), .val (.int (4 : Int32)), .unset, .unset, .unset, .unset, .unset, .unset, .unset, .unset] [(.ref a2)]
          refine W.astore C m5_52 (L' := [.val (.ref a), .val (.ref b), .val (.ref c), .val (.ref d), .val (.int (4 : Int32)), .val (.int (2 : Int32)), .val (.ref a2), .unset, .unset, .unset, .unset, .unset, .unset, .unset, .unset]) rfl rfl ?_
          refine W.iconst C m5_54 (z := (0 : Int32)) rfl ?_
          refine W.istore C m5_55 (L' := [.val (.ref a), .val (.ref b), .val (.ref c), .val (.ref d), .val (.int (4 : Int32)), .val (.int (2 : Int32)), .val (.ref a2), .val (.int (0 : Int32)), .unset, .unset, .unset, .unset, .unset, .unset, .unset]) rfl ?_
          refine W.iconst C m5_57 (z := (-1 : Int32)) rfl ?_
          refine W.istore C m5_58 (L' := [.val (.ref a), .val (.ref b), .val (.ref c), .val (.ref d), .val (.int (4 : Int32)), .val (.int (2 : Int32)), .val (.ref a2), .val (.int (0 : Int32)), .val (.int (-1 : Int32)), .unset, .unset, .unset, .unset, .unset, .unset]) rfl ?_
          refine W.iconst C m5_60 (z := (0 : Int32)) rfl ?_
          refine W.istore C m5_61 (L' := [.val (.ref a), .val (.ref b), .val (.ref c), .val (.ref d), .val (.int (4 : Int32)), .val (.int (2 : Int32)), .val (.ref a2), .val (.int (0 : Int32)), .val (.int (-1 : Int32)), .val (.int (0 : Int32)), .unset, .unset, .unset, .unset, .unset]) rfl ?_
          have hH : (2 : Int32).toInt = (H : Int) := by show (2 : Int) = H; omega
          refine own_OUT Z a0 κ n0 Qx C a b c d a2 1 4 so wr SL hS (2 : Int32) H hH l0 l1 l2 hSL hlen ne7 ne8 ne9 g10 3 (-1 : Int32) (0 : Int32) h1 (0 : Int32) 0 0 (-1) A12 A13 A14 A5 _ _ _ _ _ One.u One.u One.u One.u One.u (by decide) rfl rfl rfl rfl (Nat.le_refl _) ?_
          intro h' cnt' jb' wk' x10 x11 x12 x13 x14 ox10 ox11 ox12 ox13 ox14 hc'
          refine W.iload C m5_270 rfl ?_
          refine W.iconst C m5_272 (z := (1 : Int32)) rfl ?_
          refine W.icmpN C m5_273 (show ¬ ((2 : Int) ≤ (1 : Int)) from (by decide)) ?_
          refine W.iload C m5_276 rfl ?_
          refine W.iload C m5_278 rfl ?_
          refine W.icmp C m5_280 ?_ ?_
          · intro (h280 : ¬ cnt'.toInt = (2 : Int))
            refine W.iconst C m5_287 (z := (0 : Int32)) rfl ?_
            refine W.zreturn C m5_288 (hQ _ _ ?_)
            have hr : own_res H l0 l1 l2 = 0 := by unfold own_res; exact if_neg (by omega)
            rw [hr]; rfl
          · intro (h280 : ¬ ¬ cnt'.toInt = (2 : Int))
            replace h280 := Decidable.not_not.mp h280
            refine W.iconst C m5_283 (z := (1 : Int32)) rfl ?_
            refine W.goto C m5_284 ?_
            refine W.zreturn C m5_288 (hQ _ _ ?_)
            have hr : own_res H l0 l1 l2 = 1 := by unfold own_res; exact if_pos (by omega)
            rw [hr]; rfl
        · intro (h31 : ¬ (((Int32.ofNat p4)).toInt ≤ ((Int32.ofNat p3)).toInt))
          replace h31 : ((Int32.ofNat p3)).toInt < ((Int32.ofNat p4)).toInt := by omega
          refine W.iconst C m5_34 (z := (1 : Int32)) rfl ?_
          refine W.goto C m5_35 ?_
          refine W.iadd C m5_39 (z := (3 : Int32)) rfl ?_
          refine W.istore C m5_40 (L' := [.val (.ref a), .val (.ref b), .val (.ref c), .val (.ref d), .val (.int (4 : Int32)), .val (.int (3 : Int32)), .val (.int (3 : Int32)), .unset, .unset, .unset, .unset, .unset, .unset, .unset, .unset]) rfl ?_
          refine W.iinc C m5_42 rfl (z := (4 : Int32)) rfl (L' := [.val (.ref a), .val (.ref b), .val (.ref c), .val (.ref d), .val (.int (4 : Int32)), .val (.int (3 : Int32)), .val (.int (4 : Int32)), .unset, .unset, .unset, .unset, .unset, .unset, .unset, .unset]) rfl ?_
          refine W.goto C m5_45 ?_
          refine W.iload C m5_12 rfl ?_
          refine W.iload C m5_14 rfl ?_
          refine W.icmpY C m5_16 (show (4 : Int) ≤ (4 : Int) from (by decide)) ?_
          refine W.iload C m5_48 rfl ?_
          refine W.newarray (a0 := a0) (vs := [(.int (0 : Int32)), (.int (0 : Int32)), (.int (0 : Int32)), (.int (0 : Int32))]) 4 C m5_50 rfl (hw _ (List.mem_of_getElem? (i := 19) rfl)) (by decide) (by decide) rfl (by decide) (by decide) (by decide) ?_
          intro h1 a2 g3 E4 A5
          have ne6 : a ≠ a2 := Nat.ne_of_lt (Nat.lt_of_lt_of_eq Aa.lt g3)
          have ne7 : b ≠ a2 := Nat.ne_of_lt (Nat.lt_of_lt_of_eq Ab.lt g3)
          have ne8 : c ≠ a2 := Nat.ne_of_lt (Nat.lt_of_lt_of_eq Ac.lt g3)
          have ne9 : d ≠ a2 := Nat.ne_of_lt (Nat.lt_of_lt_of_eq Ad.lt g3)
          have g10 : n0 ≤ a2 := Nat.le_trans z0 (Nat.le_of_eq g3)
          have A11 := Aa.ext E4
          have A12 := Ab.ext E4
          have A13 := Ac.ext E4
          have A14 := Ad.ext E4
          have z15 : n0 ≤ h1.size := Nat.le_trans z0 E4.1
          show W κ n0 Qx h1 1 4 52 [.val (.ref a), .val (.ref b), .val (.ref c), .val (.ref d), .val (.int (4 : Int32)), .val (.int (3 : Int32)), .val (.int (4 : Int32)), .unset, .unset, .unset, .unset, .unset, .unset, .unset, .unset] [(.ref a2)]
          refine W.astore C m5_52 (L' := [.val (.ref a), .val (.ref b), .val (.ref c), .val (.ref d), .val (.int (4 : Int32)), .val (.int (3 : Int32)), .val (.ref a2), .unset, .unset, .unset, .unset, .unset, .unset, .unset, .unset]) rfl rfl ?_
          refine W.iconst C m5_54 (z := (0 : Int32)) rfl ?_
          refine W.istore C m5_55 (L' := [.val (.ref a), .val (.ref b), .val (.ref c), .val (.ref d), .val (.int (4 : Int32)), .val (.int (3 : Int32)), .val (.ref a2), .val (.int (0 : Int32)), .unset, .unset, .unset, .unset, .unset, .unset, .unset]) rfl ?_
          refine W.iconst C m5_57 (z := (-1 : Int32)) rfl ?_
          refine W.istore C m5_58 (L' := [.val (.ref a), .val (.ref b), .val (.ref c), .val (.ref d), .val (.int (4 : Int32)), .val (.int (3 : Int32)), .val (.ref a2), .val (.int (0 : Int32)), .val (.int (-1 : Int32)), .unset, .unset, .unset, .unset, .unset, .unset]) rfl ?_
          refine W.iconst C m5_60 (z := (0 : Int32)) rfl ?_
          refine W.istore C m5_61 (L' := [.val (.ref a), .val (.ref b), .val (.ref c), .val (.ref d), .val (.int (4 : Int32)), .val (.int (3 : Int32)), .val (.ref a2), .val (.int (0 : Int32)), .val (.int (-1 : Int32)), .val (.int (0 : Int32)), .unset, .unset, .unset, .unset, .unset]) rfl ?_
          have hH : (3 : Int32).toInt = (H : Int) := by show (3 : Int) = H; omega
          refine own_OUT Z a0 κ n0 Qx C a b c d a2 1 4 so wr SL hS (3 : Int32) H hH l0 l1 l2 hSL hlen ne7 ne8 ne9 g10 3 (-1 : Int32) (0 : Int32) h1 (0 : Int32) 0 0 (-1) A12 A13 A14 A5 _ _ _ _ _ One.u One.u One.u One.u One.u (by decide) rfl rfl rfl rfl (Nat.le_refl _) ?_
          intro h' cnt' jb' wk' x10 x11 x12 x13 x14 ox10 ox11 ox12 ox13 ox14 hc'
          refine W.iload C m5_270 rfl ?_
          refine W.iconst C m5_272 (z := (1 : Int32)) rfl ?_
          refine W.icmpN C m5_273 (show ¬ ((3 : Int) ≤ (1 : Int)) from (by decide)) ?_
          refine W.iload C m5_276 rfl ?_
          refine W.iload C m5_278 rfl ?_
          refine W.icmp C m5_280 ?_ ?_
          · intro (h280 : ¬ cnt'.toInt = (3 : Int))
            refine W.iconst C m5_287 (z := (0 : Int32)) rfl ?_
            refine W.zreturn C m5_288 (hQ _ _ ?_)
            have hr : own_res H l0 l1 l2 = 0 := by unfold own_res; exact if_neg (by omega)
            rw [hr]; rfl
          · intro (h280 : ¬ ¬ cnt'.toInt = (3 : Int))
            replace h280 := Decidable.not_not.mp h280
            refine W.iconst C m5_283 (z := (1 : Int32)) rfl ?_
            refine W.goto C m5_284 ?_
            refine W.zreturn C m5_288 (hQ _ _ ?_)
            have hr : own_res H l0 l1 l2 = 1 := by unfold own_res; exact if_pos (by omega)
            rw [hr]; rfl
    · intro (h31 : ¬ (((Int32.ofNat p2)).toInt ≤ ((Int32.ofNat p1)).toInt))
      replace h31 : ((Int32.ofNat p1)).toInt < ((Int32.ofNat p2)).toInt := by omega
      refine W.iconst C m5_34 (z := (1 : Int32)) rfl ?_
      refine W.goto C m5_35 ?_
      refine W.iadd C m5_39 (z := (2 : Int32)) rfl ?_
      refine W.istore C m5_40 (L' := [.val (.ref a), .val (.ref b), .val (.ref c), .val (.ref d), .val (.int (4 : Int32)), .val (.int (2 : Int32)), .val (.int (1 : Int32)), .unset, .unset, .unset, .unset, .unset, .unset, .unset, .unset]) rfl ?_
      refine W.iinc C m5_42 rfl (z := (2 : Int32)) rfl (L' := [.val (.ref a), .val (.ref b), .val (.ref c), .val (.ref d), .val (.int (4 : Int32)), .val (.int (2 : Int32)), .val (.int (2 : Int32)), .unset, .unset, .unset, .unset, .unset, .unset, .unset, .unset]) rfl ?_
      refine W.goto C m5_45 ?_
      refine W.iload C m5_12 rfl ?_
      refine W.iload C m5_14 rfl ?_
      refine W.icmpN C m5_16 (show ¬ ((4 : Int) ≤ (2 : Int)) from (by decide)) ?_
      refine W.iload C m5_19 rfl ?_
      refine W.aloadN C m5_21 rfl rfl ?_
      refine W.iload C m5_22 rfl ?_
      refine W.iaload C m5_24 Aa (i := 2) rfl rfl ?_
      refine W.aloadN C m5_25 rfl rfl ?_
      refine W.iload C m5_26 rfl ?_
      refine W.iconst C m5_28 (z := (1 : Int32)) rfl ?_
      refine W.iadd C m5_29 (z := (3 : Int32)) rfl ?_
      refine W.iaload C m5_30 Aa (i := 3) rfl rfl ?_
      refine W.icmp C m5_31 ?_ ?_
      · intro (h31 : ((Int32.ofNat p3)).toInt ≤ ((Int32.ofNat p2)).toInt)
        refine W.iconst C m5_38 (z := (0 : Int32)) rfl ?_
        refine W.iadd C m5_39 (z := (2 : Int32)) rfl ?_
        refine W.istore C m5_40 (L' := [.val (.ref a), .val (.ref b), .val (.ref c), .val (.ref d), .val (.int (4 : Int32)), .val (.int (2 : Int32)), .val (.int (2 : Int32)), .unset, .unset, .unset, .unset, .unset, .unset, .unset, .unset]) rfl ?_
        refine W.iinc C m5_42 rfl (z := (3 : Int32)) rfl (L' := [.val (.ref a), .val (.ref b), .val (.ref c), .val (.ref d), .val (.int (4 : Int32)), .val (.int (2 : Int32)), .val (.int (3 : Int32)), .unset, .unset, .unset, .unset, .unset, .unset, .unset, .unset]) rfl ?_
        refine W.goto C m5_45 ?_
        refine W.iload C m5_12 rfl ?_
        refine W.iload C m5_14 rfl ?_
        refine W.icmpN C m5_16 (show ¬ ((4 : Int) ≤ (3 : Int)) from (by decide)) ?_
        refine W.iload C m5_19 rfl ?_
        refine W.aloadN C m5_21 rfl rfl ?_
        refine W.iload C m5_22 rfl ?_
        refine W.iaload C m5_24 Aa (i := 3) rfl rfl ?_
        refine W.aloadN C m5_25 rfl rfl ?_
        refine W.iload C m5_26 rfl ?_
        refine W.iconst C m5_28 (z := (1 : Int32)) rfl ?_
        refine W.iadd C m5_29 (z := (4 : Int32)) rfl ?_
        refine W.iaload C m5_30 Aa (i := 4) rfl rfl ?_
        refine W.icmp C m5_31 ?_ ?_
        · intro (h31 : ((Int32.ofNat p4)).toInt ≤ ((Int32.ofNat p3)).toInt)
          refine W.iconst C m5_38 (z := (0 : Int32)) rfl ?_
          refine W.iadd C m5_39 (z := (2 : Int32)) rfl ?_
          refine W.istore C m5_40 (L' := [.val (.ref a), .val (.ref b), .val (.ref c), .val (.ref d), .val (.int (4 : Int32)), .val (.int (2 : Int32)), .val (.int (3 : Int32)), .unset, .unset, .unset, .unset, .unset, .unset, .unset, .unset]) rfl ?_
          refine W.iinc C m5_42 rfl (z := (4 : Int32)) rfl (L' := [.val (.ref a), .val (.ref b), .val (.ref c), .val (.ref d), .val (.int (4 : Int32)), .val (.int (2 : Int32)), .val (.int (4 : Int32)), .unset, .unset, .unset, .unset, .unset, .unset, .unset, .unset]) rfl ?_
          refine W.goto C m5_45 ?_
          refine W.iload C m5_12 rfl ?_
          refine W.iload C m5_14 rfl ?_
          refine W.icmpY C m5_16 (show (4 : Int) ≤ (4 : Int) from (by decide)) ?_
          refine W.iload C m5_48 rfl ?_
          refine W.newarray (a0 := a0) (vs := [(.int (0 : Int32)), (.int (0 : Int32)), (.int (0 : Int32)), (.int (0 : Int32))]) 4 C m5_50 rfl (hw _ (List.mem_of_getElem? (i := 19) rfl)) (by decide) (by decide) rfl (by decide) (by decide) (by decide) ?_
          intro h1 a2 g3 E4 A5
          have ne6 : a ≠ a2 := Nat.ne_of_lt (Nat.lt_of_lt_of_eq Aa.lt g3)
          have ne7 : b ≠ a2 := Nat.ne_of_lt (Nat.lt_of_lt_of_eq Ab.lt g3)
          have ne8 : c ≠ a2 := Nat.ne_of_lt (Nat.lt_of_lt_of_eq Ac.lt g3)
          have ne9 : d ≠ a2 := Nat.ne_of_lt (Nat.lt_of_lt_of_eq Ad.lt g3)
          have g10 : n0 ≤ a2 := Nat.le_trans z0 (Nat.le_of_eq g3)
          have A11 := Aa.ext E4
          have A12 := Ab.ext E4
          have A13 := Ac.ext E4
          have A14 := Ad.ext E4
          have z15 : n0 ≤ h1.size := Nat.le_trans z0 E4.1
          show W κ n0 Qx h1 1 4 52 [.val (.ref a), .val (.ref b), .val (.ref c), .val (.ref d), .val (.int (4 : Int32)), .val (.int (2 : Int32)), .val (.int (4 : Int32)), .unset, .unset, .unset, .unset, .unset, .unset, .unset, .unset] [(.ref a2)]
          refine W.astore C m5_52 (L' := [.val (.ref a), .val (.ref b), .val (.ref c), .val (.ref d), .val (.int (4 : Int32)), .val (.int (2 : Int32)), .val (.ref a2), .unset, .unset, .unset, .unset, .unset, .unset, .unset, .unset]) rfl rfl ?_
          refine W.iconst C m5_54 (z := (0 : Int32)) rfl ?_
          refine W.istore C m5_55 (L' := [.val (.ref a), .val (.ref b), .val (.ref c), .val (.ref d), .val (.int (4 : Int32)), .val (.int (2 : Int32)), .val (.ref a2), .val (.int (0 : Int32)), .unset, .unset, .unset, .unset, .unset, .unset, .unset]) rfl ?_
          refine W.iconst C m5_57 (z := (-1 : Int32)) rfl ?_
          refine W.istore C m5_58 (L' := [.val (.ref a), .val (.ref b), .val (.ref c), .val (.ref d), .val (.int (4 : Int32)), .val (.int (2 : Int32)), .val (.ref a2), .val (.int (0 : Int32)), .val (.int (-1 : Int32)), .unset, .unset, .unset, .unset, .unset, .unset]) rfl ?_
          refine W.iconst C m5_60 (z := (0 : Int32)) rfl ?_
          refine W.istore C m5_61 (L' := [.val (.ref a), .val (.ref b), .val (.ref c), .val (.ref d), .val (.int (4 : Int32)), .val (.int (2 : Int32)), .val (.ref a2), .val (.int (0 : Int32)), .val (.int (-1 : Int32)), .val (.int (0 : Int32)), .unset, .unset, .unset, .unset, .unset]) rfl ?_
          have hH : (2 : Int32).toInt = (H : Int) := by show (2 : Int) = H; omega
          refine own_OUT Z a0 κ n0 Qx C a b c d a2 1 4 so wr SL hS (2 : Int32) H hH l0 l1 l2 hSL hlen ne7 ne8 ne9 g10 3 (-1 : Int32) (0 : Int32) h1 (0 : Int32) 0 0 (-1) A12 A13 A14 A5 _ _ _ _ _ One.u One.u One.u One.u One.u (by decide) rfl rfl rfl rfl (Nat.le_refl _) ?_
          intro h' cnt' jb' wk' x10 x11 x12 x13 x14 ox10 ox11 ox12 ox13 ox14 hc'
          refine W.iload C m5_270 rfl ?_
          refine W.iconst C m5_272 (z := (1 : Int32)) rfl ?_
          refine W.icmpN C m5_273 (show ¬ ((2 : Int) ≤ (1 : Int)) from (by decide)) ?_
          refine W.iload C m5_276 rfl ?_
          refine W.iload C m5_278 rfl ?_
          refine W.icmp C m5_280 ?_ ?_
          · intro (h280 : ¬ cnt'.toInt = (2 : Int))
            refine W.iconst C m5_287 (z := (0 : Int32)) rfl ?_
            refine W.zreturn C m5_288 (hQ _ _ ?_)
            have hr : own_res H l0 l1 l2 = 0 := by unfold own_res; exact if_neg (by omega)
            rw [hr]; rfl
          · intro (h280 : ¬ ¬ cnt'.toInt = (2 : Int))
            replace h280 := Decidable.not_not.mp h280
            refine W.iconst C m5_283 (z := (1 : Int32)) rfl ?_
            refine W.goto C m5_284 ?_
            refine W.zreturn C m5_288 (hQ _ _ ?_)
            have hr : own_res H l0 l1 l2 = 1 := by unfold own_res; exact if_pos (by omega)
            rw [hr]; rfl
        · intro (h31 : ¬ (((Int32.ofNat p4)).toInt ≤ ((Int32.ofNat p3)).toInt))
          replace h31 : ((Int32.ofNat p3)).toInt < ((Int32.ofNat p4)).toInt := by omega
          refine W.iconst C m5_34 (z := (1 : Int32)) rfl ?_
          refine W.goto C m5_35 ?_
          refine W.iadd C m5_39 (z := (3 : Int32)) rfl ?_
          refine W.istore C m5_40 (L' := [.val (.ref a), .val (.ref b), .val (.ref c), .val (.ref d), .val (.int (4 : Int32)), .val (.int (3 : Int32)), .val (.int (3 : Int32)), .unset, .unset, .unset, .unset, .unset, .unset, .unset, .unset]) rfl ?_
          refine W.iinc C m5_42 rfl (z := (4 : Int32)) rfl (L' := [.val (.ref a), .val (.ref b), .val (.ref c), .val (.ref d), .val (.int (4 : Int32)), .val (.int (3 : Int32)), .val (.int (4 : Int32)), .unset, .unset, .unset, .unset, .unset, .unset, .unset, .unset]) rfl ?_
          refine W.goto C m5_45 ?_
          refine W.iload C m5_12 rfl ?_
          refine W.iload C m5_14 rfl ?_
          refine W.icmpY C m5_16 (show (4 : Int) ≤ (4 : Int) from (by decide)) ?_
          refine W.iload C m5_48 rfl ?_
          refine W.newarray (a0 := a0) (vs := [(.int (0 : Int32)), (.int (0 : Int32)), (.int (0 : Int32)), (.int (0 : Int32))]) 4 C m5_50 rfl (hw _ (List.mem_of_getElem? (i := 19) rfl)) (by decide) (by decide) rfl (by decide) (by decide) (by decide) ?_
          intro h1 a2 g3 E4 A5
          have ne6 : a ≠ a2 := Nat.ne_of_lt (Nat.lt_of_lt_of_eq Aa.lt g3)
          have ne7 : b ≠ a2 := Nat.ne_of_lt (Nat.lt_of_lt_of_eq Ab.lt g3)
          have ne8 : c ≠ a2 := Nat.ne_of_lt (Nat.lt_of_lt_of_eq Ac.lt g3)
          have ne9 : d ≠ a2 := Nat.ne_of_lt (Nat.lt_of_lt_of_eq Ad.lt g3)
          have g10 : n0 ≤ a2 := Nat.le_trans z0 (Nat.le_of_eq g3)
          have A11 := Aa.ext E4
          have A12 := Ab.ext E4
          have A13 := Ac.ext E4
          have A14 := Ad.ext E4
          have z15 : n0 ≤ h1.size := Nat.le_trans z0 E4.1
          show W κ n0 Qx h1 1 4 52 [.val (.ref a), .val (.ref b), .val (.ref c), .val (.ref d), .val (.int (4 : Int32)), .val (.int (3 : Int32)), .val (.int (4 : Int32)), .unset, .unset, .unset, .unset, .unset, .unset, .unset, .unset] [(.ref a2)]
          refine W.astore C m5_52 (L' := [.val (.ref a), .val (.ref b), .val (.ref c), .val (.ref d), .val (.int (4 : Int32)), .val (.int (3 : Int32)), .val (.ref a2), .unset, .unset, .unset, .unset, .unset, .unset, .unset, .unset]) rfl rfl ?_
          refine W.iconst C m5_54 (z := (0 : Int32)) rfl ?_
          refine W.istore C m5_55 (L' := [.val (.ref a), .val (.ref b), .val (.ref c), .val (.ref d), .val (.int (4 : Int32)), .val (.int (3 : Int32)), .val (.ref a2), .val (.int (0 : Int32)), .unset, .unset, .unset, .unset, .unset, .unset, .unset]) rfl ?_
          refine W.iconst C m5_57 (z := (-1 : Int32)) rfl ?_
          refine W.istore C m5_58 (L' := [.val (.ref a), .val (.ref b), .val (.ref c), .val (.ref d), .val (.int (4 : Int32)), .val (.int (3 : Int32)), .val (.ref a2), .val (.int (0 : Int32)), .val (.int (-1 : Int32)), .unset, .unset, .unset, .unset, .unset, .unset]) rfl ?_
          refine W.iconst C m5_60 (z := (0 : Int32)) rfl ?_
          refine W.istore C m5_61 (L' := [.val (.ref a), .val (.ref b), .val (.ref c), .val (.ref d), .val (.int (4 : Int32)), .val (.int (3 : Int32)), .val (.ref a2), .val (.int (0 : Int32)), .val (.int (-1 : Int32)), .val (.int (0 : Int32)), .unset, .unset, .unset, .unset, .unset]) rfl ?_
          have hH : (3 : Int32).toInt = (H : Int) := by show (3 : Int) = H; omega
          refine own_OUT Z a0 κ n0 Qx C a b c d a2 1 4 so wr SL hS (3 : Int32) H hH l0 l1 l2 hSL hlen ne7 ne8 ne9 g10 3 (-1 : Int32) (0 : Int32) h1 (0 : Int32) 0 0 (-1) A12 A13 A14 A5 _ _ _ _ _ One.u One.u One.u One.u One.u (by decide) rfl rfl rfl rfl (Nat.le_refl _) ?_
          intro h' cnt' jb' wk' x10 x11 x12 x13 x14 ox10 ox11 ox12 ox13 ox14 hc'
          refine W.iload C m5_270 rfl ?_
          refine W.iconst C m5_272 (z := (1 : Int32)) rfl ?_
          refine W.icmpN C m5_273 (show ¬ ((3 : Int) ≤ (1 : Int)) from (by decide)) ?_
          refine W.iload C m5_276 rfl ?_
          refine W.iload C m5_278 rfl ?_
          refine W.icmp C m5_280 ?_ ?_
          · intro (h280 : ¬ cnt'.toInt = (3 : Int))
            refine W.iconst C m5_287 (z := (0 : Int32)) rfl ?_
            refine W.zreturn C m5_288 (hQ _ _ ?_)
            have hr : own_res H l0 l1 l2 = 0 := by unfold own_res; exact if_neg (by omega)
            rw [hr]; rfl
          · intro (h280 : ¬ ¬ cnt'.toInt = (3 : Int))
            replace h280 := Decidable.not_not.mp h280
            refine W.iconst C m5_283 (z := (1 : Int32)) rfl ?_
            refine W.goto C m5_284 ?_
            refine W.zreturn C m5_288 (hQ _ _ ?_)
            have hr : own_res H l0 l1 l2 = 1 := by unfold own_res; exact if_pos (by omega)
            rw [hr]; rfl
      · intro (h31 : ¬ (((Int32.ofNat p3)).toInt ≤ ((Int32.ofNat p2)).toInt))
        replace h31 : ((Int32.ofNat p2)).toInt < ((Int32.ofNat p3)).toInt := by omega
        refine W.iconst C m5_34 (z := (1 : Int32)) rfl ?_
        refine W.goto C m5_35 ?_
        refine W.iadd C m5_39 (z := (3 : Int32)) rfl ?_
        refine W.istore C m5_40 (L' := [.val (.ref a), .val (.ref b), .val (.ref c), .val (.ref d), .val (.int (4 : Int32)), .val (.int (3 : Int32)), .val (.int (2 : Int32)), .unset, .unset, .unset, .unset, .unset, .unset, .unset, .unset]) rfl ?_
        refine W.iinc C m5_42 rfl (z := (3 : Int32)) rfl (L' := [.val (.ref a), .val (.ref b), .val (.ref c), .val (.ref d), .val (.int (4 : Int32)), .val (.int (3 : Int32)), .val (.int (3 : Int32)), .unset, .unset, .unset, .unset, .unset, .unset, .unset, .unset]) rfl ?_
        refine W.goto C m5_45 ?_
        refine W.iload C m5_12 rfl ?_
        refine W.iload C m5_14 rfl ?_
        refine W.icmpN C m5_16 (show ¬ ((4 : Int) ≤ (3 : Int)) from (by decide)) ?_
        refine W.iload C m5_19 rfl ?_
        refine W.aloadN C m5_21 rfl rfl ?_
        refine W.iload C m5_22 rfl ?_
        refine W.iaload C m5_24 Aa (i := 3) rfl rfl ?_
        refine W.aloadN C m5_25 rfl rfl ?_
        refine W.iload C m5_26 rfl ?_
        refine W.iconst C m5_28 (z := (1 : Int32)) rfl ?_
        refine W.iadd C m5_29 (z := (4 : Int32)) rfl ?_
        refine W.iaload C m5_30 Aa (i := 4) rfl rfl ?_
        refine W.icmp C m5_31 ?_ ?_
        · intro (h31 : ((Int32.ofNat p4)).toInt ≤ ((Int32.ofNat p3)).toInt)
          refine W.iconst C m5_38 (z := (0 : Int32)) rfl ?_
          refine W.iadd C m5_39 (z := (3 : Int32)) rfl ?_
          refine W.istore C m5_40 (L' := [.val (.ref a), .val (.ref b), .val (.ref c), .val (.ref d), .val (.int (4 : Int32)), .val (.int (3 : Int32)), .val (.int (3 : Int32)), .unset, .unset, .unset, .unset, .unset, .unset, .unset, .unset]) rfl ?_
          refine W.iinc C m5_42 rfl (z := (4 : Int32)) rfl (L' := [.val (.ref a), .val (.ref b), .val (.ref c), .val (.ref d), .val (.int (4 : Int32)), .val (.int (3 : Int32)), .val (.int (4 : Int32)), .unset, .unset, .unset, .unset, .unset, .unset, .unset, .unset]) rfl ?_
          refine W.goto C m5_45 ?_
          refine W.iload C m5_12 rfl ?_
          refine W.iload C m5_14 rfl ?_
          refine W.icmpY C m5_16 (show (4 : Int) ≤ (4 : Int) from (by decide)) ?_
          refine W.iload C m5_48 rfl ?_
          refine W.newarray (a0 := a0) (vs := [(.int (0 : Int32)), (.int (0 : Int32)), (.int (0 : Int32)), (.int (0 : Int32))]) 4 C m5_50 rfl (hw _ (List.mem_of_getElem? (i := 19) rfl)) (by decide) (by decide) rfl (by decide) (by decide) (by decide) ?_
          intro h1 a2 g3 E4 A5
          have ne6 : a ≠ a2 := Nat.ne_of_lt (Nat.lt_of_lt_of_eq Aa.lt g3)
          have ne7 : b ≠ a2 := Nat.ne_of_lt (Nat.lt_of_lt_of_eq Ab.lt g3)
          have ne8 : c ≠ a2 := Nat.ne_of_lt (Nat.lt_of_lt_of_eq Ac.lt g3)
          have ne9 : d ≠ a2 := Nat.ne_of_lt (Nat.lt_of_lt_of_eq Ad.lt g3)
          have g10 : n0 ≤ a2 := Nat.le_trans z0 (Nat.le_of_eq g3)
          have A11 := Aa.ext E4
          have A12 := Ab.ext E4
          have A13 := Ac.ext E4
          have A14 := Ad.ext E4
          have z15 : n0 ≤ h1.size := Nat.le_trans z0 E4.1
          show W κ n0 Qx h1 1 4 52 [.val (.ref a), .val (.ref b), .val (.ref c), .val (.ref d), .val (.int (4 : Int32)), .val (.int (3 : Int32)), .val (.int (4 : Int32)), .unset, .unset, .unset, .unset, .unset, .unset, .unset, .unset] [(.ref a2)]
          refine W.astore C m5_52 (L' := [.val (.ref a), .val (.ref b), .val (.ref c), .val (.ref d), .val (.int (4 : Int32)), .val (.int (3 : Int32)), .val (.ref a2), .unset, .unset, .unset, .unset, .unset, .unset, .unset, .unset]) rfl rfl ?_
          refine W.iconst C m5_54 (z := (0 : Int32)) rfl ?_
          refine W.istore C m5_55 (L' := [.val (.ref a), .val (.ref b), .val (.ref c), .val (.ref d), .val (.int (4 : Int32)), .val (.int (3 : Int32)), .val (.ref a2), .val (.int (0 : Int32)), .unset, .unset, .unset, .unset, .unset, .unset, .unset]) rfl ?_
          refine W.iconst C m5_57 (z := (-1 : Int32)) rfl ?_
          refine W.istore C m5_58 (L' := [.val (.ref a), .val (.ref b), .val (.ref c), .val (.ref d), .val (.int (4 : Int32)), .val (.int (3 : Int32)), .val (.ref a2), .val (.int (0 : Int32)), .val (.int (-1 : Int32)), .unset, .unset, .unset, .unset, .unset, .unset]) rfl ?_
          refine W.iconst C m5_60 (z := (0 : Int32)) rfl ?_
          refine W.istore C m5_61 (L' := [.val (.ref a), .val (.ref b), .val (.ref c), .val (.ref d), .val (.int (4 : Int32)), .val (.int (3 : Int32)), .val (.ref a2), .val (.int (0 : Int32)), .val (.int (-1 : Int32)), .val (.int (0 : Int32)), .unset, .unset, .unset, .unset, .unset]) rfl ?_
          have hH : (3 : Int32).toInt = (H : Int) := by show (3 : Int) = H; omega
          refine own_OUT Z a0 κ n0 Qx C a b c d a2 1 4 so wr SL hS (3 : Int32) H hH l0 l1 l2 hSL hlen ne7 ne8 ne9 g10 3 (-1 : Int32) (0 : Int32) h1 (0 : Int32) 0 0 (-1) A12 A13 A14 A5 _ _ _ _ _ One.u One.u One.u One.u One.u (by decide) rfl rfl rfl rfl (Nat.le_refl _) ?_
          intro h' cnt' jb' wk' x10 x11 x12 x13 x14 ox10 ox11 ox12 ox13 ox14 hc'
          refine W.iload C m5_270 rfl ?_
          refine W.iconst C m5_272 (z := (1 : Int32)) rfl ?_
          refine W.icmpN C m5_273 (show ¬ ((3 : Int) ≤ (1 : Int)) from (by decide)) ?_
          refine W.iload C m5_276 rfl ?_
          refine W.iload C m5_278 rfl ?_
          refine W.icmp C m5_280 ?_ ?_
          · intro (h280 : ¬ cnt'.toInt = (3 : Int))
            refine W.iconst C m5_287 (z := (0 : Int32)) rfl ?_
            refine W.zreturn C m5_288 (hQ _ _ ?_)
            have hr : own_res H l0 l1 l2 = 0 := by unfold own_res; exact if_neg (by omega)
            rw [hr]; rfl
          · intro (h280 : ¬ ¬ cnt'.toInt = (3 : Int))
            replace h280 := Decidable.not_not.mp h280
            refine W.iconst C m5_283 (z := (1 : Int32)) rfl ?_
            refine W.goto C m5_284 ?_
            refine W.zreturn C m5_288 (hQ _ _ ?_)
            have hr : own_res H l0 l1 l2 = 1 := by unfold own_res; exact if_pos (by omega)
            rw [hr]; rfl
        · intro (h31 : ¬ (((Int32.ofNat p4)).toInt ≤ ((Int32.ofNat p3)).toInt))
          replace h31 : ((Int32.ofNat p3)).toInt < ((Int32.ofNat p4)).toInt := by omega
          refine W.iconst C m5_34 (z := (1 : Int32)) rfl ?_
          refine W.goto C m5_35 ?_
          refine W.iadd C m5_39 (z := (4 : Int32)) rfl ?_
          refine W.istore C m5_40 (L' := [.val (.ref a), .val (.ref b), .val (.ref c), .val (.ref d), .val (.int (4 : Int32)), .val (.int (4 : Int32)), .val (.int (3 : Int32)), .unset, .unset, .unset, .unset, .unset, .unset, .unset, .unset]) rfl ?_
          refine W.iinc C m5_42 rfl (z := (4 : Int32)) rfl (L' := [.val (.ref a), .val (.ref b), .val (.ref c), .val (.ref d), .val (.int (4 : Int32)), .val (.int (4 : Int32)), .val (.int (4 : Int32)), .unset, .unset, .unset, .unset, .unset, .unset, .unset, .unset]) rfl ?_
          refine W.goto C m5_45 ?_
          refine W.iload C m5_12 rfl ?_
          refine W.iload C m5_14 rfl ?_
          refine W.icmpY C m5_16 (show (4 : Int) ≤ (4 : Int) from (by decide)) ?_
          refine W.iload C m5_48 rfl ?_
          refine W.newarray (a0 := a0) (vs := [(.int (0 : Int32)), (.int (0 : Int32)), (.int (0 : Int32)), (.int (0 : Int32))]) 4 C m5_50 rfl (hw _ (List.mem_of_getElem? (i := 19) rfl)) (by decide) (by decide) rfl (by decide) (by decide) (by decide) ?_
          intro h1 a2 g3 E4 A5
          have ne6 : a ≠ a2 := Nat.ne_of_lt (Nat.lt_of_lt_of_eq Aa.lt g3)
          have ne7 : b ≠ a2 := Nat.ne_of_lt (Nat.lt_of_lt_of_eq Ab.lt g3)
          have ne8 : c ≠ a2 := Nat.ne_of_lt (Nat.lt_of_lt_of_eq Ac.lt g3)
          have ne9 : d ≠ a2 := Nat.ne_of_lt (Nat.lt_of_lt_of_eq Ad.lt g3)
          have g10 : n0 ≤ a2 := Nat.le_trans z0 (Nat.le_of_eq g3)
          have A11 := Aa.ext E4
          have A12 := Ab.ext E4
          have A13 := Ac.ext E4
          have A14 := Ad.ext E4
          have z15 : n0 ≤ h1.size := Nat.le_trans z0 E4.1
          show W κ n0 Qx h1 1 4 52 [.val (.ref a), .val (.ref b), .val (.ref c), .val (.ref d), .val (.int (4 : Int32)), .val (.int (4 : Int32)), .val (.int (4 : Int32)), .unset, .unset, .unset, .unset, .unset, .unset, .unset, .unset] [(.ref a2)]
          refine W.astore C m5_52 (L' := [.val (.ref a), .val (.ref b), .val (.ref c), .val (.ref d), .val (.int (4 : Int32)), .val (.int (4 : Int32)), .val (.ref a2), .unset, .unset, .unset, .unset, .unset, .unset, .unset, .unset]) rfl rfl ?_
          refine W.iconst C m5_54 (z := (0 : Int32)) rfl ?_
          refine W.istore C m5_55 (L' := [.val (.ref a), .val (.ref b), .val (.ref c), .val (.ref d), .val (.int (4 : Int32)), .val (.int (4 : Int32)), .val (.ref a2), .val (.int (0 : Int32)), .unset, .unset, .unset, .unset, .unset, .unset, .unset]) rfl ?_
          refine W.iconst C m5_57 (z := (-1 : Int32)) rfl ?_
          refine W.istore C m5_58 (L' := [.val (.ref a), .val (.ref b), .val (.ref c), .val (.ref d), .val (.int (4 : Int32)), .val (.int (4 : Int32)), .val (.ref a2), .val (.int (0 : Int32)), .val (.int (-1 : Int32)), .unset, .unset, .unset, .unset, .unset, .unset]) rfl ?_
          refine W.iconst C m5_60 (z := (0 : Int32)) rfl ?_
          refine W.istore C m5_61 (L' := [.val (.ref a), .val (.ref b), .val (.ref c), .val (.ref d), .val (.int (4 : Int32)), .val (.int (4 : Int32)), .val (.ref a2), .val (.int (0 : Int32)), .val (.int (-1 : Int32)), .val (.int (0 : Int32)), .unset, .unset, .unset, .unset, .unset]) rfl ?_
          have hH : (4 : Int32).toInt = (H : Int) := by show (4 : Int) = H; omega
          refine own_OUT Z a0 κ n0 Qx C a b c d a2 1 4 so wr SL hS (4 : Int32) H hH l0 l1 l2 hSL hlen ne7 ne8 ne9 g10 3 (-1 : Int32) (0 : Int32) h1 (0 : Int32) 0 0 (-1) A12 A13 A14 A5 _ _ _ _ _ One.u One.u One.u One.u One.u (by decide) rfl rfl rfl rfl (Nat.le_refl _) ?_
          intro h' cnt' jb' wk' x10 x11 x12 x13 x14 ox10 ox11 ox12 ox13 ox14 hc'
          refine W.iload C m5_270 rfl ?_
          refine W.iconst C m5_272 (z := (1 : Int32)) rfl ?_
          refine W.icmpN C m5_273 (show ¬ ((4 : Int) ≤ (1 : Int)) from (by decide)) ?_
          refine W.iload C m5_276 rfl ?_
          refine W.iload C m5_278 rfl ?_
          refine W.icmp C m5_280 ?_ ?_
          · intro (h280 : ¬ cnt'.toInt = (4 : Int))
            refine W.iconst C m5_287 (z := (0 : Int32)) rfl ?_
            refine W.zreturn C m5_288 (hQ _ _ ?_)
            have hr : own_res H l0 l1 l2 = 0 := by unfold own_res; exact if_neg (by omega)
            rw [hr]; rfl
          · intro (h280 : ¬ ¬ cnt'.toInt = (4 : Int))
            replace h280 := Decidable.not_not.mp h280
            refine W.iconst C m5_283 (z := (1 : Int32)) rfl ?_
            refine W.goto C m5_284 ?_
            refine W.zreturn C m5_288 (hQ _ _ ?_)
            have hr : own_res H l0 l1 l2 = 1 := by unfold own_res; exact if_pos (by omega)
            rw [hr]; rfl
abbrev mY2 : MethodName := ⟨"java/lang/Math", "min", "(II)I"⟩
theorem m2_0 : Ins1 jdk_29_method_69_code 0 (.iload_n 0) 1 1 := ⟨by decide +kernel, rfl⟩
theorem m2_1 : Ins1 jdk_29_method_69_code 1 (.iload_n 1) 1 2 := ⟨by decide +kernel, rfl⟩
theorem m2_2 : Jmp1 jdk_29_method_69_code 2 (.if_icmp .gt 7) 7 5 9 := ⟨by decide +kernel, rfl, by decide, by decide⟩
theorem m2_5 : Ins1 jdk_29_method_69_code 5 (.iload_n 0) 1 6 := ⟨by decide +kernel, rfl⟩
theorem m2_6 : Jmp1 jdk_29_method_69_code 6 (.goto 4) 4 9 10 := ⟨by decide +kernel, rfl, by decide, by decide⟩
theorem m2_9 : Ins1 jdk_29_method_69_code 9 (.iload_n 1) 1 10 := ⟨by decide +kernel, rfl⟩
theorem m2_10 : Ins1 jdk_29_method_69_code 10 (.ireturn) 1 11 := ⟨by decide +kernel, rfl⟩
theorem pl2 : plainFor mY2 = true := Jvm.Free.JP.mathPlain rfl (by decide +kernel)
theorem pd2 : parseMethodDescriptor "(II)I" = some ⟨[.int, .int], some .int⟩ := by decide +kernel
set_option maxRecDepth 65536 in
set_option maxHeartbeats 4000000 in
theorem own_min (Z : State) (a0 : Array Value) (hw : ∀ d ∈ tables_1, d.before a0 Z = true) (x : Int32) (y : Int32)  (h : Heap) (n0 : Nat)  :
    Con Z mY2 jdk_29_method_69_code 2 (some .int) ({ frames := 0, cells := 0, slots := 0, locals := 0 } : Room) [(.int x), (.int y)] h n0 (fun v h' => h = h' ∧ ∃ z : Int32, v = some (.int z) ∧ z.toInt = min x.toInt y.toInt) := by
  refine Con.of pl2 (L := [.val (.int x), .val (.int y)]) (fun m => by first | (simp [entryFrame, mkF, argsToLocals, Value.category]; done) | rfl) ?_
  intro κ Qx hQ C
  refine W.iloadN C m2_0 rfl ?_
  refine W.iloadN C m2_1 rfl ?_
  refine W.icmp C m2_2 ?_ ?_
  · intro (h2 : y.toInt < x.toInt)
    refine W.iloadN C m2_9 rfl ?_
    refine W.ireturn C m2_10 (hQ _ _ ?_)
    exact ⟨rfl, _, rfl, by omega⟩
  · intro (h2 : ¬ (y.toInt < x.toInt))
    replace h2 : x.toInt ≤ y.toInt := by omega
    refine W.iloadN C m2_5 rfl ?_
    refine W.goto C m2_6 ?_
    refine W.ireturn C m2_10 (hQ _ _ ?_)
    exact ⟨rfl, _, rfl, by omega⟩
abbrev mY1 : MethodName := ⟨"com/example/isolens/isolens/SessionBlocksOneByWritersPinLaw", "count", "(II)I"⟩
theorem m1_0 : Ins1 method_3_code 0 (.iload_n 0) 1 1 := ⟨by decide +kernel, rfl⟩
theorem m1_1 : Ins1 method_3_code 1 (.iconst 2) 1 2 := ⟨by decide +kernel, rfl⟩
theorem m1_2 : Ins1 method_3_code 2 (.iload_n 1) 1 3 := ⟨by decide +kernel, rfl⟩
theorem m1_3 : Ins1 method_3_code 3 (.imul) 1 4 := ⟨by decide +kernel, rfl⟩
theorem m1_4 : Ins1 method_3_code 4 (.iushr) 1 5 := ⟨by decide +kernel, rfl⟩
theorem m1_5 : Ins1 method_3_code 5 (.iconst 3) 1 6 := ⟨by decide +kernel, rfl⟩
theorem m1_6 : Ins1 method_3_code 6 (.iand) 1 7 := ⟨by decide +kernel, rfl⟩
theorem m1_7 : Ins1 method_3_code 7 (.iconst 2) 1 8 := ⟨by decide +kernel, rfl⟩
theorem m1_8 : Ins1 method_3_code 8 (.invokestatic 39) 3 11 := ⟨by decide +kernel, rfl⟩
theorem m1_11 : Ins1 method_3_code 11 (.ireturn) 1 12 := ⟨by decide +kernel, rfl⟩
theorem pl1 : plainFor mY1 = true := plainFor_of_name (show plainName "com/example/isolens/isolens/SessionBlocksOneByWritersPinLaw" = true by first | (simp [plainName, overriddenIn]; done) | decide +kernel)
theorem pd1 : parseMethodDescriptor "(II)I" = some ⟨[.int, .int], some .int⟩ := by decide +kernel
set_option maxRecDepth 65536 in
set_option maxHeartbeats 4000000 in
theorem own_count (Z : State) (a0 : Array Value) (hw : ∀ d ∈ tables_1, d.before a0 Z = true) (x : Int32) (s : Int32)  (h : Heap) (n0 : Nat)  :
    Con Z mY1 method_3_code 2 (some .int) ({ frames := 1, cells := 0, slots := 0, locals := 13 } : Room) [(.int x), (.int s)] h n0 (fun v h' => h = h' ∧ ∃ n : Nat, n ≤ 2 ∧ v = some (.int (Int32.ofNat n))) := by
  refine Con.of pl1 (L := [.val (.int x), .val (.int s)]) (fun m => by first | (simp [entryFrame, mkF, argsToLocals, Value.category]; done) | rfl) ?_
  intro κ Qx hQ C
  refine W.iloadN C m1_0 rfl ?_
  refine W.iconst C m1_1 (z := (2 : Int32)) rfl ?_
  refine W.iloadN C m1_2 rfl ?_
  refine W.imul C m1_3 rfl ?_
  refine W.iushr C m1_4 rfl ?_
  refine W.iconst C m1_5 (z := (3 : Int32)) rfl ?_
  refine W.iand C m1_6 rfl ?_
  have hm := c_mask (x.toUInt32 >>> (((2 : Int32) * s) &&& 31).toUInt32).toInt32 (3 : Int32) 2 (by decide) (by decide)
  have h2 : (2 : Int32).toInt = 2 := rfl
  refine W.iconst C m1_7 (z := (2 : Int32)) rfl ?_
  refine W.callS (y := mY2) (wt := 0) C m1_8 (hw _ (List.mem_of_getElem? (i := 4) rfl)) (hw _ (List.mem_of_getElem? (i := 5) rfl)) (hw _ (List.mem_of_getElem? (i := 6) rfl)) (hw _ (List.mem_of_getElem? (i := 7) rfl)) (by decide) pd2 rfl (own_min Z a0 hw ((x.toUInt32 >>> (((2 : Int32) * s) &&& 31).toUInt32).toInt32 &&& (3 : Int32)) (2 : Int32) h n0) (as' := [(.int ((x.toUInt32 >>> (((2 : Int32) * s) &&& 31).toUInt32).toInt32 &&& (3 : Int32))), (.int (2 : Int32))]) (rest := []) rfl rfl (Nat.le_of_eq rfl) (by decide) (by decide) (by decide) (by decide) ?_
  intro r4 h2 q3
  obtain ⟨rfl, z1, rfl, hz1⟩ := q3
  show W κ n0 Qx h 0 0 11 [.val (.int x), .val (.int s)] [(.int z1)]
  refine W.ireturn C m1_11 (hQ _ _ ?_)
  obtain ⟨n, e1, e2, e3⟩ := natOf (x := z1) (by omega)
  exact ⟨rfl, n, by omega, by rw [e1]⟩
abbrev mY3 : MethodName := ⟨"com/example/isolens/isolens/SessionBlocksOneByWritersPinLaw", "fill", "([IIII)V"⟩
theorem m3_0 : Ins1 method_4_code 0 (.iload_n 2) 1 1 := ⟨by decide +kernel, rfl⟩
theorem m3_1 : Jmp1 method_4_code 1 (.ifCond .le 7) 7 4 8 := ⟨by decide +kernel, rfl, by decide, by decide⟩
theorem m3_8 : Ins1 method_4_code 8 (.iload_n 2) 1 9 := ⟨by decide +kernel, rfl⟩
theorem m3_9 : Ins1 method_4_code 9 (.iconst 1) 1 10 := ⟨by decide +kernel, rfl⟩
theorem m3_10 : Jmp1 method_4_code 10 (.if_icmp .le 9) 9 13 19 := ⟨by decide +kernel, rfl, by decide, by decide⟩
theorem m3_19 : Ins1 method_4_code 19 (.return_) 1 20 := ⟨by decide +kernel, rfl⟩
theorem pl3 : plainFor mY3 = true := plainFor_of_name (show plainName "com/example/isolens/isolens/SessionBlocksOneByWritersPinLaw" = true by first | (simp [plainName, overriddenIn]; done) | decide +kernel)
theorem pd3 : parseMethodDescriptor "([IIII)V" = some ⟨[(.array .int), .int, .int, .int], none⟩ := by decide +kernel
set_option maxRecDepth 65536 in
theorem own_fill0 (Z : State) (a0 : Array Value) (hw : ∀ d ∈ tables_1, d.before a0 Z = true) (a : Addr) (S T : Nat) (xs : List Nat) (h : Heap) (n0 : Nat) (g0 : n0 ≤ a) (A0 : Av Z h a .int (own_v xs)) (hT : T + 0 ≤ xs.length) (hx : xs.length ≤ 100) :
    Con Z mY3 method_4_code 4 none ({ frames := 0, cells := 0, slots := 0, locals := 0 } : Room) [.ref a, .int (Int32.ofNat S), .int (0 : Int32), .int (Int32.ofNat T)] h n0 (fun v h' => v = none ∧ Keep h h' [a] ∧ Av Z h' a .int (own_v (own_fl xs S 0 T))) := by
  refine Con.of pl3 (L := [.val (.ref a), .val (.int (Int32.ofNat S)), .val (.int (0 : Int32)), .val (.int (Int32.ofNat T))]) (fun m => by first | (simp [entryFrame, mkF, argsToLocals, Value.category]; done) | rfl) ?_
  intro κ Qx hQ C
  have K0 := Keep.refl h [a]
  refine W.iloadN C m3_0 rfl ?_
  refine W.ifY C m3_1 (show (0 : Int) ≤ (0 : Int) from (by decide)) ?_
  refine W.iloadN C m3_8 rfl ?_
  refine W.iconst C m3_9 (z := (1 : Int32)) rfl ?_
  refine W.icmpY C m3_10 (show (0 : Int) ≤ (1 : Int) from (by decide)) ?_
  refine W.vreturn C m3_19 (hQ _ _ ?_)
  exact ⟨rfl, K0, A0⟩
theorem m3_4 : Ins1 method_4_code 4 (.aload_n 0) 1 5 := ⟨by decide +kernel, rfl⟩
theorem m3_5 : Ins1 method_4_code 5 (.iload_n 3) 1 6 := ⟨by decide +kernel, rfl⟩
theorem m3_6 : Ins1 method_4_code 6 (.iload_n 1) 1 7 := ⟨by decide +kernel, rfl⟩
theorem m3_7 : Ins1 method_4_code 7 (.iastore) 1 8 := ⟨by decide +kernel, rfl⟩
set_option maxRecDepth 65536 in
theorem own_fill1 (Z : State) (a0 : Array Value) (hw : ∀ d ∈ tables_1, d.before a0 Z = true) (a : Addr) (S T : Nat) (xs : List Nat) (h : Heap) (n0 : Nat) (g0 : n0 ≤ a) (A0 : Av Z h a .int (own_v xs)) (hT : T + 1 ≤ xs.length) (hx : xs.length ≤ 100) :
    Con Z mY3 method_4_code 4 none ({ frames := 0, cells := 0, slots := 0, locals := 0 } : Room) [.ref a, .int (Int32.ofNat S), .int (1 : Int32), .int (Int32.ofNat T)] h n0 (fun v h' => v = none ∧ Keep h h' [a] ∧ Av Z h' a .int (own_v (own_fl xs S 1 T))) := by
  refine Con.of pl3 (L := [.val (.ref a), .val (.int (Int32.ofNat S)), .val (.int (1 : Int32)), .val (.int (Int32.ofNat T))]) (fun m => by first | (simp [entryFrame, mkF, argsToLocals, Value.category]; done) | rfl) ?_
  intro κ Qx hQ C
  have K0 := Keep.refl h [a]
  refine W.iloadN C m3_0 rfl ?_
  refine W.ifN C m3_1 (show ¬ ((1 : Int) ≤ (0 : Int)) from (by decide)) ?_
  refine W.aloadN C m3_4 rfl rfl ?_
  refine W.iloadN C m3_5 rfl ?_
  refine W.iloadN C m3_6 rfl ?_
  refine W.iastore C m3_7 A0 (i := T) (ofNat_toInt (by omega)) (by rw [own_vlen]; omega) g0 ?_
  intro h1 W2 A3
  have K4 := K0.wr W2 (Or.inl (List.mem_of_getElem? (i := 0) rfl))
  have A5 := A3
  rw [own_vset] at A5
  refine W.iloadN C m3_8 rfl ?_
  refine W.iconst C m3_9 (z := (1 : Int32)) rfl ?_
  refine W.icmpY C m3_10 (show (1 : Int) ≤ (1 : Int) from (by decide)) ?_
  refine W.vreturn C m3_19 (hQ _ _ ?_)
  exact ⟨rfl, K4, A5⟩
theorem m3_13 : Ins1 method_4_code 13 (.aload_n 0) 1 14 := ⟨by decide +kernel, rfl⟩
theorem m3_14 : Ins1 method_4_code 14 (.iload_n 3) 1 15 := ⟨by decide +kernel, rfl⟩
theorem m3_15 : Ins1 method_4_code 15 (.iconst 1) 1 16 := ⟨by decide +kernel, rfl⟩
theorem m3_16 : Ins1 method_4_code 16 (.iadd) 1 17 := ⟨by decide +kernel, rfl⟩
theorem m3_17 : Ins1 method_4_code 17 (.iload_n 1) 1 18 := ⟨by decide +kernel, rfl⟩
theorem m3_18 : Ins1 method_4_code 18 (.iastore) 1 19 := ⟨by decide +kernel, rfl⟩
set_option maxRecDepth 65536 in
theorem own_fill2 (Z : State) (a0 : Array Value) (hw : ∀ d ∈ tables_1, d.before a0 Z = true) (a : Addr) (S T : Nat) (xs : List Nat) (h : Heap) (n0 : Nat) (g0 : n0 ≤ a) (A0 : Av Z h a .int (own_v xs)) (hT : T + 2 ≤ xs.length) (hx : xs.length ≤ 100) :
    Con Z mY3 method_4_code 4 none ({ frames := 0, cells := 0, slots := 0, locals := 0 } : Room) [.ref a, .int (Int32.ofNat S), .int (2 : Int32), .int (Int32.ofNat T)] h n0 (fun v h' => v = none ∧ Keep h h' [a] ∧ Av Z h' a .int (own_v (own_fl xs S 2 T))) := by
  refine Con.of pl3 (L := [.val (.ref a), .val (.int (Int32.ofNat S)), .val (.int (2 : Int32)), .val (.int (Int32.ofNat T))]) (fun m => by first | (simp [entryFrame, mkF, argsToLocals, Value.category]; done) | rfl) ?_
  intro κ Qx hQ C
  have K0 := Keep.refl h [a]
  refine W.iloadN C m3_0 rfl ?_
  refine W.ifN C m3_1 (show ¬ ((2 : Int) ≤ (0 : Int)) from (by decide)) ?_
  refine W.aloadN C m3_4 rfl rfl ?_
  refine W.iloadN C m3_5 rfl ?_
  refine W.iloadN C m3_6 rfl ?_
  refine W.iastore C m3_7 A0 (i := T) (ofNat_toInt (by omega)) (by rw [own_vlen]; omega) g0 ?_
  intro h1 W2 A3
  have K4 := K0.wr W2 (Or.inl (List.mem_of_getElem? (i := 0) rfl))
  have A5 := A3
  rw [own_vset] at A5
  refine W.iloadN C m3_8 rfl ?_
  refine W.iconst C m3_9 (z := (1 : Int32)) rfl ?_
  refine W.icmpN C m3_10 (show ¬ ((2 : Int) ≤ (1 : Int)) from (by decide)) ?_
  refine W.aloadN C m3_13 rfl rfl ?_
  refine W.iloadN C m3_14 rfl ?_
  refine W.iconst C m3_15 (z := (1 : Int32)) rfl ?_
  refine W.iadd C m3_16 rfl ?_
  refine W.iloadN C m3_17 rfl ?_
  refine W.iastore C m3_18 A5 (i := T + 1) (own_inc (ofNat_toInt (by omega)) (by omega)) (by rw [own_vlen, List.length_set]; omega) g0 ?_
  intro h6 W7 A8
  have K9 := K4.wr W7 (Or.inl (List.mem_of_getElem? (i := 0) rfl))
  have A10 := A8
  rw [own_vset] at A10
  refine W.vreturn C m3_19 (hQ _ _ ?_)
  exact ⟨rfl, K9, A10⟩
theorem own_fill (Z : State) (a0 : Array Value) (hw : ∀ d ∈ tables_1, d.before a0 Z = true) (a : Addr) (S T n : Nat) (xs : List Nat) (h : Heap) (n0 : Nat) (g0 : n0 ≤ a) (A0 : Av Z h a .int (own_v xs)) (hn : n ≤ 2) (hT : T + n ≤ xs.length) (hx : xs.length ≤ 100) :
    Con Z mY3 method_4_code 4 none ({ frames := 0, cells := 0, slots := 0, locals := 0 } : Room) [.ref a, .int (Int32.ofNat S), .int (Int32.ofNat n), .int (Int32.ofNat T)] h n0 (fun v h' => v = none ∧ Keep h h' [a] ∧ ∃ ys : List Nat, ys = own_fl xs S n T ∧ ys.length = xs.length ∧ Av Z h' a .int (own_v ys)) := by
  rcases (by omega : n = 0 ∨ n = 1 ∨ n = 2) with rfl | rfl | rfl
  · exact Con.post (fun v h q => ⟨q.1, q.2.1, _, rfl, own_fllen, q.2.2⟩) (own_fill0 Z a0 hw a S T xs h n0 g0 A0 hT hx)
  · exact Con.post (fun v h q => ⟨q.1, q.2.1, _, rfl, own_fllen, q.2.2⟩) (own_fill1 Z a0 hw a S T xs h n0 g0 A0 hT hx)
  · exact Con.post (fun v h q => ⟨q.1, q.2.1, _, rfl, own_fllen, q.2.2⟩) (own_fill2 Z a0 hw a S T xs h n0 g0 A0 hT hx)
theorem own_pushA {Z : State} {h : Heap} {a : Addr} {ts : List Nat} (T : Nat) (hl : ts.length < 24) {x : Int32} (hx : x = Int32.ofNat T) (A : Av Z h a .int ((own_v (own_pad ts)).set ts.length (.int x))) : Av Z h a .int (own_v (own_pad (ts ++ [T]))) := by
  rw [hx, own_vset, own_push hl] at A; exact A
theorem own_ofs (n : Nat) : Int32.ofNat n + (1 : Int32) = Int32.ofNat (n + 1) := (Int32.ofNat_add n 1).symm
abbrev mY4 : MethodName := ⟨"com/example/isolens/isolens/SessionBlocksOneByWritersPinLaw", "add", "([IIIII)I"⟩
theorem m4_0 : Ins1 method_5_code 0 (.iload_n 1) 1 1 := ⟨by decide +kernel, rfl⟩
theorem m4_1 : Ins1 method_5_code 1 (.istore 5) 2 3 := ⟨by decide +kernel, rfl⟩
theorem m4_3 : Ins1 method_5_code 3 (.iload_n 3) 1 4 := ⟨by decide +kernel, rfl⟩
theorem m4_4 : Jmp1 method_5_code 4 (.ifCond .le 18) 18 7 22 := ⟨by decide +kernel, rfl, by decide, by decide⟩
theorem m4_22 : Ins1 method_5_code 22 (.iload_n 3) 1 23 := ⟨by decide +kernel, rfl⟩
theorem m4_23 : Ins1 method_5_code 23 (.iconst 1) 1 24 := ⟨by decide +kernel, rfl⟩
theorem m4_24 : Jmp1 method_5_code 24 (.if_icmp .le 20) 20 27 44 := ⟨by decide +kernel, rfl, by decide, by decide⟩
theorem m4_44 : Ins1 method_5_code 44 (.iload 5) 2 46 := ⟨by decide +kernel, rfl⟩
theorem m4_46 : Ins1 method_5_code 46 (.ireturn) 1 47 := ⟨by decide +kernel, rfl⟩
theorem pl4 : plainFor mY4 = true := plainFor_of_name (show plainName "com/example/isolens/isolens/SessionBlocksOneByWritersPinLaw" = true by first | (simp [plainName, overriddenIn]; done) | decide +kernel)
theorem pd4 : parseMethodDescriptor "([IIIII)I" = some ⟨[(.array .int), .int, .int, .int, .int], some .int⟩ := by decide +kernel
set_option maxRecDepth 65536 in
theorem own_add_0_0 (Z : State) (a0 : Array Value) (hw : ∀ d ∈ tables_1, d.before a0 Z = true) (a : Addr) (T : Nat) (ts : List Nat) (h : Heap) (n0 : Nat) (g0 : n0 ≤ a) (A0 : Av Z h a .int (own_v (own_pad ts))) (hT : ts.length + 2 ≤ 24) :
    Con Z mY4 method_5_code 6 (some .int) ({ frames := 0, cells := 0, slots := 0, locals := 0 } : Room) [(.ref a), (.int (Int32.ofNat ts.length)), (.int (0 : Int32)), (.int (0 : Int32)), (.int (Int32.ofNat T))] h n0 (fun v h' => v = some (.int (Int32.ofNat (ts ++ own_ap 0 0 T).length)) ∧ Keep h h' [a] ∧ Av Z h' a .int (own_v (own_pad (ts ++ own_ap 0 0 T)))) := by
  refine Con.of pl4 (L := [.val (.ref a), .val (.int (Int32.ofNat ts.length)), .val (.int (0 : Int32)), .val (.int (0 : Int32)), .val (.int (Int32.ofNat T)), .unset]) (fun m => by first | (simp [entryFrame, mkF, argsToLocals, Value.category]; done) | rfl) ?_
  intro κ Qx hQ C
  have K0 := Keep.refl h [a]
  refine W.iloadN C m4_0 rfl ?_
  refine W.istore C m4_1 (L' := [.val (.ref a), .val (.int (Int32.ofNat ts.length)), .val (.int (0 : Int32)), .val (.int (0 : Int32)), .val (.int (Int32.ofNat T)), .val (.int (Int32.ofNat ts.length))]) rfl ?_
  refine W.iloadN C m4_3 rfl ?_
  refine W.ifY C m4_4 (show (0 : Int) ≤ (0 : Int) from (by decide)) ?_
  refine W.iloadN C m4_22 rfl ?_
  refine W.iconst C m4_23 (z := (1 : Int32)) rfl ?_
  refine W.icmpY C m4_24 (show (0 : Int) ≤ (1 : Int) from (by decide)) ?_
  refine W.iload C m4_44 rfl ?_
  refine W.ireturn C m4_46 (hQ _ _ ?_)
  have hv : some (Value.int (Int32.ofNat ts.length)) = some (.int (Int32.ofNat (ts ++ []).length)) := by rw [List.append_nil]
  exact ⟨hv, K0, (show Av Z h a .int (own_v (own_pad (ts ++ []))) by rw [List.append_nil]; exact A0)⟩
theorem m4_7 : Ins1 method_5_code 7 (.iload_n 2) 1 8 := ⟨by decide +kernel, rfl⟩
theorem m4_8 : Ins1 method_5_code 8 (.iconst 1) 1 9 := ⟨by decide +kernel, rfl⟩
theorem m4_9 : Ins1 method_5_code 9 (.iand) 1 10 := ⟨by decide +kernel, rfl⟩
theorem m4_10 : Jmp1 method_5_code 10 (.ifCond .eq 12) 12 13 22 := ⟨by decide +kernel, rfl, by decide, by decide⟩
set_option maxRecDepth 65536 in
theorem own_add_0_1 (Z : State) (a0 : Array Value) (hw : ∀ d ∈ tables_1, d.before a0 Z = true) (a : Addr) (T : Nat) (ts : List Nat) (h : Heap) (n0 : Nat) (g0 : n0 ≤ a) (A0 : Av Z h a .int (own_v (own_pad ts))) (hT : ts.length + 2 ≤ 24) :
    Con Z mY4 method_5_code 6 (some .int) ({ frames := 0, cells := 0, slots := 0, locals := 0 } : Room) [(.ref a), (.int (Int32.ofNat ts.length)), (.int (0 : Int32)), (.int (1 : Int32)), (.int (Int32.ofNat T))] h n0 (fun v h' => v = some (.int (Int32.ofNat (ts ++ own_ap 0 1 T).length)) ∧ Keep h h' [a] ∧ Av Z h' a .int (own_v (own_pad (ts ++ own_ap 0 1 T)))) := by
  refine Con.of pl4 (L := [.val (.ref a), .val (.int (Int32.ofNat ts.length)), .val (.int (0 : Int32)), .val (.int (1 : Int32)), .val (.int (Int32.ofNat T)), .unset]) (fun m => by first | (simp [entryFrame, mkF, argsToLocals, Value.category]; done) | rfl) ?_
  intro κ Qx hQ C
  have K0 := Keep.refl h [a]
  refine W.iloadN C m4_0 rfl ?_
  refine W.istore C m4_1 (L' := [.val (.ref a), .val (.int (Int32.ofNat ts.length)), .val (.int (0 : Int32)), .val (.int (1 : Int32)), .val (.int (Int32.ofNat T)), .val (.int (Int32.ofNat ts.length))]) rfl ?_
  refine W.iloadN C m4_3 rfl ?_
  refine W.ifN C m4_4 (show ¬ ((1 : Int) ≤ (0 : Int)) from (by decide)) ?_
  refine W.iloadN C m4_7 rfl ?_
  refine W.iconst C m4_8 (z := (1 : Int32)) rfl ?_
  refine W.iand C m4_9 (z := (0 : Int32)) rfl ?_
  refine W.ifY C m4_10 (show (0 : Int) = (0 : Int) from (by decide)) ?_
  refine W.iloadN C m4_22 rfl ?_
  refine W.iconst C m4_23 (z := (1 : Int32)) rfl ?_
  refine W.icmpY C m4_24 (show (1 : Int) ≤ (1 : Int) from (by decide)) ?_
  refine W.iload C m4_44 rfl ?_
  refine W.ireturn C m4_46 (hQ _ _ ?_)
  have hv : some (Value.int (Int32.ofNat ts.length)) = some (.int (Int32.ofNat (ts ++ []).length)) := by rw [List.append_nil]
  exact ⟨hv, K0, (show Av Z h a .int (own_v (own_pad (ts ++ []))) by rw [List.append_nil]; exact A0)⟩
theorem m4_27 : Ins1 method_5_code 27 (.iload_n 2) 1 28 := ⟨by decide +kernel, rfl⟩
theorem m4_28 : Ins1 method_5_code 28 (.iconst 2) 1 29 := ⟨by decide +kernel, rfl⟩
theorem m4_29 : Ins1 method_5_code 29 (.iand) 1 30 := ⟨by decide +kernel, rfl⟩
theorem m4_30 : Jmp1 method_5_code 30 (.ifCond .eq 14) 14 33 44 := ⟨by decide +kernel, rfl, by decide, by decide⟩
set_option maxRecDepth 65536 in
theorem own_add_0_2 (Z : State) (a0 : Array Value) (hw : ∀ d ∈ tables_1, d.before a0 Z = true) (a : Addr) (T : Nat) (ts : List Nat) (h : Heap) (n0 : Nat) (g0 : n0 ≤ a) (A0 : Av Z h a .int (own_v (own_pad ts))) (hT : ts.length + 2 ≤ 24) :
    Con Z mY4 method_5_code 6 (some .int) ({ frames := 0, cells := 0, slots := 0, locals := 0 } : Room) [(.ref a), (.int (Int32.ofNat ts.length)), (.int (0 : Int32)), (.int (2 : Int32)), (.int (Int32.ofNat T))] h n0 (fun v h' => v = some (.int (Int32.ofNat (ts ++ own_ap 0 2 T).length)) ∧ Keep h h' [a] ∧ Av Z h' a .int (own_v (own_pad (ts ++ own_ap 0 2 T)))) := by
  refine Con.of pl4 (L := [.val (.ref a), .val (.int (Int32.ofNat ts.length)), .val (.int (0 : Int32)), .val (.int (2 : Int32)), .val (.int (Int32.ofNat T)), .unset]) (fun m => by first | (simp [entryFrame, mkF, argsToLocals, Value.category]; done) | rfl) ?_
  intro κ Qx hQ C
  have K0 := Keep.refl h [a]
  refine W.iloadN C m4_0 rfl ?_
  refine W.istore C m4_1 (L' := [.val (.ref a), .val (.int (Int32.ofNat ts.length)), .val (.int (0 : Int32)), .val (.int (2 : Int32)), .val (.int (Int32.ofNat T)), .val (.int (Int32.ofNat ts.length))]) rfl ?_
  refine W.iloadN C m4_3 rfl ?_
  refine W.ifN C m4_4 (show ¬ ((2 : Int) ≤ (0 : Int)) from (by decide)) ?_
  refine W.iloadN C m4_7 rfl ?_
  refine W.iconst C m4_8 (z := (1 : Int32)) rfl ?_
  refine W.iand C m4_9 (z := (0 : Int32)) rfl ?_
  refine W.ifY C m4_10 (show (0 : Int) = (0 : Int) from (by decide)) ?_
  refine W.iloadN C m4_22 rfl ?_
  refine W.iconst C m4_23 (z := (1 : Int32)) rfl ?_
  refine W.icmpN C m4_24 (show ¬ ((2 : Int) ≤ (1 : Int)) from (by decide)) ?_
  refine W.iloadN C m4_27 rfl ?_
  refine W.iconst C m4_28 (z := (2 : Int32)) rfl ?_
  refine W.iand C m4_29 (z := (0 : Int32)) rfl ?_
  refine W.ifY C m4_30 (show (0 : Int) = (0 : Int) from (by decide)) ?_
  refine W.iload C m4_44 rfl ?_
  refine W.ireturn C m4_46 (hQ _ _ ?_)
  have hv : some (Value.int (Int32.ofNat ts.length)) = some (.int (Int32.ofNat (ts ++ []).length)) := by rw [List.append_nil]
  exact ⟨hv, K0, (show Av Z h a .int (own_v (own_pad (ts ++ []))) by rw [List.append_nil]; exact A0)⟩

set_option maxRecDepth 65536 in
theorem own_add_1_0 (Z : State) (a0 : Array Value) (hw : ∀ d ∈ tables_1, d.before a0 Z = true) (a : Addr) (T : Nat) (ts : List Nat) (h : Heap) (n0 : Nat) (g0 : n0 ≤ a) (A0 : Av Z h a .int (own_v (own_pad ts))) (hT : ts.length + 2 ≤ 24) :
    Con Z mY4 method_5_code 6 (some .int) ({ frames := 0, cells := 0, slots := 0, locals := 0 } : Room) [(.ref a), (.int (Int32.ofNat ts.length)), (.int (1 : Int32)), (.int (0 : Int32)), (.int (Int32.ofNat T))] h n0 (fun v h' => v = some (.int (Int32.ofNat (ts ++ own_ap 1 0 T).length)) ∧ Keep h h' [a] ∧ Av Z h' a .int (own_v (own_pad (ts ++ own_ap 1 0 T)))) := by
  refine Con.of pl4 (L := [.val (.ref a), .val (.int (Int32.ofNat ts.length)), .val (.int (1 : Int32)), .val (.int (0 : Int32)), .val (.int (Int32.ofNat T)), .unset]) (fun m => by first | (simp [entryFrame, mkF, argsToLocals, Value.category]; done) | rfl) ?_
  intro κ Qx hQ C
  have K0 := Keep.refl h [a]
  refine W.iloadN C m4_0 rfl ?_
  refine W.istore C m4_1 (L' := [.val (.ref a), .val (.int (Int32.ofNat ts.length)), .val (.int (1 : Int32)), .val (.int (0 : Int32)), .val (.int (Int32.ofNat T)), .val (.int (Int32.ofNat ts.length))]) rfl ?_
  refine W.iloadN C m4_3 rfl ?_
  refine W.ifY C m4_4 (show (0 : Int) ≤ (0 : Int) from (by decide)) ?_
  refine W.iloadN C m4_22 rfl ?_
  refine W.iconst C m4_23 (z := (1 : Int32)) rfl ?_
  refine W.icmpY C m4_24 (show (0 : Int) ≤ (1 : Int) from (by decide)) ?_
  refine W.iload C m4_44 rfl ?_
  refine W.ireturn C m4_46 (hQ _ _ ?_)
  have hv : some (Value.int (Int32.ofNat ts.length)) = some (.int (Int32.ofNat (ts ++ []).length)) := by rw [List.append_nil]
  exact ⟨hv, K0, (show Av Z h a .int (own_v (own_pad (ts ++ []))) by rw [List.append_nil]; exact A0)⟩
theorem m4_13 : Ins1 method_5_code 13 (.aload_n 0) 1 14 := ⟨by decide +kernel, rfl⟩
theorem m4_14 : Ins1 method_5_code 14 (.iload 5) 2 16 := ⟨by decide +kernel, rfl⟩
theorem m4_16 : Ins1 method_5_code 16 (.iload 4) 2 18 := ⟨by decide +kernel, rfl⟩
theorem m4_18 : Ins1 method_5_code 18 (.iastore) 1 19 := ⟨by decide +kernel, rfl⟩
theorem m4_19 : Ins1 method_5_code 19 (.iinc 5 1) 3 22 := ⟨by decide +kernel, rfl⟩
set_option maxRecDepth 65536 in
theorem own_add_1_1 (Z : State) (a0 : Array Value) (hw : ∀ d ∈ tables_1, d.before a0 Z = true) (a : Addr) (T : Nat) (ts : List Nat) (h : Heap) (n0 : Nat) (g0 : n0 ≤ a) (A0 : Av Z h a .int (own_v (own_pad ts))) (hT : ts.length + 2 ≤ 24) :
    Con Z mY4 method_5_code 6 (some .int) ({ frames := 0, cells := 0, slots := 0, locals := 0 } : Room) [(.ref a), (.int (Int32.ofNat ts.length)), (.int (1 : Int32)), (.int (1 : Int32)), (.int (Int32.ofNat T))] h n0 (fun v h' => v = some (.int (Int32.ofNat (ts ++ own_ap 1 1 T).length)) ∧ Keep h h' [a] ∧ Av Z h' a .int (own_v (own_pad (ts ++ own_ap 1 1 T)))) := by
  refine Con.of pl4 (L := [.val (.ref a), .val (.int (Int32.ofNat ts.length)), .val (.int (1 : Int32)), .val (.int (1 : Int32)), .val (.int (Int32.ofNat T)), .unset]) (fun m => by first | (simp [entryFrame, mkF, argsToLocals, Value.category]; done) | rfl) ?_
  intro κ Qx hQ C
  have K0 := Keep.refl h [a]
  refine W.iloadN C m4_0 rfl ?_
  refine W.istore C m4_1 (L' := [.val (.ref a), .val (.int (Int32.ofNat ts.length)), .val (.int (1 : Int32)), .val (.int (1 : Int32)), .val (.int (Int32.ofNat T)), .val (.int (Int32.ofNat ts.length))]) rfl ?_
  refine W.iloadN C m4_3 rfl ?_
  refine W.ifN C m4_4 (show ¬ ((1 : Int) ≤ (0 : Int)) from (by decide)) ?_
  refine W.iloadN C m4_7 rfl ?_
  refine W.iconst C m4_8 (z := (1 : Int32)) rfl ?_
  refine W.iand C m4_9 (z := (1 : Int32)) rfl ?_
  refine W.ifN C m4_10 (show ¬ ((1 : Int) = (0 : Int)) from (by decide)) ?_
  refine W.aloadN C m4_13 rfl rfl ?_
  refine W.iload C m4_14 rfl ?_
  refine W.iload C m4_16 rfl ?_
  refine W.iastore C m4_18 A0 (i := ts.length) (ofNat_toInt (by omega)) (by rw [own_vlen, own_padlen (by omega)]; omega) g0 ?_
  intro h1 W2 A3
  have K4 := K0.wr W2 (Or.inl (List.mem_of_getElem? (i := 0) rfl))
  have A5 := own_pushA T (by omega) rfl A3
  refine W.iinc C m4_19 rfl (z := ((Int32.ofNat ts.length) + (1 : Int32))) rfl (L' := [.val (.ref a), .val (.int (Int32.ofNat ts.length)), .val (.int (1 : Int32)), .val (.int (1 : Int32)), .val (.int (Int32.ofNat T)), .val (.int ((Int32.ofNat ts.length) + (1 : Int32)))]) rfl ?_
  refine W.iloadN C m4_22 rfl ?_
  refine W.iconst C m4_23 (z := (1 : Int32)) rfl ?_
  refine W.icmpY C m4_24 (show (1 : Int) ≤ (1 : Int) from (by decide)) ?_
  refine W.iload C m4_44 rfl ?_
  refine W.ireturn C m4_46 (hQ _ _ ?_)
  have hv : some (Value.int ((Int32.ofNat ts.length) + (1 : Int32))) = some (.int (Int32.ofNat (ts ++ [T]).length)) := by rw [own_ofs, List.length_append]; rfl
  exact ⟨hv, K4, A5⟩

set_option maxRecDepth 65536 in
theorem own_add_1_2 (Z : State) (a0 : Array Value) (hw : ∀ d ∈ tables_1, d.before a0 Z = true) (a : Addr) (T : Nat) (ts : List Nat) (h : Heap) (n0 : Nat) (g0 : n0 ≤ a) (A0 : Av Z h a .int (own_v (own_pad ts))) (hT : ts.length + 2 ≤ 24) :
    Con Z mY4 method_5_code 6 (some .int) ({ frames := 0, cells := 0, slots := 0, locals := 0 } : Room) [(.ref a), (.int (Int32.ofNat ts.length)), (.int (1 : Int32)), (.int (2 : Int32)), (.int (Int32.ofNat T))] h n0 (fun v h' => v = some (.int (Int32.ofNat (ts ++ own_ap 1 2 T).length)) ∧ Keep h h' [a] ∧ Av Z h' a .int (own_v (own_pad (ts ++ own_ap 1 2 T)))) := by
  refine Con.of pl4 (L := [.val (.ref a), .val (.int (Int32.ofNat ts.length)), .val (.int (1 : Int32)), .val (.int (2 : Int32)), .val (.int (Int32.ofNat T)), .unset]) (fun m => by first | (simp [entryFrame, mkF, argsToLocals, Value.category]; done) | rfl) ?_
  intro κ Qx hQ C
  have K0 := Keep.refl h [a]
  refine W.iloadN C m4_0 rfl ?_
  refine W.istore C m4_1 (L' := [.val (.ref a), .val (.int (Int32.ofNat ts.length)), .val (.int (1 : Int32)), .val (.int (2 : Int32)), .val (.int (Int32.ofNat T)), .val (.int (Int32.ofNat ts.length))]) rfl ?_
  refine W.iloadN C m4_3 rfl ?_
  refine W.ifN C m4_4 (show ¬ ((2 : Int) ≤ (0 : Int)) from (by decide)) ?_
  refine W.iloadN C m4_7 rfl ?_
  refine W.iconst C m4_8 (z := (1 : Int32)) rfl ?_
  refine W.iand C m4_9 (z := (1 : Int32)) rfl ?_
  refine W.ifN C m4_10 (show ¬ ((1 : Int) = (0 : Int)) from (by decide)) ?_
  refine W.aloadN C m4_13 rfl rfl ?_
  refine W.iload C m4_14 rfl ?_
  refine W.iload C m4_16 rfl ?_
  refine W.iastore C m4_18 A0 (i := ts.length) (ofNat_toInt (by omega)) (by rw [own_vlen, own_padlen (by omega)]; omega) g0 ?_
  intro h1 W2 A3
  have K4 := K0.wr W2 (Or.inl (List.mem_of_getElem? (i := 0) rfl))
  have A5 := own_pushA T (by omega) rfl A3
  refine W.iinc C m4_19 rfl (z := ((Int32.ofNat ts.length) + (1 : Int32))) rfl (L' := [.val (.ref a), .val (.int (Int32.ofNat ts.length)), .val (.int (1 : Int32)), .val (.int (2 : Int32)), .val (.int (Int32.ofNat T)), .val (.int ((Int32.ofNat ts.length) + (1 : Int32)))]) rfl ?_
  refine W.iloadN C m4_22 rfl ?_
  refine W.iconst C m4_23 (z := (1 : Int32)) rfl ?_
  refine W.icmpN C m4_24 (show ¬ ((2 : Int) ≤ (1 : Int)) from (by decide)) ?_
  refine W.iloadN C m4_27 rfl ?_
  refine W.iconst C m4_28 (z := (2 : Int32)) rfl ?_
  refine W.iand C m4_29 (z := (0 : Int32)) rfl ?_
  refine W.ifY C m4_30 (show (0 : Int) = (0 : Int) from (by decide)) ?_
  refine W.iload C m4_44 rfl ?_
  refine W.ireturn C m4_46 (hQ _ _ ?_)
  have hv : some (Value.int ((Int32.ofNat ts.length) + (1 : Int32))) = some (.int (Int32.ofNat (ts ++ [T]).length)) := by rw [own_ofs, List.length_append]; rfl
  exact ⟨hv, K4, A5⟩

set_option maxRecDepth 65536 in
theorem own_add_2_0 (Z : State) (a0 : Array Value) (hw : ∀ d ∈ tables_1, d.before a0 Z = true) (a : Addr) (T : Nat) (ts : List Nat) (h : Heap) (n0 : Nat) (g0 : n0 ≤ a) (A0 : Av Z h a .int (own_v (own_pad ts))) (hT : ts.length + 2 ≤ 24) :
    Con Z mY4 method_5_code 6 (some .int) ({ frames := 0, cells := 0, slots := 0, locals := 0 } : Room) [(.ref a), (.int (Int32.ofNat ts.length)), (.int (2 : Int32)), (.int (0 : Int32)), (.int (Int32.ofNat T))] h n0 (fun v h' => v = some (.int (Int32.ofNat (ts ++ own_ap 2 0 T).length)) ∧ Keep h h' [a] ∧ Av Z h' a .int (own_v (own_pad (ts ++ own_ap 2 0 T)))) := by
  refine Con.of pl4 (L := [.val (.ref a), .val (.int (Int32.ofNat ts.length)), .val (.int (2 : Int32)), .val (.int (0 : Int32)), .val (.int (Int32.ofNat T)), .unset]) (fun m => by first | (simp [entryFrame, mkF, argsToLocals, Value.category]; done) | rfl) ?_
  intro κ Qx hQ C
  have K0 := Keep.refl h [a]
  refine W.iloadN C m4_0 rfl ?_
  refine W.istore C m4_1 (L' := [.val (.ref a), .val (.int (Int32.ofNat ts.length)), .val (.int (2 : Int32)), .val (.int (0 : Int32)), .val (.int (Int32.ofNat T)), .val (.int (Int32.ofNat ts.length))]) rfl ?_
  refine W.iloadN C m4_3 rfl ?_
  refine W.ifY C m4_4 (show (0 : Int) ≤ (0 : Int) from (by decide)) ?_
  refine W.iloadN C m4_22 rfl ?_
  refine W.iconst C m4_23 (z := (1 : Int32)) rfl ?_
  refine W.icmpY C m4_24 (show (0 : Int) ≤ (1 : Int) from (by decide)) ?_
  refine W.iload C m4_44 rfl ?_
  refine W.ireturn C m4_46 (hQ _ _ ?_)
  have hv : some (Value.int (Int32.ofNat ts.length)) = some (.int (Int32.ofNat (ts ++ []).length)) := by rw [List.append_nil]
  exact ⟨hv, K0, (show Av Z h a .int (own_v (own_pad (ts ++ []))) by rw [List.append_nil]; exact A0)⟩

set_option maxRecDepth 65536 in
theorem own_add_2_1 (Z : State) (a0 : Array Value) (hw : ∀ d ∈ tables_1, d.before a0 Z = true) (a : Addr) (T : Nat) (ts : List Nat) (h : Heap) (n0 : Nat) (g0 : n0 ≤ a) (A0 : Av Z h a .int (own_v (own_pad ts))) (hT : ts.length + 2 ≤ 24) :
    Con Z mY4 method_5_code 6 (some .int) ({ frames := 0, cells := 0, slots := 0, locals := 0 } : Room) [(.ref a), (.int (Int32.ofNat ts.length)), (.int (2 : Int32)), (.int (1 : Int32)), (.int (Int32.ofNat T))] h n0 (fun v h' => v = some (.int (Int32.ofNat (ts ++ own_ap 2 1 T).length)) ∧ Keep h h' [a] ∧ Av Z h' a .int (own_v (own_pad (ts ++ own_ap 2 1 T)))) := by
  refine Con.of pl4 (L := [.val (.ref a), .val (.int (Int32.ofNat ts.length)), .val (.int (2 : Int32)), .val (.int (1 : Int32)), .val (.int (Int32.ofNat T)), .unset]) (fun m => by first | (simp [entryFrame, mkF, argsToLocals, Value.category]; done) | rfl) ?_
  intro κ Qx hQ C
  have K0 := Keep.refl h [a]
  refine W.iloadN C m4_0 rfl ?_
  refine W.istore C m4_1 (L' := [.val (.ref a), .val (.int (Int32.ofNat ts.length)), .val (.int (2 : Int32)), .val (.int (1 : Int32)), .val (.int (Int32.ofNat T)), .val (.int (Int32.ofNat ts.length))]) rfl ?_
  refine W.iloadN C m4_3 rfl ?_
  refine W.ifN C m4_4 (show ¬ ((1 : Int) ≤ (0 : Int)) from (by decide)) ?_
  refine W.iloadN C m4_7 rfl ?_
  refine W.iconst C m4_8 (z := (1 : Int32)) rfl ?_
  refine W.iand C m4_9 (z := (0 : Int32)) rfl ?_
  refine W.ifY C m4_10 (show (0 : Int) = (0 : Int) from (by decide)) ?_
  refine W.iloadN C m4_22 rfl ?_
  refine W.iconst C m4_23 (z := (1 : Int32)) rfl ?_
  refine W.icmpY C m4_24 (show (1 : Int) ≤ (1 : Int) from (by decide)) ?_
  refine W.iload C m4_44 rfl ?_
  refine W.ireturn C m4_46 (hQ _ _ ?_)
  have hv : some (Value.int (Int32.ofNat ts.length)) = some (.int (Int32.ofNat (ts ++ []).length)) := by rw [List.append_nil]
  exact ⟨hv, K0, (show Av Z h a .int (own_v (own_pad (ts ++ []))) by rw [List.append_nil]; exact A0)⟩
theorem m4_33 : Ins1 method_5_code 33 (.aload_n 0) 1 34 := ⟨by decide +kernel, rfl⟩
theorem m4_34 : Ins1 method_5_code 34 (.iload 5) 2 36 := ⟨by decide +kernel, rfl⟩
theorem m4_36 : Ins1 method_5_code 36 (.iload 4) 2 38 := ⟨by decide +kernel, rfl⟩
theorem m4_38 : Ins1 method_5_code 38 (.iconst 1) 1 39 := ⟨by decide +kernel, rfl⟩
theorem m4_39 : Ins1 method_5_code 39 (.iadd) 1 40 := ⟨by decide +kernel, rfl⟩
theorem m4_40 : Ins1 method_5_code 40 (.iastore) 1 41 := ⟨by decide +kernel, rfl⟩
theorem m4_41 : Ins1 method_5_code 41 (.iinc 5 1) 3 44 := ⟨by decide +kernel, rfl⟩
set_option maxRecDepth 65536 in
theorem own_add_2_2 (Z : State) (a0 : Array Value) (hw : ∀ d ∈ tables_1, d.before a0 Z = true) (a : Addr) (T : Nat) (ts : List Nat) (h : Heap) (n0 : Nat) (g0 : n0 ≤ a) (A0 : Av Z h a .int (own_v (own_pad ts))) (hT : ts.length + 2 ≤ 24) :
    Con Z mY4 method_5_code 6 (some .int) ({ frames := 0, cells := 0, slots := 0, locals := 0 } : Room) [(.ref a), (.int (Int32.ofNat ts.length)), (.int (2 : Int32)), (.int (2 : Int32)), (.int (Int32.ofNat T))] h n0 (fun v h' => v = some (.int (Int32.ofNat (ts ++ own_ap 2 2 T).length)) ∧ Keep h h' [a] ∧ Av Z h' a .int (own_v (own_pad (ts ++ own_ap 2 2 T)))) := by
  refine Con.of pl4 (L := [.val (.ref a), .val (.int (Int32.ofNat ts.length)), .val (.int (2 : Int32)), .val (.int (2 : Int32)), .val (.int (Int32.ofNat T)), .unset]) (fun m => by first | (simp [entryFrame, mkF, argsToLocals, Value.category]; done) | rfl) ?_
  intro κ Qx hQ C
  have K0 := Keep.refl h [a]
  refine W.iloadN C m4_0 rfl ?_
  refine W.istore C m4_1 (L' := [.val (.ref a), .val (.int (Int32.ofNat ts.length)), .val (.int (2 : Int32)), .val (.int (2 : Int32)), .val (.int (Int32.ofNat T)), .val (.int (Int32.ofNat ts.length))]) rfl ?_
  refine W.iloadN C m4_3 rfl ?_
  refine W.ifN C m4_4 (show ¬ ((2 : Int) ≤ (0 : Int)) from (by decide)) ?_
  refine W.iloadN C m4_7 rfl ?_
  refine W.iconst C m4_8 (z := (1 : Int32)) rfl ?_
  refine W.iand C m4_9 (z := (0 : Int32)) rfl ?_
  refine W.ifY C m4_10 (show (0 : Int) = (0 : Int) from (by decide)) ?_
  refine W.iloadN C m4_22 rfl ?_
  refine W.iconst C m4_23 (z := (1 : Int32)) rfl ?_
  refine W.icmpN C m4_24 (show ¬ ((2 : Int) ≤ (1 : Int)) from (by decide)) ?_
  refine W.iloadN C m4_27 rfl ?_
  refine W.iconst C m4_28 (z := (2 : Int32)) rfl ?_
  refine W.iand C m4_29 (z := (2 : Int32)) rfl ?_
  refine W.ifN C m4_30 (show ¬ ((2 : Int) = (0 : Int)) from (by decide)) ?_
  refine W.aloadN C m4_33 rfl rfl ?_
  refine W.iload C m4_34 rfl ?_
  refine W.iload C m4_36 rfl ?_
  refine W.iconst C m4_38 (z := (1 : Int32)) rfl ?_
  refine W.iadd C m4_39 rfl ?_
  refine W.iastore C m4_40 A0 (i := ts.length) (ofNat_toInt (by omega)) (by rw [own_vlen, own_padlen (by omega)]; omega) g0 ?_
  intro h1 W2 A3
  have K4 := K0.wr W2 (Or.inl (List.mem_of_getElem? (i := 0) rfl))
  have A5 := own_pushA (T + 1) (by omega) (own_ofs T) A3
  refine W.iinc C m4_41 rfl (z := ((Int32.ofNat ts.length) + (1 : Int32))) rfl (L' := [.val (.ref a), .val (.int (Int32.ofNat ts.length)), .val (.int (2 : Int32)), .val (.int (2 : Int32)), .val (.int (Int32.ofNat T)), .val (.int ((Int32.ofNat ts.length) + (1 : Int32)))]) rfl ?_
  refine W.iload C m4_44 rfl ?_
  refine W.ireturn C m4_46 (hQ _ _ ?_)
  have hv : some (Value.int ((Int32.ofNat ts.length) + (1 : Int32))) = some (.int (Int32.ofNat (ts ++ [T + 1]).length)) := by rw [own_ofs, List.length_append]; rfl
  exact ⟨hv, K4, A5⟩

set_option maxRecDepth 65536 in
theorem own_add_3_0 (Z : State) (a0 : Array Value) (hw : ∀ d ∈ tables_1, d.before a0 Z = true) (a : Addr) (T : Nat) (ts : List Nat) (h : Heap) (n0 : Nat) (g0 : n0 ≤ a) (A0 : Av Z h a .int (own_v (own_pad ts))) (hT : ts.length + 2 ≤ 24) :
    Con Z mY4 method_5_code 6 (some .int) ({ frames := 0, cells := 0, slots := 0, locals := 0 } : Room) [(.ref a), (.int (Int32.ofNat ts.length)), (.int (3 : Int32)), (.int (0 : Int32)), (.int (Int32.ofNat T))] h n0 (fun v h' => v = some (.int (Int32.ofNat (ts ++ own_ap 3 0 T).length)) ∧ Keep h h' [a] ∧ Av Z h' a .int (own_v (own_pad (ts ++ own_ap 3 0 T)))) := by
  refine Con.of pl4 (L := [.val (.ref a), .val (.int (Int32.ofNat ts.length)), .val (.int (3 : Int32)), .val (.int (0 : Int32)), .val (.int (Int32.ofNat T)), .unset]) (fun m => by first | (simp [entryFrame, mkF, argsToLocals, Value.category]; done) | rfl) ?_
  intro κ Qx hQ C
  have K0 := Keep.refl h [a]
  refine W.iloadN C m4_0 rfl ?_
  refine W.istore C m4_1 (L' := [.val (.ref a), .val (.int (Int32.ofNat ts.length)), .val (.int (3 : Int32)), .val (.int (0 : Int32)), .val (.int (Int32.ofNat T)), .val (.int (Int32.ofNat ts.length))]) rfl ?_
  refine W.iloadN C m4_3 rfl ?_
  refine W.ifY C m4_4 (show (0 : Int) ≤ (0 : Int) from (by decide)) ?_
  refine W.iloadN C m4_22 rfl ?_
  refine W.iconst C m4_23 (z := (1 : Int32)) rfl ?_
  refine W.icmpY C m4_24 (show (0 : Int) ≤ (1 : Int) from (by decide)) ?_
  refine W.iload C m4_44 rfl ?_
  refine W.ireturn C m4_46 (hQ _ _ ?_)
  have hv : some (Value.int (Int32.ofNat ts.length)) = some (.int (Int32.ofNat (ts ++ []).length)) := by rw [List.append_nil]
  exact ⟨hv, K0, (show Av Z h a .int (own_v (own_pad (ts ++ []))) by rw [List.append_nil]; exact A0)⟩

set_option maxRecDepth 65536 in
theorem own_add_3_1 (Z : State) (a0 : Array Value) (hw : ∀ d ∈ tables_1, d.before a0 Z = true) (a : Addr) (T : Nat) (ts : List Nat) (h : Heap) (n0 : Nat) (g0 : n0 ≤ a) (A0 : Av Z h a .int (own_v (own_pad ts))) (hT : ts.length + 2 ≤ 24) :
    Con Z mY4 method_5_code 6 (some .int) ({ frames := 0, cells := 0, slots := 0, locals := 0 } : Room) [(.ref a), (.int (Int32.ofNat ts.length)), (.int (3 : Int32)), (.int (1 : Int32)), (.int (Int32.ofNat T))] h n0 (fun v h' => v = some (.int (Int32.ofNat (ts ++ own_ap 3 1 T).length)) ∧ Keep h h' [a] ∧ Av Z h' a .int (own_v (own_pad (ts ++ own_ap 3 1 T)))) := by
  refine Con.of pl4 (L := [.val (.ref a), .val (.int (Int32.ofNat ts.length)), .val (.int (3 : Int32)), .val (.int (1 : Int32)), .val (.int (Int32.ofNat T)), .unset]) (fun m => by first | (simp [entryFrame, mkF, argsToLocals, Value.category]; done) | rfl) ?_
  intro κ Qx hQ C
  have K0 := Keep.refl h [a]
  refine W.iloadN C m4_0 rfl ?_
  refine W.istore C m4_1 (L' := [.val (.ref a), .val (.int (Int32.ofNat ts.length)), .val (.int (3 : Int32)), .val (.int (1 : Int32)), .val (.int (Int32.ofNat T)), .val (.int (Int32.ofNat ts.length))]) rfl ?_
  refine W.iloadN C m4_3 rfl ?_
  refine W.ifN C m4_4 (show ¬ ((1 : Int) ≤ (0 : Int)) from (by decide)) ?_
  refine W.iloadN C m4_7 rfl ?_
  refine W.iconst C m4_8 (z := (1 : Int32)) rfl ?_
  refine W.iand C m4_9 (z := (1 : Int32)) rfl ?_
  refine W.ifN C m4_10 (show ¬ ((1 : Int) = (0 : Int)) from (by decide)) ?_
  refine W.aloadN C m4_13 rfl rfl ?_
  refine W.iload C m4_14 rfl ?_
  refine W.iload C m4_16 rfl ?_
  refine W.iastore C m4_18 A0 (i := ts.length) (ofNat_toInt (by omega)) (by rw [own_vlen, own_padlen (by omega)]; omega) g0 ?_
  intro h1 W2 A3
  have K4 := K0.wr W2 (Or.inl (List.mem_of_getElem? (i := 0) rfl))
  have A5 := own_pushA T (by omega) rfl A3
  refine W.iinc C m4_19 rfl (z := ((Int32.ofNat ts.length) + (1 : Int32))) rfl (L' := [.val (.ref a), .val (.int (Int32.ofNat ts.length)), .val (.int (3 : Int32)), .val (.int (1 : Int32)), .val (.int (Int32.ofNat T)), .val (.int ((Int32.ofNat ts.length) + (1 : Int32)))]) rfl ?_
  refine W.iloadN C m4_22 rfl ?_
  refine W.iconst C m4_23 (z := (1 : Int32)) rfl ?_
  refine W.icmpY C m4_24 (show (1 : Int) ≤ (1 : Int) from (by decide)) ?_
  refine W.iload C m4_44 rfl ?_
  refine W.ireturn C m4_46 (hQ _ _ ?_)
  have hv : some (Value.int ((Int32.ofNat ts.length) + (1 : Int32))) = some (.int (Int32.ofNat (ts ++ [T]).length)) := by rw [own_ofs, List.length_append]; rfl
  exact ⟨hv, K4, A5⟩

set_option maxRecDepth 65536 in
theorem own_add_3_2 (Z : State) (a0 : Array Value) (hw : ∀ d ∈ tables_1, d.before a0 Z = true) (a : Addr) (T : Nat) (ts : List Nat) (h : Heap) (n0 : Nat) (g0 : n0 ≤ a) (A0 : Av Z h a .int (own_v (own_pad ts))) (hT : ts.length + 2 ≤ 24) :
    Con Z mY4 method_5_code 6 (some .int) ({ frames := 0, cells := 0, slots := 0, locals := 0 } : Room) [(.ref a), (.int (Int32.ofNat ts.length)), (.int (3 : Int32)), (.int (2 : Int32)), (.int (Int32.ofNat T))] h n0 (fun v h' => v = some (.int (Int32.ofNat (ts ++ own_ap 3 2 T).length)) ∧ Keep h h' [a] ∧ Av Z h' a .int (own_v (own_pad (ts ++ own_ap 3 2 T)))) := by
  refine Con.of pl4 (L := [.val (.ref a), .val (.int (Int32.ofNat ts.length)), .val (.int (3 : Int32)), .val (.int (2 : Int32)), .val (.int (Int32.ofNat T)), .unset]) (fun m => by first | (simp [entryFrame, mkF, argsToLocals, Value.category]; done) | rfl) ?_
  intro κ Qx hQ C
  have K0 := Keep.refl h [a]
  refine W.iloadN C m4_0 rfl ?_
  refine W.istore C m4_1 (L' := [.val (.ref a), .val (.int (Int32.ofNat ts.length)), .val (.int (3 : Int32)), .val (.int (2 : Int32)), .val (.int (Int32.ofNat T)), .val (.int (Int32.ofNat ts.length))]) rfl ?_
  refine W.iloadN C m4_3 rfl ?_
  refine W.ifN C m4_4 (show ¬ ((2 : Int) ≤ (0 : Int)) from (by decide)) ?_
  refine W.iloadN C m4_7 rfl ?_
  refine W.iconst C m4_8 (z := (1 : Int32)) rfl ?_
  refine W.iand C m4_9 (z := (1 : Int32)) rfl ?_
  refine W.ifN C m4_10 (show ¬ ((1 : Int) = (0 : Int)) from (by decide)) ?_
  refine W.aloadN C m4_13 rfl rfl ?_
  refine W.iload C m4_14 rfl ?_
  refine W.iload C m4_16 rfl ?_
  refine W.iastore C m4_18 A0 (i := ts.length) (ofNat_toInt (by omega)) (by rw [own_vlen, own_padlen (by omega)]; omega) g0 ?_
  intro h1 W2 A3
  have K4 := K0.wr W2 (Or.inl (List.mem_of_getElem? (i := 0) rfl))
  have A5 := own_pushA T (by omega) rfl A3
  refine W.iinc C m4_19 rfl (z := ((Int32.ofNat ts.length) + (1 : Int32))) rfl (L' := [.val (.ref a), .val (.int (Int32.ofNat ts.length)), .val (.int (3 : Int32)), .val (.int (2 : Int32)), .val (.int (Int32.ofNat T)), .val (.int ((Int32.ofNat ts.length) + (1 : Int32)))]) rfl ?_
  refine W.iloadN C m4_22 rfl ?_
  refine W.iconst C m4_23 (z := (1 : Int32)) rfl ?_
  refine W.icmpN C m4_24 (show ¬ ((2 : Int) ≤ (1 : Int)) from (by decide)) ?_
  refine W.iloadN C m4_27 rfl ?_
  refine W.iconst C m4_28 (z := (2 : Int32)) rfl ?_
  refine W.iand C m4_29 (z := (2 : Int32)) rfl ?_
  refine W.ifN C m4_30 (show ¬ ((2 : Int) = (0 : Int)) from (by decide)) ?_
  refine W.aloadN C m4_33 rfl rfl ?_
  refine W.iload C m4_34 rfl ?_
  refine W.iload C m4_36 rfl ?_
  refine W.iconst C m4_38 (z := (1 : Int32)) rfl ?_
  refine W.iadd C m4_39 rfl ?_
  refine W.iastore C m4_40 A5 (i := (ts ++ [T]).length) (by rw [List.length_append]; exact own_inc (ofNat_toInt (by omega)) (by omega)) (by rw [own_vlen, own_padlen (by simp <;> omega)]; simp <;> omega) g0 ?_
  intro h6 W7 A8
  have K9 := K4.wr W7 (Or.inl (List.mem_of_getElem? (i := 0) rfl))
  have A10 := own_pushA (T + 1) (by simp <;> omega) (own_ofs T) A8
  refine W.iinc C m4_41 rfl (z := (((Int32.ofNat ts.length) + (1 : Int32)) + (1 : Int32))) rfl (L' := [.val (.ref a), .val (.int (Int32.ofNat ts.length)), .val (.int (3 : Int32)), .val (.int (2 : Int32)), .val (.int (Int32.ofNat T)), .val (.int (((Int32.ofNat ts.length) + (1 : Int32)) + (1 : Int32)))]) rfl ?_
  refine W.iload C m4_44 rfl ?_
  refine W.ireturn C m4_46 (hQ _ _ ?_)
  have hv : some (Value.int (((Int32.ofNat ts.length) + (1 : Int32)) + (1 : Int32))) = some (.int (Int32.ofNat (ts ++ [T, T + 1]).length)) := by rw [own_ofs, own_ofs, List.length_append]; rfl
  exact ⟨hv, K9, (by rw [List.append_assoc] at A10; exact A10)⟩
theorem own_add (Z : State) (a0 : Array Value) (hw : ∀ d ∈ tables_1, d.before a0 Z = true) (a : Addr) (B n T : Nat) (ts : List Nat) (h : Heap) (n0 : Nat) (g0 : n0 ≤ a) (A0 : Av Z h a .int (own_v (own_pad ts))) (hB : B < 4) (hn : n ≤ 2) (hT : ts.length + 2 ≤ 24) :
    Con Z mY4 method_5_code 6 (some .int) ({ frames := 0, cells := 0, slots := 0, locals := 0 } : Room) [.ref a, .int (Int32.ofNat ts.length), .int (Int32.ofNat B), .int (Int32.ofNat n), .int (Int32.ofNat T)] h n0 (fun v h' => ∃ us : List Nat, us = ts ++ own_ap B n T ∧ us.length ≤ ts.length + 2 ∧ v = some (.int (Int32.ofNat us.length)) ∧ Keep h h' [a] ∧ Av Z h' a .int (own_v (own_pad us))) := by
  have hl : ∀ B n, (ts ++ own_ap B n T).length ≤ ts.length + 2 := fun B n => by rw [List.length_append]; have := own_aplen (B := B) (c := n) (T := T); omega
  rcases (by omega : B = 0 ∨ B = 1 ∨ B = 2 ∨ B = 3) with rfl | rfl | rfl | rfl <;> rcases (by omega : n = 0 ∨ n = 1 ∨ n = 2) with rfl | rfl | rfl
  · exact Con.post (fun v h q => ⟨_, rfl, hl _ _, q⟩) (own_add_0_0 Z a0 hw a T ts h n0 g0 A0 hT)
  · exact Con.post (fun v h q => ⟨_, rfl, hl _ _, q⟩) (own_add_0_1 Z a0 hw a T ts h n0 g0 A0 hT)
  · exact Con.post (fun v h q => ⟨_, rfl, hl _ _, q⟩) (own_add_0_2 Z a0 hw a T ts h n0 g0 A0 hT)
  · exact Con.post (fun v h q => ⟨_, rfl, hl _ _, q⟩) (own_add_1_0 Z a0 hw a T ts h n0 g0 A0 hT)
  · exact Con.post (fun v h q => ⟨_, rfl, hl _ _, q⟩) (own_add_1_1 Z a0 hw a T ts h n0 g0 A0 hT)
  · exact Con.post (fun v h q => ⟨_, rfl, hl _ _, q⟩) (own_add_1_2 Z a0 hw a T ts h n0 g0 A0 hT)
  · exact Con.post (fun v h q => ⟨_, rfl, hl _ _, q⟩) (own_add_2_0 Z a0 hw a T ts h n0 g0 A0 hT)
  · exact Con.post (fun v h q => ⟨_, rfl, hl _ _, q⟩) (own_add_2_1 Z a0 hw a T ts h n0 g0 A0 hT)
  · exact Con.post (fun v h q => ⟨_, rfl, hl _ _, q⟩) (own_add_2_2 Z a0 hw a T ts h n0 g0 A0 hT)
  · exact Con.post (fun v h q => ⟨_, rfl, hl _ _, q⟩) (own_add_3_0 Z a0 hw a T ts h n0 g0 A0 hT)
  · exact Con.post (fun v h q => ⟨_, rfl, hl _ _, q⟩) (own_add_3_1 Z a0 hw a T ts h n0 g0 A0 hT)
  · exact Con.post (fun v h q => ⟨_, rfl, hl _ _, q⟩) (own_add_3_2 Z a0 hw a T ts h n0 g0 A0 hT)
theorem own_popT : ∀ X, X < 16 → (((((Int32.ofNat X) &&& (1 : Int32)) + (((Int32.ofNat X).toUInt32 >>> ((1 : Int32) &&& 31).toUInt32).toInt32 &&& (1 : Int32))) + (((Int32.ofNat X).toUInt32 >>> ((2 : Int32) &&& 31).toUInt32).toInt32 &&& (1 : Int32))) + (((Int32.ofNat X).toUInt32 >>> ((3 : Int32) &&& 31).toUInt32).toInt32 &&& (1 : Int32))) = Int32.ofNat (own_pop X) := by decide +kernel
abbrev mY8 : MethodName := ⟨"com/example/isolens/isolens/SessionBlocksOneByWritersPinLaw", "pop", "(I)I"⟩
theorem m8_0 : Ins1 method_10_code 0 (.iload_n 0) 1 1 := ⟨by decide +kernel, rfl⟩
theorem m8_1 : Ins1 method_10_code 1 (.iconst 1) 1 2 := ⟨by decide +kernel, rfl⟩
theorem m8_2 : Ins1 method_10_code 2 (.iand) 1 3 := ⟨by decide +kernel, rfl⟩
theorem m8_3 : Ins1 method_10_code 3 (.iload_n 0) 1 4 := ⟨by decide +kernel, rfl⟩
theorem m8_4 : Ins1 method_10_code 4 (.iconst 1) 1 5 := ⟨by decide +kernel, rfl⟩
theorem m8_5 : Ins1 method_10_code 5 (.iushr) 1 6 := ⟨by decide +kernel, rfl⟩
theorem m8_6 : Ins1 method_10_code 6 (.iconst 1) 1 7 := ⟨by decide +kernel, rfl⟩
theorem m8_7 : Ins1 method_10_code 7 (.iand) 1 8 := ⟨by decide +kernel, rfl⟩
theorem m8_8 : Ins1 method_10_code 8 (.iadd) 1 9 := ⟨by decide +kernel, rfl⟩
theorem m8_9 : Ins1 method_10_code 9 (.iload_n 0) 1 10 := ⟨by decide +kernel, rfl⟩
theorem m8_10 : Ins1 method_10_code 10 (.iconst 2) 1 11 := ⟨by decide +kernel, rfl⟩
theorem m8_11 : Ins1 method_10_code 11 (.iushr) 1 12 := ⟨by decide +kernel, rfl⟩
theorem m8_12 : Ins1 method_10_code 12 (.iconst 1) 1 13 := ⟨by decide +kernel, rfl⟩
theorem m8_13 : Ins1 method_10_code 13 (.iand) 1 14 := ⟨by decide +kernel, rfl⟩
theorem m8_14 : Ins1 method_10_code 14 (.iadd) 1 15 := ⟨by decide +kernel, rfl⟩
theorem m8_15 : Ins1 method_10_code 15 (.iload_n 0) 1 16 := ⟨by decide +kernel, rfl⟩
theorem m8_16 : Ins1 method_10_code 16 (.iconst 3) 1 17 := ⟨by decide +kernel, rfl⟩
theorem m8_17 : Ins1 method_10_code 17 (.iushr) 1 18 := ⟨by decide +kernel, rfl⟩
theorem m8_18 : Ins1 method_10_code 18 (.iconst 1) 1 19 := ⟨by decide +kernel, rfl⟩
theorem m8_19 : Ins1 method_10_code 19 (.iand) 1 20 := ⟨by decide +kernel, rfl⟩
theorem m8_20 : Ins1 method_10_code 20 (.iadd) 1 21 := ⟨by decide +kernel, rfl⟩
theorem m8_21 : Ins1 method_10_code 21 (.ireturn) 1 22 := ⟨by decide +kernel, rfl⟩
theorem pl8 : plainFor mY8 = true := plainFor_of_name (show plainName "com/example/isolens/isolens/SessionBlocksOneByWritersPinLaw" = true by first | (simp [plainName, overriddenIn]; done) | decide +kernel)
theorem pd8 : parseMethodDescriptor "(I)I" = some ⟨[.int], some .int⟩ := by decide +kernel
set_option maxRecDepth 65536 in
set_option maxHeartbeats 4000000 in
theorem own_popC (Z : State) (a0 : Array Value) (hw : ∀ d ∈ tables_1, d.before a0 Z = true) (X : Nat) (h : Heap) (n0 : Nat) (hX : X < 16) :
    Con Z mY8 method_10_code 1 (some .int) ({ frames := 0, cells := 0, slots := 0, locals := 0 } : Room) [.int (Int32.ofNat X)] h n0 (fun v h' => h = h' ∧ v = some (.int (Int32.ofNat (own_pop X)))) := by
  refine Con.of pl8 (L := [.val (.int (Int32.ofNat X))]) (fun m => by first | (simp [entryFrame, mkF, argsToLocals, Value.category]; done) | rfl) ?_
  intro κ Qx hQ C
  refine W.iloadN C m8_0 rfl ?_
  refine W.iconst C m8_1 (z := (1 : Int32)) rfl ?_
  refine W.iand C m8_2 rfl ?_
  refine W.iloadN C m8_3 rfl ?_
  refine W.iconst C m8_4 (z := (1 : Int32)) rfl ?_
  refine W.iushr C m8_5 rfl ?_
  refine W.iconst C m8_6 (z := (1 : Int32)) rfl ?_
  refine W.iand C m8_7 rfl ?_
  refine W.iadd C m8_8 rfl ?_
  refine W.iloadN C m8_9 rfl ?_
  refine W.iconst C m8_10 (z := (2 : Int32)) rfl ?_
  refine W.iushr C m8_11 rfl ?_
  refine W.iconst C m8_12 (z := (1 : Int32)) rfl ?_
  refine W.iand C m8_13 rfl ?_
  refine W.iadd C m8_14 rfl ?_
  refine W.iloadN C m8_15 rfl ?_
  refine W.iconst C m8_16 (z := (3 : Int32)) rfl ?_
  refine W.iushr C m8_17 rfl ?_
  refine W.iconst C m8_18 (z := (1 : Int32)) rfl ?_
  refine W.iand C m8_19 rfl ?_
  refine W.iadd C m8_20 rfl ?_
  refine W.ireturn C m8_21 (hQ _ _ ?_)
  exact ⟨rfl, by rw [own_popT X hX]⟩
theorem own_and : ∀ X, X < 16 → ∀ Y, Y < 16 → Int32.ofNat X &&& Int32.ofNat Y = Int32.ofNat (X &&& Y) := by decide +kernel
theorem own_or : ∀ X, X < 16 → ∀ Y, Y < 16 → Int32.ofNat X ||| Int32.ofNat Y = Int32.ofNat (X ||| Y) := by decide +kernel
theorem own_andlt {X Y : Nat} (h : X < 16) (h2 : Y < 16) : X &&& Y < 16 := (by decide +kernel : ∀ X, X < 16 → ∀ Y, Y < 16 → X &&& Y < 16) X h Y h2
theorem own_joinlt {X Y : Nat} (h : X < 16) (h2 : Y < 16) : own_join X Y < 16 := (by decide +kernel : ∀ X, X < 16 → ∀ Y, Y < 16 → own_join X Y < 16) X h Y h2
theorem own_popi (X : Nat) : (Int32.ofNat (own_pop X)).toInt = (own_pop X : Nat) := ofNat_toInt (by have := own_pop4 X; omega)
abbrev mY10 : MethodName := ⟨"com/example/isolens/isolens/SessionBlocksOneByWritersPinLaw", "join", "(II)I"⟩
theorem m10_0 : Ins1 method_9_code 0 (.iload_n 0) 1 1 := ⟨by decide +kernel, rfl⟩
theorem m10_1 : Ins1 method_9_code 1 (.iload_n 1) 1 2 := ⟨by decide +kernel, rfl⟩
theorem m10_2 : Ins1 method_9_code 2 (.iand) 1 3 := ⟨by decide +kernel, rfl⟩
theorem m10_3 : Ins1 method_9_code 3 (.invokestatic 31) 3 6 := ⟨by decide +kernel, rfl⟩
theorem m10_6 : Ins1 method_9_code 6 (.iconst 2) 1 7 := ⟨by decide +kernel, rfl⟩
theorem m10_7 : Jmp1 method_9_code 7 (.if_icmp .lt 9) 9 10 16 := ⟨by decide +kernel, rfl, by decide, by decide⟩
theorem m10_10 : Ins1 method_9_code 10 (.iload_n 0) 1 11 := ⟨by decide +kernel, rfl⟩
theorem m10_11 : Ins1 method_9_code 11 (.iload_n 1) 1 12 := ⟨by decide +kernel, rfl⟩
theorem m10_12 : Ins1 method_9_code 12 (.ior) 1 13 := ⟨by decide +kernel, rfl⟩
theorem m10_13 : Jmp1 method_9_code 13 (.goto 4) 4 16 17 := ⟨by decide +kernel, rfl, by decide, by decide⟩
theorem m10_16 : Ins1 method_9_code 16 (.iload_n 0) 1 17 := ⟨by decide +kernel, rfl⟩
theorem m10_17 : Ins1 method_9_code 17 (.ireturn) 1 18 := ⟨by decide +kernel, rfl⟩
theorem pl10 : plainFor mY10 = true := plainFor_of_name (show plainName "com/example/isolens/isolens/SessionBlocksOneByWritersPinLaw" = true by first | (simp [plainName, overriddenIn]; done) | decide +kernel)
theorem pd10 : parseMethodDescriptor "(II)I" = some ⟨[.int, .int], some .int⟩ := by decide +kernel
set_option maxRecDepth 65536 in
set_option maxHeartbeats 4000000 in
theorem own_joinC (Z : State) (a0 : Array Value) (hw : ∀ d ∈ tables_1, d.before a0 Z = true) (X Y : Nat) (h : Heap) (n0 : Nat) (hX : X < 16) (hY : Y < 16) :
    Con Z mY10 method_9_code 2 (some .int) ({ frames := 1, cells := 0, slots := 0, locals := 12 } : Room) [.int (Int32.ofNat X), .int (Int32.ofNat Y)] h n0 (fun v h' => h = h' ∧ v = some (.int (Int32.ofNat (own_join X Y)))) := by
  refine Con.of pl10 (L := [.val (.int (Int32.ofNat X)), .val (.int (Int32.ofNat Y))]) (fun m => by first | (simp [entryFrame, mkF, argsToLocals, Value.category]; done) | rfl) ?_
  intro κ Qx hQ C
  have ep := own_popi (X &&& Y)
  refine W.iloadN C m10_0 rfl ?_
  refine W.iloadN C m10_1 rfl ?_
  refine W.iand C m10_2 (own_and X hX Y hY) ?_
  refine W.callS (y := mY8) (wt := 0) C m10_3 (hw _ (List.mem_of_getElem? (i := 26) rfl)) (hw _ (List.mem_of_getElem? (i := 27) rfl)) (hw _ (List.mem_of_getElem? (i := 2) rfl)) (hw _ (List.mem_of_getElem? (i := 28) rfl)) (by decide) pd8 rfl (own_popC Z a0 hw (X &&& Y) h n0 (by first | omega | assumption | exact own_andlt (by omega) (by omega))) (as' := [(.int (Int32.ofNat (X &&& Y)))]) (rest := []) rfl rfl (Nat.le_of_eq rfl) (by decide) (by decide) (by decide) (by decide) ?_
  intro r3 h1 q2
  obtain ⟨rfl, rfl⟩ := q2
  show W κ n0 Qx h 0 0 6 [.val (.int (Int32.ofNat X)), .val (.int (Int32.ofNat Y))] [(.int (Int32.ofNat (own_pop (X &&& Y))))]
  refine W.iconst C m10_6 (z := (2 : Int32)) rfl ?_
  refine W.icmp C m10_7 ?_ ?_
  · intro (h7 : ((Int32.ofNat (own_pop (X &&& Y)))).toInt < (2 : Int))
    refine W.iloadN C m10_16 rfl ?_
    refine W.ireturn C m10_17 (hQ _ _ ?_)
    have hr : own_join X Y = X := if_pos (by omega)
    exact ⟨rfl, by rw [hr]⟩
  · intro (h7 : ¬ (((Int32.ofNat (own_pop (X &&& Y)))).toInt < (2 : Int)))
    replace h7 : (2 : Int) ≤ ((Int32.ofNat (own_pop (X &&& Y)))).toInt := by omega
    refine W.iloadN C m10_10 rfl ?_
    refine W.iloadN C m10_11 rfl ?_
    refine W.ior C m10_12 rfl ?_
    refine W.goto C m10_13 ?_
    refine W.ireturn C m10_17 (hQ _ _ ?_)
    have hr : own_join X Y = X ||| Y := if_neg (by omega)
    exact ⟨rfl, by rw [hr, own_or X hX Y hY]⟩
abbrev mY9 : MethodName := ⟨"com/example/isolens/isolens/SessionBlocksOneByWritersPinLaw", "round", "(IIII)I"⟩
theorem m9_0 : Ins1 method_8_code 0 (.iload_n 0) 1 1 := ⟨by decide +kernel, rfl⟩
theorem m9_1 : Ins1 method_8_code 1 (.iload_n 1) 1 2 := ⟨by decide +kernel, rfl⟩
theorem m9_2 : Ins1 method_8_code 2 (.invokestatic 48) 3 5 := ⟨by decide +kernel, rfl⟩
theorem m9_5 : Ins1 method_8_code 5 (.iload_n 2) 1 6 := ⟨by decide +kernel, rfl⟩
theorem m9_6 : Ins1 method_8_code 6 (.invokestatic 48) 3 9 := ⟨by decide +kernel, rfl⟩
theorem m9_9 : Ins1 method_8_code 9 (.iload_n 3) 1 10 := ⟨by decide +kernel, rfl⟩
theorem m9_10 : Ins1 method_8_code 10 (.invokestatic 48) 3 13 := ⟨by decide +kernel, rfl⟩
theorem m9_13 : Ins1 method_8_code 13 (.ireturn) 1 14 := ⟨by decide +kernel, rfl⟩
theorem pl9 : plainFor mY9 = true := plainFor_of_name (show plainName "com/example/isolens/isolens/SessionBlocksOneByWritersPinLaw" = true by first | (simp [plainName, overriddenIn]; done) | decide +kernel)
theorem pd9 : parseMethodDescriptor "(IIII)I" = some ⟨[.int, .int, .int, .int], some .int⟩ := by decide +kernel
set_option maxRecDepth 65536 in
set_option maxHeartbeats 4000000 in
theorem own_roundC (Z : State) (a0 : Array Value) (hw : ∀ d ∈ tables_1, d.before a0 Z = true) (U X Y T : Nat) (h : Heap) (n0 : Nat) (hU : U < 16) (hX : X < 16) (hY : Y < 16) (hT : T < 16) :
    Con Z mY9 method_8_code 4 (some .int) ({ frames := 2, cells := 0, slots := 0, locals := 25 } : Room) [.int (Int32.ofNat U), .int (Int32.ofNat X), .int (Int32.ofNat Y), .int (Int32.ofNat T)] h n0 (fun v h' => h = h' ∧ v = some (.int (Int32.ofNat (own_round U X Y T)))) := by
  refine Con.of pl9 (L := [.val (.int (Int32.ofNat U)), .val (.int (Int32.ofNat X)), .val (.int (Int32.ofNat Y)), .val (.int (Int32.ofNat T))]) (fun m => by first | (simp [entryFrame, mkF, argsToLocals, Value.category]; done) | rfl) ?_
  intro κ Qx hQ C
  refine W.iloadN C m9_0 rfl ?_
  refine W.iloadN C m9_1 rfl ?_
  refine W.callS (y := mY10) (wt := 0) C m9_2 (hw _ (List.mem_of_getElem? (i := 32) rfl)) (hw _ (List.mem_of_getElem? (i := 33) rfl)) (hw _ (List.mem_of_getElem? (i := 2) rfl)) (hw _ (List.mem_of_getElem? (i := 34) rfl)) (by decide) pd10 rfl (own_joinC Z a0 hw U X h n0 (by first | assumption | exact own_joinlt (by assumption) (by assumption) | exact own_joinlt (own_joinlt (by assumption) (by assumption)) (by assumption)) (by assumption)) (as' := [(.int (Int32.ofNat U)), (.int (Int32.ofNat X))]) (rest := []) rfl rfl (Nat.le_of_eq rfl) (by decide) (by decide) (by decide) (by decide) ?_
  intro r3 h1 q2
  obtain ⟨rfl, rfl⟩ := q2
  show W κ n0 Qx h 0 0 5 [.val (.int (Int32.ofNat U)), .val (.int (Int32.ofNat X)), .val (.int (Int32.ofNat Y)), .val (.int (Int32.ofNat T))] [(.int (Int32.ofNat (own_join U X)))]
  refine W.iloadN C m9_5 rfl ?_
  refine W.callS (y := mY10) (wt := 0) C m9_6 (hw _ (List.mem_of_getElem? (i := 32) rfl)) (hw _ (List.mem_of_getElem? (i := 33) rfl)) (hw _ (List.mem_of_getElem? (i := 2) rfl)) (hw _ (List.mem_of_getElem? (i := 34) rfl)) (by decide) pd10 rfl (own_joinC Z a0 hw (own_join U X) Y h n0 (by first | assumption | exact own_joinlt (by assumption) (by assumption) | exact own_joinlt (own_joinlt (by assumption) (by assumption)) (by assumption)) (by assumption)) (as' := [(.int (Int32.ofNat (own_join U X))), (.int (Int32.ofNat Y))]) (rest := []) rfl rfl (Nat.le_of_eq rfl) (by decide) (by decide) (by decide) (by decide) ?_
  intro r6 h4 q5
  obtain ⟨rfl, rfl⟩ := q5
  show W κ n0 Qx h 0 0 9 [.val (.int (Int32.ofNat U)), .val (.int (Int32.ofNat X)), .val (.int (Int32.ofNat Y)), .val (.int (Int32.ofNat T))] [(.int (Int32.ofNat (own_join (own_join U X) Y)))]
  refine W.iloadN C m9_9 rfl ?_
  refine W.callS (y := mY10) (wt := 0) C m9_10 (hw _ (List.mem_of_getElem? (i := 32) rfl)) (hw _ (List.mem_of_getElem? (i := 33) rfl)) (hw _ (List.mem_of_getElem? (i := 2) rfl)) (hw _ (List.mem_of_getElem? (i := 34) rfl)) (by decide) pd10 rfl (own_joinC Z a0 hw (own_join (own_join U X) Y) T h n0 (by first | assumption | exact own_joinlt (by assumption) (by assumption) | exact own_joinlt (own_joinlt (by assumption) (by assumption)) (by assumption)) (by assumption)) (as' := [(.int (Int32.ofNat (own_join (own_join U X) Y))), (.int (Int32.ofNat T))]) (rest := []) rfl rfl (Nat.le_of_eq rfl) (by decide) (by decide) (by decide) (by decide) ?_
  intro r9 h7 q8
  obtain ⟨rfl, rfl⟩ := q8
  show W κ n0 Qx h 0 0 13 [.val (.int (Int32.ofNat U)), .val (.int (Int32.ofNat X)), .val (.int (Int32.ofNat Y)), .val (.int (Int32.ofNat T))] [(.int (Int32.ofNat (own_join (own_join (own_join U X) Y) T)))]
  refine W.ireturn C m9_13 (hQ _ _ ?_)
  exact ⟨rfl, rfl⟩
theorem own_roundlt {U X Y T : Nat} (hU : U < 16) (hX : X < 16) (hY : Y < 16) (hT : T < 16) : own_round U X Y T < 16 := own_joinlt (own_joinlt (own_joinlt hU hX) hY) hT
theorem own_wiT : ∀ K, K < 256 → ∀ s, s < 4 → ∀ n, n < 3 → ((((((Int32.ofNat K).toUInt32 >>> (((2 : Int32) * (Int32.ofNat s)) &&& 31).toUInt32).toInt32 &&& (3 : Int32)) &&& (((1 : Int32) <<< ((Int32.ofNat n) &&& 31)) - (1 : Int32)))).toInt = 0 ↔ K / 4 ^ s % 4 &&& (2 ^ n - 1) = 0) := by
  have q : (own_all 256 fun K => own_all 4 fun s => own_all 3 fun n => decide ((((((Int32.ofNat K).toUInt32 >>> (((2 : Int32) * (Int32.ofNat s)) &&& 31).toUInt32).toInt32 &&& (3 : Int32)) &&& (((1 : Int32) <<< ((Int32.ofNat n) &&& 31)) - (1 : Int32)))).toInt = 0 ↔ K / 4 ^ s % 4 &&& (2 ^ n - 1) = 0)) = true := by decide +kernel
  intro K hK s hs n hn
  exact of_decide_eq_true (own_allG (own_allG (own_allG q hK) hs) hn)
theorem own_shT : ∀ s, s < 4 → ((1 : Int32) <<< ((Int32.ofNat s) &&& 31)) = Int32.ofNat (2 ^ s) := by decide +kernel
abbrev mY7 : MethodName := ⟨"com/example/isolens/isolens/SessionBlocksOneByWritersPinLaw", "writesIn", "(III)I"⟩
theorem m7_0 : Ins1 method_7_code 0 (.iload_n 0) 1 1 := ⟨by decide +kernel, rfl⟩
theorem m7_1 : Ins1 method_7_code 1 (.iconst 2) 1 2 := ⟨by decide +kernel, rfl⟩
theorem m7_2 : Ins1 method_7_code 2 (.iload_n 1) 1 3 := ⟨by decide +kernel, rfl⟩
theorem m7_3 : Ins1 method_7_code 3 (.imul) 1 4 := ⟨by decide +kernel, rfl⟩
theorem m7_4 : Ins1 method_7_code 4 (.iushr) 1 5 := ⟨by decide +kernel, rfl⟩
theorem m7_5 : Ins1 method_7_code 5 (.iconst 3) 1 6 := ⟨by decide +kernel, rfl⟩
theorem m7_6 : Ins1 method_7_code 6 (.iand) 1 7 := ⟨by decide +kernel, rfl⟩
theorem m7_7 : Ins1 method_7_code 7 (.iconst 1) 1 8 := ⟨by decide +kernel, rfl⟩
theorem m7_8 : Ins1 method_7_code 8 (.iload_n 2) 1 9 := ⟨by decide +kernel, rfl⟩
theorem m7_9 : Ins1 method_7_code 9 (.ishl) 1 10 := ⟨by decide +kernel, rfl⟩
theorem m7_10 : Ins1 method_7_code 10 (.iconst 1) 1 11 := ⟨by decide +kernel, rfl⟩
theorem m7_11 : Ins1 method_7_code 11 (.isub) 1 12 := ⟨by decide +kernel, rfl⟩
theorem m7_12 : Ins1 method_7_code 12 (.iand) 1 13 := ⟨by decide +kernel, rfl⟩
theorem m7_13 : Ins1 method_7_code 13 (.istore_n 3) 1 14 := ⟨by decide +kernel, rfl⟩
theorem m7_14 : Ins1 method_7_code 14 (.iload_n 3) 1 15 := ⟨by decide +kernel, rfl⟩
theorem m7_15 : Jmp1 method_7_code 15 (.ifCond .eq 9) 9 18 24 := ⟨by decide +kernel, rfl, by decide, by decide⟩
theorem m7_18 : Ins1 method_7_code 18 (.iconst 1) 1 19 := ⟨by decide +kernel, rfl⟩
theorem m7_19 : Ins1 method_7_code 19 (.iload_n 1) 1 20 := ⟨by decide +kernel, rfl⟩
theorem m7_20 : Ins1 method_7_code 20 (.ishl) 1 21 := ⟨by decide +kernel, rfl⟩
theorem m7_21 : Jmp1 method_7_code 21 (.goto 4) 4 24 25 := ⟨by decide +kernel, rfl, by decide, by decide⟩
theorem m7_24 : Ins1 method_7_code 24 (.iconst 0) 1 25 := ⟨by decide +kernel, rfl⟩
theorem m7_25 : Ins1 method_7_code 25 (.ireturn) 1 26 := ⟨by decide +kernel, rfl⟩
theorem pl7 : plainFor mY7 = true := plainFor_of_name (show plainName "com/example/isolens/isolens/SessionBlocksOneByWritersPinLaw" = true by first | (simp [plainName, overriddenIn]; done) | decide +kernel)
theorem pd7 : parseMethodDescriptor "(III)I" = some ⟨[.int, .int, .int], some .int⟩ := by decide +kernel
set_option maxRecDepth 65536 in
set_option maxHeartbeats 4000000 in
theorem own_wiC (Z : State) (a0 : Array Value) (hw : ∀ d ∈ tables_1, d.before a0 Z = true) (K s n : Nat) (h : Heap) (n0 : Nat) (hK : K < 256) (hs : s < 4) (hn : n < 3) :
    Con Z mY7 method_7_code 4 (some .int) ({ frames := 0, cells := 0, slots := 0, locals := 0 } : Room) [.int (Int32.ofNat K), .int (Int32.ofNat s), .int (Int32.ofNat n)] h n0 (fun v h' => h = h' ∧ v = some (.int (Int32.ofNat (own_wi K s n)))) := by
  refine Con.of pl7 (L := [.val (.int (Int32.ofNat K)), .val (.int (Int32.ofNat s)), .val (.int (Int32.ofNat n)), .unset]) (fun m => by first | (simp [entryFrame, mkF, argsToLocals, Value.category]; done) | rfl) ?_
  intro κ Qx hQ C
  have eT := own_wiT K hK s hs n hn
  refine W.iloadN C m7_0 rfl ?_
  refine W.iconst C m7_1 (z := (2 : Int32)) rfl ?_
  refine W.iloadN C m7_2 rfl ?_
  refine W.imul C m7_3 rfl ?_
  refine W.iushr C m7_4 rfl ?_
  refine W.iconst C m7_5 (z := (3 : Int32)) rfl ?_
  refine W.iand C m7_6 rfl ?_
  refine W.iconst C m7_7 (z := (1 : Int32)) rfl ?_
  refine W.iloadN C m7_8 rfl ?_
  refine W.ishl C m7_9 rfl ?_
  refine W.iconst C m7_10 (z := (1 : Int32)) rfl ?_
  refine W.isub C m7_11 rfl ?_
  refine W.iand C m7_12 rfl ?_
  refine W.istoreN C m7_13 (L' := [.val (.int (Int32.ofNat K)), .val (.int (Int32.ofNat s)), .val (.int (Int32.ofNat n)), .val (.int ((((Int32.ofNat K).toUInt32 >>> (((2 : Int32) * (Int32.ofNat s)) &&& 31).toUInt32).toInt32 &&& (3 : Int32)) &&& (((1 : Int32) <<< ((Int32.ofNat n) &&& 31)) - (1 : Int32))))]) rfl ?_
  refine W.iloadN C m7_14 rfl ?_
  refine W.ifc C m7_15 ?_ ?_
  · intro (h15 : (((((Int32.ofNat K).toUInt32 >>> (((2 : Int32) * (Int32.ofNat s)) &&& 31).toUInt32).toInt32 &&& (3 : Int32)) &&& (((1 : Int32) <<< ((Int32.ofNat n) &&& 31)) - (1 : Int32)))).toInt = (0 : Int))
    refine W.iconst C m7_24 (z := (0 : Int32)) rfl ?_
    refine W.ireturn C m7_25 (hQ _ _ ?_)
    have hr : own_wi K s n = 0 := if_pos (by exact eT.mp (by omega))
    exact ⟨rfl, by rw [hr] <;> rfl⟩
  · intro (h15 : ¬ ((((((Int32.ofNat K).toUInt32 >>> (((2 : Int32) * (Int32.ofNat s)) &&& 31).toUInt32).toInt32 &&& (3 : Int32)) &&& (((1 : Int32) <<< ((Int32.ofNat n) &&& 31)) - (1 : Int32)))).toInt = (0 : Int)))
    refine W.iconst C m7_18 (z := (1 : Int32)) rfl ?_
    refine W.iloadN C m7_19 rfl ?_
    refine W.ishl C m7_20 rfl ?_
    refine W.goto C m7_21 ?_
    refine W.ireturn C m7_25 (hQ _ _ ?_)
    have hr : own_wi K s n = 2 ^ s := if_neg (by exact fun q => absurd (eT.mpr q) (by omega))
    exact ⟨rfl, by rw [hr, ← own_shT s hs]⟩
def own_sw (K a b c d : Nat) : Nat := own_wi K 0 a ||| own_wi K 1 b ||| own_wi K 2 c ||| own_wi K 3 d
theorem own_wilt {K s n : Nat} (hs : s < 4) : own_wi K s n < 16 := by
  unfold own_wi; split
  · decide
  · exact (by decide +kernel : ∀ s, s < 4 → 2 ^ s < 16) s hs
theorem own_swlt {K a b c d : Nat} : own_sw K a b c d < 16 := own_orlt _ (own_orlt _ (own_orlt _ (own_wilt (by decide)) _ (own_wilt (by decide))) _ (own_wilt (by decide))) _ (own_wilt (by decide))
abbrev mY6 : MethodName := ⟨"com/example/isolens/isolens/SessionBlocksOneByWritersPinLaw", "sessionsWriting", "(IIIII)I"⟩
theorem m6_0 : Ins1 method_6_code 0 (.iload_n 0) 1 1 := ⟨by decide +kernel, rfl⟩
theorem m6_1 : Ins1 method_6_code 1 (.iconst 0) 1 2 := ⟨by decide +kernel, rfl⟩
theorem m6_2 : Ins1 method_6_code 2 (.iload_n 1) 1 3 := ⟨by decide +kernel, rfl⟩
theorem m6_3 : Ins1 method_6_code 3 (.invokestatic 44) 3 6 := ⟨by decide +kernel, rfl⟩
theorem m6_6 : Ins1 method_6_code 6 (.iload_n 0) 1 7 := ⟨by decide +kernel, rfl⟩
theorem m6_7 : Ins1 method_6_code 7 (.iconst 1) 1 8 := ⟨by decide +kernel, rfl⟩
theorem m6_8 : Ins1 method_6_code 8 (.iload_n 2) 1 9 := ⟨by decide +kernel, rfl⟩
theorem m6_9 : Ins1 method_6_code 9 (.invokestatic 44) 3 12 := ⟨by decide +kernel, rfl⟩
theorem m6_12 : Ins1 method_6_code 12 (.ior) 1 13 := ⟨by decide +kernel, rfl⟩
theorem m6_13 : Ins1 method_6_code 13 (.iload_n 0) 1 14 := ⟨by decide +kernel, rfl⟩
theorem m6_14 : Ins1 method_6_code 14 (.iconst 2) 1 15 := ⟨by decide +kernel, rfl⟩
theorem m6_15 : Ins1 method_6_code 15 (.iload_n 3) 1 16 := ⟨by decide +kernel, rfl⟩
theorem m6_16 : Ins1 method_6_code 16 (.invokestatic 44) 3 19 := ⟨by decide +kernel, rfl⟩
theorem m6_19 : Ins1 method_6_code 19 (.ior) 1 20 := ⟨by decide +kernel, rfl⟩
theorem m6_20 : Ins1 method_6_code 20 (.iload_n 0) 1 21 := ⟨by decide +kernel, rfl⟩
theorem m6_21 : Ins1 method_6_code 21 (.iconst 3) 1 22 := ⟨by decide +kernel, rfl⟩
theorem m6_22 : Ins1 method_6_code 22 (.iload 4) 2 24 := ⟨by decide +kernel, rfl⟩
theorem m6_24 : Ins1 method_6_code 24 (.invokestatic 44) 3 27 := ⟨by decide +kernel, rfl⟩
theorem m6_27 : Ins1 method_6_code 27 (.ior) 1 28 := ⟨by decide +kernel, rfl⟩
theorem m6_28 : Ins1 method_6_code 28 (.ireturn) 1 29 := ⟨by decide +kernel, rfl⟩
theorem pl6 : plainFor mY6 = true := plainFor_of_name (show plainName "com/example/isolens/isolens/SessionBlocksOneByWritersPinLaw" = true by first | (simp [plainName, overriddenIn]; done) | decide +kernel)
theorem pd6 : parseMethodDescriptor "(IIIII)I" = some ⟨[.int, .int, .int, .int, .int], some .int⟩ := by decide +kernel
set_option maxRecDepth 65536 in
set_option maxHeartbeats 4000000 in
theorem own_swC (Z : State) (a0 : Array Value) (hw : ∀ d ∈ tables_1, d.before a0 Z = true) (K na nb nc nd : Nat) (h : Heap) (n0 : Nat) (hK : K < 256) (ha : na < 3) (hb : nb < 3) (hc : nc < 3) (hd : nd < 3) :
    Con Z mY6 method_6_code 5 (some .int) ({ frames := 1, cells := 0, slots := 0, locals := 16 } : Room) [.int (Int32.ofNat K), .int (Int32.ofNat na), .int (Int32.ofNat nb), .int (Int32.ofNat nc), .int (Int32.ofNat nd)] h n0 (fun v h' => h = h' ∧ v = some (.int (Int32.ofNat (own_sw K na nb nc nd)))) := by
  refine Con.of pl6 (L := [.val (.int (Int32.ofNat K)), .val (.int (Int32.ofNat na)), .val (.int (Int32.ofNat nb)), .val (.int (Int32.ofNat nc)), .val (.int (Int32.ofNat nd))]) (fun m => by first | (simp [entryFrame, mkF, argsToLocals, Value.category]; done) | rfl) ?_
  intro κ Qx hQ C
  refine W.iloadN C m6_0 rfl ?_
  refine W.iconst C m6_1 (z := (0 : Int32)) rfl ?_
  refine W.iloadN C m6_2 rfl ?_
  refine W.callS (y := mY7) (wt := 0) C m6_3 (hw _ (List.mem_of_getElem? (i := 23) rfl)) (hw _ (List.mem_of_getElem? (i := 24) rfl)) (hw _ (List.mem_of_getElem? (i := 2) rfl)) (hw _ (List.mem_of_getElem? (i := 25) rfl)) (by decide) pd7 rfl (own_wiC Z a0 hw K 0 na h n0 hK (by decide) (by assumption)) (as' := [(.int (Int32.ofNat K)), (.int (0 : Int32)), (.int (Int32.ofNat na))]) (rest := []) rfl rfl (Nat.le_of_eq rfl) (by decide) (by decide) (by decide) (by decide) ?_
  intro r3 h1 q2
  obtain ⟨rfl, rfl⟩ := q2
  show W κ n0 Qx h 0 0 6 [.val (.int (Int32.ofNat K)), .val (.int (Int32.ofNat na)), .val (.int (Int32.ofNat nb)), .val (.int (Int32.ofNat nc)), .val (.int (Int32.ofNat nd))] [(.int (Int32.ofNat (own_wi K 0 na)))]
  refine W.iloadN C m6_6 rfl ?_
  refine W.iconst C m6_7 (z := (1 : Int32)) rfl ?_
  refine W.iloadN C m6_8 rfl ?_
  refine W.callS (y := mY7) (wt := 1) C m6_9 (hw _ (List.mem_of_getElem? (i := 23) rfl)) (hw _ (List.mem_of_getElem? (i := 24) rfl)) (hw _ (List.mem_of_getElem? (i := 2) rfl)) (hw _ (List.mem_of_getElem? (i := 25) rfl)) (by decide) pd7 rfl (own_wiC Z a0 hw K 1 nb h n0 hK (by decide) (by assumption)) (as' := [(.int (Int32.ofNat K)), (.int (1 : Int32)), (.int (Int32.ofNat nb))]) (rest := [(.int (Int32.ofNat (own_wi K 0 na)))]) rfl rfl (Nat.le_of_eq rfl) (by decide) (by decide) (by decide) (by decide) ?_
  intro r6 h4 q5
  obtain ⟨rfl, rfl⟩ := q5
  show W κ n0 Qx h 0 0 12 [.val (.int (Int32.ofNat K)), .val (.int (Int32.ofNat na)), .val (.int (Int32.ofNat nb)), .val (.int (Int32.ofNat nc)), .val (.int (Int32.ofNat nd))] [(.int (Int32.ofNat (own_wi K 1 nb))), (.int (Int32.ofNat (own_wi K 0 na)))]
  refine W.ior C m6_12 (z := Int32.ofNat ((own_wi K 0 na) ||| (own_wi K 1 nb))) (own_or _ (by first | exact own_wilt (by decide) | exact own_orlt _ (own_wilt (by decide)) _ (own_wilt (by decide)) | exact own_orlt _ (own_orlt _ (own_wilt (by decide)) _ (own_wilt (by decide))) _ (own_wilt (by decide))) _ (by first | exact own_wilt (by decide) | exact own_orlt _ (own_wilt (by decide)) _ (own_wilt (by decide)) | exact own_orlt _ (own_orlt _ (own_wilt (by decide)) _ (own_wilt (by decide))) _ (own_wilt (by decide)))) ?_
  refine W.iloadN C m6_13 rfl ?_
  refine W.iconst C m6_14 (z := (2 : Int32)) rfl ?_
  refine W.iloadN C m6_15 rfl ?_
  refine W.callS (y := mY7) (wt := 1) C m6_16 (hw _ (List.mem_of_getElem? (i := 23) rfl)) (hw _ (List.mem_of_getElem? (i := 24) rfl)) (hw _ (List.mem_of_getElem? (i := 2) rfl)) (hw _ (List.mem_of_getElem? (i := 25) rfl)) (by decide) pd7 rfl (own_wiC Z a0 hw K 2 nc h n0 hK (by decide) (by assumption)) (as' := [(.int (Int32.ofNat K)), (.int (2 : Int32)), (.int (Int32.ofNat nc))]) (rest := [(.int (Int32.ofNat ((own_wi K 0 na) ||| (own_wi K 1 nb))))]) rfl rfl (Nat.le_of_eq rfl) (by decide) (by decide) (by decide) (by decide) ?_
  intro r9 h7 q8
  obtain ⟨rfl, rfl⟩ := q8
  show W κ n0 Qx h 0 0 19 [.val (.int (Int32.ofNat K)), .val (.int (Int32.ofNat na)), .val (.int (Int32.ofNat nb)), .val (.int (Int32.ofNat nc)), .val (.int (Int32.ofNat nd))] [(.int (Int32.ofNat (own_wi K 2 nc))), (.int (Int32.ofNat ((own_wi K 0 na) ||| (own_wi K 1 nb))))]
  refine W.ior C m6_19 (z := Int32.ofNat (((own_wi K 0 na) ||| (own_wi K 1 nb)) ||| (own_wi K 2 nc))) (own_or _ (by first | exact own_wilt (by decide) | exact own_orlt _ (own_wilt (by decide)) _ (own_wilt (by decide)) | exact own_orlt _ (own_orlt _ (own_wilt (by decide)) _ (own_wilt (by decide))) _ (own_wilt (by decide))) _ (by first | exact own_wilt (by decide) | exact own_orlt _ (own_wilt (by decide)) _ (own_wilt (by decide)) | exact own_orlt _ (own_orlt _ (own_wilt (by decide)) _ (own_wilt (by decide))) _ (own_wilt (by decide)))) ?_
  refine W.iloadN C m6_20 rfl ?_
  refine W.iconst C m6_21 (z := (3 : Int32)) rfl ?_
  refine W.iload C m6_22 rfl ?_
  refine W.callS (y := mY7) (wt := 1) C m6_24 (hw _ (List.mem_of_getElem? (i := 23) rfl)) (hw _ (List.mem_of_getElem? (i := 24) rfl)) (hw _ (List.mem_of_getElem? (i := 2) rfl)) (hw _ (List.mem_of_getElem? (i := 25) rfl)) (by decide) pd7 rfl (own_wiC Z a0 hw K 3 nd h n0 hK (by decide) (by assumption)) (as' := [(.int (Int32.ofNat K)), (.int (3 : Int32)), (.int (Int32.ofNat nd))]) (rest := [(.int (Int32.ofNat (((own_wi K 0 na) ||| (own_wi K 1 nb)) ||| (own_wi K 2 nc))))]) rfl rfl (Nat.le_of_eq rfl) (by decide) (by decide) (by decide) (by decide) ?_
  intro r12 h10 q11
  obtain ⟨rfl, rfl⟩ := q11
  show W κ n0 Qx h 0 0 27 [.val (.int (Int32.ofNat K)), .val (.int (Int32.ofNat na)), .val (.int (Int32.ofNat nb)), .val (.int (Int32.ofNat nc)), .val (.int (Int32.ofNat nd))] [(.int (Int32.ofNat (own_wi K 3 nd))), (.int (Int32.ofNat (((own_wi K 0 na) ||| (own_wi K 1 nb)) ||| (own_wi K 2 nc))))]
  refine W.ior C m6_27 (z := Int32.ofNat ((((own_wi K 0 na) ||| (own_wi K 1 nb)) ||| (own_wi K 2 nc)) ||| (own_wi K 3 nd))) (own_or _ (by first | exact own_wilt (by decide) | exact own_orlt _ (own_wilt (by decide)) _ (own_wilt (by decide)) | exact own_orlt _ (own_orlt _ (own_wilt (by decide)) _ (own_wilt (by decide))) _ (own_wilt (by decide))) _ (by first | exact own_wilt (by decide) | exact own_orlt _ (own_wilt (by decide)) _ (own_wilt (by decide)) | exact own_orlt _ (own_orlt _ (own_wilt (by decide)) _ (own_wilt (by decide))) _ (own_wilt (by decide)))) ?_
  refine W.ireturn C m6_28 (hQ _ _ ?_)
  exact ⟨rfl, rfl⟩
theorem own_255 (x : Int32) : ∃ K : Nat, K < 256 ∧ x &&& (255 : Int32) = Int32.ofNat K := by
  have e := c_mask x (255 : Int32) 8 (by decide) (by decide)
  obtain ⟨n, e1, e2, e3⟩ := natOf (x := x &&& (255 : Int32)) (by omega)
  exact ⟨n, by omega, e1⟩
theorem own_oadd (a b : Nat) : Int32.ofNat a + Int32.ofNat b = Int32.ofNat (a + b) := (Int32.ofNat_add a b).symm
theorem own_b0 : ∀ K, K < 256 → (Int32.ofNat K) &&& (3 : Int32) = Int32.ofNat (K / 4 ^ 0 % 4) := by decide +kernel
theorem own_b1 : ∀ K, K < 256 → ((Int32.ofNat K).toUInt32 >>> ((2 : Int32) &&& 31).toUInt32).toInt32 &&& (3 : Int32) = Int32.ofNat (K / 4 ^ 1 % 4) := by decide +kernel
theorem own_b2 : ∀ K, K < 256 → ((Int32.ofNat K).toUInt32 >>> ((4 : Int32) &&& 31).toUInt32).toInt32 &&& (3 : Int32) = Int32.ofNat (K / 4 ^ 2 % 4) := by decide +kernel
theorem own_b3 : ∀ K, K < 256 → ((Int32.ofNat K).toUInt32 >>> ((6 : Int32) &&& 31).toUInt32).toInt32 &&& (3 : Int32) = Int32.ofNat (K / 4 ^ 3 % 4) := by decide +kernel
abbrev mY0 : MethodName := x
theorem m0_0 : Ins1 code 0 (.iload_n 0) 1 1 := ⟨at_0, rfl⟩
theorem m0_1 : Ins1 code 1 (.iconst 0) 1 2 := ⟨at_1, rfl⟩
theorem m0_2 : Ins1 code 2 (.invokestatic 7) 3 5 := ⟨at_2, rfl⟩
theorem m0_5 : Ins1 code 5 (.istore_n 2) 1 6 := ⟨at_5, rfl⟩
theorem m0_6 : Ins1 code 6 (.iload_n 0) 1 7 := ⟨at_6, rfl⟩
theorem m0_7 : Ins1 code 7 (.iconst 1) 1 8 := ⟨at_7, rfl⟩
theorem m0_8 : Ins1 code 8 (.invokestatic 7) 3 11 := ⟨at_8, rfl⟩
theorem m0_11 : Ins1 code 11 (.istore_n 3) 1 12 := ⟨at_11, rfl⟩
theorem m0_12 : Ins1 code 12 (.iload_n 0) 1 13 := ⟨at_12, rfl⟩
theorem m0_13 : Ins1 code 13 (.iconst 2) 1 14 := ⟨at_13, rfl⟩
theorem m0_14 : Ins1 code 14 (.invokestatic 7) 3 17 := ⟨at_14, rfl⟩
theorem m0_17 : Ins1 code 17 (.istore 4) 2 19 := ⟨at_17, rfl⟩
theorem m0_19 : Ins1 code 19 (.iload_n 0) 1 20 := ⟨at_19, rfl⟩
theorem m0_20 : Ins1 code 20 (.iconst 3) 1 21 := ⟨at_20, rfl⟩
theorem m0_21 : Ins1 code 21 (.invokestatic 7) 3 24 := ⟨at_21, rfl⟩
theorem m0_24 : Ins1 code 24 (.istore 5) 2 26 := ⟨at_24, rfl⟩
theorem m0_26 : Ins1 code 26 (.iconst 5) 1 27 := ⟨at_26, rfl⟩
theorem m0_27 : Ins1 code 27 (.newarray .int) 2 29 := ⟨at_27, rfl⟩
theorem m0_29 : Ins1 code 29 (.astore 6) 2 31 := ⟨at_29, rfl⟩
theorem m0_31 : Ins1 code 31 (.aload 6) 2 33 := ⟨at_31, rfl⟩
theorem m0_33 : Ins1 code 33 (.iconst 1) 1 34 := ⟨at_33, rfl⟩
theorem m0_34 : Ins1 code 34 (.iload_n 2) 1 35 := ⟨at_34, rfl⟩
theorem m0_35 : Ins1 code 35 (.iastore) 1 36 := ⟨at_35, rfl⟩
theorem m0_36 : Ins1 code 36 (.aload 6) 2 38 := ⟨at_36, rfl⟩
theorem m0_38 : Ins1 code 38 (.iconst 2) 1 39 := ⟨at_38, rfl⟩
theorem m0_39 : Ins1 code 39 (.iload_n 2) 1 40 := ⟨at_39, rfl⟩
theorem m0_40 : Ins1 code 40 (.iload_n 3) 1 41 := ⟨at_40, rfl⟩
theorem m0_41 : Ins1 code 41 (.iadd) 1 42 := ⟨at_41, rfl⟩
theorem m0_42 : Ins1 code 42 (.iastore) 1 43 := ⟨at_42, rfl⟩
theorem m0_43 : Ins1 code 43 (.aload 6) 2 45 := ⟨at_43, rfl⟩
theorem m0_45 : Ins1 code 45 (.iconst 3) 1 46 := ⟨at_45, rfl⟩
theorem m0_46 : Ins1 code 46 (.iload_n 2) 1 47 := ⟨at_46, rfl⟩
theorem m0_47 : Ins1 code 47 (.iload_n 3) 1 48 := ⟨at_47, rfl⟩
theorem m0_48 : Ins1 code 48 (.iadd) 1 49 := ⟨at_48, rfl⟩
theorem m0_49 : Ins1 code 49 (.iload 4) 2 51 := ⟨at_49, rfl⟩
theorem m0_51 : Ins1 code 51 (.iadd) 1 52 := ⟨at_51, rfl⟩
theorem m0_52 : Ins1 code 52 (.iastore) 1 53 := ⟨at_52, rfl⟩
theorem m0_53 : Ins1 code 53 (.aload 6) 2 55 := ⟨at_53, rfl⟩
theorem m0_55 : Ins1 code 55 (.iconst 4) 1 56 := ⟨at_55, rfl⟩
theorem m0_56 : Ins1 code 56 (.iload_n 2) 1 57 := ⟨at_56, rfl⟩
theorem m0_57 : Ins1 code 57 (.iload_n 3) 1 58 := ⟨at_57, rfl⟩
theorem m0_58 : Ins1 code 58 (.iadd) 1 59 := ⟨at_58, rfl⟩
theorem m0_59 : Ins1 code 59 (.iload 4) 2 61 := ⟨at_59, rfl⟩
theorem m0_61 : Ins1 code 61 (.iadd) 1 62 := ⟨at_61, rfl⟩
theorem m0_62 : Ins1 code 62 (.iload 5) 2 64 := ⟨at_62, rfl⟩
theorem m0_64 : Ins1 code 64 (.iadd) 1 65 := ⟨at_64, rfl⟩
theorem m0_65 : Ins1 code 65 (.iastore) 1 66 := ⟨at_65, rfl⟩
theorem m0_66 : Ins1 code 66 (.bipush 8) 2 68 := ⟨at_66, rfl⟩
theorem m0_68 : Ins1 code 68 (.newarray .int) 2 70 := ⟨at_68, rfl⟩
theorem m0_70 : Ins1 code 70 (.astore 7) 2 72 := ⟨at_70, rfl⟩
theorem m0_72 : Ins1 code 72 (.aload 7) 2 74 := ⟨at_72, rfl⟩
theorem m0_74 : Ins1 code 74 (.iconst 0) 1 75 := ⟨at_74, rfl⟩
theorem m0_75 : Ins1 code 75 (.iload_n 2) 1 76 := ⟨at_75, rfl⟩
theorem m0_76 : Ins1 code 76 (.aload 6) 2 78 := ⟨at_76, rfl⟩
theorem m0_78 : Ins1 code 78 (.iconst 0) 1 79 := ⟨at_78, rfl⟩
theorem m0_79 : Ins1 code 79 (.iaload) 1 80 := ⟨at_79, rfl⟩
theorem m0_80 : Ins1 code 80 (.invokestatic 13) 3 83 := ⟨at_80, rfl⟩
theorem m0_83 : Ins1 code 83 (.aload 7) 2 85 := ⟨at_83, rfl⟩
theorem m0_85 : Ins1 code 85 (.iconst 1) 1 86 := ⟨at_85, rfl⟩
theorem m0_86 : Ins1 code 86 (.iload_n 3) 1 87 := ⟨at_86, rfl⟩
theorem m0_87 : Ins1 code 87 (.aload 6) 2 89 := ⟨at_87, rfl⟩
theorem m0_89 : Ins1 code 89 (.iconst 1) 1 90 := ⟨at_89, rfl⟩
theorem m0_90 : Ins1 code 90 (.iaload) 1 91 := ⟨at_90, rfl⟩
theorem m0_91 : Ins1 code 91 (.invokestatic 13) 3 94 := ⟨at_91, rfl⟩
theorem m0_94 : Ins1 code 94 (.aload 7) 2 96 := ⟨at_94, rfl⟩
theorem m0_96 : Ins1 code 96 (.iconst 2) 1 97 := ⟨at_96, rfl⟩
theorem m0_97 : Ins1 code 97 (.iload 4) 2 99 := ⟨at_97, rfl⟩
theorem m0_99 : Ins1 code 99 (.aload 6) 2 101 := ⟨at_99, rfl⟩
theorem m0_101 : Ins1 code 101 (.iconst 2) 1 102 := ⟨at_101, rfl⟩
theorem m0_102 : Ins1 code 102 (.iaload) 1 103 := ⟨at_102, rfl⟩
theorem m0_103 : Ins1 code 103 (.invokestatic 13) 3 106 := ⟨at_103, rfl⟩
theorem m0_106 : Ins1 code 106 (.aload 7) 2 108 := ⟨at_106, rfl⟩
theorem m0_108 : Ins1 code 108 (.iconst 3) 1 109 := ⟨at_108, rfl⟩
theorem m0_109 : Ins1 code 109 (.iload 5) 2 111 := ⟨at_109, rfl⟩
theorem m0_111 : Ins1 code 111 (.aload 6) 2 113 := ⟨at_111, rfl⟩
theorem m0_113 : Ins1 code 113 (.iconst 3) 1 114 := ⟨at_113, rfl⟩
theorem m0_114 : Ins1 code 114 (.iaload) 1 115 := ⟨at_114, rfl⟩
theorem m0_115 : Ins1 code 115 (.invokestatic 13) 3 118 := ⟨at_115, rfl⟩
theorem m0_118 : Ins1 code 118 (.iload_n 1) 1 119 := ⟨at_118, rfl⟩
theorem m0_119 : Ins1 code 119 (.sipush 255) 3 122 := ⟨at_119, rfl⟩
theorem m0_122 : Ins1 code 122 (.iand) 1 123 := ⟨at_122, rfl⟩
theorem m0_123 : Ins1 code 123 (.istore 8) 2 125 := ⟨at_123, rfl⟩
theorem m0_125 : Ins1 code 125 (.iload_n 1) 1 126 := ⟨at_125, rfl⟩
theorem m0_126 : Ins1 code 126 (.bipush 8) 2 128 := ⟨at_126, rfl⟩
theorem m0_128 : Ins1 code 128 (.iushr) 1 129 := ⟨at_128, rfl⟩
theorem m0_129 : Ins1 code 129 (.sipush 255) 3 132 := ⟨at_129, rfl⟩
theorem m0_132 : Ins1 code 132 (.iand) 1 133 := ⟨at_132, rfl⟩
theorem m0_133 : Ins1 code 133 (.istore 9) 2 135 := ⟨at_133, rfl⟩
theorem m0_135 : Ins1 code 135 (.iload_n 1) 1 136 := ⟨at_135, rfl⟩
theorem m0_136 : Ins1 code 136 (.bipush 16) 2 138 := ⟨at_136, rfl⟩
theorem m0_138 : Ins1 code 138 (.iushr) 1 139 := ⟨at_138, rfl⟩
theorem m0_139 : Ins1 code 139 (.sipush 255) 3 142 := ⟨at_139, rfl⟩
theorem m0_142 : Ins1 code 142 (.iand) 1 143 := ⟨at_142, rfl⟩
theorem m0_143 : Ins1 code 143 (.istore 10) 2 145 := ⟨at_143, rfl⟩
theorem m0_145 : Ins1 code 145 (.iconst 4) 1 146 := ⟨at_145, rfl⟩
theorem m0_146 : Ins1 code 146 (.newarray .int) 2 148 := ⟨at_146, rfl⟩
theorem m0_148 : Ins1 code 148 (.astore 11) 2 150 := ⟨at_148, rfl⟩
theorem m0_150 : Ins1 code 150 (.bipush 24) 2 152 := ⟨at_150, rfl⟩
theorem m0_152 : Ins1 code 152 (.newarray .int) 2 154 := ⟨at_152, rfl⟩
theorem m0_154 : Ins1 code 154 (.astore 12) 2 156 := ⟨at_154, rfl⟩
theorem m0_156 : Ins1 code 156 (.iconst 0) 1 157 := ⟨at_156, rfl⟩
theorem m0_157 : Ins1 code 157 (.istore 13) 2 159 := ⟨at_157, rfl⟩
theorem m0_159 : Ins1 code 159 (.aload 12) 2 161 := ⟨at_159, rfl⟩
theorem m0_161 : Ins1 code 161 (.iload 13) 2 163 := ⟨at_161, rfl⟩
theorem m0_163 : Ins1 code 163 (.iload 8) 2 165 := ⟨at_163, rfl⟩
theorem m0_165 : Ins1 code 165 (.iconst 3) 1 166 := ⟨at_165, rfl⟩
theorem m0_166 : Ins1 code 166 (.iand) 1 167 := ⟨at_166, rfl⟩
theorem m0_167 : Ins1 code 167 (.iload_n 2) 1 168 := ⟨at_167, rfl⟩
theorem m0_168 : Ins1 code 168 (.aload 6) 2 170 := ⟨at_168, rfl⟩
theorem m0_170 : Ins1 code 170 (.iconst 0) 1 171 := ⟨at_170, rfl⟩
theorem m0_171 : Ins1 code 171 (.iaload) 1 172 := ⟨at_171, rfl⟩
theorem m0_172 : Ins1 code 172 (.invokestatic 17) 3 175 := ⟨at_172, rfl⟩
theorem m0_175 : Ins1 code 175 (.istore 13) 2 177 := ⟨at_175, rfl⟩
theorem m0_177 : Ins1 code 177 (.aload 12) 2 179 := ⟨at_177, rfl⟩
theorem m0_179 : Ins1 code 179 (.iload 13) 2 181 := ⟨at_179, rfl⟩
theorem m0_181 : Ins1 code 181 (.iload 8) 2 183 := ⟨at_181, rfl⟩
theorem m0_183 : Ins1 code 183 (.iconst 2) 1 184 := ⟨at_183, rfl⟩
theorem m0_184 : Ins1 code 184 (.iushr) 1 185 := ⟨at_184, rfl⟩
theorem m0_185 : Ins1 code 185 (.iconst 3) 1 186 := ⟨at_185, rfl⟩
theorem m0_186 : Ins1 code 186 (.iand) 1 187 := ⟨at_186, rfl⟩
theorem m0_187 : Ins1 code 187 (.iload_n 3) 1 188 := ⟨at_187, rfl⟩
theorem m0_188 : Ins1 code 188 (.aload 6) 2 190 := ⟨at_188, rfl⟩
theorem m0_190 : Ins1 code 190 (.iconst 1) 1 191 := ⟨at_190, rfl⟩
theorem m0_191 : Ins1 code 191 (.iaload) 1 192 := ⟨at_191, rfl⟩
theorem m0_192 : Ins1 code 192 (.invokestatic 17) 3 195 := ⟨at_192, rfl⟩
theorem m0_195 : Ins1 code 195 (.istore 13) 2 197 := ⟨at_195, rfl⟩
theorem m0_197 : Ins1 code 197 (.aload 12) 2 199 := ⟨at_197, rfl⟩
theorem m0_199 : Ins1 code 199 (.iload 13) 2 201 := ⟨at_199, rfl⟩
theorem m0_201 : Ins1 code 201 (.iload 8) 2 203 := ⟨at_201, rfl⟩
theorem m0_203 : Ins1 code 203 (.iconst 4) 1 204 := ⟨at_203, rfl⟩
theorem m0_204 : Ins1 code 204 (.iushr) 1 205 := ⟨at_204, rfl⟩
theorem m0_205 : Ins1 code 205 (.iconst 3) 1 206 := ⟨at_205, rfl⟩
theorem m0_206 : Ins1 code 206 (.iand) 1 207 := ⟨at_206, rfl⟩
theorem m0_207 : Ins1 code 207 (.iload 4) 2 209 := ⟨at_207, rfl⟩
theorem m0_209 : Ins1 code 209 (.aload 6) 2 211 := ⟨at_209, rfl⟩
theorem m0_211 : Ins1 code 211 (.iconst 2) 1 212 := ⟨at_211, rfl⟩
theorem m0_212 : Ins1 code 212 (.iaload) 1 213 := ⟨at_212, rfl⟩
theorem m0_213 : Ins1 code 213 (.invokestatic 17) 3 216 := ⟨at_213, rfl⟩
theorem m0_216 : Ins1 code 216 (.istore 13) 2 218 := ⟨at_216, rfl⟩
theorem m0_218 : Ins1 code 218 (.aload 12) 2 220 := ⟨at_218, rfl⟩
theorem m0_220 : Ins1 code 220 (.iload 13) 2 222 := ⟨at_220, rfl⟩
theorem m0_222 : Ins1 code 222 (.iload 8) 2 224 := ⟨at_222, rfl⟩
theorem m0_224 : Ins1 code 224 (.bipush 6) 2 226 := ⟨at_224, rfl⟩
theorem m0_226 : Ins1 code 226 (.iushr) 1 227 := ⟨at_226, rfl⟩
theorem m0_227 : Ins1 code 227 (.iconst 3) 1 228 := ⟨at_227, rfl⟩
theorem m0_228 : Ins1 code 228 (.iand) 1 229 := ⟨at_228, rfl⟩
theorem m0_229 : Ins1 code 229 (.iload 5) 2 231 := ⟨at_229, rfl⟩
theorem m0_231 : Ins1 code 231 (.aload 6) 2 233 := ⟨at_231, rfl⟩
theorem m0_233 : Ins1 code 233 (.iconst 3) 1 234 := ⟨at_233, rfl⟩
theorem m0_234 : Ins1 code 234 (.iaload) 1 235 := ⟨at_234, rfl⟩
theorem m0_235 : Ins1 code 235 (.invokestatic 17) 3 238 := ⟨at_235, rfl⟩
theorem m0_238 : Ins1 code 238 (.istore 13) 2 240 := ⟨at_238, rfl⟩
theorem m0_240 : Ins1 code 240 (.aload 11) 2 242 := ⟨at_240, rfl⟩
theorem m0_242 : Ins1 code 242 (.iconst 1) 1 243 := ⟨at_242, rfl⟩
theorem m0_243 : Ins1 code 243 (.iload 13) 2 245 := ⟨at_243, rfl⟩
theorem m0_245 : Ins1 code 245 (.iastore) 1 246 := ⟨at_245, rfl⟩
theorem m0_246 : Ins1 code 246 (.aload 12) 2 248 := ⟨at_246, rfl⟩
theorem m0_248 : Ins1 code 248 (.iload 13) 2 250 := ⟨at_248, rfl⟩
theorem m0_250 : Ins1 code 250 (.iload 9) 2 252 := ⟨at_250, rfl⟩
theorem m0_252 : Ins1 code 252 (.iconst 3) 1 253 := ⟨at_252, rfl⟩
theorem m0_253 : Ins1 code 253 (.iand) 1 254 := ⟨at_253, rfl⟩
theorem m0_254 : Ins1 code 254 (.iload_n 2) 1 255 := ⟨at_254, rfl⟩
theorem m0_255 : Ins1 code 255 (.aload 6) 2 257 := ⟨at_255, rfl⟩
theorem m0_257 : Ins1 code 257 (.iconst 0) 1 258 := ⟨at_257, rfl⟩
theorem m0_258 : Ins1 code 258 (.iaload) 1 259 := ⟨at_258, rfl⟩
theorem m0_259 : Ins1 code 259 (.invokestatic 17) 3 262 := ⟨at_259, rfl⟩
theorem m0_262 : Ins1 code 262 (.istore 13) 2 264 := ⟨at_262, rfl⟩
theorem m0_264 : Ins1 code 264 (.aload 12) 2 266 := ⟨at_264, rfl⟩
theorem m0_266 : Ins1 code 266 (.iload 13) 2 268 := ⟨at_266, rfl⟩
theorem m0_268 : Ins1 code 268 (.iload 9) 2 270 := ⟨at_268, rfl⟩
theorem m0_270 : Ins1 code 270 (.iconst 2) 1 271 := ⟨at_270, rfl⟩
theorem m0_271 : Ins1 code 271 (.iushr) 1 272 := ⟨at_271, rfl⟩
theorem m0_272 : Ins1 code 272 (.iconst 3) 1 273 := ⟨at_272, rfl⟩
theorem m0_273 : Ins1 code 273 (.iand) 1 274 := ⟨at_273, rfl⟩
theorem m0_274 : Ins1 code 274 (.iload_n 3) 1 275 := ⟨at_274, rfl⟩
theorem m0_275 : Ins1 code 275 (.aload 6) 2 277 := ⟨at_275, rfl⟩
theorem m0_277 : Ins1 code 277 (.iconst 1) 1 278 := ⟨at_277, rfl⟩
theorem m0_278 : Ins1 code 278 (.iaload) 1 279 := ⟨at_278, rfl⟩
theorem m0_279 : Ins1 code 279 (.invokestatic 17) 3 282 := ⟨at_279, rfl⟩
theorem m0_282 : Ins1 code 282 (.istore 13) 2 284 := ⟨at_282, rfl⟩
theorem m0_284 : Ins1 code 284 (.aload 12) 2 286 := ⟨at_284, rfl⟩
theorem m0_286 : Ins1 code 286 (.iload 13) 2 288 := ⟨at_286, rfl⟩
theorem m0_288 : Ins1 code 288 (.iload 9) 2 290 := ⟨at_288, rfl⟩
theorem m0_290 : Ins1 code 290 (.iconst 4) 1 291 := ⟨at_290, rfl⟩
theorem m0_291 : Ins1 code 291 (.iushr) 1 292 := ⟨at_291, rfl⟩
theorem m0_292 : Ins1 code 292 (.iconst 3) 1 293 := ⟨at_292, rfl⟩
theorem m0_293 : Ins1 code 293 (.iand) 1 294 := ⟨at_293, rfl⟩
theorem m0_294 : Ins1 code 294 (.iload 4) 2 296 := ⟨at_294, rfl⟩
theorem m0_296 : Ins1 code 296 (.aload 6) 2 298 := ⟨at_296, rfl⟩
theorem m0_298 : Ins1 code 298 (.iconst 2) 1 299 := ⟨at_298, rfl⟩
theorem m0_299 : Ins1 code 299 (.iaload) 1 300 := ⟨at_299, rfl⟩
theorem m0_300 : Ins1 code 300 (.invokestatic 17) 3 303 := ⟨at_300, rfl⟩
theorem m0_303 : Ins1 code 303 (.istore 13) 2 305 := ⟨at_303, rfl⟩
theorem m0_305 : Ins1 code 305 (.aload 12) 2 307 := ⟨at_305, rfl⟩
theorem m0_307 : Ins1 code 307 (.iload 13) 2 309 := ⟨at_307, rfl⟩
theorem m0_309 : Ins1 code 309 (.iload 9) 2 311 := ⟨at_309, rfl⟩
theorem m0_311 : Ins1 code 311 (.bipush 6) 2 313 := ⟨at_311, rfl⟩
theorem m0_313 : Ins1 code 313 (.iushr) 1 314 := ⟨at_313, rfl⟩
theorem m0_314 : Ins1 code 314 (.iconst 3) 1 315 := ⟨at_314, rfl⟩
theorem m0_315 : Ins1 code 315 (.iand) 1 316 := ⟨at_315, rfl⟩
theorem m0_316 : Ins1 code 316 (.iload 5) 2 318 := ⟨at_316, rfl⟩
theorem m0_318 : Ins1 code 318 (.aload 6) 2 320 := ⟨at_318, rfl⟩
theorem m0_320 : Ins1 code 320 (.iconst 3) 1 321 := ⟨at_320, rfl⟩
theorem m0_321 : Ins1 code 321 (.iaload) 1 322 := ⟨at_321, rfl⟩
theorem m0_322 : Ins1 code 322 (.invokestatic 17) 3 325 := ⟨at_322, rfl⟩
theorem m0_325 : Ins1 code 325 (.istore 13) 2 327 := ⟨at_325, rfl⟩
theorem m0_327 : Ins1 code 327 (.aload 11) 2 329 := ⟨at_327, rfl⟩
theorem m0_329 : Ins1 code 329 (.iconst 2) 1 330 := ⟨at_329, rfl⟩
theorem m0_330 : Ins1 code 330 (.iload 13) 2 332 := ⟨at_330, rfl⟩
theorem m0_332 : Ins1 code 332 (.iastore) 1 333 := ⟨at_332, rfl⟩
theorem m0_333 : Ins1 code 333 (.aload 12) 2 335 := ⟨at_333, rfl⟩
theorem m0_335 : Ins1 code 335 (.iload 13) 2 337 := ⟨at_335, rfl⟩
theorem m0_337 : Ins1 code 337 (.iload 10) 2 339 := ⟨at_337, rfl⟩
theorem m0_339 : Ins1 code 339 (.iconst 3) 1 340 := ⟨at_339, rfl⟩
theorem m0_340 : Ins1 code 340 (.iand) 1 341 := ⟨at_340, rfl⟩
theorem m0_341 : Ins1 code 341 (.iload_n 2) 1 342 := ⟨at_341, rfl⟩
theorem m0_342 : Ins1 code 342 (.aload 6) 2 344 := ⟨at_342, rfl⟩
theorem m0_344 : Ins1 code 344 (.iconst 0) 1 345 := ⟨at_344, rfl⟩
theorem m0_345 : Ins1 code 345 (.iaload) 1 346 := ⟨at_345, rfl⟩
theorem m0_346 : Ins1 code 346 (.invokestatic 17) 3 349 := ⟨at_346, rfl⟩
theorem m0_349 : Ins1 code 349 (.istore 13) 2 351 := ⟨at_349, rfl⟩
theorem m0_351 : Ins1 code 351 (.aload 12) 2 353 := ⟨at_351, rfl⟩
theorem m0_353 : Ins1 code 353 (.iload 13) 2 355 := ⟨at_353, rfl⟩
theorem m0_355 : Ins1 code 355 (.iload 10) 2 357 := ⟨at_355, rfl⟩
theorem m0_357 : Ins1 code 357 (.iconst 2) 1 358 := ⟨at_357, rfl⟩
theorem m0_358 : Ins1 code 358 (.iushr) 1 359 := ⟨at_358, rfl⟩
theorem m0_359 : Ins1 code 359 (.iconst 3) 1 360 := ⟨at_359, rfl⟩
theorem m0_360 : Ins1 code 360 (.iand) 1 361 := ⟨at_360, rfl⟩
theorem m0_361 : Ins1 code 361 (.iload_n 3) 1 362 := ⟨at_361, rfl⟩
theorem m0_362 : Ins1 code 362 (.aload 6) 2 364 := ⟨at_362, rfl⟩
theorem m0_364 : Ins1 code 364 (.iconst 1) 1 365 := ⟨at_364, rfl⟩
theorem m0_365 : Ins1 code 365 (.iaload) 1 366 := ⟨at_365, rfl⟩
theorem m0_366 : Ins1 code 366 (.invokestatic 17) 3 369 := ⟨at_366, rfl⟩
theorem m0_369 : Ins1 code 369 (.istore 13) 2 371 := ⟨at_369, rfl⟩
theorem m0_371 : Ins1 code 371 (.aload 12) 2 373 := ⟨at_371, rfl⟩
theorem m0_373 : Ins1 code 373 (.iload 13) 2 375 := ⟨at_373, rfl⟩
theorem m0_375 : Ins1 code 375 (.iload 10) 2 377 := ⟨at_375, rfl⟩
theorem m0_377 : Ins1 code 377 (.iconst 4) 1 378 := ⟨at_377, rfl⟩
theorem m0_378 : Ins1 code 378 (.iushr) 1 379 := ⟨at_378, rfl⟩
theorem m0_379 : Ins1 code 379 (.iconst 3) 1 380 := ⟨at_379, rfl⟩
theorem m0_380 : Ins1 code 380 (.iand) 1 381 := ⟨at_380, rfl⟩
theorem m0_381 : Ins1 code 381 (.iload 4) 2 383 := ⟨at_381, rfl⟩
theorem m0_383 : Ins1 code 383 (.aload 6) 2 385 := ⟨at_383, rfl⟩
theorem m0_385 : Ins1 code 385 (.iconst 2) 1 386 := ⟨at_385, rfl⟩
theorem m0_386 : Ins1 code 386 (.iaload) 1 387 := ⟨at_386, rfl⟩
theorem m0_387 : Ins1 code 387 (.invokestatic 17) 3 390 := ⟨at_387, rfl⟩
theorem m0_390 : Ins1 code 390 (.istore 13) 2 392 := ⟨at_390, rfl⟩
theorem m0_392 : Ins1 code 392 (.aload 12) 2 394 := ⟨at_392, rfl⟩
theorem m0_394 : Ins1 code 394 (.iload 13) 2 396 := ⟨at_394, rfl⟩
theorem m0_396 : Ins1 code 396 (.iload 10) 2 398 := ⟨at_396, rfl⟩
theorem m0_398 : Ins1 code 398 (.bipush 6) 2 400 := ⟨at_398, rfl⟩
theorem m0_400 : Ins1 code 400 (.iushr) 1 401 := ⟨at_400, rfl⟩
theorem m0_401 : Ins1 code 401 (.iconst 3) 1 402 := ⟨at_401, rfl⟩
theorem m0_402 : Ins1 code 402 (.iand) 1 403 := ⟨at_402, rfl⟩
theorem m0_403 : Ins1 code 403 (.iload 5) 2 405 := ⟨at_403, rfl⟩
theorem m0_405 : Ins1 code 405 (.aload 6) 2 407 := ⟨at_405, rfl⟩
theorem m0_407 : Ins1 code 407 (.iconst 3) 1 408 := ⟨at_407, rfl⟩
theorem m0_408 : Ins1 code 408 (.iaload) 1 409 := ⟨at_408, rfl⟩
theorem m0_409 : Ins1 code 409 (.invokestatic 17) 3 412 := ⟨at_409, rfl⟩
theorem m0_412 : Ins1 code 412 (.istore 13) 2 414 := ⟨at_412, rfl⟩
theorem m0_414 : Ins1 code 414 (.aload 11) 2 416 := ⟨at_414, rfl⟩
theorem m0_416 : Ins1 code 416 (.iconst 3) 1 417 := ⟨at_416, rfl⟩
theorem m0_417 : Ins1 code 417 (.iload 13) 2 419 := ⟨at_417, rfl⟩
theorem m0_419 : Ins1 code 419 (.iastore) 1 420 := ⟨at_419, rfl⟩
theorem m0_420 : Ins1 code 420 (.aload 6) 2 422 := ⟨at_420, rfl⟩
theorem m0_422 : Ins1 code 422 (.aload 7) 2 424 := ⟨at_422, rfl⟩
theorem m0_424 : Ins1 code 424 (.aload 11) 2 426 := ⟨at_424, rfl⟩
theorem m0_426 : Ins1 code 426 (.aload 12) 2 428 := ⟨at_426, rfl⟩
theorem m0_428 : Ins1 code 428 (.invokestatic 21) 3 431 := ⟨at_428, rfl⟩
theorem m0_431 : Ins1 code 431 (.istore 14) 2 433 := ⟨at_431, rfl⟩
theorem m0_433 : Ins1 code 433 (.iload_n 2) 1 434 := ⟨at_433, rfl⟩
theorem m0_434 : Jmp1 code 434 (.ifCond .le 7) 7 437 441 := ⟨at_434, rfl, by decide, by decide⟩
theorem m0_437 : Ins1 code 437 (.iconst 1) 1 438 := ⟨at_437, rfl⟩
theorem m0_438 : Jmp1 code 438 (.goto 4) 4 441 442 := ⟨at_438, rfl, by decide, by decide⟩
theorem m0_441 : Ins1 code 441 (.iconst 0) 1 442 := ⟨at_441, rfl⟩
theorem m0_442 : Ins1 code 442 (.iload_n 3) 1 443 := ⟨at_442, rfl⟩
theorem m0_443 : Jmp1 code 443 (.ifCond .le 7) 7 446 450 := ⟨at_443, rfl, by decide, by decide⟩
theorem m0_446 : Ins1 code 446 (.iconst 2) 1 447 := ⟨at_446, rfl⟩
theorem m0_447 : Jmp1 code 447 (.goto 4) 4 450 451 := ⟨at_447, rfl, by decide, by decide⟩
theorem m0_450 : Ins1 code 450 (.iconst 0) 1 451 := ⟨at_450, rfl⟩
theorem m0_451 : Ins1 code 451 (.ior) 1 452 := ⟨at_451, rfl⟩
theorem m0_452 : Ins1 code 452 (.iload 4) 2 454 := ⟨at_452, rfl⟩
theorem m0_454 : Jmp1 code 454 (.ifCond .le 7) 7 457 461 := ⟨at_454, rfl, by decide, by decide⟩
theorem m0_457 : Ins1 code 457 (.iconst 4) 1 458 := ⟨at_457, rfl⟩
theorem m0_458 : Jmp1 code 458 (.goto 4) 4 461 462 := ⟨at_458, rfl, by decide, by decide⟩
theorem m0_461 : Ins1 code 461 (.iconst 0) 1 462 := ⟨at_461, rfl⟩
theorem m0_462 : Ins1 code 462 (.ior) 1 463 := ⟨at_462, rfl⟩
theorem m0_463 : Ins1 code 463 (.iload 5) 2 465 := ⟨at_463, rfl⟩
theorem m0_465 : Jmp1 code 465 (.ifCond .le 8) 8 468 473 := ⟨at_465, rfl, by decide, by decide⟩
theorem m0_468 : Ins1 code 468 (.bipush 8) 2 470 := ⟨at_468, rfl⟩
theorem m0_470 : Jmp1 code 470 (.goto 4) 4 473 474 := ⟨at_470, rfl, by decide, by decide⟩
theorem m0_473 : Ins1 code 473 (.iconst 0) 1 474 := ⟨at_473, rfl⟩
theorem m0_474 : Ins1 code 474 (.ior) 1 475 := ⟨at_474, rfl⟩
theorem m0_475 : Ins1 code 475 (.istore 15) 2 477 := ⟨at_475, rfl⟩
theorem m0_477 : Ins1 code 477 (.iload 8) 2 479 := ⟨at_477, rfl⟩
theorem m0_479 : Ins1 code 479 (.iload_n 2) 1 480 := ⟨at_479, rfl⟩
theorem m0_480 : Ins1 code 480 (.iload_n 3) 1 481 := ⟨at_480, rfl⟩
theorem m0_481 : Ins1 code 481 (.iload 4) 2 483 := ⟨at_481, rfl⟩
theorem m0_483 : Ins1 code 483 (.iload 5) 2 485 := ⟨at_483, rfl⟩
theorem m0_485 : Ins1 code 485 (.invokestatic 27) 3 488 := ⟨at_485, rfl⟩
theorem m0_488 : Ins1 code 488 (.istore 16) 2 490 := ⟨at_488, rfl⟩
theorem m0_490 : Ins1 code 490 (.iload 9) 2 492 := ⟨at_490, rfl⟩
theorem m0_492 : Ins1 code 492 (.iload_n 2) 1 493 := ⟨at_492, rfl⟩
theorem m0_493 : Ins1 code 493 (.iload_n 3) 1 494 := ⟨at_493, rfl⟩
theorem m0_494 : Ins1 code 494 (.iload 4) 2 496 := ⟨at_494, rfl⟩
theorem m0_496 : Ins1 code 496 (.iload 5) 2 498 := ⟨at_496, rfl⟩
theorem m0_498 : Ins1 code 498 (.invokestatic 27) 3 501 := ⟨at_498, rfl⟩
theorem m0_501 : Ins1 code 501 (.istore 17) 2 503 := ⟨at_501, rfl⟩
theorem m0_503 : Ins1 code 503 (.iload 10) 2 505 := ⟨at_503, rfl⟩
theorem m0_505 : Ins1 code 505 (.iload_n 2) 1 506 := ⟨at_505, rfl⟩
theorem m0_506 : Ins1 code 506 (.iload_n 3) 1 507 := ⟨at_506, rfl⟩
theorem m0_507 : Ins1 code 507 (.iload 4) 2 509 := ⟨at_507, rfl⟩
theorem m0_509 : Ins1 code 509 (.iload 5) 2 511 := ⟨at_509, rfl⟩
theorem m0_511 : Ins1 code 511 (.invokestatic 27) 3 514 := ⟨at_511, rfl⟩
theorem m0_514 : Ins1 code 514 (.istore 18) 2 516 := ⟨at_514, rfl⟩
theorem m0_516 : Ins1 code 516 (.iload 16) 2 518 := ⟨at_516, rfl⟩
theorem m0_518 : Ins1 code 518 (.invokestatic 31) 3 521 := ⟨at_518, rfl⟩
theorem m0_521 : Ins1 code 521 (.iconst 2) 1 522 := ⟨at_521, rfl⟩
theorem m0_522 : Jmp1 code 522 (.if_icmp .lt 8) 8 525 530 := ⟨at_522, rfl, by decide, by decide⟩
theorem m0_525 : Ins1 code 525 (.iload 16) 2 527 := ⟨at_525, rfl⟩
theorem m0_527 : Jmp1 code 527 (.goto 32) 32 530 559 := ⟨at_527, rfl, by decide, by decide⟩
theorem m0_530 : Ins1 code 530 (.iload 17) 2 532 := ⟨at_530, rfl⟩
theorem m0_532 : Ins1 code 532 (.invokestatic 31) 3 535 := ⟨at_532, rfl⟩
theorem m0_535 : Ins1 code 535 (.iconst 2) 1 536 := ⟨at_535, rfl⟩
theorem m0_536 : Jmp1 code 536 (.if_icmp .lt 8) 8 539 544 := ⟨at_536, rfl, by decide, by decide⟩
theorem m0_539 : Ins1 code 539 (.iload 17) 2 541 := ⟨at_539, rfl⟩
theorem m0_541 : Jmp1 code 541 (.goto 18) 18 544 559 := ⟨at_541, rfl, by decide, by decide⟩
theorem m0_544 : Ins1 code 544 (.iload 18) 2 546 := ⟨at_544, rfl⟩
theorem m0_546 : Ins1 code 546 (.invokestatic 31) 3 549 := ⟨at_546, rfl⟩
theorem m0_549 : Ins1 code 549 (.iconst 2) 1 550 := ⟨at_549, rfl⟩
theorem m0_550 : Jmp1 code 550 (.if_icmp .lt 8) 8 553 558 := ⟨at_550, rfl, by decide, by decide⟩
theorem m0_553 : Ins1 code 553 (.iload 18) 2 555 := ⟨at_553, rfl⟩
theorem m0_555 : Jmp1 code 555 (.goto 4) 4 558 559 := ⟨at_555, rfl, by decide, by decide⟩
theorem m0_558 : Ins1 code 558 (.iconst 0) 1 559 := ⟨at_558, rfl⟩
theorem m0_559 : Ins1 code 559 (.istore 19) 2 561 := ⟨at_559, rfl⟩
theorem m0_561 : Ins1 code 561 (.iload 19) 2 563 := ⟨at_561, rfl⟩
theorem m0_563 : Ins1 code 563 (.iload 16) 2 565 := ⟨at_563, rfl⟩
theorem m0_565 : Ins1 code 565 (.iload 17) 2 567 := ⟨at_565, rfl⟩
theorem m0_567 : Ins1 code 567 (.iload 18) 2 569 := ⟨at_567, rfl⟩
theorem m0_569 : Ins1 code 569 (.invokestatic 35) 3 572 := ⟨at_569, rfl⟩
theorem m0_572 : Ins1 code 572 (.istore 19) 2 574 := ⟨at_572, rfl⟩
theorem m0_574 : Ins1 code 574 (.iload 19) 2 576 := ⟨at_574, rfl⟩
theorem m0_576 : Ins1 code 576 (.iload 16) 2 578 := ⟨at_576, rfl⟩
theorem m0_578 : Ins1 code 578 (.iload 17) 2 580 := ⟨at_578, rfl⟩
theorem m0_580 : Ins1 code 580 (.iload 18) 2 582 := ⟨at_580, rfl⟩
theorem m0_582 : Ins1 code 582 (.invokestatic 35) 3 585 := ⟨at_582, rfl⟩
theorem m0_585 : Ins1 code 585 (.istore 19) 2 587 := ⟨at_585, rfl⟩
theorem m0_587 : Ins1 code 587 (.iload 19) 2 589 := ⟨at_587, rfl⟩
theorem m0_589 : Ins1 code 589 (.iload 16) 2 591 := ⟨at_589, rfl⟩
theorem m0_591 : Ins1 code 591 (.iload 17) 2 593 := ⟨at_591, rfl⟩
theorem m0_593 : Ins1 code 593 (.iload 18) 2 595 := ⟨at_593, rfl⟩
theorem m0_595 : Ins1 code 595 (.invokestatic 35) 3 598 := ⟨at_595, rfl⟩
theorem m0_598 : Ins1 code 598 (.istore 19) 2 600 := ⟨at_598, rfl⟩
theorem m0_600 : Ins1 code 600 (.iload 15) 2 602 := ⟨at_600, rfl⟩
theorem m0_602 : Ins1 code 602 (.invokestatic 31) 3 605 := ⟨at_602, rfl⟩
theorem m0_605 : Ins1 code 605 (.iconst 1) 1 606 := ⟨at_605, rfl⟩
theorem m0_606 : Jmp1 code 606 (.if_icmp .le 10) 10 609 616 := ⟨at_606, rfl, by decide, by decide⟩
theorem m0_609 : Ins1 code 609 (.iload 19) 2 611 := ⟨at_609, rfl⟩
theorem m0_611 : Ins1 code 611 (.iload 15) 2 613 := ⟨at_611, rfl⟩
theorem m0_613 : Jmp1 code 613 (.if_icmp .ne 7) 7 616 620 := ⟨at_613, rfl, by decide, by decide⟩
theorem m0_616 : Ins1 code 616 (.iconst 1) 1 617 := ⟨at_616, rfl⟩
theorem m0_617 : Jmp1 code 617 (.goto 4) 4 620 621 := ⟨at_617, rfl, by decide, by decide⟩
theorem m0_620 : Ins1 code 620 (.iconst 0) 1 621 := ⟨at_620, rfl⟩
theorem m0_621 : Ins1 code 621 (.istore 20) 2 623 := ⟨at_621, rfl⟩
theorem m0_623 : Ins1 code 623 (.iload 14) 2 625 := ⟨at_623, rfl⟩
theorem m0_625 : Ins1 code 625 (.iload 20) 2 627 := ⟨at_625, rfl⟩
theorem m0_627 : Jmp1 code 627 (.if_icmp .ne 7) 7 630 634 := ⟨at_627, rfl, by decide, by decide⟩
theorem m0_630 : Ins1 code 630 (.iconst 1) 1 631 := ⟨at_630, rfl⟩
theorem m0_631 : Jmp1 code 631 (.goto 4) 4 634 635 := ⟨at_631, rfl, by decide, by decide⟩
theorem m0_635 : Ins1 code 635 (.ireturn) 1 636 := ⟨at_635, rfl⟩
theorem pl0 : plainFor mY0 = true := plainFor_of_name (show plainName "com/example/isolens/isolens/SessionBlocksOneByWritersPinLaw" = true by first | (simp [plainName, overriddenIn]; done) | decide +kernel)
theorem pd0 : parseMethodDescriptor "(II)Z" = some ⟨[.int, .int], some .boolean⟩ := by decide +kernel
set_option maxRecDepth 65536 in
set_option maxHeartbeats 4000000 in
theorem own_law (Z : State) (a0 : Array Value) (hw : ∀ d ∈ tables_1, d.before a0 Z = true) (p0 : Int32) (p1 : Int32)  (h : Heap) (n0 : Nat) (z0 : n0 ≤ h.size) :
    Con Z mY0 code maxLocals ret room_1 [(.int p0), (.int p1)] h n0 (fun v h' => v = some (.int 1)) := by
  refine Con.of pl0 (L := [.val (.int p0), .val (.int p1), .unset, .unset, .unset, .unset, .unset, .unset, .unset, .unset, .unset, .unset, .unset, .unset, .unset, .unset, .unset, .unset, .unset, .unset, .unset]) (fun m => by first | (simp [entryFrame, mkF, argsToLocals, Value.category, maxLocals]; done) | rfl) ?_
  intro κ Qx hQ C
  replace C : Good κ room_1 Z "com/example/isolens/isolens/SessionBlocksOneByWritersPinLaw" "law" code 21 (some .boolean) := C
  refine W.iloadN C m0_0 rfl ?_
  refine W.iconst C m0_1 (z := (0 : Int32)) rfl ?_
  refine W.callS (y := mY1) (wt := 0) C m0_2 (hw _ (List.mem_of_getElem? (i := 0) rfl)) (hw _ (List.mem_of_getElem? (i := 1) rfl)) (hw _ (List.mem_of_getElem? (i := 2) rfl)) (hw _ (List.mem_of_getElem? (i := 3) rfl)) (by decide) pd1 rfl (own_count Z a0 hw p0 (0 : Int32) h n0) (as' := [(.int p0), (.int (0 : Int32))]) (rest := []) rfl rfl (Nat.le_of_eq rfl) (by decide) (by decide) (by decide) (by decide) ?_
  intro r4 h2 q3
  obtain ⟨rfl, n1, hn1, rfl⟩ := q3
  show W κ n0 Qx h 0 0 5 [.val (.int p0), .val (.int p1), .unset, .unset, .unset, .unset, .unset, .unset, .unset, .unset, .unset, .unset, .unset, .unset, .unset, .unset, .unset, .unset, .unset, .unset, .unset] [(.int (Int32.ofNat n1))]
  refine W.istoreN C m0_5 (L' := [.val (.int p0), .val (.int p1), .val (.int (Int32.ofNat n1)), .unset, .unset, .unset, .unset, .unset, .unset, .unset, .unset, .unset, .unset, .unset, .unset, .unset, .unset, .unset, .unset, .unset, .unset]) rfl ?_
  refine W.iloadN C m0_6 rfl ?_
  refine W.iconst C m0_7 (z := (1 : Int32)) rfl ?_
  refine W.callS (y := mY1) (wt := 0) C m0_8 (hw _ (List.mem_of_getElem? (i := 0) rfl)) (hw _ (List.mem_of_getElem? (i := 1) rfl)) (hw _ (List.mem_of_getElem? (i := 2) rfl)) (hw _ (List.mem_of_getElem? (i := 3) rfl)) (by decide) pd1 rfl (own_count Z a0 hw p0 (1 : Int32) h n0) (as' := [(.int p0), (.int (1 : Int32))]) (rest := []) rfl rfl (Nat.le_of_eq rfl) (by decide) (by decide) (by decide) (by decide) ?_
  intro r8 h6 q7
  obtain ⟨rfl, n5, hn5, rfl⟩ := q7
  show W κ n0 Qx h 0 0 11 [.val (.int p0), .val (.int p1), .val (.int (Int32.ofNat n1)), .unset, .unset, .unset, .unset, .unset, .unset, .unset, .unset, .unset, .unset, .unset, .unset, .unset, .unset, .unset, .unset, .unset, .unset] [(.int (Int32.ofNat n5))]
  refine W.istoreN C m0_11 (L' := [.val (.int p0), .val (.int p1), .val (.int (Int32.ofNat n1)), .val (.int (Int32.ofNat n5)), .unset, .unset, .unset, .unset, .unset, .unset, .unset, .unset, .unset, .unset, .unset, .unset, .unset, .unset, .unset, .unset, .unset]) rfl ?_
  refine W.iloadN C m0_12 rfl ?_
  refine W.iconst C m0_13 (z := (2 : Int32)) rfl ?_
  refine W.callS (y := mY1) (wt := 0) C m0_14 (hw _ (List.mem_of_getElem? (i := 0) rfl)) (hw _ (List.mem_of_getElem? (i := 1) rfl)) (hw _ (List.mem_of_getElem? (i := 2) rfl)) (hw _ (List.mem_of_getElem? (i := 3) rfl)) (by decide) pd1 rfl (own_count Z a0 hw p0 (2 : Int32) h n0) (as' := [(.int p0), (.int (2 : Int32))]) (rest := []) rfl rfl (Nat.le_of_eq rfl) (by decide) (by decide) (by decide) (by decide) ?_
  intro r12 h10 q11
  obtain ⟨rfl, n9, hn9, rfl⟩ := q11
  show W κ n0 Qx h 0 0 17 [.val (.int p0), .val (.int p1), .val (.int (Int32.ofNat n1)), .val (.int (Int32.ofNat n5)), .unset, .unset, .unset, .unset, .unset, .unset, .unset, .unset, .unset, .unset, .unset, .unset, .unset, .unset, .unset, .unset, .unset] [(.int (Int32.ofNat n9))]
  refine W.istore C m0_17 (L' := [.val (.int p0), .val (.int p1), .val (.int (Int32.ofNat n1)), .val (.int (Int32.ofNat n5)), .val (.int (Int32.ofNat n9)), .unset, .unset, .unset, .unset, .unset, .unset, .unset, .unset, .unset, .unset, .unset, .unset, .unset, .unset, .unset, .unset]) rfl ?_
  refine W.iloadN C m0_19 rfl ?_
  refine W.iconst C m0_20 (z := (3 : Int32)) rfl ?_
  refine W.callS (y := mY1) (wt := 0) C m0_21 (hw _ (List.mem_of_getElem? (i := 0) rfl)) (hw _ (List.mem_of_getElem? (i := 1) rfl)) (hw _ (List.mem_of_getElem? (i := 2) rfl)) (hw _ (List.mem_of_getElem? (i := 3) rfl)) (by decide) pd1 rfl (own_count Z a0 hw p0 (3 : Int32) h n0) (as' := [(.int p0), (.int (3 : Int32))]) (rest := []) rfl rfl (Nat.le_of_eq rfl) (by decide) (by decide) (by decide) (by decide) ?_
  intro r16 h14 q15
  obtain ⟨rfl, n13, hn13, rfl⟩ := q15
  show W κ n0 Qx h 0 0 24 [.val (.int p0), .val (.int p1), .val (.int (Int32.ofNat n1)), .val (.int (Int32.ofNat n5)), .val (.int (Int32.ofNat n9)), .unset, .unset, .unset, .unset, .unset, .unset, .unset, .unset, .unset, .unset, .unset, .unset, .unset, .unset, .unset, .unset] [(.int (Int32.ofNat n13))]
  refine W.istore C m0_24 (L' := [.val (.int p0), .val (.int p1), .val (.int (Int32.ofNat n1)), .val (.int (Int32.ofNat n5)), .val (.int (Int32.ofNat n9)), .val (.int (Int32.ofNat n13)), .unset, .unset, .unset, .unset, .unset, .unset, .unset, .unset, .unset, .unset, .unset, .unset, .unset, .unset, .unset]) rfl ?_
  refine W.iconst C m0_26 (z := (5 : Int32)) rfl ?_
  refine W.newarray (a0 := a0) (vs := [(.int (0 : Int32)), (.int (0 : Int32)), (.int (0 : Int32)), (.int (0 : Int32)), (.int (0 : Int32))]) 5 C m0_27 rfl (hw _ (List.mem_of_getElem? (i := 8) rfl)) (by decide) (by decide) rfl (by decide) (by decide) (by decide) ?_
  intro h17 a18 g19 E20 A21
  have g22 : n0 ≤ a18 := Nat.le_trans z0 (Nat.le_of_eq g19)
  have z23 : n0 ≤ h17.size := Nat.le_trans z0 E20.1
  show W κ n0 Qx h17 1 5 29 [.val (.int p0), .val (.int p1), .val (.int (Int32.ofNat n1)), .val (.int (Int32.ofNat n5)), .val (.int (Int32.ofNat n9)), .val (.int (Int32.ofNat n13)), .unset, .unset, .unset, .unset, .unset, .unset, .unset, .unset, .unset, .unset, .unset, .unset, .unset, .unset, .unset] [(.ref a18)]
  refine W.astore C m0_29 (L' := [.val (.int p0), .val (.int p1), .val (.int (Int32.ofNat n1)), .val (.int (Int32.ofNat n5)), .val (.int (Int32.ofNat n9)), .val (.int (Int32.ofNat n13)), .val (.ref a18), .unset, .unset, .unset, .unset, .unset, .unset, .unset, .unset, .unset, .unset, .unset, .unset, .unset, .unset]) rfl rfl ?_
  refine W.aload C m0_31 rfl rfl ?_
  refine W.iconst C m0_33 (z := (1 : Int32)) rfl ?_
  refine W.iloadN C m0_34 rfl ?_
  refine W.iastore C m0_35 A21 (i := 1) rfl (Nat.le_of_ble_eq_true rfl) g22 ?_
  intro h24 W25 A26
  have z27 : n0 ≤ h24.size := Nat.le_trans z23 (Nat.le_of_eq (Wr.size W25).symm)
  have A28 : Av Z h24 a18 .int [(.int (0 : Int32)), (.int (Int32.ofNat n1)), (.int (0 : Int32)), (.int (0 : Int32)), (.int (0 : Int32))] := A26
  refine W.aload C m0_36 rfl rfl ?_
  refine W.iconst C m0_38 (z := (2 : Int32)) rfl ?_
  refine W.iloadN C m0_39 rfl ?_
  refine W.iloadN C m0_40 rfl ?_
  refine W.iadd C m0_41 (z := Int32.ofNat (n1 + n5)) (own_oadd _ _) ?_
  refine W.iastore C m0_42 A28 (i := 2) rfl (Nat.le_of_ble_eq_true rfl) g22 ?_
  intro h29 W30 A31
  have z32 : n0 ≤ h29.size := Nat.le_trans z27 (Nat.le_of_eq (Wr.size W30).symm)
  have A33 : Av Z h29 a18 .int [(.int (0 : Int32)), (.int (Int32.ofNat n1)), (.int (Int32.ofNat (n1 + n5))), (.int (0 : Int32)), (.int (0 : Int32))] := A31
  refine W.aload C m0_43 rfl rfl ?_
  refine W.iconst C m0_45 (z := (3 : Int32)) rfl ?_
  refine W.iloadN C m0_46 rfl ?_
  refine W.iloadN C m0_47 rfl ?_
  refine W.iadd C m0_48 (z := Int32.ofNat (n1 + n5)) (own_oadd _ _) ?_
  refine W.iload C m0_49 rfl ?_
  refine W.iadd C m0_51 (z := Int32.ofNat ((n1 + n5) + n9)) (own_oadd _ _) ?_
  refine W.iastore C m0_52 A33 (i := 3) rfl (Nat.le_of_ble_eq_true rfl) g22 ?_
  intro h34 W35 A36
  have z37 : n0 ≤ h34.size := Nat.le_trans z32 (Nat.le_of_eq (Wr.size W35).symm)
  have A38 : Av Z h34 a18 .int [(.int (0 : Int32)), (.int (Int32.ofNat n1)), (.int (Int32.ofNat (n1 + n5))), (.int (Int32.ofNat ((n1 + n5) + n9))), (.int (0 : Int32))] := A36
  refine W.aload C m0_53 rfl rfl ?_
  refine W.iconst C m0_55 (z := (4 : Int32)) rfl ?_
  refine W.iloadN C m0_56 rfl ?_
  refine W.iloadN C m0_57 rfl ?_
  refine W.iadd C m0_58 (z := Int32.ofNat (n1 + n5)) (own_oadd _ _) ?_
  refine W.iload C m0_59 rfl ?_
  refine W.iadd C m0_61 (z := Int32.ofNat ((n1 + n5) + n9)) (own_oadd _ _) ?_
  refine W.iload C m0_62 rfl ?_
  refine W.iadd C m0_64 (z := Int32.ofNat (((n1 + n5) + n9) + n13)) (own_oadd _ _) ?_
  refine W.iastore C m0_65 A38 (i := 4) rfl (Nat.le_of_ble_eq_true rfl) g22 ?_
  intro h39 W40 A41
  have z42 : n0 ≤ h39.size := Nat.le_trans z37 (Nat.le_of_eq (Wr.size W40).symm)
  have A43 : Av Z h39 a18 .int [(.int (0 : Int32)), (.int (Int32.ofNat n1)), (.int (Int32.ofNat (n1 + n5))), (.int (Int32.ofNat ((n1 + n5) + n9))), (.int (Int32.ofNat (((n1 + n5) + n9) + n13)))] := A41
  refine W.bipush C m0_66 (z := (8 : Int32)) rfl ?_
  refine W.newarray (a0 := a0) (vs := [(.int (0 : Int32)), (.int (0 : Int32)), (.int (0 : Int32)), (.int (0 : Int32)), (.int (0 : Int32)), (.int (0 : Int32)), (.int (0 : Int32)), (.int (0 : Int32))]) 8 C m0_68 rfl (hw _ (List.mem_of_getElem? (i := 8) rfl)) (by decide) (by decide) rfl (by decide) (by decide) (by decide) ?_
  intro h44 a45 g46 E47 A48
  have ne49 : a18 ≠ a45 := Nat.ne_of_lt (Nat.lt_of_lt_of_eq A43.lt g46)
  have g50 : n0 ≤ a45 := Nat.le_trans z42 (Nat.le_of_eq g46)
  have z51 : n0 ≤ h44.size := Nat.le_trans z42 E47.1
  have A52 := A43.ext E47
  show W κ n0 Qx h44 2 13 70 [.val (.int p0), .val (.int p1), .val (.int (Int32.ofNat n1)), .val (.int (Int32.ofNat n5)), .val (.int (Int32.ofNat n9)), .val (.int (Int32.ofNat n13)), .val (.ref a18), .unset, .unset, .unset, .unset, .unset, .unset, .unset, .unset, .unset, .unset, .unset, .unset, .unset, .unset] [(.ref a45)]
  refine W.astore C m0_70 (L' := [.val (.int p0), .val (.int p1), .val (.int (Int32.ofNat n1)), .val (.int (Int32.ofNat n5)), .val (.int (Int32.ofNat n9)), .val (.int (Int32.ofNat n13)), .val (.ref a18), .val (.ref a45), .unset, .unset, .unset, .unset, .unset, .unset, .unset, .unset, .unset, .unset, .unset, .unset, .unset]) rfl rfl ?_
  have A53 : Av Z h44 a45 .int (own_v (List.replicate 8 0)) := A48
  refine W.aload C m0_72 rfl rfl ?_
  refine W.iconst C m0_74 (z := (0 : Int32)) rfl ?_
  refine W.iloadN C m0_75 rfl ?_
  refine W.aload C m0_76 rfl rfl ?_
  refine W.iconst C m0_78 (z := (0 : Int32)) rfl ?_
  refine W.iaload C m0_79 A52 (i := 0) rfl rfl ?_
  refine W.callS (y := mY3) (wt := 0) C m0_80 (hw _ (List.mem_of_getElem? (i := 9) rfl)) (hw _ (List.mem_of_getElem? (i := 10) rfl)) (hw _ (List.mem_of_getElem? (i := 2) rfl)) (hw _ (List.mem_of_getElem? (i := 11) rfl)) (by decide) pd3 rfl (own_fill Z a0 hw a45 0 0 n1 (List.replicate 8 0) h44 n0 g50 A53 (by omega) (by show _ ≤ 8; omega) (by show 8 ≤ _; omega)) (as' := [(.ref a45), (.int (0 : Int32)), (.int (Int32.ofNat n1)), (.int (0 : Int32))]) (rest := []) rfl rfl (Nat.le_of_eq rfl) (by decide) (by decide) (by decide) (by decide) ?_
  intro r59 h57 q58
  obtain ⟨rfl, K54, ys56, heys56, hlys56, A55⟩ := q58
  have z60 : n0 ≤ h57.size := Nat.le_trans z51 K54.1
  have A61 := A52.keep K54 (ninS ne49 nin0)
  rw [List.length_replicate] at hlys56
  show W κ n0 Qx h57 2 13 83 [.val (.int p0), .val (.int p1), .val (.int (Int32.ofNat n1)), .val (.int (Int32.ofNat n5)), .val (.int (Int32.ofNat n9)), .val (.int (Int32.ofNat n13)), .val (.ref a18), .val (.ref a45), .unset, .unset, .unset, .unset, .unset, .unset, .unset, .unset, .unset, .unset, .unset, .unset, .unset] []
  refine W.aload C m0_83 rfl rfl ?_
  refine W.iconst C m0_85 (z := (1 : Int32)) rfl ?_
  refine W.iloadN C m0_86 rfl ?_
  refine W.aload C m0_87 rfl rfl ?_
  refine W.iconst C m0_89 (z := (1 : Int32)) rfl ?_
  refine W.iaload C m0_90 A61 (i := 1) rfl rfl ?_
  refine W.callS (y := mY3) (wt := 0) C m0_91 (hw _ (List.mem_of_getElem? (i := 9) rfl)) (hw _ (List.mem_of_getElem? (i := 10) rfl)) (hw _ (List.mem_of_getElem? (i := 2) rfl)) (hw _ (List.mem_of_getElem? (i := 11) rfl)) (by decide) pd3 rfl (own_fill Z a0 hw a45 1 n1 n5 ys56 h57 n0 g50 A55 (by omega) (by rw [hlys56]; omega) (by rw [hlys56]; omega)) (as' := [(.ref a45), (.int (1 : Int32)), (.int (Int32.ofNat n5)), (.int (Int32.ofNat n1))]) (rest := []) rfl rfl (Nat.le_of_eq rfl) (by decide) (by decide) (by decide) (by decide) ?_
  intro r67 h65 q66
  obtain ⟨rfl, K62, ys64, heys64, hlys64, A63⟩ := q66
  have z68 : n0 ≤ h65.size := Nat.le_trans z60 K62.1
  have A69 := A61.keep K62 (ninS ne49 nin0)
  rw [hlys56] at hlys64
  show W κ n0 Qx h65 2 13 94 [.val (.int p0), .val (.int p1), .val (.int (Int32.ofNat n1)), .val (.int (Int32.ofNat n5)), .val (.int (Int32.ofNat n9)), .val (.int (Int32.ofNat n13)), .val (.ref a18), .val (.ref a45), .unset, .unset, .unset, .unset, .unset, .unset, .unset, .unset, .unset, .unset, .unset, .unset, .unset] []
  refine W.aload C m0_94 rfl rfl ?_
  refine W.iconst C m0_96 (z := (2 : Int32)) rfl ?_
  refine W.iload C m0_97 rfl ?_
  refine W.aload C m0_99 rfl rfl ?_
  refine W.iconst C m0_101 (z := (2 : Int32)) rfl ?_
  refine W.iaload C m0_102 A69 (i := 2) rfl rfl ?_
  refine W.callS (y := mY3) (wt := 0) C m0_103 (hw _ (List.mem_of_getElem? (i := 9) rfl)) (hw _ (List.mem_of_getElem? (i := 10) rfl)) (hw _ (List.mem_of_getElem? (i := 2) rfl)) (hw _ (List.mem_of_getElem? (i := 11) rfl)) (by decide) pd3 rfl (own_fill Z a0 hw a45 2 (n1 + n5) n9 ys64 h65 n0 g50 A63 (by omega) (by rw [hlys64]; omega) (by rw [hlys64]; omega)) (as' := [(.ref a45), (.int (2 : Int32)), (.int (Int32.ofNat n9)), (.int (Int32.ofNat (n1 + n5)))]) (rest := []) rfl rfl (Nat.le_of_eq rfl) (by decide) (by decide) (by decide) (by decide) ?_
  intro r75 h73 q74
  obtain ⟨rfl, K70, ys72, heys72, hlys72, A71⟩ := q74
  have z76 : n0 ≤ h73.size := Nat.le_trans z68 K70.1
  have A77 := A69.keep K70 (ninS ne49 nin0)
  rw [hlys64] at hlys72
  show W κ n0 Qx h73 2 13 106 [.val (.int p0), .val (.int p1), .val (.int (Int32.ofNat n1)), .val (.int (Int32.ofNat n5)), .val (.int (Int32.ofNat n9)), .val (.int (Int32.ofNat n13)), .val (.ref a18), .val (.ref a45), .unset, .unset, .unset, .unset, .unset, .unset, .unset, .unset, .unset, .unset, .unset, .unset, .unset] []
  refine W.aload C m0_106 rfl rfl ?_
  refine W.iconst C m0_108 (z := (3 : Int32)) rfl ?_
  refine W.iload C m0_109 rfl ?_
  refine W.aload C m0_111 rfl rfl ?_
  refine W.iconst C m0_113 (z := (3 : Int32)) rfl ?_
  refine W.iaload C m0_114 A77 (i := 3) rfl rfl ?_
  refine W.callS (y := mY3) (wt := 0) C m0_115 (hw _ (List.mem_of_getElem? (i := 9) rfl)) (hw _ (List.mem_of_getElem? (i := 10) rfl)) (hw _ (List.mem_of_getElem? (i := 2) rfl)) (hw _ (List.mem_of_getElem? (i := 11) rfl)) (by decide) pd3 rfl (own_fill Z a0 hw a45 3 ((n1 + n5) + n9) n13 ys72 h73 n0 g50 A71 (by omega) (by rw [hlys72]; omega) (by rw [hlys72]; omega)) (as' := [(.ref a45), (.int (3 : Int32)), (.int (Int32.ofNat n13)), (.int (Int32.ofNat ((n1 + n5) + n9)))]) (rest := []) rfl rfl (Nat.le_of_eq rfl) (by decide) (by decide) (by decide) (by decide) ?_
  intro r83 h81 q82
  obtain ⟨rfl, K78, ys80, heys80, hlys80, A79⟩ := q82
  have z84 : n0 ≤ h81.size := Nat.le_trans z76 K78.1
  have A85 := A77.keep K78 (ninS ne49 nin0)
  rw [hlys72] at hlys80
  show W κ n0 Qx h81 2 13 118 [.val (.int p0), .val (.int p1), .val (.int (Int32.ofNat n1)), .val (.int (Int32.ofNat n5)), .val (.int (Int32.ofNat n9)), .val (.int (Int32.ofNat n13)), .val (.ref a18), .val (.ref a45), .unset, .unset, .unset, .unset, .unset, .unset, .unset, .unset, .unset, .unset, .unset, .unset, .unset] []
  refine W.iloadN C m0_118 rfl ?_
  refine W.sipush C m0_119 (z := (255 : Int32)) rfl ?_
  obtain ⟨Kk86, hkKk86, eKk86⟩ := own_255 p1
  refine W.iand C m0_122 eKk86 ?_
  refine W.istore C m0_123 (L' := [.val (.int p0), .val (.int p1), .val (.int (Int32.ofNat n1)), .val (.int (Int32.ofNat n5)), .val (.int (Int32.ofNat n9)), .val (.int (Int32.ofNat n13)), .val (.ref a18), .val (.ref a45), .val (.int (Int32.ofNat Kk86)), .unset, .unset, .unset, .unset, .unset, .unset, .unset, .unset, .unset, .unset, .unset, .unset]) rfl ?_
  refine W.iloadN C m0_125 rfl ?_
  refine W.bipush C m0_126 (z := (8 : Int32)) rfl ?_
  refine W.iushr C m0_128 rfl ?_
  refine W.sipush C m0_129 (z := (255 : Int32)) rfl ?_
  obtain ⟨Kk87, hkKk87, eKk87⟩ := own_255 (p1.toUInt32 >>> ((8 : Int32) &&& 31).toUInt32).toInt32
  refine W.iand C m0_132 eKk87 ?_
  refine W.istore C m0_133 (L' := [.val (.int p0), .val (.int p1), .val (.int (Int32.ofNat n1)), .val (.int (Int32.ofNat n5)), .val (.int (Int32.ofNat n9)), .val (.int (Int32.ofNat n13)), .val (.ref a18), .val (.ref a45), .val (.int (Int32.ofNat Kk86)), .val (.int (Int32.ofNat Kk87)), .unset, .unset, .unset, .unset, .unset, .unset, .unset, .unset, .unset, .unset, .unset]) rfl ?_
  refine W.iloadN C m0_135 rfl ?_
  refine W.bipush C m0_136 (z := (16 : Int32)) rfl ?_
  refine W.iushr C m0_138 rfl ?_
  refine W.sipush C m0_139 (z := (255 : Int32)) rfl ?_
  obtain ⟨Kk88, hkKk88, eKk88⟩ := own_255 (p1.toUInt32 >>> ((16 : Int32) &&& 31).toUInt32).toInt32
  refine W.iand C m0_142 eKk88 ?_
  refine W.istore C m0_143 (L' := [.val (.int p0), .val (.int p1), .val (.int (Int32.ofNat n1)), .val (.int (Int32.ofNat n5)), .val (.int (Int32.ofNat n9)), .val (.int (Int32.ofNat n13)), .val (.ref a18), .val (.ref a45), .val (.int (Int32.ofNat Kk86)), .val (.int (Int32.ofNat Kk87)), .val (.int (Int32.ofNat Kk88)), .unset, .unset, .unset, .unset, .unset, .unset, .unset, .unset, .unset, .unset]) rfl ?_
  refine W.iconst C m0_145 (z := (4 : Int32)) rfl ?_
  refine W.newarray (a0 := a0) (vs := [(.int (0 : Int32)), (.int (0 : Int32)), (.int (0 : Int32)), (.int (0 : Int32))]) 4 C m0_146 rfl (hw _ (List.mem_of_getElem? (i := 8) rfl)) (by decide) (by decide) rfl (by decide) (by decide) (by decide) ?_
  intro h89 a90 g91 E92 A93
  have ne94 : a18 ≠ a90 := Nat.ne_of_lt (Nat.lt_of_lt_of_eq A85.lt g91)
  have ne95 : a45 ≠ a90 := Nat.ne_of_lt (Nat.lt_of_lt_of_eq A79.lt g91)
  have g96 : n0 ≤ a90 := Nat.le_trans z84 (Nat.le_of_eq g91)
  have z97 : n0 ≤ h89.size := Nat.le_trans z84 E92.1
  have A98 := A85.ext E92
  have A99 := A79.ext E92
  show W κ n0 Qx h89 3 17 148 [.val (.int p0), .val (.int p1), .val (.int (Int32.ofNat n1)), .val (.int (Int32.ofNat n5)), .val (.int (Int32.ofNat n9)), .val (.int (Int32.ofNat n13)), .val (.ref a18), .val (.ref a45), .val (.int (Int32.ofNat Kk86)), .val (.int (Int32.ofNat Kk87)), .val (.int (Int32.ofNat Kk88)), .unset, .unset, .unset, .unset, .unset, .unset, .unset, .unset, .unset, .unset] [(.ref a90)]
  refine W.astore C m0_148 (L' := [.val (.int p0), .val (.int p1), .val (.int (Int32.ofNat n1)), .val (.int (Int32.ofNat n5)), .val (.int (Int32.ofNat n9)), .val (.int (Int32.ofNat n13)), .val (.ref a18), .val (.ref a45), .val (.int (Int32.ofNat Kk86)), .val (.int (Int32.ofNat Kk87)), .val (.int (Int32.ofNat Kk88)), .val (.ref a90), .unset, .unset, .unset, .unset, .unset, .unset, .unset, .unset, .unset]) rfl rfl ?_
  refine W.bipush C m0_150 (z := (24 : Int32)) rfl ?_
  refine W.newarray (a0 := a0) (vs := [(.int (0 : Int32)), (.int (0 : Int32)), (.int (0 : Int32)), (.int (0 : Int32)), (.int (0 : Int32)), (.int (0 : Int32)), (.int (0 : Int32)), (.int (0 : Int32)), (.int (0 : Int32)), (.int (0 : Int32)), (.int (0 : Int32)), (.int (0 : Int32)), (.int (0 : Int32)), (.int (0 : Int32)), (.int (0 : Int32)), (.int (0 : Int32)), (.int (0 : Int32)), (.int (0 : Int32)), (.int (0 : Int32)), (.int (0 : Int32)), (.int (0 : Int32)), (.int (0 : Int32)), (.int (0 : Int32)), (.int (0 : Int32))]) 24 C m0_152 rfl (hw _ (List.mem_of_getElem? (i := 8) rfl)) (by decide) (by decide) rfl (by decide) (by decide) (by decide) ?_
  intro h100 a101 g102 E103 A104
  have ne105 : a18 ≠ a101 := Nat.ne_of_lt (Nat.lt_of_lt_of_eq A98.lt g102)
  have ne106 : a45 ≠ a101 := Nat.ne_of_lt (Nat.lt_of_lt_of_eq A99.lt g102)
  have ne107 : a90 ≠ a101 := Nat.ne_of_lt (Nat.lt_of_lt_of_eq A93.lt g102)
  have g108 : n0 ≤ a101 := Nat.le_trans z97 (Nat.le_of_eq g102)
  have z109 : n0 ≤ h100.size := Nat.le_trans z97 E103.1
  have A110 := A98.ext E103
  have A111 := A99.ext E103
  have A112 := A93.ext E103
  show W κ n0 Qx h100 4 41 154 [.val (.int p0), .val (.int p1), .val (.int (Int32.ofNat n1)), .val (.int (Int32.ofNat n5)), .val (.int (Int32.ofNat n9)), .val (.int (Int32.ofNat n13)), .val (.ref a18), .val (.ref a45), .val (.int (Int32.ofNat Kk86)), .val (.int (Int32.ofNat Kk87)), .val (.int (Int32.ofNat Kk88)), .val (.ref a90), .unset, .unset, .unset, .unset, .unset, .unset, .unset, .unset, .unset] [(.ref a101)]
  refine W.astore C m0_154 (L' := [.val (.int p0), .val (.int p1), .val (.int (Int32.ofNat n1)), .val (.int (Int32.ofNat n5)), .val (.int (Int32.ofNat n9)), .val (.int (Int32.ofNat n13)), .val (.ref a18), .val (.ref a45), .val (.int (Int32.ofNat Kk86)), .val (.int (Int32.ofNat Kk87)), .val (.int (Int32.ofNat Kk88)), .val (.ref a90), .val (.ref a101), .unset, .unset, .unset, .unset, .unset, .unset, .unset, .unset]) rfl rfl ?_
  have A113 : Av Z h100 a101 .int (own_v (own_pad [])) := A104
  refine W.iconst C m0_156 (z := (0 : Int32)) rfl ?_
  refine W.istore C m0_157 (L' := [.val (.int p0), .val (.int p1), .val (.int (Int32.ofNat n1)), .val (.int (Int32.ofNat n5)), .val (.int (Int32.ofNat n9)), .val (.int (Int32.ofNat n13)), .val (.ref a18), .val (.ref a45), .val (.int (Int32.ofNat Kk86)), .val (.int (Int32.ofNat Kk87)), .val (.int (Int32.ofNat Kk88)), .val (.ref a90), .val (.ref a101), .val (.int (0 : Int32)), .unset, .unset, .unset, .unset, .unset, .unset, .unset]) rfl ?_
  refine W.aload C m0_159 rfl rfl ?_
  refine W.iload C m0_161 rfl ?_
  refine W.iload C m0_163 rfl ?_
  refine W.iconst C m0_165 (z := (3 : Int32)) rfl ?_
  refine W.iand C m0_166 (own_b0 Kk86 hkKk86) ?_
  refine W.iloadN C m0_167 rfl ?_
  refine W.aload C m0_168 rfl rfl ?_
  refine W.iconst C m0_170 (z := (0 : Int32)) rfl ?_
  refine W.iaload C m0_171 A110 (i := 0) rfl rfl ?_
  refine W.callS (y := mY4) (wt := 0) C m0_172 (hw _ (List.mem_of_getElem? (i := 12) rfl)) (hw _ (List.mem_of_getElem? (i := 13) rfl)) (hw _ (List.mem_of_getElem? (i := 2) rfl)) (hw _ (List.mem_of_getElem? (i := 14) rfl)) (by decide) pd4 rfl (own_add Z a0 hw a101 (Kk86 / 4 ^ 0 % 4) n1 0 [] h100 n0 g108 A113 (by omega) (by omega) (by decide)) (as' := [(.ref a101), (.int (0 : Int32)), (.int (Int32.ofNat (Kk86 / 4 ^ 0 % 4))), (.int (Int32.ofNat n1)), (.int (0 : Int32))]) (rest := []) rfl rfl (Nat.le_of_eq rfl) (by decide) (by decide) (by decide) (by decide) ?_
  intro r119 h117 q118
  obtain ⟨us116, heus116, hlus116, rfl, K114, A115⟩ := q118
  have z120 : n0 ≤ h117.size := Nat.le_trans z109 K114.1
  have A121 := A110.keep K114 (ninS ne105 nin0)
  have A122 := A111.keep K114 (ninS ne106 nin0)
  have A123 := A112.keep K114 (ninS ne107 nin0)
  replace hlus116 : us116.length ≤ 2 := hlus116
  show W κ n0 Qx h117 4 41 175 [.val (.int p0), .val (.int p1), .val (.int (Int32.ofNat n1)), .val (.int (Int32.ofNat n5)), .val (.int (Int32.ofNat n9)), .val (.int (Int32.ofNat n13)), .val (.ref a18), .val (.ref a45), .val (.int (Int32.ofNat Kk86)), .val (.int (Int32.ofNat Kk87)), .val (.int (Int32.ofNat Kk88)), .val (.ref a90), .val (.ref a101), .val (.int (0 : Int32)), .unset, .unset, .unset, .unset, .unset, .unset, .unset] [(.int (Int32.ofNat us116.length))]
  refine W.istore C m0_175 (L' := [.val (.int p0), .val (.int p1), .val (.int (Int32.ofNat n1)), .val (.int (Int32.ofNat n5)), .val (.int (Int32.ofNat n9)), .val (.int (Int32.ofNat n13)), .val (.ref a18), .val (.ref a45), .val (.int (Int32.ofNat Kk86)), .val (.int (Int32.ofNat Kk87)), .val (.int (Int32.ofNat Kk88)), .val (.ref a90), .val (.ref a101), .val (.int (Int32.ofNat us116.length)), .unset, .unset, .unset, .unset, .unset, .unset, .unset]) rfl ?_
  refine W.aload C m0_177 rfl rfl ?_
  refine W.iload C m0_179 rfl ?_
  refine W.iload C m0_181 rfl ?_
  refine W.iconst C m0_183 (z := (2 : Int32)) rfl ?_
  refine W.iushr C m0_184 rfl ?_
  refine W.iconst C m0_185 (z := (3 : Int32)) rfl ?_
  refine W.iand C m0_186 (own_b1 Kk86 hkKk86) ?_
  refine W.iloadN C m0_187 rfl ?_
  refine W.aload C m0_188 rfl rfl ?_
  refine W.iconst C m0_190 (z := (1 : Int32)) rfl ?_
  refine W.iaload C m0_191 A121 (i := 1) rfl rfl ?_
  refine W.callS (y := mY4) (wt := 0) C m0_192 (hw _ (List.mem_of_getElem? (i := 12) rfl)) (hw _ (List.mem_of_getElem? (i := 13) rfl)) (hw _ (List.mem_of_getElem? (i := 2) rfl)) (hw _ (List.mem_of_getElem? (i := 14) rfl)) (by decide) pd4 rfl (own_add Z a0 hw a101 (Kk86 / 4 ^ 1 % 4) n5 n1 us116 h117 n0 g108 A115 (by omega) (by omega) (by omega)) (as' := [(.ref a101), (.int (Int32.ofNat us116.length)), (.int (Int32.ofNat (Kk86 / 4 ^ 1 % 4))), (.int (Int32.ofNat n5)), (.int (Int32.ofNat n1))]) (rest := []) rfl rfl (Nat.le_of_eq rfl) (by decide) (by decide) (by decide) (by decide) ?_
  intro r129 h127 q128
  obtain ⟨us126, heus126, hlus126, rfl, K124, A125⟩ := q128
  have z130 : n0 ≤ h127.size := Nat.le_trans z120 K124.1
  have A131 := A121.keep K124 (ninS ne105 nin0)
  have A132 := A122.keep K124 (ninS ne106 nin0)
  have A133 := A123.keep K124 (ninS ne107 nin0)
  show W κ n0 Qx h127 4 41 195 [.val (.int p0), .val (.int p1), .val (.int (Int32.ofNat n1)), .val (.int (Int32.ofNat n5)), .val (.int (Int32.ofNat n9)), .val (.int (Int32.ofNat n13)), .val (.ref a18), .val (.ref a45), .val (.int (Int32.ofNat Kk86)), .val (.int (Int32.ofNat Kk87)), .val (.int (Int32.ofNat Kk88)), .val (.ref a90), .val (.ref a101), .val (.int (Int32.ofNat us116.length)), .unset, .unset, .unset, .unset, .unset, .unset, .unset] [(.int (Int32.ofNat us126.length))]
  refine W.istore C m0_195 (L' := [.val (.int p0), .val (.int p1), .val (.int (Int32.ofNat n1)), .val (.int (Int32.ofNat n5)), .val (.int (Int32.ofNat n9)), .val (.int (Int32.ofNat n13)), .val (.ref a18), .val (.ref a45), .val (.int (Int32.ofNat Kk86)), .val (.int (Int32.ofNat Kk87)), .val (.int (Int32.ofNat Kk88)), .val (.ref a90), .val (.ref a101), .val (.int (Int32.ofNat us126.length)), .unset, .unset, .unset, .unset, .unset, .unset, .unset]) rfl ?_
  refine W.aload C m0_197 rfl rfl ?_
  refine W.iload C m0_199 rfl ?_
  refine W.iload C m0_201 rfl ?_
  refine W.iconst C m0_203 (z := (4 : Int32)) rfl ?_
  refine W.iushr C m0_204 rfl ?_
  refine W.iconst C m0_205 (z := (3 : Int32)) rfl ?_
  refine W.iand C m0_206 (own_b2 Kk86 hkKk86) ?_
  refine W.iload C m0_207 rfl ?_
  refine W.aload C m0_209 rfl rfl ?_
  refine W.iconst C m0_211 (z := (2 : Int32)) rfl ?_
  refine W.iaload C m0_212 A131 (i := 2) rfl rfl ?_
  refine W.callS (y := mY4) (wt := 0) C m0_213 (hw _ (List.mem_of_getElem? (i := 12) rfl)) (hw _ (List.mem_of_getElem? (i := 13) rfl)) (hw _ (List.mem_of_getElem? (i := 2) rfl)) (hw _ (List.mem_of_getElem? (i := 14) rfl)) (by decide) pd4 rfl (own_add Z a0 hw a101 (Kk86 / 4 ^ 2 % 4) n9 (n1 + n5) us126 h127 n0 g108 A125 (by omega) (by omega) (by omega)) (as' := [(.ref a101), (.int (Int32.ofNat us126.length)), (.int (Int32.ofNat (Kk86 / 4 ^ 2 % 4))), (.int (Int32.ofNat n9)), (.int (Int32.ofNat (n1 + n5)))]) (rest := []) rfl rfl (Nat.le_of_eq rfl) (by decide) (by decide) (by decide) (by decide) ?_
  intro r139 h137 q138
  obtain ⟨us136, heus136, hlus136, rfl, K134, A135⟩ := q138
  have z140 : n0 ≤ h137.size := Nat.le_trans z130 K134.1
  have A141 := A131.keep K134 (ninS ne105 nin0)
  have A142 := A132.keep K134 (ninS ne106 nin0)
  have A143 := A133.keep K134 (ninS ne107 nin0)
  show W κ n0 Qx h137 4 41 216 [.val (.int p0), .val (.int p1), .val (.int (Int32.ofNat n1)), .val (.int (Int32.ofNat n5)), .val (.int (Int32.ofNat n9)), .val (.int (Int32.ofNat n13)), .val (.ref a18), .val (.ref a45), .val (.int (Int32.ofNat Kk86)), .val (.int (Int32.ofNat Kk87)), .val (.int (Int32.ofNat Kk88)), .val (.ref a90), .val (.ref a101), .val (.int (Int32.ofNat us126.length)), .unset, .unset, .unset, .unset, .unset, .unset, .unset] [(.int (Int32.ofNat us136.length))]
  refine W.istore C m0_216 (L' := [.val (.int p0), .val (.int p1), .val (.int (Int32.ofNat n1)), .val (.int (Int32.ofNat n5)), .val (.int (Int32.ofNat n9)), .val (.int (Int32.ofNat n13)), .val (.ref a18), .val (.ref a45), .val (.int (Int32.ofNat Kk86)), .val (.int (Int32.ofNat Kk87)), .val (.int (Int32.ofNat Kk88)), .val (.ref a90), .val (.ref a101), .val (.int (Int32.ofNat us136.length)), .unset, .unset, .unset, .unset, .unset, .unset, .unset]) rfl ?_
  refine W.aload C m0_218 rfl rfl ?_
  refine W.iload C m0_220 rfl ?_
  refine W.iload C m0_222 rfl ?_
  refine W.bipush C m0_224 (z := (6 : Int32)) rfl ?_
  refine W.iushr C m0_226 rfl ?_
  refine W.iconst C m0_227 (z := (3 : Int32)) rfl ?_
  refine W.iand C m0_228 (own_b3 Kk86 hkKk86) ?_
  refine W.iload C m0_229 rfl ?_
  refine W.aload C m0_231 rfl rfl ?_
  refine W.iconst C m0_233 (z := (3 : Int32)) rfl ?_
  refine W.iaload C m0_234 A141 (i := 3) rfl rfl ?_
  refine W.callS (y := mY4) (wt := 0) C m0_235 (hw _ (List.mem_of_getElem? (i := 12) rfl)) (hw _ (List.mem_of_getElem? (i := 13) rfl)) (hw _ (List.mem_of_getElem? (i := 2) rfl)) (hw _ (List.mem_of_getElem? (i := 14) rfl)) (by decide) pd4 rfl (own_add Z a0 hw a101 (Kk86 / 4 ^ 3 % 4) n13 ((n1 + n5) + n9) us136 h137 n0 g108 A135 (by omega) (by omega) (by omega)) (as' := [(.ref a101), (.int (Int32.ofNat us136.length)), (.int (Int32.ofNat (Kk86 / 4 ^ 3 % 4))), (.int (Int32.ofNat n13)), (.int (Int32.ofNat ((n1 + n5) + n9)))]) (rest := []) rfl rfl (Nat.le_of_eq rfl) (by decide) (by decide) (by decide) (by decide) ?_
  intro r149 h147 q148
  obtain ⟨us146, heus146, hlus146, rfl, K144, A145⟩ := q148
  have z150 : n0 ≤ h147.size := Nat.le_trans z140 K144.1
  have A151 := A141.keep K144 (ninS ne105 nin0)
  have A152 := A142.keep K144 (ninS ne106 nin0)
  have A153 := A143.keep K144 (ninS ne107 nin0)
  show W κ n0 Qx h147 4 41 238 [.val (.int p0), .val (.int p1), .val (.int (Int32.ofNat n1)), .val (.int (Int32.ofNat n5)), .val (.int (Int32.ofNat n9)), .val (.int (Int32.ofNat n13)), .val (.ref a18), .val (.ref a45), .val (.int (Int32.ofNat Kk86)), .val (.int (Int32.ofNat Kk87)), .val (.int (Int32.ofNat Kk88)), .val (.ref a90), .val (.ref a101), .val (.int (Int32.ofNat us136.length)), .unset, .unset, .unset, .unset, .unset, .unset, .unset] [(.int (Int32.ofNat us146.length))]
  refine W.istore C m0_238 (L' := [.val (.int p0), .val (.int p1), .val (.int (Int32.ofNat n1)), .val (.int (Int32.ofNat n5)), .val (.int (Int32.ofNat n9)), .val (.int (Int32.ofNat n13)), .val (.ref a18), .val (.ref a45), .val (.int (Int32.ofNat Kk86)), .val (.int (Int32.ofNat Kk87)), .val (.int (Int32.ofNat Kk88)), .val (.ref a90), .val (.ref a101), .val (.int (Int32.ofNat us146.length)), .unset, .unset, .unset, .unset, .unset, .unset, .unset]) rfl ?_
  refine W.aload C m0_240 rfl rfl ?_
  refine W.iconst C m0_242 (z := (1 : Int32)) rfl ?_
  refine W.iload C m0_243 rfl ?_
  refine W.iastore C m0_245 A153 (i := 1) rfl (Nat.le_of_ble_eq_true rfl) g96 ?_
  intro h154 W155 A156
  have z157 : n0 ≤ h154.size := Nat.le_trans z150 (Nat.le_of_eq (Wr.size W155).symm)
  have A158 := A151.other W155 ne94
  have A159 := A152.other W155 ne95
  have A160 := A145.other W155 (Ne.symm ne107)
  have A161 : Av Z h154 a90 .int [(.int (0 : Int32)), (.int (Int32.ofNat us146.length)), (.int (0 : Int32)), (.int (0 : Int32))] := A156
  refine W.aload C m0_246 rfl rfl ?_
  refine W.iload C m0_248 rfl ?_
  refine W.iload C m0_250 rfl ?_
  refine W.iconst C m0_252 (z := (3 : Int32)) rfl ?_
  refine W.iand C m0_253 (own_b0 Kk87 hkKk87) ?_
  refine W.iloadN C m0_254 rfl ?_
  refine W.aload C m0_255 rfl rfl ?_
  refine W.iconst C m0_257 (z := (0 : Int32)) rfl ?_
  refine W.iaload C m0_258 A158 (i := 0) rfl rfl ?_
  refine W.callS (y := mY4) (wt := 0) C m0_259 (hw _ (List.mem_of_getElem? (i := 12) rfl)) (hw _ (List.mem_of_getElem? (i := 13) rfl)) (hw _ (List.mem_of_getElem? (i := 2) rfl)) (hw _ (List.mem_of_getElem? (i := 14) rfl)) (by decide) pd4 rfl (own_add Z a0 hw a101 (Kk87 / 4 ^ 0 % 4) n1 0 us146 h154 n0 g108 A160 (by omega) (by omega) (by omega)) (as' := [(.ref a101), (.int (Int32.ofNat us146.length)), (.int (Int32.ofNat (Kk87 / 4 ^ 0 % 4))), (.int (Int32.ofNat n1)), (.int (0 : Int32))]) (rest := []) rfl rfl (Nat.le_of_eq rfl) (by decide) (by decide) (by decide) (by decide) ?_
  intro r167 h165 q166
  obtain ⟨us164, heus164, hlus164, rfl, K162, A163⟩ := q166
  have z168 : n0 ≤ h165.size := Nat.le_trans z157 K162.1
  have A169 := A158.keep K162 (ninS ne105 nin0)
  have A170 := A159.keep K162 (ninS ne106 nin0)
  have A171 := A161.keep K162 (ninS ne107 nin0)
  show W κ n0 Qx h165 4 41 262 [.val (.int p0), .val (.int p1), .val (.int (Int32.ofNat n1)), .val (.int (Int32.ofNat n5)), .val (.int (Int32.ofNat n9)), .val (.int (Int32.ofNat n13)), .val (.ref a18), .val (.ref a45), .val (.int (Int32.ofNat Kk86)), .val (.int (Int32.ofNat Kk87)), .val (.int (Int32.ofNat Kk88)), .val (.ref a90), .val (.ref a101), .val (.int (Int32.ofNat us146.length)), .unset, .unset, .unset, .unset, .unset, .unset, .unset] [(.int (Int32.ofNat us164.length))]
  refine W.istore C m0_262 (L' := [.val (.int p0), .val (.int p1), .val (.int (Int32.ofNat n1)), .val (.int (Int32.ofNat n5)), .val (.int (Int32.ofNat n9)), .val (.int (Int32.ofNat n13)), .val (.ref a18), .val (.ref a45), .val (.int (Int32.ofNat Kk86)), .val (.int (Int32.ofNat Kk87)), .val (.int (Int32.ofNat Kk88)), .val (.ref a90), .val (.ref a101), .val (.int (Int32.ofNat us164.length)), .unset, .unset, .unset, .unset, .unset, .unset, .unset]) rfl ?_
  refine W.aload C m0_264 rfl rfl ?_
  refine W.iload C m0_266 rfl ?_
  refine W.iload C m0_268 rfl ?_
  refine W.iconst C m0_270 (z := (2 : Int32)) rfl ?_
  refine W.iushr C m0_271 rfl ?_
  refine W.iconst C m0_272 (z := (3 : Int32)) rfl ?_
  refine W.iand C m0_273 (own_b1 Kk87 hkKk87) ?_
  refine W.iloadN C m0_274 rfl ?_
  refine W.aload C m0_275 rfl rfl ?_
  refine W.iconst C m0_277 (z := (1 : Int32)) rfl ?_
  refine W.iaload C m0_278 A169 (i := 1) rfl rfl ?_
  refine W.callS (y := mY4) (wt := 0) C m0_279 (hw _ (List.mem_of_getElem? (i := 12) rfl)) (hw _ (List.mem_of_getElem? (i := 13) rfl)) (hw _ (List.mem_of_getElem? (i := 2) rfl)) (hw _ (List.mem_of_getElem? (i := 14) rfl)) (by decide) pd4 rfl (own_add Z a0 hw a101 (Kk87 / 4 ^ 1 % 4) n5 n1 us164 h165 n0 g108 A163 (by omega) (by omega) (by omega)) (as' := [(.ref a101), (.int (Int32.ofNat us164.length)), (.int (Int32.ofNat (Kk87 / 4 ^ 1 % 4))), (.int (Int32.ofNat n5)), (.int (Int32.ofNat n1))]) (rest := []) rfl rfl (Nat.le_of_eq rfl) (by decide) (by decide) (by decide) (by decide) ?_
  intro r177 h175 q176
  obtain ⟨us174, heus174, hlus174, rfl, K172, A173⟩ := q176
  have z178 : n0 ≤ h175.size := Nat.le_trans z168 K172.1
  have A179 := A169.keep K172 (ninS ne105 nin0)
  have A180 := A170.keep K172 (ninS ne106 nin0)
  have A181 := A171.keep K172 (ninS ne107 nin0)
  show W κ n0 Qx h175 4 41 282 [.val (.int p0), .val (.int p1), .val (.int (Int32.ofNat n1)), .val (.int (Int32.ofNat n5)), .val (.int (Int32.ofNat n9)), .val (.int (Int32.ofNat n13)), .val (.ref a18), .val (.ref a45), .val (.int (Int32.ofNat Kk86)), .val (.int (Int32.ofNat Kk87)), .val (.int (Int32.ofNat Kk88)), .val (.ref a90), .val (.ref a101), .val (.int (Int32.ofNat us164.length)), .unset, .unset, .unset, .unset, .unset, .unset, .unset] [(.int (Int32.ofNat us174.length))]
  refine W.istore C m0_282 (L' := [.val (.int p0), .val (.int p1), .val (.int (Int32.ofNat n1)), .val (.int (Int32.ofNat n5)), .val (.int (Int32.ofNat n9)), .val (.int (Int32.ofNat n13)), .val (.ref a18), .val (.ref a45), .val (.int (Int32.ofNat Kk86)), .val (.int (Int32.ofNat Kk87)), .val (.int (Int32.ofNat Kk88)), .val (.ref a90), .val (.ref a101), .val (.int (Int32.ofNat us174.length)), .unset, .unset, .unset, .unset, .unset, .unset, .unset]) rfl ?_
  refine W.aload C m0_284 rfl rfl ?_
  refine W.iload C m0_286 rfl ?_
  refine W.iload C m0_288 rfl ?_
  refine W.iconst C m0_290 (z := (4 : Int32)) rfl ?_
  refine W.iushr C m0_291 rfl ?_
  refine W.iconst C m0_292 (z := (3 : Int32)) rfl ?_
  refine W.iand C m0_293 (own_b2 Kk87 hkKk87) ?_
  refine W.iload C m0_294 rfl ?_
  refine W.aload C m0_296 rfl rfl ?_
  refine W.iconst C m0_298 (z := (2 : Int32)) rfl ?_
  refine W.iaload C m0_299 A179 (i := 2) rfl rfl ?_
  refine W.callS (y := mY4) (wt := 0) C m0_300 (hw _ (List.mem_of_getElem? (i := 12) rfl)) (hw _ (List.mem_of_getElem? (i := 13) rfl)) (hw _ (List.mem_of_getElem? (i := 2) rfl)) (hw _ (List.mem_of_getElem? (i := 14) rfl)) (by decide) pd4 rfl (own_add Z a0 hw a101 (Kk87 / 4 ^ 2 % 4) n9 (n1 + n5) us174 h175 n0 g108 A173 (by omega) (by omega) (by omega)) (as' := [(.ref a101), (.int (Int32.ofNat us174.length)), (.int (Int32.ofNat (Kk87 / 4 ^ 2 % 4))), (.int (Int32.ofNat n9)), (.int (Int32.ofNat (n1 + n5)))]) (rest := []) rfl rfl (Nat.le_of_eq rfl) (by decide) (by decide) (by decide) (by decide) ?_
  intro r187 h185 q186
  obtain ⟨us184, heus184, hlus184, rfl, K182, A183⟩ := q186
  have z188 : n0 ≤ h185.size := Nat.le_trans z178 K182.1
  have A189 := A179.keep K182 (ninS ne105 nin0)
  have A190 := A180.keep K182 (ninS ne106 nin0)
  have A191 := A181.keep K182 (ninS ne107 nin0)
  show W κ n0 Qx h185 4 41 303 [.val (.int p0), .val (.int p1), .val (.int (Int32.ofNat n1)), .val (.int (Int32.ofNat n5)), .val (.int (Int32.ofNat n9)), .val (.int (Int32.ofNat n13)), .val (.ref a18), .val (.ref a45), .val (.int (Int32.ofNat Kk86)), .val (.int (Int32.ofNat Kk87)), .val (.int (Int32.ofNat Kk88)), .val (.ref a90), .val (.ref a101), .val (.int (Int32.ofNat us174.length)), .unset, .unset, .unset, .unset, .unset, .unset, .unset] [(.int (Int32.ofNat us184.length))]
  refine W.istore C m0_303 (L' := [.val (.int p0), .val (.int p1), .val (.int (Int32.ofNat n1)), .val (.int (Int32.ofNat n5)), .val (.int (Int32.ofNat n9)), .val (.int (Int32.ofNat n13)), .val (.ref a18), .val (.ref a45), .val (.int (Int32.ofNat Kk86)), .val (.int (Int32.ofNat Kk87)), .val (.int (Int32.ofNat Kk88)), .val (.ref a90), .val (.ref a101), .val (.int (Int32.ofNat us184.length)), .unset, .unset, .unset, .unset, .unset, .unset, .unset]) rfl ?_
  refine W.aload C m0_305 rfl rfl ?_
  refine W.iload C m0_307 rfl ?_
  refine W.iload C m0_309 rfl ?_
  refine W.bipush C m0_311 (z := (6 : Int32)) rfl ?_
  refine W.iushr C m0_313 rfl ?_
  refine W.iconst C m0_314 (z := (3 : Int32)) rfl ?_
  refine W.iand C m0_315 (own_b3 Kk87 hkKk87) ?_
  refine W.iload C m0_316 rfl ?_
  refine W.aload C m0_318 rfl rfl ?_
  refine W.iconst C m0_320 (z := (3 : Int32)) rfl ?_
  refine W.iaload C m0_321 A189 (i := 3) rfl rfl ?_
  refine W.callS (y := mY4) (wt := 0) C m0_322 (hw _ (List.mem_of_getElem? (i := 12) rfl)) (hw _ (List.mem_of_getElem? (i := 13) rfl)) (hw _ (List.mem_of_getElem? (i := 2) rfl)) (hw _ (List.mem_of_getElem? (i := 14) rfl)) (by decide) pd4 rfl (own_add Z a0 hw a101 (Kk87 / 4 ^ 3 % 4) n13 ((n1 + n5) + n9) us184 h185 n0 g108 A183 (by omega) (by omega) (by omega)) (as' := [(.ref a101), (.int (Int32.ofNat us184.length)), (.int (Int32.ofNat (Kk87 / 4 ^ 3 % 4))), (.int (Int32.ofNat n13)), (.int (Int32.ofNat ((n1 + n5) + n9)))]) (rest := []) rfl rfl (Nat.le_of_eq rfl) (by decide) (by decide) (by decide) (by decide) ?_
  intro r197 h195 q196
  obtain ⟨us194, heus194, hlus194, rfl, K192, A193⟩ := q196
  have z198 : n0 ≤ h195.size := Nat.le_trans z188 K192.1
  have A199 := A189.keep K192 (ninS ne105 nin0)
  have A200 := A190.keep K192 (ninS ne106 nin0)
  have A201 := A191.keep K192 (ninS ne107 nin0)
  show W κ n0 Qx h195 4 41 325 [.val (.int p0), .val (.int p1), .val (.int (Int32.ofNat n1)), .val (.int (Int32.ofNat n5)), .val (.int (Int32.ofNat n9)), .val (.int (Int32.ofNat n13)), .val (.ref a18), .val (.ref a45), .val (.int (Int32.ofNat Kk86)), .val (.int (Int32.ofNat Kk87)), .val (.int (Int32.ofNat Kk88)), .val (.ref a90), .val (.ref a101), .val (.int (Int32.ofNat us184.length)), .unset, .unset, .unset, .unset, .unset, .unset, .unset] [(.int (Int32.ofNat us194.length))]
  refine W.istore C m0_325 (L' := [.val (.int p0), .val (.int p1), .val (.int (Int32.ofNat n1)), .val (.int (Int32.ofNat n5)), .val (.int (Int32.ofNat n9)), .val (.int (Int32.ofNat n13)), .val (.ref a18), .val (.ref a45), .val (.int (Int32.ofNat Kk86)), .val (.int (Int32.ofNat Kk87)), .val (.int (Int32.ofNat Kk88)), .val (.ref a90), .val (.ref a101), .val (.int (Int32.ofNat us194.length)), .unset, .unset, .unset, .unset, .unset, .unset, .unset]) rfl ?_
  refine W.aload C m0_327 rfl rfl ?_
  refine W.iconst C m0_329 (z := (2 : Int32)) rfl ?_
  refine W.iload C m0_330 rfl ?_
  refine W.iastore C m0_332 A201 (i := 2) rfl (Nat.le_of_ble_eq_true rfl) g96 ?_
  intro h202 W203 A204
  have z205 : n0 ≤ h202.size := Nat.le_trans z198 (Nat.le_of_eq (Wr.size W203).symm)
  have A206 := A199.other W203 ne94
  have A207 := A200.other W203 ne95
  have A208 := A193.other W203 (Ne.symm ne107)
  have A209 : Av Z h202 a90 .int [(.int (0 : Int32)), (.int (Int32.ofNat us146.length)), (.int (Int32.ofNat us194.length)), (.int (0 : Int32))] := A204
  refine W.aload C m0_333 rfl rfl ?_
  refine W.iload C m0_335 rfl ?_
  refine W.iload C m0_337 rfl ?_
  refine W.iconst C m0_339 (z := (3 : Int32)) rfl ?_
  refine W.iand C m0_340 (own_b0 Kk88 hkKk88) ?_
  refine W.iloadN C m0_341 rfl ?_
  refine W.aload C m0_342 rfl rfl ?_
  refine W.iconst C m0_344 (z := (0 : Int32)) rfl ?_
  refine W.iaload C m0_345 A206 (i := 0) rfl rfl ?_
  refine W.callS (y := mY4) (wt := 0) C m0_346 (hw _ (List.mem_of_getElem? (i := 12) rfl)) (hw _ (List.mem_of_getElem? (i := 13) rfl)) (hw _ (List.mem_of_getElem? (i := 2) rfl)) (hw _ (List.mem_of_getElem? (i := 14) rfl)) (by decide) pd4 rfl (own_add Z a0 hw a101 (Kk88 / 4 ^ 0 % 4) n1 0 us194 h202 n0 g108 A208 (by omega) (by omega) (by omega)) (as' := [(.ref a101), (.int (Int32.ofNat us194.length)), (.int (Int32.ofNat (Kk88 / 4 ^ 0 % 4))), (.int (Int32.ofNat n1)), (.int (0 : Int32))]) (rest := []) rfl rfl (Nat.le_of_eq rfl) (by decide) (by decide) (by decide) (by decide) ?_
  intro r215 h213 q214
  obtain ⟨us212, heus212, hlus212, rfl, K210, A211⟩ := q214
  have z216 : n0 ≤ h213.size := Nat.le_trans z205 K210.1
  have A217 := A206.keep K210 (ninS ne105 nin0)
  have A218 := A207.keep K210 (ninS ne106 nin0)
  have A219 := A209.keep K210 (ninS ne107 nin0)
  show W κ n0 Qx h213 4 41 349 [.val (.int p0), .val (.int p1), .val (.int (Int32.ofNat n1)), .val (.int (Int32.ofNat n5)), .val (.int (Int32.ofNat n9)), .val (.int (Int32.ofNat n13)), .val (.ref a18), .val (.ref a45), .val (.int (Int32.ofNat Kk86)), .val (.int (Int32.ofNat Kk87)), .val (.int (Int32.ofNat Kk88)), .val (.ref a90), .val (.ref a101), .val (.int (Int32.ofNat us194.length)), .unset, .unset, .unset, .unset, .unset, .unset, .unset] [(.int (Int32.ofNat us212.length))]
  refine W.istore C m0_349 (L' := [.val (.int p0), .val (.int p1), .val (.int (Int32.ofNat n1)), .val (.int (Int32.ofNat n5)), .val (.int (Int32.ofNat n9)), .val (.int (Int32.ofNat n13)), .val (.ref a18), .val (.ref a45), .val (.int (Int32.ofNat Kk86)), .val (.int (Int32.ofNat Kk87)), .val (.int (Int32.ofNat Kk88)), .val (.ref a90), .val (.ref a101), .val (.int (Int32.ofNat us212.length)), .unset, .unset, .unset, .unset, .unset, .unset, .unset]) rfl ?_
  refine W.aload C m0_351 rfl rfl ?_
  refine W.iload C m0_353 rfl ?_
  refine W.iload C m0_355 rfl ?_
  refine W.iconst C m0_357 (z := (2 : Int32)) rfl ?_
  refine W.iushr C m0_358 rfl ?_
  refine W.iconst C m0_359 (z := (3 : Int32)) rfl ?_
  refine W.iand C m0_360 (own_b1 Kk88 hkKk88) ?_
  refine W.iloadN C m0_361 rfl ?_
  refine W.aload C m0_362 rfl rfl ?_
  refine W.iconst C m0_364 (z := (1 : Int32)) rfl ?_
  refine W.iaload C m0_365 A217 (i := 1) rfl rfl ?_
  refine W.callS (y := mY4) (wt := 0) C m0_366 (hw _ (List.mem_of_getElem? (i := 12) rfl)) (hw _ (List.mem_of_getElem? (i := 13) rfl)) (hw _ (List.mem_of_getElem? (i := 2) rfl)) (hw _ (List.mem_of_getElem? (i := 14) rfl)) (by decide) pd4 rfl (own_add Z a0 hw a101 (Kk88 / 4 ^ 1 % 4) n5 n1 us212 h213 n0 g108 A211 (by omega) (by omega) (by omega)) (as' := [(.ref a101), (.int (Int32.ofNat us212.length)), (.int (Int32.ofNat (Kk88 / 4 ^ 1 % 4))), (.int (Int32.ofNat n5)), (.int (Int32.ofNat n1))]) (rest := []) rfl rfl (Nat.le_of_eq rfl) (by decide) (by decide) (by decide) (by decide) ?_
  intro r225 h223 q224
  obtain ⟨us222, heus222, hlus222, rfl, K220, A221⟩ := q224
  have z226 : n0 ≤ h223.size := Nat.le_trans z216 K220.1
  have A227 := A217.keep K220 (ninS ne105 nin0)
  have A228 := A218.keep K220 (ninS ne106 nin0)
  have A229 := A219.keep K220 (ninS ne107 nin0)
  show W κ n0 Qx h223 4 41 369 [.val (.int p0), .val (.int p1), .val (.int (Int32.ofNat n1)), .val (.int (Int32.ofNat n5)), .val (.int (Int32.ofNat n9)), .val (.int (Int32.ofNat n13)), .val (.ref a18), .val (.ref a45), .val (.int (Int32.ofNat Kk86)), .val (.int (Int32.ofNat Kk87)), .val (.int (Int32.ofNat Kk88)), .val (.ref a90), .val (.ref a101), .val (.int (Int32.ofNat us212.length)), .unset, .unset, .unset, .unset, .unset, .unset, .unset] [(.int (Int32.ofNat us222.length))]
  refine W.istore C m0_369 (L' := [.val (.int p0), .val (.int p1), .val (.int (Int32.ofNat n1)), .val (.int (Int32.ofNat n5)), .val (.int (Int32.ofNat n9)), .val (.int (Int32.ofNat n13)), .val (.ref a18), .val (.ref a45), .val (.int (Int32.ofNat Kk86)), .val (.int (Int32.ofNat Kk87)), .val (.int (Int32.ofNat Kk88)), .val (.ref a90), .val (.ref a101), .val (.int (Int32.ofNat us222.length)), .unset, .unset, .unset, .unset, .unset, .unset, .unset]) rfl ?_
  refine W.aload C m0_371 rfl rfl ?_
  refine W.iload C m0_373 rfl ?_
  refine W.iload C m0_375 rfl ?_
  refine W.iconst C m0_377 (z := (4 : Int32)) rfl ?_
  refine W.iushr C m0_378 rfl ?_
  refine W.iconst C m0_379 (z := (3 : Int32)) rfl ?_
  refine W.iand C m0_380 (own_b2 Kk88 hkKk88) ?_
  refine W.iload C m0_381 rfl ?_
  refine W.aload C m0_383 rfl rfl ?_
  refine W.iconst C m0_385 (z := (2 : Int32)) rfl ?_
  refine W.iaload C m0_386 A227 (i := 2) rfl rfl ?_
  refine W.callS (y := mY4) (wt := 0) C m0_387 (hw _ (List.mem_of_getElem? (i := 12) rfl)) (hw _ (List.mem_of_getElem? (i := 13) rfl)) (hw _ (List.mem_of_getElem? (i := 2) rfl)) (hw _ (List.mem_of_getElem? (i := 14) rfl)) (by decide) pd4 rfl (own_add Z a0 hw a101 (Kk88 / 4 ^ 2 % 4) n9 (n1 + n5) us222 h223 n0 g108 A221 (by omega) (by omega) (by omega)) (as' := [(.ref a101), (.int (Int32.ofNat us222.length)), (.int (Int32.ofNat (Kk88 / 4 ^ 2 % 4))), (.int (Int32.ofNat n9)), (.int (Int32.ofNat (n1 + n5)))]) (rest := []) rfl rfl (Nat.le_of_eq rfl) (by decide) (by decide) (by decide) (by decide) ?_
  intro r235 h233 q234
  obtain ⟨us232, heus232, hlus232, rfl, K230, A231⟩ := q234
  have z236 : n0 ≤ h233.size := Nat.le_trans z226 K230.1
  have A237 := A227.keep K230 (ninS ne105 nin0)
  have A238 := A228.keep K230 (ninS ne106 nin0)
  have A239 := A229.keep K230 (ninS ne107 nin0)
  show W κ n0 Qx h233 4 41 390 [.val (.int p0), .val (.int p1), .val (.int (Int32.ofNat n1)), .val (.int (Int32.ofNat n5)), .val (.int (Int32.ofNat n9)), .val (.int (Int32.ofNat n13)), .val (.ref a18), .val (.ref a45), .val (.int (Int32.ofNat Kk86)), .val (.int (Int32.ofNat Kk87)), .val (.int (Int32.ofNat Kk88)), .val (.ref a90), .val (.ref a101), .val (.int (Int32.ofNat us222.length)), .unset, .unset, .unset, .unset, .unset, .unset, .unset] [(.int (Int32.ofNat us232.length))]
  refine W.istore C m0_390 (L' := [.val (.int p0), .val (.int p1), .val (.int (Int32.ofNat n1)), .val (.int (Int32.ofNat n5)), .val (.int (Int32.ofNat n9)), .val (.int (Int32.ofNat n13)), .val (.ref a18), .val (.ref a45), .val (.int (Int32.ofNat Kk86)), .val (.int (Int32.ofNat Kk87)), .val (.int (Int32.ofNat Kk88)), .val (.ref a90), .val (.ref a101), .val (.int (Int32.ofNat us232.length)), .unset, .unset, .unset, .unset, .unset, .unset, .unset]) rfl ?_
  refine W.aload C m0_392 rfl rfl ?_
  refine W.iload C m0_394 rfl ?_
  refine W.iload C m0_396 rfl ?_
  refine W.bipush C m0_398 (z := (6 : Int32)) rfl ?_
  refine W.iushr C m0_400 rfl ?_
  refine W.iconst C m0_401 (z := (3 : Int32)) rfl ?_
  refine W.iand C m0_402 (own_b3 Kk88 hkKk88) ?_
  refine W.iload C m0_403 rfl ?_
  refine W.aload C m0_405 rfl rfl ?_
  refine W.iconst C m0_407 (z := (3 : Int32)) rfl ?_
  refine W.iaload C m0_408 A237 (i := 3) rfl rfl ?_
  refine W.callS (y := mY4) (wt := 0) C m0_409 (hw _ (List.mem_of_getElem? (i := 12) rfl)) (hw _ (List.mem_of_getElem? (i := 13) rfl)) (hw _ (List.mem_of_getElem? (i := 2) rfl)) (hw _ (List.mem_of_getElem? (i := 14) rfl)) (by decide) pd4 rfl (own_add Z a0 hw a101 (Kk88 / 4 ^ 3 % 4) n13 ((n1 + n5) + n9) us232 h233 n0 g108 A231 (by omega) (by omega) (by omega)) (as' := [(.ref a101), (.int (Int32.ofNat us232.length)), (.int (Int32.ofNat (Kk88 / 4 ^ 3 % 4))), (.int (Int32.ofNat n13)), (.int (Int32.ofNat ((n1 + n5) + n9)))]) (rest := []) rfl rfl (Nat.le_of_eq rfl) (by decide) (by decide) (by decide) (by decide) ?_
  intro r245 h243 q244
  obtain ⟨us242, heus242, hlus242, rfl, K240, A241⟩ := q244
  have z246 : n0 ≤ h243.size := Nat.le_trans z236 K240.1
  have A247 := A237.keep K240 (ninS ne105 nin0)
  have A248 := A238.keep K240 (ninS ne106 nin0)
  have A249 := A239.keep K240 (ninS ne107 nin0)
  show W κ n0 Qx h243 4 41 412 [.val (.int p0), .val (.int p1), .val (.int (Int32.ofNat n1)), .val (.int (Int32.ofNat n5)), .val (.int (Int32.ofNat n9)), .val (.int (Int32.ofNat n13)), .val (.ref a18), .val (.ref a45), .val (.int (Int32.ofNat Kk86)), .val (.int (Int32.ofNat Kk87)), .val (.int (Int32.ofNat Kk88)), .val (.ref a90), .val (.ref a101), .val (.int (Int32.ofNat us232.length)), .unset, .unset, .unset, .unset, .unset, .unset, .unset] [(.int (Int32.ofNat us242.length))]
  refine W.istore C m0_412 (L' := [.val (.int p0), .val (.int p1), .val (.int (Int32.ofNat n1)), .val (.int (Int32.ofNat n5)), .val (.int (Int32.ofNat n9)), .val (.int (Int32.ofNat n13)), .val (.ref a18), .val (.ref a45), .val (.int (Int32.ofNat Kk86)), .val (.int (Int32.ofNat Kk87)), .val (.int (Int32.ofNat Kk88)), .val (.ref a90), .val (.ref a101), .val (.int (Int32.ofNat us242.length)), .unset, .unset, .unset, .unset, .unset, .unset, .unset]) rfl ?_
  refine W.aload C m0_414 rfl rfl ?_
  refine W.iconst C m0_416 (z := (3 : Int32)) rfl ?_
  refine W.iload C m0_417 rfl ?_
  refine W.iastore C m0_419 A249 (i := 3) rfl (Nat.le_of_ble_eq_true rfl) g96 ?_
  intro h250 W251 A252
  have z253 : n0 ≤ h250.size := Nat.le_trans z246 (Nat.le_of_eq (Wr.size W251).symm)
  have A254 := A247.other W251 ne94
  have A255 := A248.other W251 ne95
  have A256 := A241.other W251 (Ne.symm ne107)
  have A257 : Av Z h250 a90 .int [(.int (0 : Int32)), (.int (Int32.ofNat us146.length)), (.int (Int32.ofNat us194.length)), (.int (Int32.ofNat us242.length))] := A252
  refine W.aload C m0_420 rfl rfl ?_
  refine W.aload C m0_422 rfl rfl ?_
  refine W.aload C m0_424 rfl rfl ?_
  refine W.aload C m0_426 rfl rfl ?_
  have hso : ys80 = own_so n1 n5 n9 n13 := by rw [heys80, heys72, heys64, heys56]; rfl
  have hrel0 : own_rel ys80 (own_ap (Kk86 / 4 ^ 0 % 4) n1 0 ++ own_ap (Kk86 / 4 ^ 1 % 4) n5 n1 ++ own_ap (Kk86 / 4 ^ 2 % 4) n9 (n1 + n5) ++ own_ap (Kk86 / 4 ^ 3 % 4) n13 (n1 + n5 + n9)) (own_S (own_m (Kk86 / 4 ^ 0 % 4) n1) (own_m (Kk86 / 4 ^ 1 % 4) n5) (own_m (Kk86 / 4 ^ 2 % 4) n9) (own_m (Kk86 / 4 ^ 3 % 4) n13)) := by
    rw [hso]
    have r := fun B hB => own_relk n1 (by omega) n5 (by omega) n9 (by omega) n13 (by omega) B hB
    exact own_rel_app (own_rel_app (own_rel_app (r _ (by omega)).1 (r _ (by omega)).2.1) (r _ (by omega)).2.2.1) (r _ (by omega)).2.2.2
  have hus0 : us146 = [] ++ (own_ap (Kk86 / 4 ^ 0 % 4) n1 0 ++ own_ap (Kk86 / 4 ^ 1 % 4) n5 n1 ++ own_ap (Kk86 / 4 ^ 2 % 4) n9 (n1 + n5) ++ own_ap (Kk86 / 4 ^ 3 % 4) n13 (n1 + n5 + n9)) := by rw [heus146, heus136, heus126, heus116]; simp only [List.append_assoc]
  have hrel1 : own_rel ys80 (own_ap (Kk87 / 4 ^ 0 % 4) n1 0 ++ own_ap (Kk87 / 4 ^ 1 % 4) n5 n1 ++ own_ap (Kk87 / 4 ^ 2 % 4) n9 (n1 + n5) ++ own_ap (Kk87 / 4 ^ 3 % 4) n13 (n1 + n5 + n9)) (own_S (own_m (Kk87 / 4 ^ 0 % 4) n1) (own_m (Kk87 / 4 ^ 1 % 4) n5) (own_m (Kk87 / 4 ^ 2 % 4) n9) (own_m (Kk87 / 4 ^ 3 % 4) n13)) := by
    rw [hso]
    have r := fun B hB => own_relk n1 (by omega) n5 (by omega) n9 (by omega) n13 (by omega) B hB
    exact own_rel_app (own_rel_app (own_rel_app (r _ (by omega)).1 (r _ (by omega)).2.1) (r _ (by omega)).2.2.1) (r _ (by omega)).2.2.2
  have hus1 : us194 = us146 ++ (own_ap (Kk87 / 4 ^ 0 % 4) n1 0 ++ own_ap (Kk87 / 4 ^ 1 % 4) n5 n1 ++ own_ap (Kk87 / 4 ^ 2 % 4) n9 (n1 + n5) ++ own_ap (Kk87 / 4 ^ 3 % 4) n13 (n1 + n5 + n9)) := by rw [heus194, heus184, heus174, heus164]; simp only [List.append_assoc]
  have hrel2 : own_rel ys80 (own_ap (Kk88 / 4 ^ 0 % 4) n1 0 ++ own_ap (Kk88 / 4 ^ 1 % 4) n5 n1 ++ own_ap (Kk88 / 4 ^ 2 % 4) n9 (n1 + n5) ++ own_ap (Kk88 / 4 ^ 3 % 4) n13 (n1 + n5 + n9)) (own_S (own_m (Kk88 / 4 ^ 0 % 4) n1) (own_m (Kk88 / 4 ^ 1 % 4) n5) (own_m (Kk88 / 4 ^ 2 % 4) n9) (own_m (Kk88 / 4 ^ 3 % 4) n13)) := by
    rw [hso]
    have r := fun B hB => own_relk n1 (by omega) n5 (by omega) n9 (by omega) n13 (by omega) B hB
    exact own_rel_app (own_rel_app (own_rel_app (r _ (by omega)).1 (r _ (by omega)).2.1) (r _ (by omega)).2.2.1) (r _ (by omega)).2.2.2
  have hus2 : us242 = us194 ++ (own_ap (Kk88 / 4 ^ 0 % 4) n1 0 ++ own_ap (Kk88 / 4 ^ 1 % 4) n5 n1 ++ own_ap (Kk88 / 4 ^ 2 % 4) n9 (n1 + n5) ++ own_ap (Kk88 / 4 ^ 3 % 4) n13 (n1 + n5 + n9)) := by rw [heus242, heus232, heus222, heus212]; simp only [List.append_assoc]
  rw [List.nil_append] at hus0
  have hR : own_rel ys80 us242 ((own_S (own_m (Kk86 / 4 ^ 0 % 4) n1) (own_m (Kk86 / 4 ^ 1 % 4) n5) (own_m (Kk86 / 4 ^ 2 % 4) n9) (own_m (Kk86 / 4 ^ 3 % 4) n13)) ++ (own_S (own_m (Kk87 / 4 ^ 0 % 4) n1) (own_m (Kk87 / 4 ^ 1 % 4) n5) (own_m (Kk87 / 4 ^ 2 % 4) n9) (own_m (Kk87 / 4 ^ 3 % 4) n13)) ++ (own_S (own_m (Kk88 / 4 ^ 0 % 4) n1) (own_m (Kk88 / 4 ^ 1 % 4) n5) (own_m (Kk88 / 4 ^ 2 % 4) n9) (own_m (Kk88 / 4 ^ 3 % 4) n13))) := by rw [hus2, hus1, hus0]; exact own_rel_app (own_rel_app hrel0 hrel1) hrel2
  have hn0 := own_rel_len hrel0
  have hn1 := own_rel_len hrel1
  have hn2 := own_rel_len hrel2
  have hnR := own_rel_len hR
  have hu0 : us146.length = (own_S (own_m (Kk86 / 4 ^ 0 % 4) n1) (own_m (Kk86 / 4 ^ 1 % 4) n5) (own_m (Kk86 / 4 ^ 2 % 4) n9) (own_m (Kk86 / 4 ^ 3 % 4) n13)).length := by rw [hus0]; exact hn0
  have hu1 : us194.length = (own_S (own_m (Kk86 / 4 ^ 0 % 4) n1) (own_m (Kk86 / 4 ^ 1 % 4) n5) (own_m (Kk86 / 4 ^ 2 % 4) n9) (own_m (Kk86 / 4 ^ 3 % 4) n13)).length + (own_S (own_m (Kk87 / 4 ^ 0 % 4) n1) (own_m (Kk87 / 4 ^ 1 % 4) n5) (own_m (Kk87 / 4 ^ 2 % 4) n9) (own_m (Kk87 / 4 ^ 3 % 4) n13)).length := by rw [hus1, List.length_append, hu0, hn1]
  have hu2 : us242.length = (own_S (own_m (Kk86 / 4 ^ 0 % 4) n1) (own_m (Kk86 / 4 ^ 1 % 4) n5) (own_m (Kk86 / 4 ^ 2 % 4) n9) (own_m (Kk86 / 4 ^ 3 % 4) n13)).length + (own_S (own_m (Kk87 / 4 ^ 0 % 4) n1) (own_m (Kk87 / 4 ^ 1 % 4) n5) (own_m (Kk87 / 4 ^ 2 % 4) n9) (own_m (Kk87 / 4 ^ 3 % 4) n13)).length + (own_S (own_m (Kk88 / 4 ^ 0 % 4) n1) (own_m (Kk88 / 4 ^ 1 % 4) n5) (own_m (Kk88 / 4 ^ 2 % 4) n9) (own_m (Kk88 / 4 ^ 3 % 4) n13)).length := by rw [hus2, List.length_append, hu1, hn2]
  have A258 : Av Z h250 a18 .int (own_v [0, n1, (n1 + n5), (n1 + n5 + n9), (n1 + n5 + n9 + n13)]) := A254
  have A259 : Av Z h250 a90 .int (own_v [0, (own_S (own_m (Kk86 / 4 ^ 0 % 4) n1) (own_m (Kk86 / 4 ^ 1 % 4) n5) (own_m (Kk86 / 4 ^ 2 % 4) n9) (own_m (Kk86 / 4 ^ 3 % 4) n13)).length, (own_S (own_m (Kk86 / 4 ^ 0 % 4) n1) (own_m (Kk86 / 4 ^ 1 % 4) n5) (own_m (Kk86 / 4 ^ 2 % 4) n9) (own_m (Kk86 / 4 ^ 3 % 4) n13)).length + (own_S (own_m (Kk87 / 4 ^ 0 % 4) n1) (own_m (Kk87 / 4 ^ 1 % 4) n5) (own_m (Kk87 / 4 ^ 2 % 4) n9) (own_m (Kk87 / 4 ^ 3 % 4) n13)).length, (own_S (own_m (Kk86 / 4 ^ 0 % 4) n1) (own_m (Kk86 / 4 ^ 1 % 4) n5) (own_m (Kk86 / 4 ^ 2 % 4) n9) (own_m (Kk86 / 4 ^ 3 % 4) n13)).length + (own_S (own_m (Kk87 / 4 ^ 0 % 4) n1) (own_m (Kk87 / 4 ^ 1 % 4) n5) (own_m (Kk87 / 4 ^ 2 % 4) n9) (own_m (Kk87 / 4 ^ 3 % 4) n13)).length + (own_S (own_m (Kk88 / 4 ^ 0 % 4) n1) (own_m (Kk88 / 4 ^ 1 % 4) n5) (own_m (Kk88 / 4 ^ 2 % 4) n9) (own_m (Kk88 / 4 ^ 3 % 4) n13)).length]) := by rw [← hu2, ← hu1, ← hu0]; exact A257
  obtain ⟨g0, hg0⟩ : ∃ g : Nat, (0 < n1 ∧ g = 1) ∨ (n1 ≤ 0 ∧ g = 0) := by
    by_cases q : 0 < n1
    · exact ⟨1, Or.inl ⟨q, rfl⟩⟩
    · exact ⟨0, Or.inr ⟨by omega, rfl⟩⟩
  obtain ⟨g1, hg1⟩ : ∃ g : Nat, (n1 < (n1 + n5) ∧ g = 1) ∨ ((n1 + n5) ≤ n1 ∧ g = 0) := by
    by_cases q : n1 < (n1 + n5)
    · exact ⟨1, Or.inl ⟨q, rfl⟩⟩
    · exact ⟨0, Or.inr ⟨by omega, rfl⟩⟩
  obtain ⟨g2, hg2⟩ : ∃ g : Nat, ((n1 + n5) < (n1 + n5 + n9) ∧ g = 1) ∨ ((n1 + n5 + n9) ≤ (n1 + n5) ∧ g = 0) := by
    by_cases q : (n1 + n5) < (n1 + n5 + n9)
    · exact ⟨1, Or.inl ⟨q, rfl⟩⟩
    · exact ⟨0, Or.inr ⟨by omega, rfl⟩⟩
  obtain ⟨g3, hg3⟩ : ∃ g : Nat, ((n1 + n5 + n9) < (n1 + n5 + n9 + n13) ∧ g = 1) ∨ ((n1 + n5 + n9 + n13) ≤ (n1 + n5 + n9) ∧ g = 0) := by
    by_cases q : (n1 + n5 + n9) < (n1 + n5 + n9 + n13)
    · exact ⟨1, Or.inl ⟨q, rfl⟩⟩
    · exact ⟨0, Or.inr ⟨by omega, rfl⟩⟩
  refine W.callS (y := mY5) (wt := 0) C m0_428 (hw _ (List.mem_of_getElem? (i := 15) rfl)) (hw _ (List.mem_of_getElem? (i := 16) rfl)) (hw _ (List.mem_of_getElem? (i := 17) rfl)) (hw _ (List.mem_of_getElem? (i := 18) rfl)) (by decide) pd5 rfl (own_one Z a0 hw a18 a45 a90 a101 0 n1 (n1 + n5) (n1 + n5 + n9) (n1 + n5 + n9 + n13) g0 g1 g2 g3 (g0 + g1 + g2 + g3) ys80 (own_pad us242) ((own_S (own_m (Kk86 / 4 ^ 0 % 4) n1) (own_m (Kk86 / 4 ^ 1 % 4) n5) (own_m (Kk86 / 4 ^ 2 % 4) n9) (own_m (Kk86 / 4 ^ 3 % 4) n13)) ++ (own_S (own_m (Kk87 / 4 ^ 0 % 4) n1) (own_m (Kk87 / 4 ^ 1 % 4) n5) (own_m (Kk87 / 4 ^ 2 % 4) n9) (own_m (Kk87 / 4 ^ 3 % 4) n13)) ++ (own_S (own_m (Kk88 / 4 ^ 0 % 4) n1) (own_m (Kk88 / 4 ^ 1 % 4) n5) (own_m (Kk88 / 4 ^ 2 % 4) n9) (own_m (Kk88 / 4 ^ 3 % 4) n13))) (own_S (own_m (Kk86 / 4 ^ 0 % 4) n1) (own_m (Kk86 / 4 ^ 1 % 4) n5) (own_m (Kk86 / 4 ^ 2 % 4) n9) (own_m (Kk86 / 4 ^ 3 % 4) n13)) (own_S (own_m (Kk87 / 4 ^ 0 % 4) n1) (own_m (Kk87 / 4 ^ 1 % 4) n5) (own_m (Kk87 / 4 ^ 2 % 4) n9) (own_m (Kk87 / 4 ^ 3 % 4) n13)) (own_S (own_m (Kk88 / 4 ^ 0 % 4) n1) (own_m (Kk88 / 4 ^ 1 % 4) n5) (own_m (Kk88 / 4 ^ 2 % 4) n9) (own_m (Kk88 / 4 ^ 3 % 4) n13)) h250 n0 z253 A258 A255 A259 A256 (fun i s q => by obtain ⟨t, x1, x2⟩ := own_rel_get hR q; exact ⟨t, own_padget x1, x2⟩) rfl (by omega) (by omega) hg0 hg1 hg2 hg3 rfl) (as' := [(.ref a18), (.ref a45), (.ref a90), (.ref a101)]) (rest := []) rfl rfl (Nat.le_of_eq rfl) (by decide) (by decide) (by decide) (by decide) ?_
  intro r262 h260 q261
  obtain rfl := q261
  show W κ n0 Qx h260 5 45 431 [.val (.int p0), .val (.int p1), .val (.int (Int32.ofNat n1)), .val (.int (Int32.ofNat n5)), .val (.int (Int32.ofNat n9)), .val (.int (Int32.ofNat n13)), .val (.ref a18), .val (.ref a45), .val (.int (Int32.ofNat Kk86)), .val (.int (Int32.ofNat Kk87)), .val (.int (Int32.ofNat Kk88)), .val (.ref a90), .val (.ref a101), .val (.int (Int32.ofNat us242.length)), .unset, .unset, .unset, .unset, .unset, .unset, .unset] [(.int (Int32.ofNat (own_res (g0 + g1 + g2 + g3) (own_S (own_m (Kk86 / 4 ^ 0 % 4) n1) (own_m (Kk86 / 4 ^ 1 % 4) n5) (own_m (Kk86 / 4 ^ 2 % 4) n9) (own_m (Kk86 / 4 ^ 3 % 4) n13)) (own_S (own_m (Kk87 / 4 ^ 0 % 4) n1) (own_m (Kk87 / 4 ^ 1 % 4) n5) (own_m (Kk87 / 4 ^ 2 % 4) n9) (own_m (Kk87 / 4 ^ 3 % 4) n13)) (own_S (own_m (Kk88 / 4 ^ 0 % 4) n1) (own_m (Kk88 / 4 ^ 1 % 4) n5) (own_m (Kk88 / 4 ^ 2 % 4) n9) (own_m (Kk88 / 4 ^ 3 % 4) n13)))))]
  refine W.istore C m0_431 (L' := [.val (.int p0), .val (.int p1), .val (.int (Int32.ofNat n1)), .val (.int (Int32.ofNat n5)), .val (.int (Int32.ofNat n9)), .val (.int (Int32.ofNat n13)), .val (.ref a18), .val (.ref a45), .val (.int (Int32.ofNat Kk86)), .val (.int (Int32.ofNat Kk87)), .val (.int (Int32.ofNat Kk88)), .val (.ref a90), .val (.ref a101), .val (.int (Int32.ofNat us242.length)), .val (.int (Int32.ofNat (own_res (g0 + g1 + g2 + g3) (own_S (own_m (Kk86 / 4 ^ 0 % 4) n1) (own_m (Kk86 / 4 ^ 1 % 4) n5) (own_m (Kk86 / 4 ^ 2 % 4) n9) (own_m (Kk86 / 4 ^ 3 % 4) n13)) (own_S (own_m (Kk87 / 4 ^ 0 % 4) n1) (own_m (Kk87 / 4 ^ 1 % 4) n5) (own_m (Kk87 / 4 ^ 2 % 4) n9) (own_m (Kk87 / 4 ^ 3 % 4) n13)) (own_S (own_m (Kk88 / 4 ^ 0 % 4) n1) (own_m (Kk88 / 4 ^ 1 % 4) n5) (own_m (Kk88 / 4 ^ 2 % 4) n9) (own_m (Kk88 / 4 ^ 3 % 4) n13))))), .unset, .unset, .unset, .unset, .unset, .unset]) rfl ?_
  have eN0 : (Int32.ofNat n1).toInt = n1 := ofNat_toInt (by omega)
  have eN1 : (Int32.ofNat n5).toInt = n5 := ofNat_toInt (by omega)
  have eN2 : (Int32.ofNat n9).toInt = n9 := ofNat_toInt (by omega)
  have eN3 : (Int32.ofNat n13).toInt = n13 := ofNat_toInt (by omega)
  suffices JH : ∀ (Hm : Nat), Hm < 16 → own_M n1 n5 n9 n13 = Hm → g0 + g1 + g2 + g3 = own_pop Hm → W κ n0 Qx h260 5 45 475 [.val (.int p0), .val (.int p1), .val (.int (Int32.ofNat n1)), .val (.int (Int32.ofNat n5)), .val (.int (Int32.ofNat n9)), .val (.int (Int32.ofNat n13)), .val (.ref a18), .val (.ref a45), .val (.int (Int32.ofNat Kk86)), .val (.int (Int32.ofNat Kk87)), .val (.int (Int32.ofNat Kk88)), .val (.ref a90), .val (.ref a101), .val (.int (Int32.ofNat us242.length)), .val (.int (Int32.ofNat (own_res (g0 + g1 + g2 + g3) (own_S (own_m (Kk86 / 4 ^ 0 % 4) n1) (own_m (Kk86 / 4 ^ 1 % 4) n5) (own_m (Kk86 / 4 ^ 2 % 4) n9) (own_m (Kk86 / 4 ^ 3 % 4) n13)) (own_S (own_m (Kk87 / 4 ^ 0 % 4) n1) (own_m (Kk87 / 4 ^ 1 % 4) n5) (own_m (Kk87 / 4 ^ 2 % 4) n9) (own_m (Kk87 / 4 ^ 3 % 4) n13)) (own_S (own_m (Kk88 / 4 ^ 0 % 4) n1) (own_m (Kk88 / 4 ^ 1 % 4) n5) (own_m (Kk88 / 4 ^ 2 % 4) n9) (own_m (Kk88 / 4 ^ 3 % 4) n13))))), .unset, .unset, .unset, .unset, .unset, .unset] [(.int (Int32.ofNat Hm))] by
    refine W.iloadN C m0_433 rfl ?_
    refine W.ifc C m0_434 ?_ ?_
    · intro (h434 : ((Int32.ofNat n1)).toInt ≤ (0 : Int))
      refine W.iconst C m0_441 (z := (0 : Int32)) rfl ?_
      refine W.iloadN C m0_442 rfl ?_
      refine W.ifc C m0_443 ?_ ?_
      · intro (h443 : ((Int32.ofNat n5)).toInt ≤ (0 : Int))
        refine W.iconst C m0_450 (z := (0 : Int32)) rfl ?_
        refine W.ior C m0_451 (z := (0 : Int32)) rfl ?_
        refine W.iload C m0_452 rfl ?_
        refine W.ifc C m0_454 ?_ ?_
        · intro (h454 : ((Int32.ofNat n9)).toInt ≤ (0 : Int))
          refine W.iconst C m0_461 (z := (0 : Int32)) rfl ?_
          refine W.ior C m0_462 (z := (0 : Int32)) rfl ?_
          refine W.iload C m0_463 rfl ?_
          refine W.ifc C m0_465 ?_ ?_
          · intro (h465 : ((Int32.ofNat n13)).toInt ≤ (0 : Int))
            refine W.iconst C m0_473 (z := (0 : Int32)) rfl ?_
            refine W.ior C m0_474 (z := (0 : Int32)) rfl ?_
            exact JH 0 (by decide) (by unfold own_M own_g; rw [if_neg (by omega), if_neg (by omega), if_neg (by omega), if_neg (by omega)]; rfl) (by show _ = 0; omega)
          · intro (h465 : ¬ (((Int32.ofNat n13)).toInt ≤ (0 : Int)))
            replace h465 : (0 : Int) < ((Int32.ofNat n13)).toInt := by omega
            refine W.bipush C m0_468 (z := (8 : Int32)) rfl ?_
            refine W.goto C m0_470 ?_
            refine W.ior C m0_474 (z := (8 : Int32)) rfl ?_
            exact JH 8 (by decide) (by unfold own_M own_g; rw [if_neg (by omega), if_neg (by omega), if_neg (by omega), if_pos (by omega)]; rfl) (by show _ = 1; omega)
        · intro (h454 : ¬ (((Int32.ofNat n9)).toInt ≤ (0 : Int)))
          replace h454 : (0 : Int) < ((Int32.ofNat n9)).toInt := by omega
          refine W.iconst C m0_457 (z := (4 : Int32)) rfl ?_
          refine W.goto C m0_458 ?_
          refine W.ior C m0_462 (z := (4 : Int32)) rfl ?_
          refine W.iload C m0_463 rfl ?_
          refine W.ifc C m0_465 ?_ ?_
          · intro (h465 : ((Int32.ofNat n13)).toInt ≤ (0 : Int))
            refine W.iconst C m0_473 (z := (0 : Int32)) rfl ?_
            refine W.ior C m0_474 (z := (4 : Int32)) rfl ?_
            exact JH 4 (by decide) (by unfold own_M own_g; rw [if_neg (by omega), if_neg (by omega), if_pos (by omega), if_neg (by omega)]; rfl) (by show _ = 1; omega)
          · intro (h465 : ¬ (((Int32.ofNat n13)).toInt ≤ (0 : Int)))
            replace h465 : (0 : Int) < ((Int32.ofNat n13)).toInt := by omega
            refine W.bipush C m0_468 (z := (8 : Int32)) rfl ?_
            refine W.goto C m0_470 ?_
            refine W.ior C m0_474 (z := (12 : Int32)) rfl ?_
            exact JH 12 (by decide) (by unfold own_M own_g; rw [if_neg (by omega), if_neg (by omega), if_pos (by omega), if_pos (by omega)]; rfl) (by show _ = 2; omega)
      · intro (h443 : ¬ (((Int32.ofNat n5)).toInt ≤ (0 : Int)))
        replace h443 : (0 : Int) < ((Int32.ofNat n5)).toInt := by omega
        refine W.iconst C m0_446 (z := (2 : Int32)) rfl ?_
        refine W.goto C m0_447 ?_
        refine W.ior C m0_451 (z := (2 : Int32)) rfl ?_
        refine W.iload C m0_452 rfl ?_
        refine W.ifc C m0_454 ?_ ?_
        · intro (h454 : ((Int32.ofNat n9)).toInt ≤ (0 : Int))
          refine W.iconst C m0_461 (z := (0 : Int32)) rfl ?_
          refine W.ior C m0_462 (z := (2 : Int32)) rfl ?_
          refine W.iload C m0_463 rfl ?_
          refine W.ifc C m0_465 ?_ ?_
          · intro (h465 : ((Int32.ofNat n13)).toInt ≤ (0 : Int))
            refine W.iconst C m0_473 (z := (0 : Int32)) rfl ?_
            refine W.ior C m0_474 (z := (2 : Int32)) rfl ?_
            exact JH 2 (by decide) (by unfold own_M own_g; rw [if_neg (by omega), if_pos (by omega), if_neg (by omega), if_neg (by omega)]; rfl) (by show _ = 1; omega)
          · intro (h465 : ¬ (((Int32.ofNat n13)).toInt ≤ (0 : Int)))
            replace h465 : (0 : Int) < ((Int32.ofNat n13)).toInt := by omega
            refine W.bipush C m0_468 (z := (8 : Int32)) rfl ?_
            refine W.goto C m0_470 ?_
            refine W.ior C m0_474 (z := (10 : Int32)) rfl ?_
            exact JH 10 (by decide) (by unfold own_M own_g; rw [if_neg (by omega), if_pos (by omega), if_neg (by omega), if_pos (by omega)]; rfl) (by show _ = 2; omega)
        · intro (h454 : ¬ (((Int32.ofNat n9)).toInt ≤ (0 : Int)))
          replace h454 : (0 : Int) < ((Int32.ofNat n9)).toInt := by omega
          refine W.iconst C m0_457 (z := (4 : Int32)) rfl ?_
          refine W.goto C m0_458 ?_
          refine W.ior C m0_462 (z := (6 : Int32)) rfl ?_
          refine W.iload C m0_463 rfl ?_
          refine W.ifc C m0_465 ?_ ?_
          · intro (h465 : ((Int32.ofNat n13)).toInt ≤ (0 : Int))
            refine W.iconst C m0_473 (z := (0 : Int32)) rfl ?_
            refine W.ior C m0_474 (z := (6 : Int32)) rfl ?_
            exact JH 6 (by decide) (by unfold own_M own_g; rw [if_neg (by omega), if_pos (by omega), if_pos (by omega), if_neg (by omega)]; rfl) (by show _ = 2; omega)
          · intro (h465 : ¬ (((Int32.ofNat n13)).toInt ≤ (0 : Int)))
            replace h465 : (0 : Int) < ((Int32.ofNat n13)).toInt := by omega
            refine W.bipush C m0_468 (z := (8 : Int32)) rfl ?_
            refine W.goto C m0_470 ?_
            refine W.ior C m0_474 (z := (14 : Int32)) rfl ?_
            exact JH 14 (by decide) (by unfold own_M own_g; rw [if_neg (by omega), if_pos (by omega), if_pos (by omega), if_pos (by omega)]; rfl) (by show _ = 3; omega)
    · intro (h434 : ¬ (((Int32.ofNat n1)).toInt ≤ (0 : Int)))
      replace h434 : (0 : Int) < ((Int32.ofNat n1)).toInt := by omega
      refine W.iconst C m0_437 (z := (1 : Int32)) rfl ?_
      refine W.goto C m0_438 ?_
      refine W.iloadN C m0_442 rfl ?_
      refine W.ifc C m0_443 ?_ ?_
      · intro (h443 : ((Int32.ofNat n5)).toInt ≤ (0 : Int))
        refine W.iconst C m0_450 (z := (0 : Int32)) rfl ?_
        refine W.ior C m0_451 (z := (1 : Int32)) rfl ?_
        refine W.iload C m0_452 rfl ?_
        refine W.ifc C m0_454 ?_ ?_
        · intro (h454 : ((Int32.ofNat n9)).toInt ≤ (0 : Int))
          refine W.iconst C m0_461 (z := (0 : Int32)) rfl ?_
          refine W.ior C m0_462 (z := (1 : Int32)) rfl ?_
          refine W.iload C m0_463 rfl ?_
          refine W.ifc C m0_465 ?_ ?_
          · intro (h465 : ((Int32.ofNat n13)).toInt ≤ (0 : Int))
            refine W.iconst C m0_473 (z := (0 : Int32)) rfl ?_
            refine W.ior C m0_474 (z := (1 : Int32)) rfl ?_
            exact JH 1 (by decide) (by unfold own_M own_g; rw [if_pos (by omega), if_neg (by omega), if_neg (by omega), if_neg (by omega)]; rfl) (by show _ = 1; omega)
          · intro (h465 : ¬ (((Int32.ofNat n13)).toInt ≤ (0 : Int)))
            replace h465 : (0 : Int) < ((Int32.ofNat n13)).toInt := by omega
            refine W.bipush C m0_468 (z := (8 : Int32)) rfl ?_
            refine W.goto C m0_470 ?_
            refine W.ior C m0_474 (z := (9 : Int32)) rfl ?_
            exact JH 9 (by decide) (by unfold own_M own_g; rw [if_pos (by omega), if_neg (by omega), if_neg (by omega), if_pos (by omega)]; rfl) (by show _ = 2; omega)
        · intro (h454 : ¬ (((Int32.ofNat n9)).toInt ≤ (0 : Int)))
          replace h454 : (0 : Int) < ((Int32.ofNat n9)).toInt := by omega
          refine W.iconst C m0_457 (z := (4 : Int32)) rfl ?_
          refine W.goto C m0_458 ?_
          refine W.ior C m0_462 (z := (5 : Int32)) rfl ?_
          refine W.iload C m0_463 rfl ?_
          refine W.ifc C m0_465 ?_ ?_
          · intro (h465 : ((Int32.ofNat n13)).toInt ≤ (0 : Int))
            refine W.iconst C m0_473 (z := (0 : Int32)) rfl ?_
            refine W.ior C m0_474 (z := (5 : Int32)) rfl ?_
            exact JH 5 (by decide) (by unfold own_M own_g; rw [if_pos (by omega), if_neg (by omega), if_pos (by omega), if_neg (by omega)]; rfl) (by show _ = 2; omega)
          · intro (h465 : ¬ (((Int32.ofNat n13)).toInt ≤ (0 : Int)))
            replace h465 : (0 : Int) < ((Int32.ofNat n13)).toInt := by omega
            refine W.bipush C m0_468 (z := (8 : Int32)) rfl ?_
            refine W.goto C m0_470 ?_
            refine W.ior C m0_474 (z := (13 : Int32)) rfl ?_
            exact JH 13 (by decide) (by unfold own_M own_g; rw [if_pos (by omega), if_neg (by omega), if_pos (by omega), if_pos (by omega)]; rfl) (by show _ = 3; omega)
      · intro (h443 : ¬ (((Int32.ofNat n5)).toInt ≤ (0 : Int)))
        replace h443 : (0 : Int) < ((Int32.ofNat n5)).toInt := by omega
        refine W.iconst C m0_446 (z := (2 : Int32)) rfl ?_
        refine W.goto C m0_447 ?_
        refine W.ior C m0_451 (z := (3 : Int32)) rfl ?_
        refine W.iload C m0_452 rfl ?_
        refine W.ifc C m0_454 ?_ ?_
        · intro (h454 : ((Int32.ofNat n9)).toInt ≤ (0 : Int))
          refine W.iconst C m0_461 (z := (0 : Int32)) rfl ?_
          refine W.ior C m0_462 (z := (3 : Int32)) rfl ?_
          refine W.iload C m0_463 rfl ?_
          refine W.ifc C m0_465 ?_ ?_
          · intro (h465 : ((Int32.ofNat n13)).toInt ≤ (0 : Int))
            refine W.iconst C m0_473 (z := (0 : Int32)) rfl ?_
            refine W.ior C m0_474 (z := (3 : Int32)) rfl ?_
            exact JH 3 (by decide) (by unfold own_M own_g; rw [if_pos (by omega), if_pos (by omega), if_neg (by omega), if_neg (by omega)]; rfl) (by show _ = 2; omega)
          · intro (h465 : ¬ (((Int32.ofNat n13)).toInt ≤ (0 : Int)))
            replace h465 : (0 : Int) < ((Int32.ofNat n13)).toInt := by omega
            refine W.bipush C m0_468 (z := (8 : Int32)) rfl ?_
            refine W.goto C m0_470 ?_
            refine W.ior C m0_474 (z := (11 : Int32)) rfl ?_
            exact JH 11 (by decide) (by unfold own_M own_g; rw [if_pos (by omega), if_pos (by omega), if_neg (by omega), if_pos (by omega)]; rfl) (by show _ = 3; omega)
        · intro (h454 : ¬ (((Int32.ofNat n9)).toInt ≤ (0 : Int)))
          replace h454 : (0 : Int) < ((Int32.ofNat n9)).toInt := by omega
          refine W.iconst C m0_457 (z := (4 : Int32)) rfl ?_
          refine W.goto C m0_458 ?_
          refine W.ior C m0_462 (z := (7 : Int32)) rfl ?_
          refine W.iload C m0_463 rfl ?_
          refine W.ifc C m0_465 ?_ ?_
          · intro (h465 : ((Int32.ofNat n13)).toInt ≤ (0 : Int))
            refine W.iconst C m0_473 (z := (0 : Int32)) rfl ?_
            refine W.ior C m0_474 (z := (7 : Int32)) rfl ?_
            exact JH 7 (by decide) (by unfold own_M own_g; rw [if_pos (by omega), if_pos (by omega), if_pos (by omega), if_neg (by omega)]; rfl) (by show _ = 3; omega)
          · intro (h465 : ¬ (((Int32.ofNat n13)).toInt ≤ (0 : Int)))
            replace h465 : (0 : Int) < ((Int32.ofNat n13)).toInt := by omega
            refine W.bipush C m0_468 (z := (8 : Int32)) rfl ?_
            refine W.goto C m0_470 ?_
            refine W.ior C m0_474 (z := (15 : Int32)) rfl ?_
            exact JH 15 (by decide) (by unfold own_M own_g; rw [if_pos (by omega), if_pos (by omega), if_pos (by omega), if_pos (by omega)]; rfl) (by show _ = 4; omega)
  intro Hm hHm hM hgH
  refine W.istore C m0_475 (L' := [.val (.int p0), .val (.int p1), .val (.int (Int32.ofNat n1)), .val (.int (Int32.ofNat n5)), .val (.int (Int32.ofNat n9)), .val (.int (Int32.ofNat n13)), .val (.ref a18), .val (.ref a45), .val (.int (Int32.ofNat Kk86)), .val (.int (Int32.ofNat Kk87)), .val (.int (Int32.ofNat Kk88)), .val (.ref a90), .val (.ref a101), .val (.int (Int32.ofNat us242.length)), .val (.int (Int32.ofNat (own_res (g0 + g1 + g2 + g3) (own_S (own_m (Kk86 / 4 ^ 0 % 4) n1) (own_m (Kk86 / 4 ^ 1 % 4) n5) (own_m (Kk86 / 4 ^ 2 % 4) n9) (own_m (Kk86 / 4 ^ 3 % 4) n13)) (own_S (own_m (Kk87 / 4 ^ 0 % 4) n1) (own_m (Kk87 / 4 ^ 1 % 4) n5) (own_m (Kk87 / 4 ^ 2 % 4) n9) (own_m (Kk87 / 4 ^ 3 % 4) n13)) (own_S (own_m (Kk88 / 4 ^ 0 % 4) n1) (own_m (Kk88 / 4 ^ 1 % 4) n5) (own_m (Kk88 / 4 ^ 2 % 4) n9) (own_m (Kk88 / 4 ^ 3 % 4) n13))))), .val (.int (Int32.ofNat Hm)), .unset, .unset, .unset, .unset, .unset]) rfl ?_
  refine W.iload C m0_477 rfl ?_
  refine W.iloadN C m0_479 rfl ?_
  refine W.iloadN C m0_480 rfl ?_
  refine W.iload C m0_481 rfl ?_
  refine W.iload C m0_483 rfl ?_
  refine W.callS (y := mY6) (wt := 0) C m0_485 (hw _ (List.mem_of_getElem? (i := 20) rfl)) (hw _ (List.mem_of_getElem? (i := 21) rfl)) (hw _ (List.mem_of_getElem? (i := 2) rfl)) (hw _ (List.mem_of_getElem? (i := 22) rfl)) (by decide) pd6 rfl (own_swC Z a0 hw Kk86 n1 n5 n9 n13 h260 n0 (by assumption) (by omega) (by omega) (by omega) (by omega)) (as' := [(.int (Int32.ofNat Kk86)), (.int (Int32.ofNat n1)), (.int (Int32.ofNat n5)), (.int (Int32.ofNat n9)), (.int (Int32.ofNat n13))]) (rest := []) rfl rfl (Nat.le_of_eq rfl) (by decide) (by decide) (by decide) (by decide) ?_
  intro r265 h263 q264
  obtain ⟨rfl, rfl⟩ := q264
  show W κ n0 Qx h260 5 45 488 [.val (.int p0), .val (.int p1), .val (.int (Int32.ofNat n1)), .val (.int (Int32.ofNat n5)), .val (.int (Int32.ofNat n9)), .val (.int (Int32.ofNat n13)), .val (.ref a18), .val (.ref a45), .val (.int (Int32.ofNat Kk86)), .val (.int (Int32.ofNat Kk87)), .val (.int (Int32.ofNat Kk88)), .val (.ref a90), .val (.ref a101), .val (.int (Int32.ofNat us242.length)), .val (.int (Int32.ofNat (own_res (g0 + g1 + g2 + g3) (own_S (own_m (Kk86 / 4 ^ 0 % 4) n1) (own_m (Kk86 / 4 ^ 1 % 4) n5) (own_m (Kk86 / 4 ^ 2 % 4) n9) (own_m (Kk86 / 4 ^ 3 % 4) n13)) (own_S (own_m (Kk87 / 4 ^ 0 % 4) n1) (own_m (Kk87 / 4 ^ 1 % 4) n5) (own_m (Kk87 / 4 ^ 2 % 4) n9) (own_m (Kk87 / 4 ^ 3 % 4) n13)) (own_S (own_m (Kk88 / 4 ^ 0 % 4) n1) (own_m (Kk88 / 4 ^ 1 % 4) n5) (own_m (Kk88 / 4 ^ 2 % 4) n9) (own_m (Kk88 / 4 ^ 3 % 4) n13))))), .val (.int (Int32.ofNat Hm)), .unset, .unset, .unset, .unset, .unset] [(.int (Int32.ofNat (own_sw Kk86 n1 n5 n9 n13)))]
  refine W.istore C m0_488 (L' := [.val (.int p0), .val (.int p1), .val (.int (Int32.ofNat n1)), .val (.int (Int32.ofNat n5)), .val (.int (Int32.ofNat n9)), .val (.int (Int32.ofNat n13)), .val (.ref a18), .val (.ref a45), .val (.int (Int32.ofNat Kk86)), .val (.int (Int32.ofNat Kk87)), .val (.int (Int32.ofNat Kk88)), .val (.ref a90), .val (.ref a101), .val (.int (Int32.ofNat us242.length)), .val (.int (Int32.ofNat (own_res (g0 + g1 + g2 + g3) (own_S (own_m (Kk86 / 4 ^ 0 % 4) n1) (own_m (Kk86 / 4 ^ 1 % 4) n5) (own_m (Kk86 / 4 ^ 2 % 4) n9) (own_m (Kk86 / 4 ^ 3 % 4) n13)) (own_S (own_m (Kk87 / 4 ^ 0 % 4) n1) (own_m (Kk87 / 4 ^ 1 % 4) n5) (own_m (Kk87 / 4 ^ 2 % 4) n9) (own_m (Kk87 / 4 ^ 3 % 4) n13)) (own_S (own_m (Kk88 / 4 ^ 0 % 4) n1) (own_m (Kk88 / 4 ^ 1 % 4) n5) (own_m (Kk88 / 4 ^ 2 % 4) n9) (own_m (Kk88 / 4 ^ 3 % 4) n13))))), .val (.int (Int32.ofNat Hm)), .val (.int (Int32.ofNat (own_sw Kk86 n1 n5 n9 n13))), .unset, .unset, .unset, .unset]) rfl ?_
  refine W.iload C m0_490 rfl ?_
  refine W.iloadN C m0_492 rfl ?_
  refine W.iloadN C m0_493 rfl ?_
  refine W.iload C m0_494 rfl ?_
  refine W.iload C m0_496 rfl ?_
  refine W.callS (y := mY6) (wt := 0) C m0_498 (hw _ (List.mem_of_getElem? (i := 20) rfl)) (hw _ (List.mem_of_getElem? (i := 21) rfl)) (hw _ (List.mem_of_getElem? (i := 2) rfl)) (hw _ (List.mem_of_getElem? (i := 22) rfl)) (by decide) pd6 rfl (own_swC Z a0 hw Kk87 n1 n5 n9 n13 h260 n0 (by assumption) (by omega) (by omega) (by omega) (by omega)) (as' := [(.int (Int32.ofNat Kk87)), (.int (Int32.ofNat n1)), (.int (Int32.ofNat n5)), (.int (Int32.ofNat n9)), (.int (Int32.ofNat n13))]) (rest := []) rfl rfl (Nat.le_of_eq rfl) (by decide) (by decide) (by decide) (by decide) ?_
  intro r268 h266 q267
  obtain ⟨rfl, rfl⟩ := q267
  show W κ n0 Qx h260 5 45 501 [.val (.int p0), .val (.int p1), .val (.int (Int32.ofNat n1)), .val (.int (Int32.ofNat n5)), .val (.int (Int32.ofNat n9)), .val (.int (Int32.ofNat n13)), .val (.ref a18), .val (.ref a45), .val (.int (Int32.ofNat Kk86)), .val (.int (Int32.ofNat Kk87)), .val (.int (Int32.ofNat Kk88)), .val (.ref a90), .val (.ref a101), .val (.int (Int32.ofNat us242.length)), .val (.int (Int32.ofNat (own_res (g0 + g1 + g2 + g3) (own_S (own_m (Kk86 / 4 ^ 0 % 4) n1) (own_m (Kk86 / 4 ^ 1 % 4) n5) (own_m (Kk86 / 4 ^ 2 % 4) n9) (own_m (Kk86 / 4 ^ 3 % 4) n13)) (own_S (own_m (Kk87 / 4 ^ 0 % 4) n1) (own_m (Kk87 / 4 ^ 1 % 4) n5) (own_m (Kk87 / 4 ^ 2 % 4) n9) (own_m (Kk87 / 4 ^ 3 % 4) n13)) (own_S (own_m (Kk88 / 4 ^ 0 % 4) n1) (own_m (Kk88 / 4 ^ 1 % 4) n5) (own_m (Kk88 / 4 ^ 2 % 4) n9) (own_m (Kk88 / 4 ^ 3 % 4) n13))))), .val (.int (Int32.ofNat Hm)), .val (.int (Int32.ofNat (own_sw Kk86 n1 n5 n9 n13))), .unset, .unset, .unset, .unset] [(.int (Int32.ofNat (own_sw Kk87 n1 n5 n9 n13)))]
  refine W.istore C m0_501 (L' := [.val (.int p0), .val (.int p1), .val (.int (Int32.ofNat n1)), .val (.int (Int32.ofNat n5)), .val (.int (Int32.ofNat n9)), .val (.int (Int32.ofNat n13)), .val (.ref a18), .val (.ref a45), .val (.int (Int32.ofNat Kk86)), .val (.int (Int32.ofNat Kk87)), .val (.int (Int32.ofNat Kk88)), .val (.ref a90), .val (.ref a101), .val (.int (Int32.ofNat us242.length)), .val (.int (Int32.ofNat (own_res (g0 + g1 + g2 + g3) (own_S (own_m (Kk86 / 4 ^ 0 % 4) n1) (own_m (Kk86 / 4 ^ 1 % 4) n5) (own_m (Kk86 / 4 ^ 2 % 4) n9) (own_m (Kk86 / 4 ^ 3 % 4) n13)) (own_S (own_m (Kk87 / 4 ^ 0 % 4) n1) (own_m (Kk87 / 4 ^ 1 % 4) n5) (own_m (Kk87 / 4 ^ 2 % 4) n9) (own_m (Kk87 / 4 ^ 3 % 4) n13)) (own_S (own_m (Kk88 / 4 ^ 0 % 4) n1) (own_m (Kk88 / 4 ^ 1 % 4) n5) (own_m (Kk88 / 4 ^ 2 % 4) n9) (own_m (Kk88 / 4 ^ 3 % 4) n13))))), .val (.int (Int32.ofNat Hm)), .val (.int (Int32.ofNat (own_sw Kk86 n1 n5 n9 n13))), .val (.int (Int32.ofNat (own_sw Kk87 n1 n5 n9 n13))), .unset, .unset, .unset]) rfl ?_
  refine W.iload C m0_503 rfl ?_
  refine W.iloadN C m0_505 rfl ?_
  refine W.iloadN C m0_506 rfl ?_
  refine W.iload C m0_507 rfl ?_
  refine W.iload C m0_509 rfl ?_
  refine W.callS (y := mY6) (wt := 0) C m0_511 (hw _ (List.mem_of_getElem? (i := 20) rfl)) (hw _ (List.mem_of_getElem? (i := 21) rfl)) (hw _ (List.mem_of_getElem? (i := 2) rfl)) (hw _ (List.mem_of_getElem? (i := 22) rfl)) (by decide) pd6 rfl (own_swC Z a0 hw Kk88 n1 n5 n9 n13 h260 n0 (by assumption) (by omega) (by omega) (by omega) (by omega)) (as' := [(.int (Int32.ofNat Kk88)), (.int (Int32.ofNat n1)), (.int (Int32.ofNat n5)), (.int (Int32.ofNat n9)), (.int (Int32.ofNat n13))]) (rest := []) rfl rfl (Nat.le_of_eq rfl) (by decide) (by decide) (by decide) (by decide) ?_
  intro r271 h269 q270
  obtain ⟨rfl, rfl⟩ := q270
  show W κ n0 Qx h260 5 45 514 [.val (.int p0), .val (.int p1), .val (.int (Int32.ofNat n1)), .val (.int (Int32.ofNat n5)), .val (.int (Int32.ofNat n9)), .val (.int (Int32.ofNat n13)), .val (.ref a18), .val (.ref a45), .val (.int (Int32.ofNat Kk86)), .val (.int (Int32.ofNat Kk87)), .val (.int (Int32.ofNat Kk88)), .val (.ref a90), .val (.ref a101), .val (.int (Int32.ofNat us242.length)), .val (.int (Int32.ofNat (own_res (g0 + g1 + g2 + g3) (own_S (own_m (Kk86 / 4 ^ 0 % 4) n1) (own_m (Kk86 / 4 ^ 1 % 4) n5) (own_m (Kk86 / 4 ^ 2 % 4) n9) (own_m (Kk86 / 4 ^ 3 % 4) n13)) (own_S (own_m (Kk87 / 4 ^ 0 % 4) n1) (own_m (Kk87 / 4 ^ 1 % 4) n5) (own_m (Kk87 / 4 ^ 2 % 4) n9) (own_m (Kk87 / 4 ^ 3 % 4) n13)) (own_S (own_m (Kk88 / 4 ^ 0 % 4) n1) (own_m (Kk88 / 4 ^ 1 % 4) n5) (own_m (Kk88 / 4 ^ 2 % 4) n9) (own_m (Kk88 / 4 ^ 3 % 4) n13))))), .val (.int (Int32.ofNat Hm)), .val (.int (Int32.ofNat (own_sw Kk86 n1 n5 n9 n13))), .val (.int (Int32.ofNat (own_sw Kk87 n1 n5 n9 n13))), .unset, .unset, .unset] [(.int (Int32.ofNat (own_sw Kk88 n1 n5 n9 n13)))]
  refine W.istore C m0_514 (L' := [.val (.int p0), .val (.int p1), .val (.int (Int32.ofNat n1)), .val (.int (Int32.ofNat n5)), .val (.int (Int32.ofNat n9)), .val (.int (Int32.ofNat n13)), .val (.ref a18), .val (.ref a45), .val (.int (Int32.ofNat Kk86)), .val (.int (Int32.ofNat Kk87)), .val (.int (Int32.ofNat Kk88)), .val (.ref a90), .val (.ref a101), .val (.int (Int32.ofNat us242.length)), .val (.int (Int32.ofNat (own_res (g0 + g1 + g2 + g3) (own_S (own_m (Kk86 / 4 ^ 0 % 4) n1) (own_m (Kk86 / 4 ^ 1 % 4) n5) (own_m (Kk86 / 4 ^ 2 % 4) n9) (own_m (Kk86 / 4 ^ 3 % 4) n13)) (own_S (own_m (Kk87 / 4 ^ 0 % 4) n1) (own_m (Kk87 / 4 ^ 1 % 4) n5) (own_m (Kk87 / 4 ^ 2 % 4) n9) (own_m (Kk87 / 4 ^ 3 % 4) n13)) (own_S (own_m (Kk88 / 4 ^ 0 % 4) n1) (own_m (Kk88 / 4 ^ 1 % 4) n5) (own_m (Kk88 / 4 ^ 2 % 4) n9) (own_m (Kk88 / 4 ^ 3 % 4) n13))))), .val (.int (Int32.ofNat Hm)), .val (.int (Int32.ofNat (own_sw Kk86 n1 n5 n9 n13))), .val (.int (Int32.ofNat (own_sw Kk87 n1 n5 n9 n13))), .val (.int (Int32.ofNat (own_sw Kk88 n1 n5 n9 n13))), .unset, .unset]) rfl ?_
  have hS0 : own_sw Kk86 n1 n5 n9 n13 = own_M (own_m (Kk86 / 4 ^ 0 % 4) n1) (own_m (Kk86 / 4 ^ 1 % 4) n5) (own_m (Kk86 / 4 ^ 2 % 4) n9) (own_m (Kk86 / 4 ^ 3 % 4) n13) := by unfold own_sw; rw [own_wig (by omega), own_wig (by omega), own_wig (by omega), own_wig (by omega)]; rfl
  obtain ⟨x, ex⟩ : ∃ q, q = own_sw Kk86 n1 n5 n9 n13 := ⟨_, rfl⟩
  have hx : x < 16 := by rw [ex]; exact own_swlt
  have sx : x &&& Hm = x := by rw [ex, hS0, ← hM]; exact own_sub (own_mc _ (by omega) _ (by omega)) (own_mc _ (by omega) _ (by omega)) (own_mc _ (by omega) _ (by omega)) (own_mc _ (by omega) _ (by omega))
  have kx : own_KS (own_S (own_m (Kk86 / 4 ^ 0 % 4) n1) (own_m (Kk86 / 4 ^ 1 % 4) n5) (own_m (Kk86 / 4 ^ 2 % 4) n9) (own_m (Kk86 / 4 ^ 3 % 4) n13)) x := by rw [ex, hS0]; exact own_KS_of own_mle own_mle own_mle own_mle
  rw [← ex]
  have px := own_popi x
  have hS1 : own_sw Kk87 n1 n5 n9 n13 = own_M (own_m (Kk87 / 4 ^ 0 % 4) n1) (own_m (Kk87 / 4 ^ 1 % 4) n5) (own_m (Kk87 / 4 ^ 2 % 4) n9) (own_m (Kk87 / 4 ^ 3 % 4) n13) := by unfold own_sw; rw [own_wig (by omega), own_wig (by omega), own_wig (by omega), own_wig (by omega)]; rfl
  obtain ⟨y, ey⟩ : ∃ q, q = own_sw Kk87 n1 n5 n9 n13 := ⟨_, rfl⟩
  have hy : y < 16 := by rw [ey]; exact own_swlt
  have sy : y &&& Hm = y := by rw [ey, hS1, ← hM]; exact own_sub (own_mc _ (by omega) _ (by omega)) (own_mc _ (by omega) _ (by omega)) (own_mc _ (by omega) _ (by omega)) (own_mc _ (by omega) _ (by omega))
  have ky : own_KS (own_S (own_m (Kk87 / 4 ^ 0 % 4) n1) (own_m (Kk87 / 4 ^ 1 % 4) n5) (own_m (Kk87 / 4 ^ 2 % 4) n9) (own_m (Kk87 / 4 ^ 3 % 4) n13)) y := by rw [ey, hS1]; exact own_KS_of own_mle own_mle own_mle own_mle
  rw [← ey]
  have py := own_popi y
  have hS2 : own_sw Kk88 n1 n5 n9 n13 = own_M (own_m (Kk88 / 4 ^ 0 % 4) n1) (own_m (Kk88 / 4 ^ 1 % 4) n5) (own_m (Kk88 / 4 ^ 2 % 4) n9) (own_m (Kk88 / 4 ^ 3 % 4) n13) := by unfold own_sw; rw [own_wig (by omega), own_wig (by omega), own_wig (by omega), own_wig (by omega)]; rfl
  obtain ⟨z, ez⟩ : ∃ q, q = own_sw Kk88 n1 n5 n9 n13 := ⟨_, rfl⟩
  have hz : z < 16 := by rw [ez]; exact own_swlt
  have sz : z &&& Hm = z := by rw [ez, hS2, ← hM]; exact own_sub (own_mc _ (by omega) _ (by omega)) (own_mc _ (by omega) _ (by omega)) (own_mc _ (by omega) _ (by omega)) (own_mc _ (by omega) _ (by omega))
  have kz : own_KS (own_S (own_m (Kk88 / 4 ^ 0 % 4) n1) (own_m (Kk88 / 4 ^ 1 % 4) n5) (own_m (Kk88 / 4 ^ 2 % 4) n9) (own_m (Kk88 / 4 ^ 3 % 4) n13)) z := by rw [ez, hS2]; exact own_KS_of own_mle own_mle own_mle own_mle
  rw [← ez]
  have pz := own_popi z
  show W κ n0 Qx h260 5 45 516 [.val (.int p0), .val (.int p1), .val (.int (Int32.ofNat n1)), .val (.int (Int32.ofNat n5)), .val (.int (Int32.ofNat n9)), .val (.int (Int32.ofNat n13)), .val (.ref a18), .val (.ref a45), .val (.int (Int32.ofNat Kk86)), .val (.int (Int32.ofNat Kk87)), .val (.int (Int32.ofNat Kk88)), .val (.ref a90), .val (.ref a101), .val (.int (Int32.ofNat us242.length)), .val (.int (Int32.ofNat (own_res (g0 + g1 + g2 + g3) (own_S (own_m (Kk86 / 4 ^ 0 % 4) n1) (own_m (Kk86 / 4 ^ 1 % 4) n5) (own_m (Kk86 / 4 ^ 2 % 4) n9) (own_m (Kk86 / 4 ^ 3 % 4) n13)) (own_S (own_m (Kk87 / 4 ^ 0 % 4) n1) (own_m (Kk87 / 4 ^ 1 % 4) n5) (own_m (Kk87 / 4 ^ 2 % 4) n9) (own_m (Kk87 / 4 ^ 3 % 4) n13)) (own_S (own_m (Kk88 / 4 ^ 0 % 4) n1) (own_m (Kk88 / 4 ^ 1 % 4) n5) (own_m (Kk88 / 4 ^ 2 % 4) n9) (own_m (Kk88 / 4 ^ 3 % 4) n13))))), .val (.int (Int32.ofNat Hm)), .val (.int (Int32.ofNat x)), .val (.int (Int32.ofNat y)), .val (.int (Int32.ofNat z)), .unset, .unset] []
  suffices JF : ∀ (F : Nat), F < 16 → own_first x y z = F → W κ n0 Qx h260 5 45 559 [.val (.int p0), .val (.int p1), .val (.int (Int32.ofNat n1)), .val (.int (Int32.ofNat n5)), .val (.int (Int32.ofNat n9)), .val (.int (Int32.ofNat n13)), .val (.ref a18), .val (.ref a45), .val (.int (Int32.ofNat Kk86)), .val (.int (Int32.ofNat Kk87)), .val (.int (Int32.ofNat Kk88)), .val (.ref a90), .val (.ref a101), .val (.int (Int32.ofNat us242.length)), .val (.int (Int32.ofNat (own_res (g0 + g1 + g2 + g3) (own_S (own_m (Kk86 / 4 ^ 0 % 4) n1) (own_m (Kk86 / 4 ^ 1 % 4) n5) (own_m (Kk86 / 4 ^ 2 % 4) n9) (own_m (Kk86 / 4 ^ 3 % 4) n13)) (own_S (own_m (Kk87 / 4 ^ 0 % 4) n1) (own_m (Kk87 / 4 ^ 1 % 4) n5) (own_m (Kk87 / 4 ^ 2 % 4) n9) (own_m (Kk87 / 4 ^ 3 % 4) n13)) (own_S (own_m (Kk88 / 4 ^ 0 % 4) n1) (own_m (Kk88 / 4 ^ 1 % 4) n5) (own_m (Kk88 / 4 ^ 2 % 4) n9) (own_m (Kk88 / 4 ^ 3 % 4) n13))))), .val (.int (Int32.ofNat Hm)), .val (.int (Int32.ofNat x)), .val (.int (Int32.ofNat y)), .val (.int (Int32.ofNat z)), .unset, .unset] [(.int (Int32.ofNat F))] by
    refine W.iload C m0_516 rfl ?_
    refine W.callS (y := mY8) (wt := 0) C m0_518 (hw _ (List.mem_of_getElem? (i := 26) rfl)) (hw _ (List.mem_of_getElem? (i := 27) rfl)) (hw _ (List.mem_of_getElem? (i := 2) rfl)) (hw _ (List.mem_of_getElem? (i := 28) rfl)) (by decide) pd8 rfl (own_popC Z a0 hw x h260 n0 (by first | omega | assumption | exact own_andlt (by omega) (by omega))) (as' := [(.int (Int32.ofNat x))]) (rest := []) rfl rfl (Nat.le_of_eq rfl) (by decide) (by decide) (by decide) (by decide) ?_
    intro r274 h272 q273
    obtain ⟨rfl, rfl⟩ := q273
    show W κ n0 Qx h260 5 45 521 [.val (.int p0), .val (.int p1), .val (.int (Int32.ofNat n1)), .val (.int (Int32.ofNat n5)), .val (.int (Int32.ofNat n9)), .val (.int (Int32.ofNat n13)), .val (.ref a18), .val (.ref a45), .val (.int (Int32.ofNat Kk86)), .val (.int (Int32.ofNat Kk87)), .val (.int (Int32.ofNat Kk88)), .val (.ref a90), .val (.ref a101), .val (.int (Int32.ofNat us242.length)), .val (.int (Int32.ofNat (own_res (g0 + g1 + g2 + g3) (own_S (own_m (Kk86 / 4 ^ 0 % 4) n1) (own_m (Kk86 / 4 ^ 1 % 4) n5) (own_m (Kk86 / 4 ^ 2 % 4) n9) (own_m (Kk86 / 4 ^ 3 % 4) n13)) (own_S (own_m (Kk87 / 4 ^ 0 % 4) n1) (own_m (Kk87 / 4 ^ 1 % 4) n5) (own_m (Kk87 / 4 ^ 2 % 4) n9) (own_m (Kk87 / 4 ^ 3 % 4) n13)) (own_S (own_m (Kk88 / 4 ^ 0 % 4) n1) (own_m (Kk88 / 4 ^ 1 % 4) n5) (own_m (Kk88 / 4 ^ 2 % 4) n9) (own_m (Kk88 / 4 ^ 3 % 4) n13))))), .val (.int (Int32.ofNat Hm)), .val (.int (Int32.ofNat x)), .val (.int (Int32.ofNat y)), .val (.int (Int32.ofNat z)), .unset, .unset] [(.int (Int32.ofNat (own_pop x)))]
    refine W.iconst C m0_521 (z := (2 : Int32)) rfl ?_
    refine W.icmp C m0_522 ?_ ?_
    · intro (h522 : ((Int32.ofNat (own_pop x))).toInt < (2 : Int))
      refine W.iload C m0_530 rfl ?_
      refine W.callS (y := mY8) (wt := 0) C m0_532 (hw _ (List.mem_of_getElem? (i := 26) rfl)) (hw _ (List.mem_of_getElem? (i := 27) rfl)) (hw _ (List.mem_of_getElem? (i := 2) rfl)) (hw _ (List.mem_of_getElem? (i := 28) rfl)) (by decide) pd8 rfl (own_popC Z a0 hw y h260 n0 (by first | omega | assumption | exact own_andlt (by omega) (by omega))) (as' := [(.int (Int32.ofNat y))]) (rest := []) rfl rfl (Nat.le_of_eq rfl) (by decide) (by decide) (by decide) (by decide) ?_
      intro r277 h275 q276
      obtain ⟨rfl, rfl⟩ := q276
      show W κ n0 Qx h260 5 45 535 [.val (.int p0), .val (.int p1), .val (.int (Int32.ofNat n1)), .val (.int (Int32.ofNat n5)), .val (.int (Int32.ofNat n9)), .val (.int (Int32.ofNat n13)), .val (.ref a18), .val (.ref a45), .val (.int (Int32.ofNat Kk86)), .val (.int (Int32.ofNat Kk87)), .val (.int (Int32.ofNat Kk88)), .val (.ref a90), .val (.ref a101), .val (.int (Int32.ofNat us242.length)), .val (.int (Int32.ofNat (own_res (g0 + g1 + g2 + g3) (own_S (own_m (Kk86 / 4 ^ 0 % 4) n1) (own_m (Kk86 / 4 ^ 1 % 4) n5) (own_m (Kk86 / 4 ^ 2 % 4) n9) (own_m (Kk86 / 4 ^ 3 % 4) n13)) (own_S (own_m (Kk87 / 4 ^ 0 % 4) n1) (own_m (Kk87 / 4 ^ 1 % 4) n5) (own_m (Kk87 / 4 ^ 2 % 4) n9) (own_m (Kk87 / 4 ^ 3 % 4) n13)) (own_S (own_m (Kk88 / 4 ^ 0 % 4) n1) (own_m (Kk88 / 4 ^ 1 % 4) n5) (own_m (Kk88 / 4 ^ 2 % 4) n9) (own_m (Kk88 / 4 ^ 3 % 4) n13))))), .val (.int (Int32.ofNat Hm)), .val (.int (Int32.ofNat x)), .val (.int (Int32.ofNat y)), .val (.int (Int32.ofNat z)), .unset, .unset] [(.int (Int32.ofNat (own_pop y)))]
      refine W.iconst C m0_535 (z := (2 : Int32)) rfl ?_
      refine W.icmp C m0_536 ?_ ?_
      · intro (h536 : ((Int32.ofNat (own_pop y))).toInt < (2 : Int))
        refine W.iload C m0_544 rfl ?_
        refine W.callS (y := mY8) (wt := 0) C m0_546 (hw _ (List.mem_of_getElem? (i := 26) rfl)) (hw _ (List.mem_of_getElem? (i := 27) rfl)) (hw _ (List.mem_of_getElem? (i := 2) rfl)) (hw _ (List.mem_of_getElem? (i := 28) rfl)) (by decide) pd8 rfl (own_popC Z a0 hw z h260 n0 (by first | omega | assumption | exact own_andlt (by omega) (by omega))) (as' := [(.int (Int32.ofNat z))]) (rest := []) rfl rfl (Nat.le_of_eq rfl) (by decide) (by decide) (by decide) (by decide) ?_
        intro r280 h278 q279
        obtain ⟨rfl, rfl⟩ := q279
        show W κ n0 Qx h260 5 45 549 [.val (.int p0), .val (.int p1), .val (.int (Int32.ofNat n1)), .val (.int (Int32.ofNat n5)), .val (.int (Int32.ofNat n9)), .val (.int (Int32.ofNat n13)), .val (.ref a18), .val (.ref a45), .val (.int (Int32.ofNat Kk86)), .val (.int (Int32.ofNat Kk87)), .val (.int (Int32.ofNat Kk88)), .val (.ref a90), .val (.ref a101), .val (.int (Int32.ofNat us242.length)), .val (.int (Int32.ofNat (own_res (g0 + g1 + g2 + g3) (own_S (own_m (Kk86 / 4 ^ 0 % 4) n1) (own_m (Kk86 / 4 ^ 1 % 4) n5) (own_m (Kk86 / 4 ^ 2 % 4) n9) (own_m (Kk86 / 4 ^ 3 % 4) n13)) (own_S (own_m (Kk87 / 4 ^ 0 % 4) n1) (own_m (Kk87 / 4 ^ 1 % 4) n5) (own_m (Kk87 / 4 ^ 2 % 4) n9) (own_m (Kk87 / 4 ^ 3 % 4) n13)) (own_S (own_m (Kk88 / 4 ^ 0 % 4) n1) (own_m (Kk88 / 4 ^ 1 % 4) n5) (own_m (Kk88 / 4 ^ 2 % 4) n9) (own_m (Kk88 / 4 ^ 3 % 4) n13))))), .val (.int (Int32.ofNat Hm)), .val (.int (Int32.ofNat x)), .val (.int (Int32.ofNat y)), .val (.int (Int32.ofNat z)), .unset, .unset] [(.int (Int32.ofNat (own_pop z)))]
        refine W.iconst C m0_549 (z := (2 : Int32)) rfl ?_
        refine W.icmp C m0_550 ?_ ?_
        · intro (h550 : ((Int32.ofNat (own_pop z))).toInt < (2 : Int))
          refine W.iconst C m0_558 (z := (0 : Int32)) rfl ?_
          exact JF 0 (by decide) (by unfold own_first; rw [if_pos (by omega), if_pos (by omega), if_pos (by omega)])
        · intro (h550 : ¬ (((Int32.ofNat (own_pop z))).toInt < (2 : Int)))
          replace h550 : (2 : Int) ≤ ((Int32.ofNat (own_pop z))).toInt := by omega
          refine W.iload C m0_553 rfl ?_
          refine W.goto C m0_555 ?_
          exact JF z (by assumption) (by unfold own_first; rw [if_pos (by omega), if_pos (by omega), if_neg (by omega)])
      · intro (h536 : ¬ (((Int32.ofNat (own_pop y))).toInt < (2 : Int)))
        replace h536 : (2 : Int) ≤ ((Int32.ofNat (own_pop y))).toInt := by omega
        refine W.iload C m0_539 rfl ?_
        refine W.goto C m0_541 ?_
        exact JF y (by assumption) (by unfold own_first; rw [if_pos (by omega), if_neg (by omega)])
    · intro (h522 : ¬ (((Int32.ofNat (own_pop x))).toInt < (2 : Int)))
      replace h522 : (2 : Int) ≤ ((Int32.ofNat (own_pop x))).toInt := by omega
      refine W.iload C m0_525 rfl ?_
      refine W.goto C m0_527 ?_
      exact JF x (by assumption) (by unfold own_first; rw [if_neg (by omega)])
  intro F hF eF
  refine W.istore C m0_559 (L' := [.val (.int p0), .val (.int p1), .val (.int (Int32.ofNat n1)), .val (.int (Int32.ofNat n5)), .val (.int (Int32.ofNat n9)), .val (.int (Int32.ofNat n13)), .val (.ref a18), .val (.ref a45), .val (.int (Int32.ofNat Kk86)), .val (.int (Int32.ofNat Kk87)), .val (.int (Int32.ofNat Kk88)), .val (.ref a90), .val (.ref a101), .val (.int (Int32.ofNat us242.length)), .val (.int (Int32.ofNat (own_res (g0 + g1 + g2 + g3) (own_S (own_m (Kk86 / 4 ^ 0 % 4) n1) (own_m (Kk86 / 4 ^ 1 % 4) n5) (own_m (Kk86 / 4 ^ 2 % 4) n9) (own_m (Kk86 / 4 ^ 3 % 4) n13)) (own_S (own_m (Kk87 / 4 ^ 0 % 4) n1) (own_m (Kk87 / 4 ^ 1 % 4) n5) (own_m (Kk87 / 4 ^ 2 % 4) n9) (own_m (Kk87 / 4 ^ 3 % 4) n13)) (own_S (own_m (Kk88 / 4 ^ 0 % 4) n1) (own_m (Kk88 / 4 ^ 1 % 4) n5) (own_m (Kk88 / 4 ^ 2 % 4) n9) (own_m (Kk88 / 4 ^ 3 % 4) n13))))), .val (.int (Int32.ofNat Hm)), .val (.int (Int32.ofNat x)), .val (.int (Int32.ofNat y)), .val (.int (Int32.ofNat z)), .val (.int (Int32.ofNat F)), .unset]) rfl ?_
  refine W.iload C m0_561 rfl ?_
  refine W.iload C m0_563 rfl ?_
  refine W.iload C m0_565 rfl ?_
  refine W.iload C m0_567 rfl ?_
  refine W.callS (y := mY9) (wt := 0) C m0_569 (hw _ (List.mem_of_getElem? (i := 29) rfl)) (hw _ (List.mem_of_getElem? (i := 30) rfl)) (hw _ (List.mem_of_getElem? (i := 2) rfl)) (hw _ (List.mem_of_getElem? (i := 31) rfl)) (by decide) pd9 rfl (own_roundC Z a0 hw F x y z h260 n0 (by first | assumption | exact own_roundlt (by assumption) (by assumption) (by assumption) (by assumption) | exact own_roundlt (own_roundlt (by assumption) (by assumption) (by assumption) (by assumption)) (by assumption) (by assumption) (by assumption)) (by assumption) (by assumption) (by assumption)) (as' := [(.int (Int32.ofNat F)), (.int (Int32.ofNat x)), (.int (Int32.ofNat y)), (.int (Int32.ofNat z))]) (rest := []) rfl rfl (Nat.le_of_eq rfl) (by decide) (by decide) (by decide) (by decide) ?_
  intro r277 h275 q276
  obtain ⟨rfl, rfl⟩ := q276
  show W κ n0 Qx h260 5 45 572 [.val (.int p0), .val (.int p1), .val (.int (Int32.ofNat n1)), .val (.int (Int32.ofNat n5)), .val (.int (Int32.ofNat n9)), .val (.int (Int32.ofNat n13)), .val (.ref a18), .val (.ref a45), .val (.int (Int32.ofNat Kk86)), .val (.int (Int32.ofNat Kk87)), .val (.int (Int32.ofNat Kk88)), .val (.ref a90), .val (.ref a101), .val (.int (Int32.ofNat us242.length)), .val (.int (Int32.ofNat (own_res (g0 + g1 + g2 + g3) (own_S (own_m (Kk86 / 4 ^ 0 % 4) n1) (own_m (Kk86 / 4 ^ 1 % 4) n5) (own_m (Kk86 / 4 ^ 2 % 4) n9) (own_m (Kk86 / 4 ^ 3 % 4) n13)) (own_S (own_m (Kk87 / 4 ^ 0 % 4) n1) (own_m (Kk87 / 4 ^ 1 % 4) n5) (own_m (Kk87 / 4 ^ 2 % 4) n9) (own_m (Kk87 / 4 ^ 3 % 4) n13)) (own_S (own_m (Kk88 / 4 ^ 0 % 4) n1) (own_m (Kk88 / 4 ^ 1 % 4) n5) (own_m (Kk88 / 4 ^ 2 % 4) n9) (own_m (Kk88 / 4 ^ 3 % 4) n13))))), .val (.int (Int32.ofNat Hm)), .val (.int (Int32.ofNat x)), .val (.int (Int32.ofNat y)), .val (.int (Int32.ofNat z)), .val (.int (Int32.ofNat F)), .unset] [(.int (Int32.ofNat (own_round F x y z)))]
  refine W.istore C m0_572 (L' := [.val (.int p0), .val (.int p1), .val (.int (Int32.ofNat n1)), .val (.int (Int32.ofNat n5)), .val (.int (Int32.ofNat n9)), .val (.int (Int32.ofNat n13)), .val (.ref a18), .val (.ref a45), .val (.int (Int32.ofNat Kk86)), .val (.int (Int32.ofNat Kk87)), .val (.int (Int32.ofNat Kk88)), .val (.ref a90), .val (.ref a101), .val (.int (Int32.ofNat us242.length)), .val (.int (Int32.ofNat (own_res (g0 + g1 + g2 + g3) (own_S (own_m (Kk86 / 4 ^ 0 % 4) n1) (own_m (Kk86 / 4 ^ 1 % 4) n5) (own_m (Kk86 / 4 ^ 2 % 4) n9) (own_m (Kk86 / 4 ^ 3 % 4) n13)) (own_S (own_m (Kk87 / 4 ^ 0 % 4) n1) (own_m (Kk87 / 4 ^ 1 % 4) n5) (own_m (Kk87 / 4 ^ 2 % 4) n9) (own_m (Kk87 / 4 ^ 3 % 4) n13)) (own_S (own_m (Kk88 / 4 ^ 0 % 4) n1) (own_m (Kk88 / 4 ^ 1 % 4) n5) (own_m (Kk88 / 4 ^ 2 % 4) n9) (own_m (Kk88 / 4 ^ 3 % 4) n13))))), .val (.int (Int32.ofNat Hm)), .val (.int (Int32.ofNat x)), .val (.int (Int32.ofNat y)), .val (.int (Int32.ofNat z)), .val (.int (Int32.ofNat (own_round F x y z))), .unset]) rfl ?_
  refine W.iload C m0_574 rfl ?_
  refine W.iload C m0_576 rfl ?_
  refine W.iload C m0_578 rfl ?_
  refine W.iload C m0_580 rfl ?_
  refine W.callS (y := mY9) (wt := 0) C m0_582 (hw _ (List.mem_of_getElem? (i := 29) rfl)) (hw _ (List.mem_of_getElem? (i := 30) rfl)) (hw _ (List.mem_of_getElem? (i := 2) rfl)) (hw _ (List.mem_of_getElem? (i := 31) rfl)) (by decide) pd9 rfl (own_roundC Z a0 hw (own_round F x y z) x y z h260 n0 (by first | assumption | exact own_roundlt (by assumption) (by assumption) (by assumption) (by assumption) | exact own_roundlt (own_roundlt (by assumption) (by assumption) (by assumption) (by assumption)) (by assumption) (by assumption) (by assumption)) (by assumption) (by assumption) (by assumption)) (as' := [(.int (Int32.ofNat (own_round F x y z))), (.int (Int32.ofNat x)), (.int (Int32.ofNat y)), (.int (Int32.ofNat z))]) (rest := []) rfl rfl (Nat.le_of_eq rfl) (by decide) (by decide) (by decide) (by decide) ?_
  intro r280 h278 q279
  obtain ⟨rfl, rfl⟩ := q279
  show W κ n0 Qx h260 5 45 585 [.val (.int p0), .val (.int p1), .val (.int (Int32.ofNat n1)), .val (.int (Int32.ofNat n5)), .val (.int (Int32.ofNat n9)), .val (.int (Int32.ofNat n13)), .val (.ref a18), .val (.ref a45), .val (.int (Int32.ofNat Kk86)), .val (.int (Int32.ofNat Kk87)), .val (.int (Int32.ofNat Kk88)), .val (.ref a90), .val (.ref a101), .val (.int (Int32.ofNat us242.length)), .val (.int (Int32.ofNat (own_res (g0 + g1 + g2 + g3) (own_S (own_m (Kk86 / 4 ^ 0 % 4) n1) (own_m (Kk86 / 4 ^ 1 % 4) n5) (own_m (Kk86 / 4 ^ 2 % 4) n9) (own_m (Kk86 / 4 ^ 3 % 4) n13)) (own_S (own_m (Kk87 / 4 ^ 0 % 4) n1) (own_m (Kk87 / 4 ^ 1 % 4) n5) (own_m (Kk87 / 4 ^ 2 % 4) n9) (own_m (Kk87 / 4 ^ 3 % 4) n13)) (own_S (own_m (Kk88 / 4 ^ 0 % 4) n1) (own_m (Kk88 / 4 ^ 1 % 4) n5) (own_m (Kk88 / 4 ^ 2 % 4) n9) (own_m (Kk88 / 4 ^ 3 % 4) n13))))), .val (.int (Int32.ofNat Hm)), .val (.int (Int32.ofNat x)), .val (.int (Int32.ofNat y)), .val (.int (Int32.ofNat z)), .val (.int (Int32.ofNat (own_round F x y z))), .unset] [(.int (Int32.ofNat (own_round (own_round F x y z) x y z)))]
  refine W.istore C m0_585 (L' := [.val (.int p0), .val (.int p1), .val (.int (Int32.ofNat n1)), .val (.int (Int32.ofNat n5)), .val (.int (Int32.ofNat n9)), .val (.int (Int32.ofNat n13)), .val (.ref a18), .val (.ref a45), .val (.int (Int32.ofNat Kk86)), .val (.int (Int32.ofNat Kk87)), .val (.int (Int32.ofNat Kk88)), .val (.ref a90), .val (.ref a101), .val (.int (Int32.ofNat us242.length)), .val (.int (Int32.ofNat (own_res (g0 + g1 + g2 + g3) (own_S (own_m (Kk86 / 4 ^ 0 % 4) n1) (own_m (Kk86 / 4 ^ 1 % 4) n5) (own_m (Kk86 / 4 ^ 2 % 4) n9) (own_m (Kk86 / 4 ^ 3 % 4) n13)) (own_S (own_m (Kk87 / 4 ^ 0 % 4) n1) (own_m (Kk87 / 4 ^ 1 % 4) n5) (own_m (Kk87 / 4 ^ 2 % 4) n9) (own_m (Kk87 / 4 ^ 3 % 4) n13)) (own_S (own_m (Kk88 / 4 ^ 0 % 4) n1) (own_m (Kk88 / 4 ^ 1 % 4) n5) (own_m (Kk88 / 4 ^ 2 % 4) n9) (own_m (Kk88 / 4 ^ 3 % 4) n13))))), .val (.int (Int32.ofNat Hm)), .val (.int (Int32.ofNat x)), .val (.int (Int32.ofNat y)), .val (.int (Int32.ofNat z)), .val (.int (Int32.ofNat (own_round (own_round F x y z) x y z))), .unset]) rfl ?_
  refine W.iload C m0_587 rfl ?_
  refine W.iload C m0_589 rfl ?_
  refine W.iload C m0_591 rfl ?_
  refine W.iload C m0_593 rfl ?_
  refine W.callS (y := mY9) (wt := 0) C m0_595 (hw _ (List.mem_of_getElem? (i := 29) rfl)) (hw _ (List.mem_of_getElem? (i := 30) rfl)) (hw _ (List.mem_of_getElem? (i := 2) rfl)) (hw _ (List.mem_of_getElem? (i := 31) rfl)) (by decide) pd9 rfl (own_roundC Z a0 hw (own_round (own_round F x y z) x y z) x y z h260 n0 (by first | assumption | exact own_roundlt (by assumption) (by assumption) (by assumption) (by assumption) | exact own_roundlt (own_roundlt (by assumption) (by assumption) (by assumption) (by assumption)) (by assumption) (by assumption) (by assumption)) (by assumption) (by assumption) (by assumption)) (as' := [(.int (Int32.ofNat (own_round (own_round F x y z) x y z))), (.int (Int32.ofNat x)), (.int (Int32.ofNat y)), (.int (Int32.ofNat z))]) (rest := []) rfl rfl (Nat.le_of_eq rfl) (by decide) (by decide) (by decide) (by decide) ?_
  intro r283 h281 q282
  obtain ⟨rfl, rfl⟩ := q282
  show W κ n0 Qx h260 5 45 598 [.val (.int p0), .val (.int p1), .val (.int (Int32.ofNat n1)), .val (.int (Int32.ofNat n5)), .val (.int (Int32.ofNat n9)), .val (.int (Int32.ofNat n13)), .val (.ref a18), .val (.ref a45), .val (.int (Int32.ofNat Kk86)), .val (.int (Int32.ofNat Kk87)), .val (.int (Int32.ofNat Kk88)), .val (.ref a90), .val (.ref a101), .val (.int (Int32.ofNat us242.length)), .val (.int (Int32.ofNat (own_res (g0 + g1 + g2 + g3) (own_S (own_m (Kk86 / 4 ^ 0 % 4) n1) (own_m (Kk86 / 4 ^ 1 % 4) n5) (own_m (Kk86 / 4 ^ 2 % 4) n9) (own_m (Kk86 / 4 ^ 3 % 4) n13)) (own_S (own_m (Kk87 / 4 ^ 0 % 4) n1) (own_m (Kk87 / 4 ^ 1 % 4) n5) (own_m (Kk87 / 4 ^ 2 % 4) n9) (own_m (Kk87 / 4 ^ 3 % 4) n13)) (own_S (own_m (Kk88 / 4 ^ 0 % 4) n1) (own_m (Kk88 / 4 ^ 1 % 4) n5) (own_m (Kk88 / 4 ^ 2 % 4) n9) (own_m (Kk88 / 4 ^ 3 % 4) n13))))), .val (.int (Int32.ofNat Hm)), .val (.int (Int32.ofNat x)), .val (.int (Int32.ofNat y)), .val (.int (Int32.ofNat z)), .val (.int (Int32.ofNat (own_round (own_round F x y z) x y z))), .unset] [(.int (Int32.ofNat (own_round (own_round (own_round F x y z) x y z) x y z)))]
  refine W.istore C m0_598 (L' := [.val (.int p0), .val (.int p1), .val (.int (Int32.ofNat n1)), .val (.int (Int32.ofNat n5)), .val (.int (Int32.ofNat n9)), .val (.int (Int32.ofNat n13)), .val (.ref a18), .val (.ref a45), .val (.int (Int32.ofNat Kk86)), .val (.int (Int32.ofNat Kk87)), .val (.int (Int32.ofNat Kk88)), .val (.ref a90), .val (.ref a101), .val (.int (Int32.ofNat us242.length)), .val (.int (Int32.ofNat (own_res (g0 + g1 + g2 + g3) (own_S (own_m (Kk86 / 4 ^ 0 % 4) n1) (own_m (Kk86 / 4 ^ 1 % 4) n5) (own_m (Kk86 / 4 ^ 2 % 4) n9) (own_m (Kk86 / 4 ^ 3 % 4) n13)) (own_S (own_m (Kk87 / 4 ^ 0 % 4) n1) (own_m (Kk87 / 4 ^ 1 % 4) n5) (own_m (Kk87 / 4 ^ 2 % 4) n9) (own_m (Kk87 / 4 ^ 3 % 4) n13)) (own_S (own_m (Kk88 / 4 ^ 0 % 4) n1) (own_m (Kk88 / 4 ^ 1 % 4) n5) (own_m (Kk88 / 4 ^ 2 % 4) n9) (own_m (Kk88 / 4 ^ 3 % 4) n13))))), .val (.int (Int32.ofNat Hm)), .val (.int (Int32.ofNat x)), .val (.int (Int32.ofNat y)), .val (.int (Int32.ofNat z)), .val (.int (Int32.ofNat (own_round (own_round (own_round F x y z) x y z) x y z))), .unset]) rfl ?_
  have pH := own_popi Hm
  have eT : (Int32.ofNat (own_round (own_round (own_round F x y z) x y z) x y z)).toInt = ((own_round (own_round (own_round F x y z) x y z) x y z) : Nat) := ofNat_toInt (by have : (own_round (own_round (own_round F x y z) x y z) x y z) < 16 := own_roundlt (own_roundlt (own_roundlt hF hx hy hz) hx hy hz) hx hy hz; omega)
  have eHm : (Int32.ofNat Hm).toInt = Hm := ofNat_toInt (by omega)
  have eS3 : own_set3 x y z = (own_round (own_round (own_round F x y z) x y z) x y z) := by unfold own_set3; rw [eF]
  suffices JE : ∀ (E : Nat), (if own_pop Hm ≤ 1 ∨ own_set3 x y z = Hm then 1 else 0) = E → W κ n0 Qx h260 5 45 621 [.val (.int p0), .val (.int p1), .val (.int (Int32.ofNat n1)), .val (.int (Int32.ofNat n5)), .val (.int (Int32.ofNat n9)), .val (.int (Int32.ofNat n13)), .val (.ref a18), .val (.ref a45), .val (.int (Int32.ofNat Kk86)), .val (.int (Int32.ofNat Kk87)), .val (.int (Int32.ofNat Kk88)), .val (.ref a90), .val (.ref a101), .val (.int (Int32.ofNat us242.length)), .val (.int (Int32.ofNat (own_res (g0 + g1 + g2 + g3) (own_S (own_m (Kk86 / 4 ^ 0 % 4) n1) (own_m (Kk86 / 4 ^ 1 % 4) n5) (own_m (Kk86 / 4 ^ 2 % 4) n9) (own_m (Kk86 / 4 ^ 3 % 4) n13)) (own_S (own_m (Kk87 / 4 ^ 0 % 4) n1) (own_m (Kk87 / 4 ^ 1 % 4) n5) (own_m (Kk87 / 4 ^ 2 % 4) n9) (own_m (Kk87 / 4 ^ 3 % 4) n13)) (own_S (own_m (Kk88 / 4 ^ 0 % 4) n1) (own_m (Kk88 / 4 ^ 1 % 4) n5) (own_m (Kk88 / 4 ^ 2 % 4) n9) (own_m (Kk88 / 4 ^ 3 % 4) n13))))), .val (.int (Int32.ofNat Hm)), .val (.int (Int32.ofNat x)), .val (.int (Int32.ofNat y)), .val (.int (Int32.ofNat z)), .val (.int (Int32.ofNat (own_round (own_round (own_round F x y z) x y z) x y z))), .unset] [(.int (Int32.ofNat E))] by
    refine W.iload C m0_600 rfl ?_
    refine W.callS (y := mY8) (wt := 0) C m0_602 (hw _ (List.mem_of_getElem? (i := 26) rfl)) (hw _ (List.mem_of_getElem? (i := 27) rfl)) (hw _ (List.mem_of_getElem? (i := 2) rfl)) (hw _ (List.mem_of_getElem? (i := 28) rfl)) (by decide) pd8 rfl (own_popC Z a0 hw Hm h260 n0 (by first | omega | assumption | exact own_andlt (by omega) (by omega))) (as' := [(.int (Int32.ofNat Hm))]) (rest := []) rfl rfl (Nat.le_of_eq rfl) (by decide) (by decide) (by decide) (by decide) ?_
    intro r286 h284 q285
    obtain ⟨rfl, rfl⟩ := q285
    show W κ n0 Qx h260 5 45 605 [.val (.int p0), .val (.int p1), .val (.int (Int32.ofNat n1)), .val (.int (Int32.ofNat n5)), .val (.int (Int32.ofNat n9)), .val (.int (Int32.ofNat n13)), .val (.ref a18), .val (.ref a45), .val (.int (Int32.ofNat Kk86)), .val (.int (Int32.ofNat Kk87)), .val (.int (Int32.ofNat Kk88)), .val (.ref a90), .val (.ref a101), .val (.int (Int32.ofNat us242.length)), .val (.int (Int32.ofNat (own_res (g0 + g1 + g2 + g3) (own_S (own_m (Kk86 / 4 ^ 0 % 4) n1) (own_m (Kk86 / 4 ^ 1 % 4) n5) (own_m (Kk86 / 4 ^ 2 % 4) n9) (own_m (Kk86 / 4 ^ 3 % 4) n13)) (own_S (own_m (Kk87 / 4 ^ 0 % 4) n1) (own_m (Kk87 / 4 ^ 1 % 4) n5) (own_m (Kk87 / 4 ^ 2 % 4) n9) (own_m (Kk87 / 4 ^ 3 % 4) n13)) (own_S (own_m (Kk88 / 4 ^ 0 % 4) n1) (own_m (Kk88 / 4 ^ 1 % 4) n5) (own_m (Kk88 / 4 ^ 2 % 4) n9) (own_m (Kk88 / 4 ^ 3 % 4) n13))))), .val (.int (Int32.ofNat Hm)), .val (.int (Int32.ofNat x)), .val (.int (Int32.ofNat y)), .val (.int (Int32.ofNat z)), .val (.int (Int32.ofNat (own_round (own_round (own_round F x y z) x y z) x y z))), .unset] [(.int (Int32.ofNat (own_pop Hm)))]
    refine W.iconst C m0_605 (z := (1 : Int32)) rfl ?_
    refine W.icmp C m0_606 ?_ ?_
    · intro (h606 : ((Int32.ofNat (own_pop Hm))).toInt ≤ (1 : Int))
      refine W.iconst C m0_616 (z := (1 : Int32)) rfl ?_
      refine W.goto C m0_617 ?_
      exact JE 1 (if_pos (by rw [eS3]; omega))
    · intro (h606 : ¬ (((Int32.ofNat (own_pop Hm))).toInt ≤ (1 : Int)))
      replace h606 : (1 : Int) < ((Int32.ofNat (own_pop Hm))).toInt := by omega
      refine W.iload C m0_609 rfl ?_
      refine W.iload C m0_611 rfl ?_
      refine W.icmp C m0_613 ?_ ?_
      · intro (h613 : ¬ ((Int32.ofNat (own_round (own_round (own_round F x y z) x y z) x y z))).toInt = ((Int32.ofNat Hm)).toInt)
        refine W.iconst C m0_620 (z := (0 : Int32)) rfl ?_
        exact JE 0 (if_neg (by rw [eS3]; omega))
      · intro (h613 : ¬ ¬ ((Int32.ofNat (own_round (own_round (own_round F x y z) x y z) x y z))).toInt = ((Int32.ofNat Hm)).toInt)
        replace h613 := Decidable.not_not.mp h613
        refine W.iconst C m0_616 (z := (1 : Int32)) rfl ?_
        refine W.goto C m0_617 ?_
        exact JE 1 (if_pos (by rw [eS3]; omega))
  intro E eE
  refine W.istore C m0_621 (L' := [.val (.int p0), .val (.int p1), .val (.int (Int32.ofNat n1)), .val (.int (Int32.ofNat n5)), .val (.int (Int32.ofNat n9)), .val (.int (Int32.ofNat n13)), .val (.ref a18), .val (.ref a45), .val (.int (Int32.ofNat Kk86)), .val (.int (Int32.ofNat Kk87)), .val (.int (Int32.ofNat Kk88)), .val (.ref a90), .val (.ref a101), .val (.int (Int32.ofNat us242.length)), .val (.int (Int32.ofNat (own_res (g0 + g1 + g2 + g3) (own_S (own_m (Kk86 / 4 ^ 0 % 4) n1) (own_m (Kk86 / 4 ^ 1 % 4) n5) (own_m (Kk86 / 4 ^ 2 % 4) n9) (own_m (Kk86 / 4 ^ 3 % 4) n13)) (own_S (own_m (Kk87 / 4 ^ 0 % 4) n1) (own_m (Kk87 / 4 ^ 1 % 4) n5) (own_m (Kk87 / 4 ^ 2 % 4) n9) (own_m (Kk87 / 4 ^ 3 % 4) n13)) (own_S (own_m (Kk88 / 4 ^ 0 % 4) n1) (own_m (Kk88 / 4 ^ 1 % 4) n5) (own_m (Kk88 / 4 ^ 2 % 4) n9) (own_m (Kk88 / 4 ^ 3 % 4) n13))))), .val (.int (Int32.ofNat Hm)), .val (.int (Int32.ofNat x)), .val (.int (Int32.ofNat y)), .val (.int (Int32.ofNat z)), .val (.int (Int32.ofNat (own_round (own_round (own_round F x y z) x y z) x y z))), .val (.int (Int32.ofNat E))]) rfl ?_
  have hfin := own_final Hm hHm x hx sx y hy sy z hz sz
  have hres : (own_res (g0 + g1 + g2 + g3) (own_S (own_m (Kk86 / 4 ^ 0 % 4) n1) (own_m (Kk86 / 4 ^ 1 % 4) n5) (own_m (Kk86 / 4 ^ 2 % 4) n9) (own_m (Kk86 / 4 ^ 3 % 4) n13)) (own_S (own_m (Kk87 / 4 ^ 0 % 4) n1) (own_m (Kk87 / 4 ^ 1 % 4) n5) (own_m (Kk87 / 4 ^ 2 % 4) n9) (own_m (Kk87 / 4 ^ 3 % 4) n13)) (own_S (own_m (Kk88 / 4 ^ 0 % 4) n1) (own_m (Kk88 / 4 ^ 1 % 4) n5) (own_m (Kk88 / 4 ^ 2 % 4) n9) (own_m (Kk88 / 4 ^ 3 % 4) n13))) = E := by
    rw [← eE]; unfold own_res; rw [hgH, own_run_eq kx ky kz 3 (-1) (0, 0) (by decide)]
    by_cases q : own_pop Hm ≤ 1 ∨ own_set3 x y z = Hm
    · rw [if_pos q, if_pos (hfin.mpr q)]
    · rw [if_neg q, if_neg (fun r => q (hfin.mp r))]
  rw [hres]
  show W κ n0 Qx h260 5 45 623 [.val (.int p0), .val (.int p1), .val (.int (Int32.ofNat n1)), .val (.int (Int32.ofNat n5)), .val (.int (Int32.ofNat n9)), .val (.int (Int32.ofNat n13)), .val (.ref a18), .val (.ref a45), .val (.int (Int32.ofNat Kk86)), .val (.int (Int32.ofNat Kk87)), .val (.int (Int32.ofNat Kk88)), .val (.ref a90), .val (.ref a101), .val (.int (Int32.ofNat us242.length)), .val (.int (Int32.ofNat E)), .val (.int (Int32.ofNat Hm)), .val (.int (Int32.ofNat x)), .val (.int (Int32.ofNat y)), .val (.int (Int32.ofNat z)), .val (.int (Int32.ofNat (own_round (own_round (own_round F x y z) x y z) x y z))), .val (.int (Int32.ofNat E))] []
  refine W.iload C m0_623 rfl ?_
  refine W.iload C m0_625 rfl ?_
  refine W.icmpN C m0_627 (show ¬ ¬ ((Int32.ofNat E)).toInt = ((Int32.ofNat E)).toInt from (fun q => q rfl)) ?_
  refine W.iconst C m0_630 (z := (1 : Int32)) rfl ?_
  refine W.goto C m0_631 ?_
  refine W.zreturn C m0_635 (hQ _ _ ?_)
  exact rfl
set_option maxRecDepth 65536 in
set_option maxHeartbeats 4000000 in
theorem comes_1 {Post : Tables → Env → Array Value → State → Outcome → State → Prop} (hpost : ∀ tb e args s v u, (limb_1_1.after args s (.returned v) u = true ∧ limb_1_2.after args s (.returned v) u = true ∧ True) → FrameEnd s (.returned v) u (Jvm.fieldLocs frame_1_writes args s ++ Jvm.arrayLocs frame_1_arrays args s ++ Jvm.staticLocs frame_1_statics s) 24 192 → Post tb e args s (.returned v) u) :
    ArmFor flags0 classFile x code maxLocals ret World_1 tables_1 room_1 Calls_1 rest_1 Pre_1 Post := by
  intro l hfl _ _ p e ha hc hk s m args below hf hA hF happ hP
  obtain ⟨hcalls, hrest, hpre⟩ := hP
  obtain ⟨-, -, -, hnamed, -, -, -, hat⟩ := (Spec.applies_iff hf).mp happ
  obtain ⟨hg, hn⟩ := and_e (Cond.before_iff.mp (show (Jvm.Cond.and given_1 narrow_1).before args s = true from hpre))
  obtain ⟨hcount, hg0⟩ := and_e hg
  obtain ⟨ha0, hg1⟩ := and_e hg0
  have ha1 := hg1
  obtain ⟨w0, w1, rfl⟩ : ∃ w0 w1 : Value, args = #[w0, w1] := by
    have hs : args.size = 2 := by simpa [Cond.value, given_1] using hcount
    obtain ⟨L⟩ := args
    match L, hs with
    | [w0, w1], _ => exact ⟨w0, w1, rfl⟩
  have hw := fun d (hd : d ∈ tables_1) => atoms_spec (ws := Jvm.Cond.code x code maxLocals ret :: tables_1) hat d (List.mem_cons_of_mem _ hd)
  obtain ⟨i0, ei0⟩ := is_v ha0
  obtain rfl : w0 = (.int i0) := Option.some.inj ei0
  obtain ⟨i1, ei1⟩ := is_v ha1
  obtain rfl : w1 = (.int i1) := Option.some.inj ei1
  obtain ⟨n, o, h1, h2, h3, _, L, rfl, ⟨rfl, N⟩, hq⟩ := own_law s _ hw i0 i1 s.heap s.heap.size (Nat.le_refl _) l tables_1 p e ha hc hk s m _ below hf ((Spec.applies_iff_loose hf).mp happ).1 ⟨rfl, State.Warmed39.refl s, rfl⟩ trivial
  refine ⟨n, _, h1, h2, h3, hpost _ _ _ _ _ _ ⟨Cond.after_iff.mpr rfl, Cond.after_iff.mpr (eq_i res_at (Term.int_eval (1)) rfl), trivial⟩ ⟨hq.1, hq.2.1, (hq.2.2.sift fun y hy => Or.inr (N y hy)).mono (by decide) (by decide)⟩⟩
theorem main_1_1 : Claimed_1_1 := comes_1 fun _ _ _ _ _ _ h hF => ⟨h.1, hF⟩
theorem main_1_2 : Claimed_1_2 := comes_1 fun _ _ _ _ _ _ h hF => ⟨h.2.1, hF⟩
end Jvm.Pilot.@@N@@
namespace Jvm.Pilot.@@N@@
open Jvm Jvm.ClassFile Sem Op Lib Jvm.Free Jvm.Stand Jvm.Pilot.@@N@@.Jvm.D
/-! MADE BY PROGRAM (witnessworld.py) out of the Statement's table words and the real class files: 12 classes; the members and pool entries that the words name. The judged class is class 1, her method 1. -/
namespace start1
open Jvm.ClassFile
def u (s : String) : CpInfo := .utf8 (stringToUtf16 s)
/-- a pool by its gaps: so many unusable entries, then the entry; so many at the end -/
def gap : Nat → List CpInfo → List CpInfo
  | 0, r => r
  | n + 1, r => .unusable :: gap n r
def poolList (es : List (Nat × CpInfo)) (last : Nat) : List CpInfo := es.foldr (fun e r => gap e.1 (e.2 :: r)) (gap last [])
def pool (es : List (Nat × CpInfo)) (last : Nat) : Array CpInfo := ⟨poolList es last⟩
def fileOf (pool : Array CpInfo) (this : Nat) (attrs : Array Attribute := #[]) (ms : Array MethodInfo := #[]) (fl : Nat := 33) (sup : Nat := 0) (ifs : Array Nat := #[]) (fds : Array FieldInfo := #[]) : ClassFile where
  minorVersion := 0
  majorVersion := 65
  constantPool := pool
  accessFlags := fl
  thisClass := this
  superClass := sup
  interfaces := ifs
  fields := fds
  methods := ms
  attributes := attrs
def plain (name : String) (sup : Option ClassId) : Class where
  name := name
  kind := .ordinary
  loader := none
  accessFlags := 33
  super := sup
  interfaces := #[]
  cf := none
  fields := #[]
  methods := #[]
  instanceTypes := #[]
  staticTypes := #[]
  resolved := #[]
  callSites := []
  init := .initialized
  statics := none
  mirror := none

def pool0 : Array CpInfo := pool [(5, u "<init>"), (0, u "()V"), (1, .class_ 10), (1, u "java/lang/Object")] 113

def k0m0 : Method := { name := "<init>", desc := "()V", sig := { parameters := [], returnType := none }, accessFlags := 1, code := none }
/-- java/lang/Object -/
def k0 : Class := { plain "java/lang/Object" none with
  accessFlags := 33
  interfaces := #[]
  cf := some (fileOf pool0 8 #[] #[{ accessFlags := 1, nameIndex := 5, descriptorIndex := 6, attributes := #[] }] 33 0 #[] #[])
  fields := #[]
  methods := #[k0m0]
  instanceTypes := #[]
  staticTypes := #[]
  resolved := Array.replicate 124 none
  statics := none }

def pool1 : Array CpInfo := pool [(2, .class_ 4), (1, u "java/lang/Object"), (0, u "<init>"), (0, u "()V"), (0, .methodref 8 9), (0, .class_ 10), (0, .nameAndType 11 12), (0, u "com/example/isolens/isolens/SessionBlocksOneByWritersPinLaw"), (0, u "count"), (0, u "(II)I"), (0, .methodref 8 14), (0, .nameAndType 15 16), (0, u "fill"), (0, u "([IIII)V"), (0, .methodref 8 18), (0, .nameAndType 19 20), (0, u "add"), (0, u "([IIIII)I"), (0, .methodref 22 23), (0, .class_ 24), (0, .nameAndType 25 26), (0, u "com/example/isolens/isolens/SessionBlocks"), (0, u "oneByWriters"), (0, u "([I[I[I[I)Z"), (0, .methodref 8 28), (0, .nameAndType 29 30), (0, u "sessionsWriting"), (0, u "(IIIII)I"), (0, .methodref 8 32), (0, .nameAndType 33 34), (0, u "pop"), (0, u "(I)I"), (0, .methodref 8 36), (0, .nameAndType 37 38), (0, u "round"), (0, u "(IIII)I"), (0, .methodref 40 41), (0, .class_ 42), (0, .nameAndType 43 12), (0, u "java/lang/Math"), (0, u "min"), (0, .methodref 8 45), (0, .nameAndType 46 47), (0, u "writesIn"), (0, u "(III)I"), (0, .methodref 8 49), (0, .nameAndType 50 12), (0, u "join"), (2, u "law"), (0, u "(II)Z")] 5

def k1m0 : Method := { name := "<init>", desc := "()V", sig := { parameters := [], returnType := none }, accessFlags := 2, code := none }
def k1c1 : Code := { maxStack := 6, maxLocals := 21, code := code, exceptionTable := #[], attributes := #[] }
def k1m1 : Method := { name := "law", desc := "(II)Z", sig := { parameters := [.int, .int], returnType := some .boolean }, accessFlags := 9, code := some k1c1 }
def k1c2 : Code := { maxStack := 3, maxLocals := 2, code := method_3_code, exceptionTable := #[], attributes := #[] }
def k1m2 : Method := { name := "count", desc := "(II)I", sig := { parameters := [.int, .int], returnType := some .int }, accessFlags := 10, code := some k1c2 }
def k1c3 : Code := { maxStack := 3, maxLocals := 4, code := method_4_code, exceptionTable := #[], attributes := #[] }
def k1m3 : Method := { name := "fill", desc := "([IIII)V", sig := { parameters := [(.array .int), .int, .int, .int], returnType := none }, accessFlags := 10, code := some k1c3 }
def k1c4 : Code := { maxStack := 4, maxLocals := 6, code := method_5_code, exceptionTable := #[], attributes := #[] }
def k1m4 : Method := { name := "add", desc := "([IIIII)I", sig := { parameters := [(.array .int), .int, .int, .int, .int], returnType := some .int }, accessFlags := 10, code := some k1c4 }
def k1c5 : Code := { maxStack := 4, maxLocals := 5, code := method_6_code, exceptionTable := #[], attributes := #[] }
def k1m5 : Method := { name := "sessionsWriting", desc := "(IIIII)I", sig := { parameters := [.int, .int, .int, .int, .int], returnType := some .int }, accessFlags := 10, code := some k1c5 }
def k1c6 : Code := { maxStack := 3, maxLocals := 4, code := method_7_code, exceptionTable := #[], attributes := #[] }
def k1m6 : Method := { name := "writesIn", desc := "(III)I", sig := { parameters := [.int, .int, .int], returnType := some .int }, accessFlags := 10, code := some k1c6 }
def k1c7 : Code := { maxStack := 2, maxLocals := 4, code := method_8_code, exceptionTable := #[], attributes := #[] }
def k1m7 : Method := { name := "round", desc := "(IIII)I", sig := { parameters := [.int, .int, .int, .int], returnType := some .int }, accessFlags := 10, code := some k1c7 }
def k1c8 : Code := { maxStack := 2, maxLocals := 2, code := method_9_code, exceptionTable := #[], attributes := #[] }
def k1m8 : Method := { name := "join", desc := "(II)I", sig := { parameters := [.int, .int], returnType := some .int }, accessFlags := 10, code := some k1c8 }
def k1c9 : Code := { maxStack := 3, maxLocals := 1, code := method_10_code, exceptionTable := #[], attributes := #[] }
def k1m9 : Method := { name := "pop", desc := "(I)I", sig := { parameters := [.int], returnType := some .int }, accessFlags := 10, code := some k1c9 }
/-- com/example/isolens/isolens/SessionBlocksOneByWritersPinLaw -/
def k1 : Class := { plain "com/example/isolens/isolens/SessionBlocksOneByWritersPinLaw" (some 0) with
  accessFlags := 49
  interfaces := #[]
  cf := some (fileOf pool1 8 #[] #[{ accessFlags := 2, nameIndex := 5, descriptorIndex := 6, attributes := #[] }, { accessFlags := 9, nameIndex := 53, descriptorIndex := 54, attributes := #[] }, { accessFlags := 10, nameIndex := 11, descriptorIndex := 12, attributes := #[] }, { accessFlags := 10, nameIndex := 15, descriptorIndex := 16, attributes := #[] }, { accessFlags := 10, nameIndex := 19, descriptorIndex := 20, attributes := #[] }, { accessFlags := 10, nameIndex := 29, descriptorIndex := 30, attributes := #[] }, { accessFlags := 10, nameIndex := 46, descriptorIndex := 47, attributes := #[] }, { accessFlags := 10, nameIndex := 37, descriptorIndex := 38, attributes := #[] }, { accessFlags := 10, nameIndex := 50, descriptorIndex := 12, attributes := #[] }, { accessFlags := 10, nameIndex := 33, descriptorIndex := 34, attributes := #[] }] 49 2 #[] #[])
  fields := #[]
  methods := #[k1m0, k1m1, k1m2, k1m3, k1m4, k1m5, k1m6, k1m7, k1m8, k1m9]
  instanceTypes := #[]
  staticTypes := #[]
  resolved := Array.replicate 60 none
  statics := none }

def pool2 : Array CpInfo := pool [(1, .class_ 2), (0, u "java/lang/Math"), (1, .class_ 6), (1, u "java/lang/Object"), (0, u "<init>"), (0, u "()V"), (89, .class_ 100), (1, u "java/lang/Math$RandomNumberGeneratorHolder"), (71, u "negativeZeroFloatBits"), (0, u "J"), (2, u "negativeZeroDoubleBits"), (24, u "min"), (43, u "$assertionsDisabled"), (0, u "Z"), (88, u "(II)I"), (2, u "twoToTheDoubleScaleDown"), (0, u "D"), (4, u "twoToTheDoubleScaleUp"), (9, u "E"), (3, u "PI"), (2, u "TAU"), (2, u "DEGREES_TO_RADIANS"), (0, u "RADIANS_TO_DEGREES")] 94

def k2m0 : Method := { name := "<init>", desc := "()V", sig := { parameters := [], returnType := none }, accessFlags := 2, code := none }
def k2c1 : Code := { maxStack := 2, maxLocals := 2, code := jdk_29_method_69_code, exceptionTable := #[], attributes := #[] }
def k2m1 : Method := { name := "min", desc := "(II)I", sig := { parameters := [.int, .int], returnType := some .int }, accessFlags := 9, code := some k2c1 }
/-- java/lang/Math -/
def k2 : Class := { plain "java/lang/Math" (some 0) with
  accessFlags := 49
  interfaces := #[]
  cf := some (fileOf pool2 1 #[.nestMembers #[98]] #[{ accessFlags := 2, nameIndex := 7, descriptorIndex := 8, attributes := #[] }, { accessFlags := 9, nameIndex := 201, descriptorIndex := 335, attributes := #[] }] 49 4 #[] #[{ accessFlags := 25, nameIndex := 354, descriptorIndex := 339, attributes := #[] }, { accessFlags := 25, nameIndex := 358, descriptorIndex := 339, attributes := #[] }, { accessFlags := 25, nameIndex := 361, descriptorIndex := 339, attributes := #[] }, { accessFlags := 26, nameIndex := 364, descriptorIndex := 339, attributes := #[] }, { accessFlags := 26, nameIndex := 365, descriptorIndex := 339, attributes := #[] }, { accessFlags := 26, nameIndex := 172, descriptorIndex := 173, attributes := #[] }, { accessFlags := 26, nameIndex := 176, descriptorIndex := 173, attributes := #[] }, { accessFlags := 8, nameIndex := 344, descriptorIndex := 339, attributes := #[] }, { accessFlags := 8, nameIndex := 338, descriptorIndex := 339, attributes := #[] }, { accessFlags := 4120, nameIndex := 245, descriptorIndex := 246, attributes := #[] }])
  fields := #[{ name := "E", type := .double, accessFlags := 25, slot := 0, constantValue := 0 }, { name := "PI", type := .double, accessFlags := 25, slot := 1, constantValue := 0 }, { name := "TAU", type := .double, accessFlags := 25, slot := 2, constantValue := 0 }, { name := "DEGREES_TO_RADIANS", type := .double, accessFlags := 26, slot := 3, constantValue := 0 }, { name := "RADIANS_TO_DEGREES", type := .double, accessFlags := 26, slot := 4, constantValue := 0 }, { name := "negativeZeroFloatBits", type := .long, accessFlags := 26, slot := 5, constantValue := 0 }, { name := "negativeZeroDoubleBits", type := .long, accessFlags := 26, slot := 6, constantValue := 0 }, { name := "twoToTheDoubleScaleUp", type := .double, accessFlags := 8, slot := 7, constantValue := 0 }, { name := "twoToTheDoubleScaleDown", type := .double, accessFlags := 8, slot := 8, constantValue := 0 }, { name := "$assertionsDisabled", type := .boolean, accessFlags := 4120, slot := 9, constantValue := 0 }]
  methods := #[k2m0, k2m1]
  instanceTypes := #[]
  staticTypes := #[.double, .double, .double, .double, .double, .long, .long, .double, .double, .boolean]
  resolved := Array.replicate 460 none
  statics := none }

def pool3 : Array CpInfo := pool [(2, .class_ 4), (1, u "java/lang/Object"), (3, .class_ 10), (1, u "com/example/isolens/isolens/SessionBlocks"), (0, u "keyBlock"), (0, u "[I"), (2, u "blockStart"), (2, u "sessions"), (2, u "blocksHolding"), (0, .class_ 23), (0, u "com/example/isolens/isolens/SessionBlocks$Walk"), (10, u "JOINING_WALKS"), (0, u "I"), (7, u "oneByWriters"), (0, u "([I[I[I[I)Z")] 18

def k3c0 : Code := { maxStack := 5, maxLocals := 15, code := prog_128_method_3_code, exceptionTable := #[], attributes := #[] }
def k3m0 : Method := { name := "oneByWriters", desc := "([I[I[I[I)Z", sig := { parameters := [(.array .int), (.array .int), (.array .int), (.array .int)], returnType := some .boolean }, accessFlags := 8, code := some k3c0 }
/-- com/example/isolens/isolens/SessionBlocks -/
def k3 : Class := { plain "com/example/isolens/isolens/SessionBlocks" (some 0) with
  accessFlags := 48
  interfaces := #[]
  cf := some (fileOf pool3 8 #[.nestMembers #[22]] #[{ accessFlags := 8, nameIndex := 43, descriptorIndex := 44, attributes := #[] }] 48 2 #[] #[{ accessFlags := 26, nameIndex := 34, descriptorIndex := 35, attributes := #[] }, { accessFlags := 18, nameIndex := 11, descriptorIndex := 12, attributes := #[] }, { accessFlags := 18, nameIndex := 15, descriptorIndex := 12, attributes := #[] }, { accessFlags := 18, nameIndex := 18, descriptorIndex := 12, attributes := #[] }, { accessFlags := 18, nameIndex := 21, descriptorIndex := 12, attributes := #[] }])
  fields := #[{ name := "JOINING_WALKS", type := .int, accessFlags := 26, slot := 0, constantValue := 0 }, { name := "keyBlock", type := (.array .int), accessFlags := 18, slot := 0, constantValue := 0 }, { name := "blockStart", type := (.array .int), accessFlags := 18, slot := 1, constantValue := 0 }, { name := "sessions", type := (.array .int), accessFlags := 18, slot := 2, constantValue := 0 }, { name := "blocksHolding", type := (.array .int), accessFlags := 18, slot := 3, constantValue := 0 }]
  methods := #[k3m0]
  instanceTypes := #[(.array .int), (.array .int), (.array .int), (.array .int)]
  staticTypes := #[.int]
  resolved := Array.replicate 63 none
  statics := none }

def pool4 : Array CpInfo := pool [(1, u "java/lang/Cloneable"), (0, .class_ 1), (0, u "java/lang/Object"), (0, .class_ 3)] 3

/-- java/lang/Cloneable -/
def k4 : Class := { plain "java/lang/Cloneable" (some 0) with
  accessFlags := 1537
  interfaces := #[]
  cf := some (fileOf pool4 2 #[] #[] 1537 4 #[] #[])
  fields := #[]
  methods := #[]
  instanceTypes := #[]
  staticTypes := #[]
  resolved := Array.replicate 8 none
  statics := none }

def pool5 : Array CpInfo := pool [(1, u "java/io/Serializable"), (0, .class_ 1), (0, u "java/lang/Object"), (0, .class_ 3)] 3

/-- java/io/Serializable -/
def k5 : Class := { plain "java/io/Serializable" (some 0) with
  accessFlags := 1537
  interfaces := #[]
  cf := some (fileOf pool5 2 #[] #[] 1537 4 #[] #[])
  fields := #[]
  methods := #[]
  instanceTypes := #[]
  staticTypes := #[]
  resolved := Array.replicate 8 none
  statics := none }

/-- the primitive boolean -/
def k6 : Class := { plain "boolean" none with kind := .primitive 'Z', accessFlags := 0x411 }
/-- [Z -/
def k7 : Class := { plain "[Z" (some 0) with kind := .array 6 .boolean, interfaces := #[4, 5], accessFlags := 1041 }

/-- the primitive byte -/
def k8 : Class := { plain "byte" none with kind := .primitive 'B', accessFlags := 0x411 }
/-- [B -/
def k9 : Class := { plain "[B" (some 0) with kind := .array 8 .byte, interfaces := #[4, 5], accessFlags := 1041 }

/-- the primitive int -/
def k10 : Class := { plain "int" none with kind := .primitive 'I', accessFlags := 0x411 }
/-- [I -/
def k11 : Class := { plain "[I" (some 0) with kind := .array 10 .int, interfaces := #[4, 5], accessFlags := 1041 }

def heap : Heap := #[]
def classes : Array Class := #[k0, k1, k2, k3, k4, k5, k6, k7, k8, k9, k10, k11]
def interned : List (Array UInt16 × Addr) := []
def slotsUsed : Nat := 0
def theMethod : MethodId := ⟨1, 1⟩
def args0 : Array Value := #[.int 27, .int 1234567]
def aboutOver (below : List Frame) : State where
  vm := { classes := classes, interned := interned.toArray }
  heap := heap
  slotsUsed := slotsUsed
  threads := #[{ frames := .invoking theMethod args0 :: below }]
def below0 : List Frame := [.native { method := ⟨0, 0⟩, args := #[] }]
def about1 : State := aboutOver below0
def p0 : Program := .bare "" "" ""
def e0 : Env := launch0.env 0 0 0
theorem w_frames : about1.frames = Frame.invoking theMethod args0 :: below0 := rfl
set_option maxRecDepth 65536 in
theorem w_args : argsFit about1.vm theMethod args0 = true := by decide +kernel
set_option maxRecDepth 65536 in
theorem w_heap : heapFits about1 = true := by decide +kernel
set_option maxRecDepth 65536 in
theorem w_runnable : about1.curStatus? = some .runnable := by decide +kernel
set_option maxRecDepth 65536 in
theorem w_alone : about1.alone = true := by decide +kernel
set_option maxRecDepth 65536 in
theorem w_named : about1.methodNamed? x = some theMethod := by decide +kernel
set_option maxRecDepth 65536 in
theorem w_hears : about1.hears theMethod below0 = true := by decide +kernel
set_option maxRecDepth 65536 in
theorem w_ripe : about1.ripe theMethod args0 below0 = true := by decide +kernel
theorem w_running : about1.status = .running := rfl
set_option maxRecDepth 65536 in
theorem w_room : about1.hasRoom e0.platform room_1 = true :=
  launch0.hasRoom_least _ room_1 (by decide +kernel) (by decide +kernel) (by decide +kernel) (by decide +kernel) (by decide +kernel) (by decide +kernel)
theorem allAtoms_all (ts : List Jvm.Cond) (a : Array Jvm.Value) (st : Jvm.State) : (allAtoms ts).before a st = ts.all (fun c => c.before a st) := by
  induction ts with
  | nil => rfl
  | cons c t ih =>
    show (Jvm.Cond.and c (allAtoms t)).before a st = _
    rw [Jvm.Cond.before_and, ih, List.all_cons]
def words1 : List Jvm.Cond := Jvm.Cond.code x code maxLocals ret :: tables_1
/-- a 'code' word, met by the world's own term for the bytes: nothing is compared byte by byte -/
theorem code_word {y : MethodName} {bytes : ByteArray} {mx : Nat} {rt : Option FieldType} {a : Array Value} {s : State} {m : MethodId} {meth : Method} {c : Code} (h1 : s.methodNamed? y = some m) (h2 : s.vm.method? m = some meth) (h3 : meth.code = some c) (h4 : c.code = bytes)
    (h5 : (c.maxLocals == mx && c.exceptionTable.isEmpty && decide (c.maxStack ≤ mostOperands) && decide (meth.sig.returnType = rt) && !meth.locks && decide (parseMethodDescriptor y.desc = some meth.sig)) = true) : (Jvm.Cond.code y bytes mx rt).before a s = true := by
  simp only [Bool.and_eq_true, beq_iff_eq, Bool.not_eq_true', decide_eq_true_eq] at h5
  obtain ⟨⟨⟨⟨⟨g1, g2⟩, g3⟩, g4⟩, g5⟩, g6⟩ := h5
  simp [Cond.before, Cond.holds, Cond.value, h1, h2, h3, h4, g1, g2, g3, g4, g5, g6]
def isCode : Jvm.Cond → Bool
  | .code _ _ _ _ => true
  | _ => false
theorem all_split {L : List Jvm.Cond} {P : Jvm.Cond → Bool} (h1 : L.all (fun c => isCode c || P c) = true) (h2 : ∀ c ∈ L.filter isCode, P c = true) : L.all P = true := by
  refine List.all_eq_true.mpr fun c hc => ?_
  have h := List.all_eq_true.mp h1 c hc
  rcases Bool.eq_false_or_eq_true (isCode c) with hi | hi
  · exact h2 c (List.mem_filter.mpr ⟨hc, hi⟩)
  · simpa [hi] using h
set_option maxRecDepth 65536 in
theorem w_c0 : (Jvm.Cond.code x code maxLocals ret).before args0 about1 = true := code_word (m := ⟨1, 1⟩) (meth := k1m1) (c := k1c1) (by decide +kernel) rfl rfl rfl (by decide +kernel)
set_option maxRecDepth 65536 in
theorem w_c1 : (Jvm.Cond.code ({ cls := "com/example/isolens/isolens/SessionBlocksOneByWritersPinLaw", name := "count", desc := "(II)I" } : Jvm.MethodName) method_3_code (2 : Nat) (Option.some Jvm.ClassFile.FieldType.int)).before args0 about1 = true := code_word (m := ⟨1, 2⟩) (meth := k1m2) (c := k1c2) (by decide +kernel) rfl rfl rfl (by decide +kernel)
set_option maxRecDepth 65536 in
theorem w_c2 : (Jvm.Cond.code ({ cls := "java/lang/Math", name := "min", desc := "(II)I" } : Jvm.MethodName) jdk_29_method_69_code (2 : Nat) (Option.some Jvm.ClassFile.FieldType.int)).before args0 about1 = true := code_word (m := ⟨2, 1⟩) (meth := k2m1) (c := k2c1) (by decide +kernel) rfl rfl rfl (by decide +kernel)
set_option maxRecDepth 65536 in
theorem w_c3 : (Jvm.Cond.code ({ cls := "com/example/isolens/isolens/SessionBlocksOneByWritersPinLaw", name := "fill", desc := "([IIII)V" } : Jvm.MethodName) method_4_code (4 : Nat) (Option.none : Option Jvm.ClassFile.FieldType)).before args0 about1 = true := code_word (m := ⟨1, 3⟩) (meth := k1m3) (c := k1c3) (by decide +kernel) rfl rfl rfl (by decide +kernel)
set_option maxRecDepth 65536 in
theorem w_c4 : (Jvm.Cond.code ({ cls := "com/example/isolens/isolens/SessionBlocksOneByWritersPinLaw", name := "add", desc := "([IIIII)I" } : Jvm.MethodName) method_5_code (6 : Nat) (Option.some Jvm.ClassFile.FieldType.int)).before args0 about1 = true := code_word (m := ⟨1, 4⟩) (meth := k1m4) (c := k1c4) (by decide +kernel) rfl rfl rfl (by decide +kernel)
set_option maxRecDepth 65536 in
theorem w_c5 : (Jvm.Cond.code ({ cls := "com/example/isolens/isolens/SessionBlocks", name := "oneByWriters", desc := "([I[I[I[I)Z" } : Jvm.MethodName) prog_128_method_3_code (15 : Nat) (Option.some Jvm.ClassFile.FieldType.boolean)).before args0 about1 = true := code_word (m := ⟨3, 0⟩) (meth := k3m0) (c := k3c0) (by decide +kernel) rfl rfl rfl (by decide +kernel)
set_option maxRecDepth 65536 in
theorem w_c6 : (Jvm.Cond.code ({ cls := "com/example/isolens/isolens/SessionBlocksOneByWritersPinLaw", name := "sessionsWriting", desc := "(IIIII)I" } : Jvm.MethodName) method_6_code (5 : Nat) (Option.some Jvm.ClassFile.FieldType.int)).before args0 about1 = true := code_word (m := ⟨1, 5⟩) (meth := k1m5) (c := k1c5) (by decide +kernel) rfl rfl rfl (by decide +kernel)
set_option maxRecDepth 65536 in
theorem w_c7 : (Jvm.Cond.code ({ cls := "com/example/isolens/isolens/SessionBlocksOneByWritersPinLaw", name := "writesIn", desc := "(III)I" } : Jvm.MethodName) method_7_code (4 : Nat) (Option.some Jvm.ClassFile.FieldType.int)).before args0 about1 = true := code_word (m := ⟨1, 6⟩) (meth := k1m6) (c := k1c6) (by decide +kernel) rfl rfl rfl (by decide +kernel)
set_option maxRecDepth 65536 in
theorem w_c8 : (Jvm.Cond.code ({ cls := "com/example/isolens/isolens/SessionBlocksOneByWritersPinLaw", name := "pop", desc := "(I)I" } : Jvm.MethodName) method_10_code (1 : Nat) (Option.some Jvm.ClassFile.FieldType.int)).before args0 about1 = true := code_word (m := ⟨1, 9⟩) (meth := k1m9) (c := k1c9) (by decide +kernel) rfl rfl rfl (by decide +kernel)
set_option maxRecDepth 65536 in
theorem w_c9 : (Jvm.Cond.code ({ cls := "com/example/isolens/isolens/SessionBlocksOneByWritersPinLaw", name := "round", desc := "(IIII)I" } : Jvm.MethodName) method_8_code (4 : Nat) (Option.some Jvm.ClassFile.FieldType.int)).before args0 about1 = true := code_word (m := ⟨1, 7⟩) (meth := k1m7) (c := k1c7) (by decide +kernel) rfl rfl rfl (by decide +kernel)
set_option maxRecDepth 65536 in
theorem w_c10 : (Jvm.Cond.code ({ cls := "com/example/isolens/isolens/SessionBlocksOneByWritersPinLaw", name := "join", desc := "(II)I" } : Jvm.MethodName) method_9_code (2 : Nat) (Option.some Jvm.ClassFile.FieldType.int)).before args0 about1 = true := code_word (m := ⟨1, 8⟩) (meth := k1m8) (c := k1c8) (by decide +kernel) rfl rfl rfl (by decide +kernel)
def codes1 : List Jvm.Cond := [Jvm.Cond.code x code maxLocals ret, Jvm.Cond.code ({ cls := "com/example/isolens/isolens/SessionBlocksOneByWritersPinLaw", name := "count", desc := "(II)I" } : Jvm.MethodName) method_3_code (2 : Nat) (Option.some Jvm.ClassFile.FieldType.int), Jvm.Cond.code ({ cls := "java/lang/Math", name := "min", desc := "(II)I" } : Jvm.MethodName) jdk_29_method_69_code (2 : Nat) (Option.some Jvm.ClassFile.FieldType.int), Jvm.Cond.code ({ cls := "com/example/isolens/isolens/SessionBlocksOneByWritersPinLaw", name := "fill", desc := "([IIII)V" } : Jvm.MethodName) method_4_code (4 : Nat) (Option.none : Option Jvm.ClassFile.FieldType), Jvm.Cond.code ({ cls := "com/example/isolens/isolens/SessionBlocksOneByWritersPinLaw", name := "add", desc := "([IIIII)I" } : Jvm.MethodName) method_5_code (6 : Nat) (Option.some Jvm.ClassFile.FieldType.int), Jvm.Cond.code ({ cls := "com/example/isolens/isolens/SessionBlocks", name := "oneByWriters", desc := "([I[I[I[I)Z" } : Jvm.MethodName) prog_128_method_3_code (15 : Nat) (Option.some Jvm.ClassFile.FieldType.boolean), Jvm.Cond.code ({ cls := "com/example/isolens/isolens/SessionBlocksOneByWritersPinLaw", name := "sessionsWriting", desc := "(IIIII)I" } : Jvm.MethodName) method_6_code (5 : Nat) (Option.some Jvm.ClassFile.FieldType.int), Jvm.Cond.code ({ cls := "com/example/isolens/isolens/SessionBlocksOneByWritersPinLaw", name := "writesIn", desc := "(III)I" } : Jvm.MethodName) method_7_code (4 : Nat) (Option.some Jvm.ClassFile.FieldType.int), Jvm.Cond.code ({ cls := "com/example/isolens/isolens/SessionBlocksOneByWritersPinLaw", name := "pop", desc := "(I)I" } : Jvm.MethodName) method_10_code (1 : Nat) (Option.some Jvm.ClassFile.FieldType.int), Jvm.Cond.code ({ cls := "com/example/isolens/isolens/SessionBlocksOneByWritersPinLaw", name := "round", desc := "(IIII)I" } : Jvm.MethodName) method_8_code (4 : Nat) (Option.some Jvm.ClassFile.FieldType.int), Jvm.Cond.code ({ cls := "com/example/isolens/isolens/SessionBlocksOneByWritersPinLaw", name := "join", desc := "(II)I" } : Jvm.MethodName) method_9_code (2 : Nat) (Option.some Jvm.ClassFile.FieldType.int)]
set_option maxRecDepth 65536 in
theorem codes_eq : words1.filter isCode = codes1 := rfl
theorem w_codes : ∀ c ∈ words1.filter isCode, c.before args0 about1 = true := by
  rw [codes_eq]
  intro c hc
  simp only [codes1, List.mem_cons, List.not_mem_nil, or_false] at hc
  rcases hc with rfl | rfl | rfl | rfl | rfl | rfl | rfl | rfl | rfl | rfl | rfl
  · exact w_c0
  · exact w_c1
  · exact w_c2
  · exact w_c3
  · exact w_c4
  · exact w_c5
  · exact w_c6
  · exact w_c7
  · exact w_c8
  · exact w_c9
  · exact w_c10
set_option maxRecDepth 65536 in
theorem w_t1 : (words1.take 24).all (fun c => isCode c || c.before args0 about1) = true := by decide +kernel
set_option maxRecDepth 65536 in
theorem w_t2 : (words1.drop 24).all (fun c => isCode c || c.before args0 about1) = true := by decide +kernel
theorem w_tables : (allAtoms (Jvm.Cond.code x code maxLocals ret :: tables_1)).before args0 about1 = true := by
  rw [allAtoms_all]
  show words1.all (fun c => c.before args0 about1) = true
  refine all_split ?_ w_codes
  rw [← List.take_append_drop 24 words1, List.all_append, w_t1, w_t2]
  rfl
set_option maxRecDepth 65536 in
theorem w_case : (Jvm.Cond.and given_1 narrow_1).before args0 about1 = true := by decide +kernel
theorem w_applies : (headSpec (Jvm.Cond.code x code maxLocals ret :: tables_1) room_1).applies x e0.platform about1 = true :=
  (Spec.applies_iff w_frames).mpr ⟨w_running, w_runnable, w_alone, w_named, w_hears, w_ripe, w_room, w_tables⟩
theorem atStart : AtStart classFile x code maxLocals ret World_1 tables_1 room_1 Calls_1 rest_1 Pre_1 launch0 p0 e0 about1 theMethod args0 below0 :=
  ⟨lists_1, trivial, launch0.admits_env _ _ _, launch0.least_env, fairChoices_fair.cas, fairChoices_fair.clock, w_frames, w_args, w_heap, w_applies, trivial, trivial, w_case⟩
end start1
theorem witness_1 : WitnessClaimed_1 := ⟨start1.p0, start1.e0, start1.about1, start1.theMethod, start1.args0, start1.below0, start1.atStart⟩
end Jvm.Pilot.@@N@@
